import PyProof.Rows.All
import Wide.All
import OpenK.AllK
import Wide.FinOn
import Lean
import PySem.Challenge.RW_dn0005_11
set_option compiler.extract_closed false
section
open PySem PySem.W PyProof.Rows
set_option Elab.async false
set_option maxRecDepth 100000
set_option maxHeartbeats 8000000
namespace Mine
def q0 : Str := Str.ofString "a"
theorem q0e : q0 = q0 := rfl
end Mine
name_quick tw15360613170208929100 for Mine.q0 by Mine.q0e
name_quick tw13752460649520830718 for Mine.q0 by Mine.q0e
name_quick tw4812526629654365844 for Mine.q0 by Mine.q0e
name_quick tw13684713516319909143 for Mine.q0 by Mine.q0e
name_quick tw8005686103734790273 for Mine.q0 by Mine.q0e
name_quick tw10008239210331213112 for Mine.q0 by Mine.q0e
name_quick tw8778173638649928158 for Mine.q0 by Mine.q0e
name_quick tw9575970440559212747 for Mine.q0 by Mine.q0e
name_quick tw15086202741441271116 for Mine.q0 by Mine.q0e
name_quick tw16996555217301556742 for Mine.q0 by Mine.q0e
name_quick tw1115793466264740379 for Mine.q0 by Mine.q0e
name_quick tw14452658035489556185 for Mine.q0 by Mine.q0e
name_quick tw5761813681282111048 for Mine.q0 by Mine.q0e
name_quick tw5365057223183888880 for Mine.q0 by Mine.q0e
name_quick tw3815230729614991850 for Mine.q0 by Mine.q0e
name_quick tw16763705553365905048 for Mine.q0 by Mine.q0e
name_quick tw6382256997902894165 for Mine.q0 by Mine.q0e
name_quick tw14443338972228234325 for Mine.q0 by Mine.q0e
name_quick tw14499428323984366398 for Mine.q0 by Mine.q0e
name_quick tw15445073404615495241 for Mine.q0 by Mine.q0e
name_quick tw8178844477902985912 for Mine.q0 by Mine.q0e
name_quick tw2868333453734291089 for Mine.q0 by Mine.q0e
name_quick tw3373020555734238097 for Mine.q0 by Mine.q0e
name_quick tw3911342898746572401 for Mine.q0 by Mine.q0e
name_quick tw9587234490744729537 for Mine.q0 by Mine.q0e
name_quick tw6982073789576740476 for Mine.q0 by Mine.q0e
name_quick tw15978125391062723268 for Mine.q0 by Mine.q0e
name_quick tw7410936540558300398 for Mine.q0 by Mine.q0e
name_quick tw3398506448430267080 for Mine.q0 by Mine.q0e
name_quick tw4431617601117441182 for Mine.q0 by Mine.q0e
name_quick tw2492261795743530925 for Mine.q0 by Mine.q0e
name_quick tw7902156731285694660 for Mine.q0 by Mine.q0e
name_quick tw18057187357784191124 for Mine.q0 by Mine.q0e
name_quick tw9003491840841667539 for Mine.q0 by Mine.q0e
name_quick tw15377221773911880433 for Mine.q0 by Mine.q0e
name_quick tw4733234813443493042 for Mine.q0 by Mine.q0e
name_quick tw17667490686276058525 for Mine.q0 by Mine.q0e
name_quick tw7558926154811119701 for Mine.q0 by Mine.q0e
name_quick tw1047896084207349789 for Mine.q0 by Mine.q0e
name_quick tw18325099602543490517 for Mine.q0 by Mine.q0e
name_quick tw17211826845923583091 for Mine.q0 by Mine.q0e
name_quick tw12050646245489712594 for Mine.q0 by Mine.q0e
name_quick tw12079782781088187791 for Mine.q0 by Mine.q0e
name_quick tw7033032041483590631 for Mine.q0 by Mine.q0e
name_quick tw16087226317983797697 for Mine.q0 by Mine.q0e
name_quick tw10939830137241895920 for Mine.q0 by Mine.q0e
name_quick tw1949605265395071119 for Mine.q0 by Mine.q0e
name_quick tw246335259196841306 for Mine.q0 by Mine.q0e
name_quick tw10961504794080912893 for Mine.q0 by Mine.q0e
name_quick tw7614131566001340937 for Mine.q0 by Mine.q0e
name_quick tw10801945513401497342 for Mine.q0 by Mine.q0e
name_quick tw6348621364456381600 for Mine.q0 by Mine.q0e
name_quick tw2666361971108526067 for Mine.q0 by Mine.q0e
name_quick tw3527246177049244340 for Mine.q0 by Mine.q0e
name_quick tw708887448051167278 for Mine.q0 by Mine.q0e
name_quick tw10265325610832519130 for Mine.q0 by Mine.q0e
name_quick tw2376132248922855975 for Mine.q0 by Mine.q0e
name_quick tw3056370505798125618 for Mine.q0 by Mine.q0e
name_quick tw18138736597755626612 for Mine.q0 by Mine.q0e
name_quick tw12315853043835970899 for Mine.q0 by Mine.q0e
name_quick tw7949692788735887519 for Mine.q0 by Mine.q0e
name_quick tw8163023354154323346 for Mine.q0 by Mine.q0e
name_quick tw8062705662381559871 for Mine.q0 by Mine.q0e
name_quick tw12758704188649587874 for Mine.q0 by Mine.q0e
name_quick tw11661166498225742509 for Mine.q0 by Mine.q0e
name_quick tw15605430683056829471 for Mine.q0 by Mine.q0e
name_quick tw13521972729762488170 for Mine.q0 by Mine.q0e
name_quick tw3589163839671445999 for Mine.q0 by Mine.q0e
name_quick tw10936262097526223760 for Mine.q0 by Mine.q0e
name_quick tw9509169454557099789 for Mine.q0 by Mine.q0e
name_quick tw8982061000881495404 for Mine.q0 by Mine.q0e
name_quick tw16719010166604703858 for Mine.q0 by Mine.q0e
name_quick tw16632288376010243810 for Mine.q0 by Mine.q0e
name_quick tw7645906104989287777 for Mine.q0 by Mine.q0e
name_quick tw6477050441803929573 for Mine.q0 by Mine.q0e
name_quick tw6740793473689141100 for Mine.q0 by Mine.q0e
name_quick tw14356458822512449304 for Mine.q0 by Mine.q0e
name_quick tw6448189256073181255 for Mine.q0 by Mine.q0e
name_quick tw10958729374976264558 for Mine.q0 by Mine.q0e
name_quick tw3272821826018115677 for Mine.q0 by Mine.q0e
name_quick tw8343865692027314211 for Mine.q0 by Mine.q0e
name_quick tw18202398051764227114 for Mine.q0 by Mine.q0e
name_quick tw7219956036420646509 for Mine.q0 by Mine.q0e
name_quick tw2039236971634980085 for Mine.q0 by Mine.q0e
name_quick tw9130266002959641146 for Mine.q0 by Mine.q0e
name_quick tw16417682848673745385 for Mine.q0 by Mine.q0e
name_quick tw16466027544108226198 for Mine.q0 by Mine.q0e
name_quick tw17099029752536783655 for Mine.q0 by Mine.q0e
name_quick tw4766143667979181637 for Mine.q0 by Mine.q0e
name_quick tw14477844269236577971 for Mine.q0 by Mine.q0e
name_quick tw18155687911501385235 for Mine.q0 by Mine.q0e
name_quick tw7905753856675552855 for Mine.q0 by Mine.q0e
name_quick tw3477478020688219990 for Mine.q0 by Mine.q0e
name_quick tw13471340644572506072 for Mine.q0 by Mine.q0e
name_quick tw1334217777183829368 for Mine.q0 by Mine.q0e
name_quick tw4298237773369277176 for Mine.q0 by Mine.q0e
name_quick tw6190947602833969153 for Mine.q0 by Mine.q0e
name_quick tw15749006541896564944 for Mine.q0 by Mine.q0e
name_quick tw7924492857714623749 for Mine.q0 by Mine.q0e
name_quick tw4373848360909602912 for Mine.q0 by Mine.q0e
name_quick tw3371015273483187285 for Mine.q0 by Mine.q0e
name_quick tw13187319156863582664 for Mine.q0 by Mine.q0e
name_quick tw17522234701965473946 for Mine.q0 by Mine.q0e
name_quick tw1125472926038649815 for Mine.q0 by Mine.q0e
name_quick tw11989038043331474389 for Mine.q0 by Mine.q0e
name_quick tw10540079634050133623 for Mine.q0 by Mine.q0e
name_quick tw647960714703062642 for Mine.q0 by Mine.q0e
name_quick tw16655613206010576301 for Mine.q0 by Mine.q0e
name_quick tw1385944034694015090 for Mine.q0 by Mine.q0e
name_quick tw9440930319807985004 for Mine.q0 by Mine.q0e
name_quick tw1876544874240679801 for Mine.q0 by Mine.q0e
name_quick tw7573025161626687334 for Mine.q0 by Mine.q0e
name_quick tw10890271006390512706 for Mine.q0 by Mine.q0e
name_quick tw11579907403661132341 for Mine.q0 by Mine.q0e
name_quick tw18194042797539351560 for Mine.q0 by Mine.q0e
name_quick tw7619468440578227645 for Mine.q0 by Mine.q0e
name_quick tw18381189735858039790 for Mine.q0 by Mine.q0e
name_quick tw3960809075090799237 for Mine.q0 by Mine.q0e
name_quick tw3797840261835660465 for Mine.q0 by Mine.q0e
name_quick tw14889845907298114502 for Mine.q0 by Mine.q0e
name_quick tw11731541450319422369 for Mine.q0 by Mine.q0e
name_quick tw8066246316936271810 for Mine.q0 by Mine.q0e
name_quick tw18106585589699358576 for Mine.q0 by Mine.q0e
name_quick tw4618776985203293843 for Mine.q0 by Mine.q0e
name_quick tw5019791383634666039 for Mine.q0 by Mine.q0e
name_quick tw1116466755650719823 for Mine.q0 by Mine.q0e
name_quick tw7409506105066232592 for Mine.q0 by Mine.q0e
name_quick tw3133222959285491106 for Mine.q0 by Mine.q0e
name_quick tw14445369127826562825 for Mine.q0 by Mine.q0e
name_quick tw14077082416251754713 for Mine.q0 by Mine.q0e
name_quick tw4849408533627706633 for Mine.q0 by Mine.q0e
name_quick tw16960122924961753056 for Mine.q0 by Mine.q0e
name_quick tw99718640802393988 for Mine.q0 by Mine.q0e
name_quick tw10920251711703239600 for Mine.q0 by Mine.q0e
name_quick tw13603011932438159792 for Mine.q0 by Mine.q0e
name_quick tw13130621495687795258 for Mine.q0 by Mine.q0e
name_quick tw4464017550346223912 for Mine.q0 by Mine.q0e
name_quick tw3254661302541549742 for Mine.q0 by Mine.q0e
name_quick tw12765071746861856704 for Mine.q0 by Mine.q0e
name_quick tw1638914891532914115 for Mine.q0 by Mine.q0e
name_quick tw5892424205842165279 for Mine.q0 by Mine.q0e
name_quick tw15879439479090005303 for Mine.q0 by Mine.q0e
name_quick tw1712906509518652231 for Mine.q0 by Mine.q0e
name_quick tw12506419547148753288 for Mine.q0 by Mine.q0e
name_quick tw1804076265988346073 for Mine.q0 by Mine.q0e
name_quick tw387452343196163976 for Mine.q0 by Mine.q0e
name_quick tw6426503150789042082 for Mine.q0 by Mine.q0e
name_quick tw3504144472920864760 for Mine.q0 by Mine.q0e
name_quick tw9617727171700564826 for Mine.q0 by Mine.q0e
name_quick tw8611114732880716412 for Mine.q0 by Mine.q0e
name_quick tw9631404885106211764 for Mine.q0 by Mine.q0e
name_quick tw4056532918574454646 for Mine.q0 by Mine.q0e
name_quick tw150623493065169313 for Mine.q0 by Mine.q0e
name_quick tw9657026537643326115 for Mine.q0 by Mine.q0e
name_quick tw12741643784942354820 for Mine.q0 by Mine.q0e
name_quick tw2412029807041530605 for Mine.q0 by Mine.q0e
name_quick tw6844264469060369224 for Mine.q0 by Mine.q0e
name_quick tw18377551938888510530 for Mine.q0 by Mine.q0e
name_quick tw4497298272709913318 for Mine.q0 by Mine.q0e
name_quick tw10953685245099986306 for Mine.q0 by Mine.q0e
name_quick tw785169070295230220 for Mine.q0 by Mine.q0e
name_quick tw17685740699196057813 for Mine.q0 by Mine.q0e
name_quick tw1702710449493054890 for Mine.q0 by Mine.q0e
name_quick tw10454045096155864878 for Mine.q0 by Mine.q0e
name_quick tw5853044771233577071 for Mine.q0 by Mine.q0e
name_quick tw8671877892082184869 for Mine.q0 by Mine.q0e
name_quick tw17540021300768522100 for Mine.q0 by Mine.q0e
name_quick tw2715966455737037781 for Mine.q0 by Mine.q0e
name_quick tw9260561243433242054 for Mine.q0 by Mine.q0e
name_quick tw232841960224576817 for Mine.q0 by Mine.q0e
name_quick tw14347938064647201563 for Mine.q0 by Mine.q0e
name_quick tw15750891599117265505 for Mine.q0 by Mine.q0e
name_quick tw15486239724669695446 for Mine.q0 by Mine.q0e
name_quick tw15523146237990927053 for Mine.q0 by Mine.q0e
name_quick tw4562936712791890922 for Mine.q0 by Mine.q0e
name_quick tw3245418495465924647 for Mine.q0 by Mine.q0e
name_quick tw16493980355290254838 for Mine.q0 by Mine.q0e
name_quick tw9614247724365685807 for Mine.q0 by Mine.q0e
name_quick tw5289211467101168289 for Mine.q0 by Mine.q0e
name_quick tw14917696115561014694 for Mine.q0 by Mine.q0e
name_quick tw15088715437344931407 for Mine.q0 by Mine.q0e
name_quick tw9871059572790768219 for Mine.q0 by Mine.q0e
name_quick tw17377060965196658358 for Mine.q0 by Mine.q0e
name_quick tw12358399829596313202 for Mine.q0 by Mine.q0e
name_quick tw18435415506970536890 for Mine.q0 by Mine.q0e
name_quick tw6013882582437652770 for Mine.q0 by Mine.q0e
name_quick tw12691743769366273172 for Mine.q0 by Mine.q0e
name_quick tw17194843588157744079 for Mine.q0 by Mine.q0e
name_quick tw4165390691782657235 for Mine.q0 by Mine.q0e
name_quick tw13639374598033265729 for Mine.q0 by Mine.q0e
name_quick tw18206352727409239682 for Mine.q0 by Mine.q0e
name_quick tw5288557924492663140 for Mine.q0 by Mine.q0e
name_quick tw10098563386244621290 for Mine.q0 by Mine.q0e
name_quick tw3860186367629927630 for Mine.q0 by Mine.q0e
name_quick tw14978706195941422721 for Mine.q0 by Mine.q0e
name_quick tw16969470370882264836 for Mine.q0 by Mine.q0e
name_quick tw9300306177119047487 for Mine.q0 by Mine.q0e
name_quick tw8663251023668932855 for Mine.q0 by Mine.q0e
name_quick tw8923582107638256275 for Mine.q0 by Mine.q0e
name_quick tw1762567761584019092 for Mine.q0 by Mine.q0e
name_quick tw15058416859974490925 for Mine.q0 by Mine.q0e
name_quick tw4903228868157774576 for Mine.q0 by Mine.q0e
name_quick tw12149327986570076028 for Mine.q0 by Mine.q0e
name_quick tw2909321721045398349 for Mine.q0 by Mine.q0e
name_quick tw18305360778497720775 for Mine.q0 by Mine.q0e
name_quick tw5503525032680043021 for Mine.q0 by Mine.q0e
name_quick tw14946843254856843238 for Mine.q0 by Mine.q0e
name_quick tw10989971889805816568 for Mine.q0 by Mine.q0e
name_quick tw17280751995869335244 for Mine.q0 by Mine.q0e
name_quick tw6599026471674923407 for Mine.q0 by Mine.q0e
name_quick tw6636426773745517045 for Mine.q0 by Mine.q0e
name_quick tw3069346148139488658 for Mine.q0 by Mine.q0e
name_quick tw5416640582810828296 for Mine.q0 by Mine.q0e
name_quick tw156881678511044272 for Mine.q0 by Mine.q0e
name_quick tw16299341127458259960 for Mine.q0 by Mine.q0e
name_quick tw6636574468052208988 for Mine.q0 by Mine.q0e
name_quick tw18136924367324507907 for Mine.q0 by Mine.q0e
name_quick tw10702735242063763423 for Mine.q0 by Mine.q0e
name_quick tw7843905549567130743 for Mine.q0 by Mine.q0e
name_quick tw10214329872099908800 for Mine.q0 by Mine.q0e
name_quick tw9311345924301374368 for Mine.q0 by Mine.q0e
name_quick tw16312690738022384481 for Mine.q0 by Mine.q0e
name_quick tw8157354642245643438 for Mine.q0 by Mine.q0e
name_quick tw16566725293538561881 for Mine.q0 by Mine.q0e
name_quick tw12083253203240665996 for Mine.q0 by Mine.q0e
name_quick tw17065075611338279173 for Mine.q0 by Mine.q0e
name_quick tw15789300370723265619 for Mine.q0 by Mine.q0e
name_quick tw16489130204606481528 for Mine.q0 by Mine.q0e
name_quick tw2601425868281864276 for Mine.q0 by Mine.q0e
name_quick tw3297939283071810537 for Mine.q0 by Mine.q0e
name_quick tw54112033318838080 for Mine.q0 by Mine.q0e
name_quick tw11402393340927161479 for Mine.q0 by Mine.q0e
name_quick tw16752124174105146768 for Mine.q0 by Mine.q0e
name_quick tw5958436133810977984 for Mine.q0 by Mine.q0e
name_quick tw12728465232678108049 for Mine.q0 by Mine.q0e
name_quick tw11622369702071934773 for Mine.q0 by Mine.q0e
name_quick tw6391547773311949308 for Mine.q0 by Mine.q0e
name_quick tw14866037311724914454 for Mine.q0 by Mine.q0e
name_quick tw12611123064199940139 for Mine.q0 by Mine.q0e
name_quick tw13843855957359324753 for Mine.q0 by Mine.q0e
name_quick tw11976381618708754800 for Mine.q0 by Mine.q0e
name_quick tw913358776098803599 for Mine.q0 by Mine.q0e
name_quick tw16866714131469240421 for Mine.q0 by Mine.q0e
name_quick tw11788692285756025574 for Mine.q0 by Mine.q0e
name_quick tw2134395173538786365 for Mine.q0 by Mine.q0e
name_quick tw609651357484005261 for Mine.q0 by Mine.q0e
name_quick tw4490799144066044095 for Mine.q0 by Mine.q0e
name_quick tw17154021058669498513 for Mine.q0 by Mine.q0e
name_quick tw14365132300411502536 for Mine.q0 by Mine.q0e
name_quick tw13592426664437372868 for Mine.q0 by Mine.q0e
name_quick tw9437143578528868986 for Mine.q0 by Mine.q0e
name_quick tw2997422829065970728 for Mine.q0 by Mine.q0e
name_quick tw16841594048374542872 for Mine.q0 by Mine.q0e
name_quick tw4737063593733349225 for Mine.q0 by Mine.q0e
name_quick tw14947074158045370203 for Mine.q0 by Mine.q0e
name_quick tw16425074155999302885 for Mine.q0 by Mine.q0e
name_quick tw10119189836416253980 for Mine.q0 by Mine.q0e
name_quick tw9280402806413459565 for Mine.q0 by Mine.q0e
name_quick tw11268104456919100163 for Mine.q0 by Mine.q0e
name_quick tw6915877860114546192 for Mine.q0 by Mine.q0e
name_quick tw1953327943297149481 for Mine.q0 by Mine.q0e
name_quick tw15873374334512351412 for Mine.q0 by Mine.q0e
name_quick tw5041856577836158976 for Mine.q0 by Mine.q0e
name_quick tw14221837167559834658 for Mine.q0 by Mine.q0e
name_quick tw4385740696549360057 for Mine.q0 by Mine.q0e
name_quick tw6136460348837254516 for Mine.q0 by Mine.q0e
name_quick tw16096926154192423758 for Mine.q0 by Mine.q0e
name_quick tw2896149183014146089 for Mine.q0 by Mine.q0e
name_quick tw9687062084632902920 for Mine.q0 by Mine.q0e
name_quick tw8258086853041164392 for Mine.q0 by Mine.q0e
name_quick tw11705460251726566824 for Mine.q0 by Mine.q0e
name_quick tw13465509316865783105 for Mine.q0 by Mine.q0e
name_quick tw13630126533629624639 for Mine.q0 by Mine.q0e
name_quick tw18265562654950727763 for Mine.q0 by Mine.q0e
name_quick tw15936957705237014558 for Mine.q0 by Mine.q0e
name_quick tw2498792358533754126 for Mine.q0 by Mine.q0e
name_quick tw3399668719152748677 for Mine.q0 by Mine.q0e
name_quick tw8580009310696456366 for Mine.q0 by Mine.q0e
name_quick tw1601864206739509354 for Mine.q0 by Mine.q0e
name_quick tw1354669690213658445 for Mine.q0 by Mine.q0e
name_quick tw15008235917327514950 for Mine.q0 by Mine.q0e
name_quick tw18297808867903366506 for Mine.q0 by Mine.q0e
name_quick tw7170126622732162138 for Mine.q0 by Mine.q0e
name_quick tw5383197918093659175 for Mine.q0 by Mine.q0e
name_quick tw17407989640587627033 for Mine.q0 by Mine.q0e
name_quick tw2285488144728841211 for Mine.q0 by Mine.q0e
name_quick tw4344182554561912096 for Mine.q0 by Mine.q0e
name_quick tw3945107855969455279 for Mine.q0 by Mine.q0e
name_quick tw3187078224871863286 for Mine.q0 by Mine.q0e
name_quick tw9192129274106549892 for Mine.q0 by Mine.q0e
name_quick tw2722014006501746164 for Mine.q0 by Mine.q0e
name_quick tw13881592821601402746 for Mine.q0 by Mine.q0e
name_quick tw4512182447881637591 for Mine.q0 by Mine.q0e
name_quick tw5695887131889217141 for Mine.q0 by Mine.q0e
name_quick tw10579414377722713121 for Mine.q0 by Mine.q0e
name_quick tw3814896036960532902 for Mine.q0 by Mine.q0e
name_quick tw1679002545079008858 for Mine.q0 by Mine.q0e
name_quick tw16549154447024546870 for Mine.q0 by Mine.q0e
name_quick tw1618078607463669759 for Mine.q0 by Mine.q0e
name_quick tw12592823446621948826 for Mine.q0 by Mine.q0e
name_quick tw2994127185328717691 for Mine.q0 by Mine.q0e
name_quick tw14570325960751321436 for Mine.q0 by Mine.q0e
name_quick tw8870717966056399229 for Mine.q0 by Mine.q0e
name_quick tw11375866341513025307 for Mine.q0 by Mine.q0e
name_quick tw262758236868737195 for Mine.q0 by Mine.q0e
name_quick tw3727410375099026228 for Mine.q0 by Mine.q0e
name_quick tw877446643713540585 for Mine.q0 by Mine.q0e
name_quick tw13974182727175491140 for Mine.q0 by Mine.q0e
name_quick tw9166955315088584384 for Mine.q0 by Mine.q0e
name_quick tw306067963768261377 for Mine.q0 by Mine.q0e
name_quick tw2984509457641135564 for Mine.q0 by Mine.q0e
name_quick tw3716118674326519572 for Mine.q0 by Mine.q0e
name_quick tw1687131345543290873 for Mine.q0 by Mine.q0e
name_quick tw6334681207864625370 for Mine.q0 by Mine.q0e
name_quick tw17060020783270410749 for Mine.q0 by Mine.q0e
name_quick tw5405528017278904599 for Mine.q0 by Mine.q0e
name_quick tw3590777596346468493 for Mine.q0 by Mine.q0e
name_quick tw14079306332125947188 for Mine.q0 by Mine.q0e
name_quick tw14581127654393364621 for Mine.q0 by Mine.q0e
name_quick tw4193755218160171930 for Mine.q0 by Mine.q0e
name_quick tw728413237915604211 for Mine.q0 by Mine.q0e
name_quick tw12602691922927637023 for Mine.q0 by Mine.q0e
name_quick tw18163374803444828525 for Mine.q0 by Mine.q0e
name_quick tw8109140110889148136 for Mine.q0 by Mine.q0e
name_quick tw6452307738477566601 for Mine.q0 by Mine.q0e
name_quick tw3879122922130695101 for Mine.q0 by Mine.q0e
name_quick tw14509403875729302826 for Mine.q0 by Mine.q0e
name_quick tw13067526135053432589 for Mine.q0 by Mine.q0e
name_quick tw12927736970277075041 for Mine.q0 by Mine.q0e
name_quick tw7950839282046056111 for Mine.q0 by Mine.q0e
name_quick tw15093194677415170103 for Mine.q0 by Mine.q0e
name_quick tw6735178852432733637 for Mine.q0 by Mine.q0e
name_quick tw17545359312950236796 for Mine.q0 by Mine.q0e
name_quick tw13373197894307568157 for Mine.q0 by Mine.q0e
name_quick tw2697683217665489404 for Mine.q0 by Mine.q0e
name_quick tw5515947559488185740 for Mine.q0 by Mine.q0e
name_quick tw4015198626964048685 for Mine.q0 by Mine.q0e
name_quick tw17272345922961674560 for Mine.q0 by Mine.q0e
name_quick tw13496957918315616036 for Mine.q0 by Mine.q0e
name_quick tw2345052460144884251 for Mine.q0 by Mine.q0e
name_quick tw2904853960167340752 for Mine.q0 by Mine.q0e
name_quick tw3893241901457948382 for Mine.q0 by Mine.q0e
name_quick tw14267246138654431749 for Mine.q0 by Mine.q0e
name_quick tw18012923231864415232 for Mine.q0 by Mine.q0e
name_quick tw13690830252542174833 for Mine.q0 by Mine.q0e
name_quick tw14553307961177444748 for Mine.q0 by Mine.q0e
name_quick tw9042269377499997629 for Mine.q0 by Mine.q0e
name_quick tw10043285808970126413 for Mine.q0 by Mine.q0e
name_quick tw4050129160528479326 for Mine.q0 by Mine.q0e
name_quick tw1760571778917361856 for Mine.q0 by Mine.q0e
name_quick tw3446975933186967460 for Mine.q0 by Mine.q0e
name_quick tw12403016232269661023 for Mine.q0 by Mine.q0e
name_quick tw16594907207288553071 for Mine.q0 by Mine.q0e
name_quick tw17946862197270157489 for Mine.q0 by Mine.q0e
name_quick tw9992811492673617209 for Mine.q0 by Mine.q0e
name_quick tw8715232199151450082 for Mine.q0 by Mine.q0e
name_quick tw7435916039579891191 for Mine.q0 by Mine.q0e
name_quick tw6459529056999728218 for Mine.q0 by Mine.q0e
name_quick tw17451433451393781691 for Mine.q0 by Mine.q0e
name_quick tw13149826739598533810 for Mine.q0 by Mine.q0e
name_quick tw13800787102130710365 for Mine.q0 by Mine.q0e
name_quick tw18325940907068072969 for Mine.q0 by Mine.q0e
name_quick tw11479093097300797616 for Mine.q0 by Mine.q0e
name_quick tw850825216536107543 for Mine.q0 by Mine.q0e
name_quick tw1971474199496694481 for Mine.q0 by Mine.q0e
name_quick tw240714539644867966 for Mine.q0 by Mine.q0e
name_quick tw1691460304561770660 for Mine.q0 by Mine.q0e
name_quick tw8418248429145373324 for Mine.q0 by Mine.q0e
name_quick tw16613759584810082329 for Mine.q0 by Mine.q0e
name_quick tw14993668071669856676 for Mine.q0 by Mine.q0e
name_quick tw11465372045954077809 for Mine.q0 by Mine.q0e
name_quick tw9857545859252499731 for Mine.q0 by Mine.q0e
name_quick tw11286716842662500590 for Mine.q0 by Mine.q0e
name_quick tw2682558103566943745 for Mine.q0 by Mine.q0e
name_quick tw10178174386179882901 for Mine.q0 by Mine.q0e
name_quick tw11034688641766781262 for Mine.q0 by Mine.q0e
name_quick tw10517573849148403210 for Mine.q0 by Mine.q0e
name_quick tw18028174330614810282 for Mine.q0 by Mine.q0e
name_quick tw5503714152725346304 for Mine.q0 by Mine.q0e
name_quick tw13305589983568833867 for Mine.q0 by Mine.q0e
name_quick tw17145654031159180529 for Mine.q0 by Mine.q0e
name_quick tw6209304756421157453 for Mine.q0 by Mine.q0e
name_quick tw8715631833858151775 for Mine.q0 by Mine.q0e
name_quick tw1699567820700022706 for Mine.q0 by Mine.q0e
name_quick tw16163248876690068782 for Mine.q0 by Mine.q0e
name_quick tw18069253472257421811 for Mine.q0 by Mine.q0e
name_quick tw11140698815007529205 for Mine.q0 by Mine.q0e
name_quick tw14265422477227342053 for Mine.q0 by Mine.q0e
name_quick tw5475854301817447331 for Mine.q0 by Mine.q0e
name_quick tw308960840126024002 for Mine.q0 by Mine.q0e
name_quick tw12072135646937090609 for Mine.q0 by Mine.q0e
name_quick tw3627665041672637691 for Mine.q0 by Mine.q0e
name_quick tw13459001229735329803 for Mine.q0 by Mine.q0e
name_quick tw10168807226535633687 for Mine.q0 by Mine.q0e
name_quick tw11523270463512503060 for Mine.q0 by Mine.q0e
name_quick tw2941683004350084023 for Mine.q0 by Mine.q0e
name_quick tw7792899680193920618 for Mine.q0 by Mine.q0e
name_quick tw6884443475398457055 for Mine.q0 by Mine.q0e
name_quick tw15622137485790208999 for Mine.q0 by Mine.q0e
name_quick tw6181673713785326196 for Mine.q0 by Mine.q0e
name_quick tw15610131403700288762 for Mine.q0 by Mine.q0e
name_quick tw3610217995336366005 for Mine.q0 by Mine.q0e
name_quick tw744703819222768399 for Mine.q0 by Mine.q0e
name_quick tw6540395681866642566 for Mine.q0 by Mine.q0e
name_quick tw13132556434167779888 for Mine.q0 by Mine.q0e
name_quick tw14057675123624914841 for Mine.q0 by Mine.q0e
name_quick tw5167141981797093750 for Mine.q0 by Mine.q0e
name_quick tw13200241857977422704 for Mine.q0 by Mine.q0e
name_quick tw4889961068193153030 for Mine.q0 by Mine.q0e
name_quick tw11399587042377426359 for Mine.q0 by Mine.q0e
name_quick tw11296509792178482086 for Mine.q0 by Mine.q0e
name_quick tw1324937477776260648 for Mine.q0 by Mine.q0e
name_quick tw12479045399119123558 for Mine.q0 by Mine.q0e
name_quick tw12087842029679389055 for Mine.q0 by Mine.q0e
name_quick tw2317930507722582281 for Mine.q0 by Mine.q0e
name_quick tw6452815411474253973 for Mine.q0 by Mine.q0e
name_quick tw17472525076686491862 for Mine.q0 by Mine.q0e
name_quick tw8875026325253005051 for Mine.q0 by Mine.q0e
name_quick tw12028331055546998912 for Mine.q0 by Mine.q0e
name_quick tw5114709379586507897 for Mine.q0 by Mine.q0e
name_quick tw2888825844153210310 for Mine.q0 by Mine.q0e
name_quick tw12642109616134241754 for Mine.q0 by Mine.q0e
name_quick tw11971675131503252784 for Mine.q0 by Mine.q0e
name_quick tw3649980250765635680 for Mine.q0 by Mine.q0e
name_quick tw17455652454079205740 for Mine.q0 by Mine.q0e
name_quick tw8392616100948847294 for Mine.q0 by Mine.q0e
name_quick tw16254839766496601729 for Mine.q0 by Mine.q0e
name_quick tw7233981244592756396 for Mine.q0 by Mine.q0e
name_quick tw14649503554522893803 for Mine.q0 by Mine.q0e
name_quick tw16091496805883780597 for Mine.q0 by Mine.q0e
name_quick tw10283264685801316745 for Mine.q0 by Mine.q0e
name_quick tw2560036215288114720 for Mine.q0 by Mine.q0e
name_quick tw2187756695563315799 for Mine.q0 by Mine.q0e
name_quick tw16503055149104800909 for Mine.q0 by Mine.q0e
name_quick tw6147086951534928438 for Mine.q0 by Mine.q0e
name_quick tw5212644594815476084 for Mine.q0 by Mine.q0e
name_quick tw14904071450576245649 for Mine.q0 by Mine.q0e
name_quick tw17201979011827500616 for Mine.q0 by Mine.q0e
name_quick tw6375498899756364212 for Mine.q0 by Mine.q0e
name_quick tw14136914239046415881 for Mine.q0 by Mine.q0e
name_quick tw4470766044951481911 for Mine.q0 by Mine.q0e
name_quick tw10562277690642291078 for Mine.q0 by Mine.q0e
name_quick tw9688476136255566447 for Mine.q0 by Mine.q0e
name_quick tw12870875252334966896 for Mine.q0 by Mine.q0e
name_quick tw1605577428037447138 for Mine.q0 by Mine.q0e
name_quick tw15780472712345143315 for Mine.q0 by Mine.q0e
name_quick tw14463933124207870933 for Mine.q0 by Mine.q0e
name_quick tw4891623352987019604 for Mine.q0 by Mine.q0e
name_quick tw15278696644349353835 for Mine.q0 by Mine.q0e
name_quick tw4336939255219992770 for Mine.q0 by Mine.q0e
name_quick tw7260961844442345951 for Mine.q0 by Mine.q0e
name_quick tw7676200038221045192 for Mine.q0 by Mine.q0e
name_quick tw17715915899920929217 for Mine.q0 by Mine.q0e
name_quick tw4796198153180069273 for Mine.q0 by Mine.q0e
name_quick tw16583872728106939565 for Mine.q0 by Mine.q0e
name_quick tw12020910555760027911 for Mine.q0 by Mine.q0e
name_quick tw12321234696594390123 for Mine.q0 by Mine.q0e
name_quick tw17671840095514651654 for Mine.q0 by Mine.q0e
name_quick tw8378657845621399691 for Mine.q0 by Mine.q0e
name_quick tw17664981014857460384 for Mine.q0 by Mine.q0e
name_quick tw6766059716932726171 for Mine.q0 by Mine.q0e
name_quick tw3089880253392424151 for Mine.q0 by Mine.q0e
name_quick tw3136837788279092718 for Mine.q0 by Mine.q0e
name_quick tw5574091723342783234 for Mine.q0 by Mine.q0e
name_quick tw2334541877715089956 for Mine.q0 by Mine.q0e
name_quick tw14658609372897522709 for Mine.q0 by Mine.q0e
name_quick tw2440920054131790368 for Mine.q0 by Mine.q0e
name_quick tw7364692382897778419 for Mine.q0 by Mine.q0e
name_quick tw3848641744619564273 for Mine.q0 by Mine.q0e
name_quick tw16420623968231393245 for Mine.q0 by Mine.q0e
name_quick tw1681806634154472131 for Mine.q0 by Mine.q0e
name_quick tw10915855698094061003 for Mine.q0 by Mine.q0e
name_quick tw14838256880085239177 for Mine.q0 by Mine.q0e
name_quick tw11331045288845285974 for Mine.q0 by Mine.q0e
name_quick tw3821070252989983589 for Mine.q0 by Mine.q0e
name_quick tw16737194689641378492 for Mine.q0 by Mine.q0e
name_quick tw17506534167508175917 for Mine.q0 by Mine.q0e
name_quick tw14349232711217259974 for Mine.q0 by Mine.q0e
name_quick tw2718723486653261980 for Mine.q0 by Mine.q0e
name_quick tw2518247830863616398 for Mine.q0 by Mine.q0e
name_quick tw10580740764013300276 for Mine.q0 by Mine.q0e
name_quick tw9052951755041614187 for Mine.q0 by Mine.q0e
name_quick tw7218258248019603806 for Mine.q0 by Mine.q0e
name_quick tw5778456126692747887 for Mine.q0 by Mine.q0e
name_quick tw9539316537589182085 for Mine.q0 by Mine.q0e
name_quick tw5960848932255261182 for Mine.q0 by Mine.q0e
name_quick tw13966626134200079776 for Mine.q0 by Mine.q0e
name_quick tw10130728017127893605 for Mine.q0 by Mine.q0e
name_quick tw10322322215687326367 for Mine.q0 by Mine.q0e
name_quick tw13424050619060363596 for Mine.q0 by Mine.q0e
name_quick tw2054720410710563511 for Mine.q0 by Mine.q0e
name_quick tw15813865446253465225 for Mine.q0 by Mine.q0e
name_quick tw12646423206557268747 for Mine.q0 by Mine.q0e
name_quick tw3553527998975577576 for Mine.q0 by Mine.q0e
name_quick tw5432685675866544598 for Mine.q0 by Mine.q0e
name_quick tw5243110896878721040 for Mine.q0 by Mine.q0e
name_quick tw8049657555501063061 for Mine.q0 by Mine.q0e
name_quick tw13703941540421987626 for Mine.q0 by Mine.q0e
name_quick tw3181519669828005289 for Mine.q0 by Mine.q0e
name_quick tw7016090979434494262 for Mine.q0 by Mine.q0e
name_quick tw276094236337073262 for Mine.q0 by Mine.q0e
name_quick tw9641888615979959648 for Mine.q0 by Mine.q0e
name_quick tw6405535312745618268 for Mine.q0 by Mine.q0e
name_quick tw13515725191236959009 for Mine.q0 by Mine.q0e
name_quick tw13715855391914229323 for Mine.q0 by Mine.q0e
name_quick tw11265586273283110152 for Mine.q0 by Mine.q0e
name_quick tw7345423760382328954 for Mine.q0 by Mine.q0e
name_quick tw6040862118352807334 for Mine.q0 by Mine.q0e
name_quick tw3649051376609687006 for Mine.q0 by Mine.q0e
name_quick tw10966361284060495298 for Mine.q0 by Mine.q0e
name_quick tw3485389206410654449 for Mine.q0 by Mine.q0e
name_quick tw17032437856987008424 for Mine.q0 by Mine.q0e
name_quick tw5962536241833650060 for Mine.q0 by Mine.q0e
name_quick tw1079085530054526554 for Mine.q0 by Mine.q0e
name_quick tw17060672290205048547 for Mine.q0 by Mine.q0e
name_quick tw1212422078920491816 for Mine.q0 by Mine.q0e
name_quick tw8219432165110013817 for Mine.q0 by Mine.q0e
name_quick tw2510146482600152582 for Mine.q0 by Mine.q0e
name_quick tw3117703851338650457 for Mine.q0 by Mine.q0e
name_quick tw14003031728316571614 for Mine.q0 by Mine.q0e
name_quick tw14534059653967398615 for Mine.q0 by Mine.q0e
name_quick tw9729633072085245011 for Mine.q0 by Mine.q0e
name_quick tw16325810972206328857 for Mine.q0 by Mine.q0e
name_quick tw7717609492055201016 for Mine.q0 by Mine.q0e
name_quick tw4084451966487842800 for Mine.q0 by Mine.q0e
name_quick tw174213259083681392 for Mine.q0 by Mine.q0e
name_quick tw855897920078565915 for Mine.q0 by Mine.q0e
name_quick tw8279696392201686521 for Mine.q0 by Mine.q0e
name_quick tw13062394683829469849 for Mine.q0 by Mine.q0e
name_quick tw8081678433485652776 for Mine.q0 by Mine.q0e
name_quick tw9013262890440895356 for Mine.q0 by Mine.q0e
name_quick tw3873731626146079914 for Mine.q0 by Mine.q0e
name_quick tw16427871227558185285 for Mine.q0 by Mine.q0e
name_quick tw5231407272754033243 for Mine.q0 by Mine.q0e
name_quick tw18299586222390183305 for Mine.q0 by Mine.q0e
name_quick tw10624021514882505985 for Mine.q0 by Mine.q0e
name_quick tw5400128589828386113 for Mine.q0 by Mine.q0e
name_quick tw9087849775421294527 for Mine.q0 by Mine.q0e
name_quick tw15613981373910058326 for Mine.q0 by Mine.q0e
name_quick tw11398627089078384052 for Mine.q0 by Mine.q0e
name_quick tw6283888497149619478 for Mine.q0 by Mine.q0e
name_quick tw5451463568646631707 for Mine.q0 by Mine.q0e
name_quick tw12231671284344792353 for Mine.q0 by Mine.q0e
name_quick tw18079415149679379376 for Mine.q0 by Mine.q0e
name_quick tw6746360957326507035 for Mine.q0 by Mine.q0e
name_quick tw9672891051494088393 for Mine.q0 by Mine.q0e
name_quick tw11897376889747844733 for Mine.q0 by Mine.q0e
name_quick tw10952602515474701183 for Mine.q0 by Mine.q0e
name_quick tw16504644925063081840 for Mine.q0 by Mine.q0e
name_quick tw13944380647700989392 for Mine.q0 by Mine.q0e
name_quick tw2080442998136117073 for Mine.q0 by Mine.q0e
name_quick tw8416670589120495591 for Mine.q0 by Mine.q0e
name_quick tw12376725489380360268 for Mine.q0 by Mine.q0e
name_quick tw1900671264290337022 for Mine.q0 by Mine.q0e
name_quick tw683737194131445641 for Mine.q0 by Mine.q0e
name_quick tw13153084461670193490 for Mine.q0 by Mine.q0e
name_quick tw8432073829888324866 for Mine.q0 by Mine.q0e
name_quick tw353445769094690550 for Mine.q0 by Mine.q0e
name_quick tw2311073330603537956 for Mine.q0 by Mine.q0e
name_quick tw1681977212797327398 for Mine.q0 by Mine.q0e
name_quick tw13234670642416744240 for Mine.q0 by Mine.q0e
name_quick tw16350905501953934934 for Mine.q0 by Mine.q0e
name_quick tw11014526868022818167 for Mine.q0 by Mine.q0e
name_quick tw16288682424139100393 for Mine.q0 by Mine.q0e
name_quick tw14742836927998760959 for Mine.q0 by Mine.q0e
name_quick tw13149703089733472735 for Mine.q0 by Mine.q0e
name_quick tw5078255842003111848 for Mine.q0 by Mine.q0e
name_quick tw13538448462358717905 for Mine.q0 by Mine.q0e
name_quick tw9715948030113787579 for Mine.q0 by Mine.q0e
name_quick tw5221601840854418473 for Mine.q0 by Mine.q0e
name_quick tw16507313147989723346 for Mine.q0 by Mine.q0e
name_quick tw8747970259157626954 for Mine.q0 by Mine.q0e
name_quick tw16629318489975123092 for Mine.q0 by Mine.q0e
name_quick tw15679479700158342722 for Mine.q0 by Mine.q0e
name_quick tw110873076351941592 for Mine.q0 by Mine.q0e
name_quick tw341355013756781987 for Mine.q0 by Mine.q0e
name_quick tw15313608417052787863 for Mine.q0 by Mine.q0e
name_quick tw12979412105427841632 for Mine.q0 by Mine.q0e
name_quick tw18418414108901750921 for Mine.q0 by Mine.q0e
name_quick tw13122790800745322671 for Mine.q0 by Mine.q0e
name_quick tw7589006466267539382 for Mine.q0 by Mine.q0e
name_quick tw15310119635095151831 for Mine.q0 by Mine.q0e
name_quick tw4802741198589975907 for Mine.q0 by Mine.q0e
name_quick tw566346961275475380 for Mine.q0 by Mine.q0e
name_quick tw2603801986284213613 for Mine.q0 by Mine.q0e
name_quick tw10408217744092339455 for Mine.q0 by Mine.q0e
name_quick tw3608819741812284577 for Mine.q0 by Mine.q0e
name_quick tw17945916133407857090 for Mine.q0 by Mine.q0e
name_quick tw149530599247087637 for Mine.q0 by Mine.q0e
name_quick tw5683809305107061204 for Mine.q0 by Mine.q0e
name_quick tw2399949569792540825 for Mine.q0 by Mine.q0e
name_quick tw3730495838618873084 for Mine.q0 by Mine.q0e
name_quick tw11278608579628232216 for Mine.q0 by Mine.q0e
name_quick tw10233146092400887997 for Mine.q0 by Mine.q0e
name_quick tw10739412887229884169 for Mine.q0 by Mine.q0e
name_quick tw14326171768714537107 for Mine.q0 by Mine.q0e
name_quick tw12418503255673117753 for Mine.q0 by Mine.q0e
name_quick tw14012373623298322047 for Mine.q0 by Mine.q0e
name_quick tw1885690880105928637 for Mine.q0 by Mine.q0e
name_quick tw12965534438470435276 for Mine.q0 by Mine.q0e
name_quick tw18012485521767936909 for Mine.q0 by Mine.q0e
name_quick tw6072988575181761556 for Mine.q0 by Mine.q0e
name_quick tw6803121548764134277 for Mine.q0 by Mine.q0e
name_quick tw2116107691603518052 for Mine.q0 by Mine.q0e
name_quick tw8961738658723423614 for Mine.q0 by Mine.q0e
name_quick tw945907798693975032 for Mine.q0 by Mine.q0e
name_quick tw11200246651136188413 for Mine.q0 by Mine.q0e
name_quick tw9802378962077309722 for Mine.q0 by Mine.q0e
name_quick tw16027621912637790967 for Mine.q0 by Mine.q0e
name_quick tw1600713839139459590 for Mine.q0 by Mine.q0e
name_quick tw5176129968155258067 for Mine.q0 by Mine.q0e
name_quick tw3044494643534146921 for Mine.q0 by Mine.q0e
name_quick tw8623650668030116032 for Mine.q0 by Mine.q0e
name_quick tw11706403247483701857 for Mine.q0 by Mine.q0e
name_quick tw11149792055366017275 for Mine.q0 by Mine.q0e
name_quick tw5208090245130348943 for Mine.q0 by Mine.q0e
name_quick tw16463712771065502008 for Mine.q0 by Mine.q0e
name_quick tw10032783045756569684 for Mine.q0 by Mine.q0e
name_quick tw11580653394887607409 for Mine.q0 by Mine.q0e
name_quick tw9316927254400730457 for Mine.q0 by Mine.q0e
name_quick tw18156685712000427995 for Mine.q0 by Mine.q0e
name_quick tw990624785151917353 for Mine.q0 by Mine.q0e
name_quick tw635992114058213928 for Mine.q0 by Mine.q0e
name_quick tw1192238519917804870 for Mine.q0 by Mine.q0e
name_quick tw12339997370844750576 for Mine.q0 by Mine.q0e
name_quick tw2353743231135146129 for Mine.q0 by Mine.q0e
name_quick tw4797333928608693109 for Mine.q0 by Mine.q0e
name_quick tw3055216787890707592 for Mine.q0 by Mine.q0e
name_quick tw10031696101776241285 for Mine.q0 by Mine.q0e
name_quick tw13155465719467828308 for Mine.q0 by Mine.q0e
name_quick tw7608111299891134616 for Mine.q0 by Mine.q0e
name_quick tw12336874929354264151 for Mine.q0 by Mine.q0e
name_quick tw9985594779808154307 for Mine.q0 by Mine.q0e
name_quick tw9918350062673177680 for Mine.q0 by Mine.q0e
name_quick tw13134670332709324356 for Mine.q0 by Mine.q0e
name_quick tw757304546214435334 for Mine.q0 by Mine.q0e
name_quick tw6919835229942185816 for Mine.q0 by Mine.q0e
name_quick tw18087922532757732042 for Mine.q0 by Mine.q0e
name_quick tw15440372639551002546 for Mine.q0 by Mine.q0e
name_quick tw4440947067415148932 for Mine.q0 by Mine.q0e
name_quick tw15941858506210702565 for Mine.q0 by Mine.q0e
name_quick tw9820073560092738740 for Mine.q0 by Mine.q0e
name_quick tw9820990598800839459 for Mine.q0 by Mine.q0e
name_quick tw9582203999027651994 for Mine.q0 by Mine.q0e
name_quick tw1721322811889867537 for Mine.q0 by Mine.q0e
name_quick tw12941146268588588708 for Mine.q0 by Mine.q0e
name_quick tw11177922370211928049 for Mine.q0 by Mine.q0e
name_quick tw9625693815944127028 for Mine.q0 by Mine.q0e
name_quick tw2409517806426240990 for Mine.q0 by Mine.q0e
name_quick tw10892470611557114847 for Mine.q0 by Mine.q0e
name_quick tw7876397157567617773 for Mine.q0 by Mine.q0e
name_quick tw5904212873548673546 for Mine.q0 by Mine.q0e
name_quick tw6370920990799469045 for Mine.q0 by Mine.q0e
name_quick tw9206811061081420819 for Mine.q0 by Mine.q0e
name_quick tw10395253857359872450 for Mine.q0 by Mine.q0e
name_quick tw6588711595440922183 for Mine.q0 by Mine.q0e
name_quick tw15750028756515894521 for Mine.q0 by Mine.q0e
name_quick tw10428979833986618579 for Mine.q0 by Mine.q0e
name_quick tw4832085350873741265 for Mine.q0 by Mine.q0e
name_quick tw8519086416912305123 for Mine.q0 by Mine.q0e
name_quick tw15837991733480269545 for Mine.q0 by Mine.q0e
name_quick tw2709387573648260183 for Mine.q0 by Mine.q0e
name_quick tw15590980926302052280 for Mine.q0 by Mine.q0e
name_quick tw12148780245390541274 for Mine.q0 by Mine.q0e
name_quick tw8397634194658071732 for Mine.q0 by Mine.q0e
name_quick tw398708156986073818 for Mine.q0 by Mine.q0e
name_quick tw12341588619025160306 for Mine.q0 by Mine.q0e
name_quick tw16865243919403581907 for Mine.q0 by Mine.q0e
name_quick tw17672302452134686834 for Mine.q0 by Mine.q0e
name_quick tw10883111507440050486 for Mine.q0 by Mine.q0e
name_quick tw7566046347147463693 for Mine.q0 by Mine.q0e
name_quick tw17978237868121660542 for Mine.q0 by Mine.q0e
name_quick tw12613642190135268110 for Mine.q0 by Mine.q0e
name_quick tw1123711274457084661 for Mine.q0 by Mine.q0e
name_quick tw552796235513291135 for Mine.q0 by Mine.q0e
name_quick tw16530366974224423028 for Mine.q0 by Mine.q0e
name_quick tw9924968883677327188 for Mine.q0 by Mine.q0e
name_quick tw14742783784785019297 for Mine.q0 by Mine.q0e
name_quick tw11181222798467264117 for Mine.q0 by Mine.q0e
name_quick tw11342269907909778197 for Mine.q0 by Mine.q0e
name_quick tw11047162435985996953 for Mine.q0 by Mine.q0e
name_quick tw7500266687906160865 for Mine.q0 by Mine.q0e
name_quick tw6152593689030537874 for Mine.q0 by Mine.q0e
name_quick tw15383164754483836285 for Mine.q0 by Mine.q0e
name_quick tw18245634028491755547 for Mine.q0 by Mine.q0e
name_quick tw9016725047688398748 for Mine.q0 by Mine.q0e
name_quick tw1600553697454302830 for Mine.q0 by Mine.q0e
name_quick tw446011166003758796 for Mine.q0 by Mine.q0e
name_quick tw14484481612242438434 for Mine.q0 by Mine.q0e
name_quick tw15674093747835468993 for Mine.q0 by Mine.q0e
name_quick tw7293190380627718005 for Mine.q0 by Mine.q0e
name_quick tw16662989211055275509 for Mine.q0 by Mine.q0e
name_quick tw9771483443664522436 for Mine.q0 by Mine.q0e
name_quick tw4713473170075159689 for Mine.q0 by Mine.q0e
name_quick tw10951371697809513373 for Mine.q0 by Mine.q0e
name_quick tw7004512639448754951 for Mine.q0 by Mine.q0e
name_quick tw13663361675291194432 for Mine.q0 by Mine.q0e
name_quick tw10736345751606870364 for Mine.q0 by Mine.q0e
name_quick tw5045079726740425407 for Mine.q0 by Mine.q0e
name_quick tw10437968665033241255 for Mine.q0 by Mine.q0e
name_quick tw8907850178081692078 for Mine.q0 by Mine.q0e
name_quick tw11748096316229157551 for Mine.q0 by Mine.q0e
name_quick tw1284267624236136008 for Mine.q0 by Mine.q0e
name_quick tw3058623521097492688 for Mine.q0 by Mine.q0e
name_quick tw5285247788499592676 for Mine.q0 by Mine.q0e
name_quick tw5240926752463659854 for Mine.q0 by Mine.q0e
name_quick tw10674908228745398193 for Mine.q0 by Mine.q0e
name_quick tw15568146626487613667 for Mine.q0 by Mine.q0e
name_quick tw8577266621119095417 for Mine.q0 by Mine.q0e
name_quick tw2468518494730063143 for Mine.q0 by Mine.q0e
name_quick tw10235082295016249929 for Mine.q0 by Mine.q0e
name_quick tw16348620193927786263 for Mine.q0 by Mine.q0e
name_quick tw1586460647024124340 for Mine.q0 by Mine.q0e
name_quick tw593196611898672107 for Mine.q0 by Mine.q0e
name_quick tw12074585411799090302 for Mine.q0 by Mine.q0e
name_quick tw12818719566609284712 for Mine.q0 by Mine.q0e
name_quick tw6783460271257670970 for Mine.q0 by Mine.q0e
name_quick tw10432996998276556943 for Mine.q0 by Mine.q0e
name_quick tw17968526746376077673 for Mine.q0 by Mine.q0e
name_quick tw15739401984328570019 for Mine.q0 by Mine.q0e
name_quick tw7170337620221709080 for Mine.q0 by Mine.q0e
name_quick tw15511788788967838185 for Mine.q0 by Mine.q0e
name_quick tw12935243514354992831 for Mine.q0 by Mine.q0e
name_quick tw6693049654166595275 for Mine.q0 by Mine.q0e
name_quick tw3759047061774715218 for Mine.q0 by Mine.q0e
name_quick tw804149502644954935 for Mine.q0 by Mine.q0e
name_quick tw3316967128889542578 for Mine.q0 by Mine.q0e
name_quick tw2710539782319073686 for Mine.q0 by Mine.q0e
name_quick tw14519877343961486987 for Mine.q0 by Mine.q0e
name_quick tw17381634724180722467 for Mine.q0 by Mine.q0e
name_quick tw13576518137860692135 for Mine.q0 by Mine.q0e
name_quick tw15603310783580039226 for Mine.q0 by Mine.q0e
name_quick tw3107175210270246687 for Mine.q0 by Mine.q0e
name_quick tw15878842992587139750 for Mine.q0 by Mine.q0e
name_quick tw14874912661698373859 for Mine.q0 by Mine.q0e
name_quick tw12006821114162824600 for Mine.q0 by Mine.q0e
name_quick tw571088709698411271 for Mine.q0 by Mine.q0e
name_quick tw8822164362837553564 for Mine.q0 by Mine.q0e
name_quick tw8177926894249719910 for Mine.q0 by Mine.q0e
name_quick tw15646941490242624355 for Mine.q0 by Mine.q0e
name_quick tw1905650484614004824 for Mine.q0 by Mine.q0e
name_quick tw10418322490951732561 for Mine.q0 by Mine.q0e
name_quick tw9210576562315259770 for Mine.q0 by Mine.q0e
name_quick tw11233065612981151974 for Mine.q0 by Mine.q0e
name_quick tw16291784056135145231 for Mine.q0 by Mine.q0e
name_quick tw2830922197270678389 for Mine.q0 by Mine.q0e
name_quick tw15316795732599052899 for Mine.q0 by Mine.q0e
name_quick tw14636583421466386818 for Mine.q0 by Mine.q0e
name_quick tw3829688454634088759 for Mine.q0 by Mine.q0e
name_quick tw17827766879605675382 for Mine.q0 by Mine.q0e
name_quick tw4948131499221318096 for Mine.q0 by Mine.q0e
name_quick tw16072925045675498758 for Mine.q0 by Mine.q0e
name_quick tw13870939550571360989 for Mine.q0 by Mine.q0e
name_quick tw13312640828438377048 for Mine.q0 by Mine.q0e
name_quick tw10977494385699943893 for Mine.q0 by Mine.q0e
name_quick tw11982552452595333326 for Mine.q0 by Mine.q0e
name_quick tw13523680069467334651 for Mine.q0 by Mine.q0e
name_quick tw10645624147272049394 for Mine.q0 by Mine.q0e
name_quick tw2987942165451547507 for Mine.q0 by Mine.q0e
name_quick tw8547469924071793836 for Mine.q0 by Mine.q0e
name_quick tw6433279343603950005 for Mine.q0 by Mine.q0e
name_quick tw1216458035332574236 for Mine.q0 by Mine.q0e
name_quick tw7319865053879612618 for Mine.q0 by Mine.q0e
name_quick tw18245702649696253459 for Mine.q0 by Mine.q0e
name_quick tw12857676221524874113 for Mine.q0 by Mine.q0e
name_quick tw1276058293955384060 for Mine.q0 by Mine.q0e
name_quick tw15861795172355935012 for Mine.q0 by Mine.q0e
name_quick tw1991309761996025108 for Mine.q0 by Mine.q0e
name_quick tw10380748504603029777 for Mine.q0 by Mine.q0e
name_quick tw11378406300157510815 for Mine.q0 by Mine.q0e
name_quick tw4198857635490505289 for Mine.q0 by Mine.q0e
name_quick tw6029681450038736718 for Mine.q0 by Mine.q0e
name_quick tw16305351079721060933 for Mine.q0 by Mine.q0e
name_quick tw13020149458447087218 for Mine.q0 by Mine.q0e
name_quick tw17208337664209951732 for Mine.q0 by Mine.q0e
name_quick tw5010043662502415752 for Mine.q0 by Mine.q0e
name_quick tw8080911281544845439 for Mine.q0 by Mine.q0e
name_quick tw2060718276538723042 for Mine.q0 by Mine.q0e
name_quick tw13535516862125366340 for Mine.q0 by Mine.q0e
name_quick tw16485338706934834638 for Mine.q0 by Mine.q0e
name_quick tw1037507182246647305 for Mine.q0 by Mine.q0e
name_quick tw1250937646402369652 for Mine.q0 by Mine.q0e
name_quick tw1842507152891083544 for Mine.q0 by Mine.q0e
name_quick tw6432381843675601739 for Mine.q0 by Mine.q0e
name_quick tw6314463646990590571 for Mine.q0 by Mine.q0e
name_quick tw14743355834428850924 for Mine.q0 by Mine.q0e
name_quick tw4880525833538766160 for Mine.q0 by Mine.q0e
name_quick tw9330560346554271842 for Mine.q0 by Mine.q0e
name_quick tw5653589298121871757 for Mine.q0 by Mine.q0e
name_quick tw1229025640308928366 for Mine.q0 by Mine.q0e
name_quick tw10298460969722007445 for Mine.q0 by Mine.q0e
name_quick tw6420260124135810933 for Mine.q0 by Mine.q0e
name_quick tw8010861258063757830 for Mine.q0 by Mine.q0e
name_quick tw1364317325086699164 for Mine.q0 by Mine.q0e
name_quick tw12035292569335343299 for Mine.q0 by Mine.q0e
name_quick tw6136294498737325031 for Mine.q0 by Mine.q0e
name_quick tw13100296104652283128 for Mine.q0 by Mine.q0e
name_quick tw8237346931834575727 for Mine.q0 by Mine.q0e
name_quick tw2658318441951522137 for Mine.q0 by Mine.q0e
name_quick tw2714307203891618961 for Mine.q0 by Mine.q0e
name_quick tw12555558882724205535 for Mine.q0 by Mine.q0e
name_quick tw362318988275620036 for Mine.q0 by Mine.q0e
name_quick tw5681563929475690187 for Mine.q0 by Mine.q0e
name_quick tw15884102016048649738 for Mine.q0 by Mine.q0e
name_quick tw12970393001620894439 for Mine.q0 by Mine.q0e
name_quick tw8014202486123425687 for Mine.q0 by Mine.q0e
name_quick tw5549764740740260463 for Mine.q0 by Mine.q0e
name_quick tw16606970089376129514 for Mine.q0 by Mine.q0e
name_quick tw6706049443615668944 for Mine.q0 by Mine.q0e
name_quick tw11901212983690807668 for Mine.q0 by Mine.q0e
name_quick tw313704062291781380 for Mine.q0 by Mine.q0e
name_quick tw9693935963485398509 for Mine.q0 by Mine.q0e
name_quick tw3735657146530046619 for Mine.q0 by Mine.q0e
name_quick tw3084719740169204389 for Mine.q0 by Mine.q0e
name_quick tw17766313921012110804 for Mine.q0 by Mine.q0e
name_quick tw11196080870683054851 for Mine.q0 by Mine.q0e
name_quick tw6215250446121193169 for Mine.q0 by Mine.q0e
name_quick tw13566869085854952170 for Mine.q0 by Mine.q0e
name_quick tw6786191708835867841 for Mine.q0 by Mine.q0e
name_quick tw686572637641109103 for Mine.q0 by Mine.q0e
name_quick tw14913816099775529355 for Mine.q0 by Mine.q0e
name_quick tw14821174064618162452 for Mine.q0 by Mine.q0e
name_quick tw17168745885468913944 for Mine.q0 by Mine.q0e
name_quick tw16266036363206455747 for Mine.q0 by Mine.q0e
name_quick tw11504661271167178823 for Mine.q0 by Mine.q0e
name_quick tw5824786262747568664 for Mine.q0 by Mine.q0e
name_quick tw11777490571240002819 for Mine.q0 by Mine.q0e
name_quick tw9992045898973615783 for Mine.q0 by Mine.q0e
name_quick tw3313127004805583477 for Mine.q0 by Mine.q0e
name_quick tw1698227122622566724 for Mine.q0 by Mine.q0e
name_quick tw7816087740605841736 for Mine.q0 by Mine.q0e
name_quick tw7884377675691073004 for Mine.q0 by Mine.q0e
name_quick tw14931461098237707689 for Mine.q0 by Mine.q0e
name_quick tw4036117826906256167 for Mine.q0 by Mine.q0e
name_quick tw18032499013658264575 for Mine.q0 by Mine.q0e
name_quick tw17752285634072022166 for Mine.q0 by Mine.q0e
name_quick tw10064548096343403307 for Mine.q0 by Mine.q0e
name_quick tw3148299748802497315 for Mine.q0 by Mine.q0e
name_quick tw293362111647650536 for Mine.q0 by Mine.q0e
name_quick tw16256705366233514417 for Mine.q0 by Mine.q0e
name_quick tw11702046306010126479 for Mine.q0 by Mine.q0e
name_quick tw126991505828612291 for Mine.q0 by Mine.q0e
name_quick tw8799510833528373854 for Mine.q0 by Mine.q0e
name_quick tw2811875271536981242 for Mine.q0 by Mine.q0e
name_quick tw4791239898367659419 for Mine.q0 by Mine.q0e
name_quick tw11845258195404432255 for Mine.q0 by Mine.q0e
name_quick tw12834565246834904303 for Mine.q0 by Mine.q0e
name_quick tw113586397611989140 for Mine.q0 by Mine.q0e
name_quick tw7378005268382028993 for Mine.q0 by Mine.q0e
name_quick tw40750938595615728 for Mine.q0 by Mine.q0e
name_quick tw13186785280860562682 for Mine.q0 by Mine.q0e
name_quick tw2004219370516605139 for Mine.q0 by Mine.q0e
name_quick tw12937616462788262575 for Mine.q0 by Mine.q0e
name_quick tw15376918101907986724 for Mine.q0 by Mine.q0e
name_quick tw10803173338107702846 for Mine.q0 by Mine.q0e
name_quick tw11166759283077795161 for Mine.q0 by Mine.q0e
name_quick tw8134034816377248594 for Mine.q0 by Mine.q0e
name_quick tw3396123211922483976 for Mine.q0 by Mine.q0e
name_quick tw15758733748951385331 for Mine.q0 by Mine.q0e
name_quick tw11390453643067153150 for Mine.q0 by Mine.q0e
name_quick tw12509772359729878208 for Mine.q0 by Mine.q0e
name_quick tw352683315880743380 for Mine.q0 by Mine.q0e
name_quick tw17353531242058133895 for Mine.q0 by Mine.q0e
name_quick tw11902791352624495418 for Mine.q0 by Mine.q0e
name_quick tw539568252347827747 for Mine.q0 by Mine.q0e
name_quick tw10520644531203430932 for Mine.q0 by Mine.q0e
name_quick tw16953558712286210022 for Mine.q0 by Mine.q0e
name_quick tw11750157635608716687 for Mine.q0 by Mine.q0e
name_quick tw5924431647388451826 for Mine.q0 by Mine.q0e
name_quick tw13793810664271366575 for Mine.q0 by Mine.q0e
name_quick tw6916777617136619530 for Mine.q0 by Mine.q0e
name_quick tw1504076131850283271 for Mine.q0 by Mine.q0e
name_quick tw4584326260802454253 for Mine.q0 by Mine.q0e
name_quick tw821454035593659793 for Mine.q0 by Mine.q0e
name_quick tw3052561705900511214 for Mine.q0 by Mine.q0e
name_quick tw2979912235988175918 for Mine.q0 by Mine.q0e
name_quick tw13979193297800709254 for Mine.q0 by Mine.q0e
name_quick tw3092455541487207979 for Mine.q0 by Mine.q0e
name_quick tw11419737428990972207 for Mine.q0 by Mine.q0e
name_quick tw335936355694170159 for Mine.q0 by Mine.q0e
name_quick tw17418990283120273656 for Mine.q0 by Mine.q0e
name_quick tw6749786354575686491 for Mine.q0 by Mine.q0e
name_quick tw10865664553164613745 for Mine.q0 by Mine.q0e
name_quick tw13847165970086872385 for Mine.q0 by Mine.q0e
name_quick tw10400630984711591169 for Mine.q0 by Mine.q0e
name_quick tw6868523885813886244 for Mine.q0 by Mine.q0e
name_quick tw988064559492188534 for Mine.q0 by Mine.q0e
name_quick tw2157856963887680733 for Mine.q0 by Mine.q0e
name_quick tw3131065753469410105 for Mine.q0 by Mine.q0e
name_quick tw3637657177097223422 for Mine.q0 by Mine.q0e
name_quick tw16425962118493304864 for Mine.q0 by Mine.q0e
name_quick tw6462044888970586911 for Mine.q0 by Mine.q0e
name_quick tw10624266190196393407 for Mine.q0 by Mine.q0e
name_quick tw17657290904809736566 for Mine.q0 by Mine.q0e
name_quick tw7442850556943528295 for Mine.q0 by Mine.q0e
name_quick tw16881975925943810347 for Mine.q0 by Mine.q0e
name_quick tw13330571041815775595 for Mine.q0 by Mine.q0e
name_quick tw8169746912985501052 for Mine.q0 by Mine.q0e
name_quick tw8979577357095640950 for Mine.q0 by Mine.q0e
name_quick tw17077207721776591513 for Mine.q0 by Mine.q0e
name_quick tw16517811487558937858 for Mine.q0 by Mine.q0e
name_quick tw15309840940174131150 for Mine.q0 by Mine.q0e
name_quick tw8137984017267970737 for Mine.q0 by Mine.q0e
name_quick tw18306853793156464691 for Mine.q0 by Mine.q0e
name_quick tw3892471180186663644 for Mine.q0 by Mine.q0e
name_quick tw11810658869355380803 for Mine.q0 by Mine.q0e
name_quick tw15216128482767782409 for Mine.q0 by Mine.q0e
name_quick tw7680004196300180873 for Mine.q0 by Mine.q0e
name_quick tw10794810100151807898 for Mine.q0 by Mine.q0e
name_quick tw4238976502436648350 for Mine.q0 by Mine.q0e
name_quick tw11264565836279115353 for Mine.q0 by Mine.q0e
name_quick tw4735065824469217174 for Mine.q0 by Mine.q0e
name_quick tw14145084485963953139 for Mine.q0 by Mine.q0e
name_quick tw14028970035683035469 for Mine.q0 by Mine.q0e
name_quick tw15873186599766252349 for Mine.q0 by Mine.q0e
name_quick tw14075078734962728034 for Mine.q0 by Mine.q0e
name_quick tw3124315447780938129 for Mine.q0 by Mine.q0e
name_quick tw10553340621417803711 for Mine.q0 by Mine.q0e
name_quick tw12630913831459914169 for Mine.q0 by Mine.q0e
name_quick tw2464169317924819157 for Mine.q0 by Mine.q0e
name_quick tw4970456755374001346 for Mine.q0 by Mine.q0e
name_quick tw10926002861061076886 for Mine.q0 by Mine.q0e
name_quick tw3629350816423689948 for Mine.q0 by Mine.q0e
name_quick tw13142483767554061505 for Mine.q0 by Mine.q0e
name_quick tw16505190136319021581 for Mine.q0 by Mine.q0e
name_quick tw2079711332804734214 for Mine.q0 by Mine.q0e
name_quick tw5966108748554493968 for Mine.q0 by Mine.q0e
name_quick tw12786176247496740400 for Mine.q0 by Mine.q0e
name_quick tw2608861081770900260 for Mine.q0 by Mine.q0e
name_quick tw6513288174267573604 for Mine.q0 by Mine.q0e
name_quick tw10780780323862555318 for Mine.q0 by Mine.q0e
name_quick tw6642178398468997548 for Mine.q0 by Mine.q0e
name_quick tw1856594582978028026 for Mine.q0 by Mine.q0e
name_quick tw9308455367611751990 for Mine.q0 by Mine.q0e
name_quick tw7724513522709419933 for Mine.q0 by Mine.q0e
name_quick tw5146630571169427391 for Mine.q0 by Mine.q0e
name_quick tw4379065483316230864 for Mine.q0 by Mine.q0e
name_quick tw890847966159399780 for Mine.q0 by Mine.q0e
name_quick tw4624864238070250866 for Mine.q0 by Mine.q0e
name_quick tw8448489969998188929 for Mine.q0 by Mine.q0e
name_quick tw6833551828366149597 for Mine.q0 by Mine.q0e
name_quick tw1804107657015627635 for Mine.q0 by Mine.q0e
name_quick tw13616000616411258691 for Mine.q0 by Mine.q0e
name_quick tw7735256639360499987 for Mine.q0 by Mine.q0e
name_quick tw9551826219718226281 for Mine.q0 by Mine.q0e
name_quick tw2755731744889282069 for Mine.q0 by Mine.q0e
name_quick tw16379583344659270192 for Mine.q0 by Mine.q0e
name_quick tw3176409206053799210 for Mine.q0 by Mine.q0e
name_quick tw9815933518855476504 for Mine.q0 by Mine.q0e
name_quick tw11229184082406721373 for Mine.q0 by Mine.q0e
name_quick tw2456371808022237222 for Mine.q0 by Mine.q0e
name_quick tw17205331243171487604 for Mine.q0 by Mine.q0e
name_quick tw63563903539617864 for Mine.q0 by Mine.q0e
name_quick tw5898962708174290618 for Mine.q0 by Mine.q0e
name_quick tw16609882397093153383 for Mine.q0 by Mine.q0e
name_quick tw15574173400073042377 for Mine.q0 by Mine.q0e
name_quick tw2675523425927426103 for Mine.q0 by Mine.q0e
name_quick tw15435504974081340237 for Mine.q0 by Mine.q0e
name_quick tw7202701716837968234 for Mine.q0 by Mine.q0e
name_quick tw2371673382228694697 for Mine.q0 by Mine.q0e
name_quick tw2201862339822733520 for Mine.q0 by Mine.q0e
name_quick tw15852288613272785055 for Mine.q0 by Mine.q0e
name_quick tw5674380646377767856 for Mine.q0 by Mine.q0e
name_quick tw3978400521475207813 for Mine.q0 by Mine.q0e
name_quick tw6549841664983883613 for Mine.q0 by Mine.q0e
name_quick tw3530300565163266556 for Mine.q0 by Mine.q0e
name_quick tw5471239390479576941 for Mine.q0 by Mine.q0e
name_quick tw15750991491233820819 for Mine.q0 by Mine.q0e
name_quick tw469585187484710555 for Mine.q0 by Mine.q0e
name_quick tw10676011036843556066 for Mine.q0 by Mine.q0e
name_quick tw4337496766478891769 for Mine.q0 by Mine.q0e
name_quick tw2404496622416203455 for Mine.q0 by Mine.q0e
name_quick tw11885045451596930534 for Mine.q0 by Mine.q0e
name_quick tw997273478449896224 for Mine.q0 by Mine.q0e
name_quick tw14396622450908907401 for Mine.q0 by Mine.q0e
name_quick tw5717484600792550409 for Mine.q0 by Mine.q0e
name_quick tw10117540189371085132 for Mine.q0 by Mine.q0e
name_quick tw12830210440017714208 for Mine.q0 by Mine.q0e
name_quick tw9123590178579328619 for Mine.q0 by Mine.q0e
name_quick tw12261564121667256413 for Mine.q0 by Mine.q0e
name_quick tw14549329021978013638 for Mine.q0 by Mine.q0e
name_quick tw7729275110873371391 for Mine.q0 by Mine.q0e
name_quick tw15116191471748498365 for Mine.q0 by Mine.q0e
name_quick tw2731280115399257323 for Mine.q0 by Mine.q0e
name_quick tw12307337425399329173 for Mine.q0 by Mine.q0e
name_quick tw13715873767418966266 for Mine.q0 by Mine.q0e
name_quick tw2158557854437215921 for Mine.q0 by Mine.q0e
name_quick tw2494965075901882334 for Mine.q0 by Mine.q0e
name_quick tw2907989347309134768 for Mine.q0 by Mine.q0e
name_quick tw14607327407310775393 for Mine.q0 by Mine.q0e
name_quick tw8305686442532291018 for Mine.q0 by Mine.q0e
name_quick tw14716221699336255957 for Mine.q0 by Mine.q0e
name_quick tw11230239695140927872 for Mine.q0 by Mine.q0e
name_quick tw7189587456034307325 for Mine.q0 by Mine.q0e
name_quick tw8889964464761897558 for Mine.q0 by Mine.q0e
name_quick tw12240926861504642163 for Mine.q0 by Mine.q0e
name_quick tw5975874992825430531 for Mine.q0 by Mine.q0e
name_quick tw4862931165566742605 for Mine.q0 by Mine.q0e
name_quick tw5907098089636459667 for Mine.q0 by Mine.q0e
name_quick tw17335718587020436766 for Mine.q0 by Mine.q0e
name_quick tw17405291402837434594 for Mine.q0 by Mine.q0e
name_quick tw12733895645151419759 for Mine.q0 by Mine.q0e
name_quick tw11459889925869305866 for Mine.q0 by Mine.q0e
name_quick tw17047051902421884309 for Mine.q0 by Mine.q0e
name_quick tw16056038848548705508 for Mine.q0 by Mine.q0e
name_quick tw18415815087749290628 for Mine.q0 by Mine.q0e
name_quick tw2631940367099760438 for Mine.q0 by Mine.q0e
name_quick tw3754128039631987748 for Mine.q0 by Mine.q0e
name_quick tw12218815288668555438 for Mine.q0 by Mine.q0e
name_quick tw5081111286413892686 for Mine.q0 by Mine.q0e
name_quick tw11873113557578551221 for Mine.q0 by Mine.q0e
name_quick tw10452470340327585620 for Mine.q0 by Mine.q0e
name_quick tw1708999759439948953 for Mine.q0 by Mine.q0e
name_quick tw15873514599447855870 for Mine.q0 by Mine.q0e
name_quick tw116451246793306547 for Mine.q0 by Mine.q0e
name_quick tw1404026254415125596 for Mine.q0 by Mine.q0e
name_quick tw13835817275529728875 for Mine.q0 by Mine.q0e
name_quick tw14058283797762546585 for Mine.q0 by Mine.q0e
name_quick tw8642545431073331617 for Mine.q0 by Mine.q0e
name_quick tw14672853565524603717 for Mine.q0 by Mine.q0e
name_quick tw3846924216168791473 for Mine.q0 by Mine.q0e
name_quick tw2344260027119852758 for Mine.q0 by Mine.q0e
name_quick tw10824343402806069166 for Mine.q0 by Mine.q0e
name_quick tw10686631405764736649 for Mine.q0 by Mine.q0e
name_quick tw6157321992693215693 for Mine.q0 by Mine.q0e
name_quick tw18054298416215279021 for Mine.q0 by Mine.q0e
name_quick tw15465908488079568583 for Mine.q0 by Mine.q0e
name_quick tw12385307942803210668 for Mine.q0 by Mine.q0e
name_quick tw7959966791667221806 for Mine.q0 by Mine.q0e
name_quick tw11902147352689617959 for Mine.q0 by Mine.q0e
name_quick tw6710958592780878808 for Mine.q0 by Mine.q0e
name_quick tw9354755822577384592 for Mine.q0 by Mine.q0e
name_quick tw17945443792380550922 for Mine.q0 by Mine.q0e
name_quick tw294278266940287790 for Mine.q0 by Mine.q0e
name_quick tw18293342503406673966 for Mine.q0 by Mine.q0e
name_quick tw5658643074443330120 for Mine.q0 by Mine.q0e
name_quick tw6598906177294570673 for Mine.q0 by Mine.q0e
name_quick tw4223610798379562057 for Mine.q0 by Mine.q0e
name_quick tw12316275499191384071 for Mine.q0 by Mine.q0e
name_quick tw1043295828791044655 for Mine.q0 by Mine.q0e
name_quick tw7100108876335195156 for Mine.q0 by Mine.q0e
name_quick tw3867035525802618403 for Mine.q0 by Mine.q0e
name_quick tw15824812811594947451 for Mine.q0 by Mine.q0e
name_quick tw520715721887669073 for Mine.q0 by Mine.q0e
name_quick tw8162803479321018963 for Mine.q0 by Mine.q0e
name_quick tw14618254434123642530 for Mine.q0 by Mine.q0e
name_quick tw15130067395428848868 for Mine.q0 by Mine.q0e
name_quick tw9171106320261967675 for Mine.q0 by Mine.q0e
name_quick tw6267900023086307107 for Mine.q0 by Mine.q0e
name_quick tw10359382989397836617 for Mine.q0 by Mine.q0e
name_quick tw2920204888250060803 for Mine.q0 by Mine.q0e
name_quick tw7665999693972681767 for Mine.q0 by Mine.q0e
name_quick tw1600335914957172904 for Mine.q0 by Mine.q0e
name_quick tw9678404083656987644 for Mine.q0 by Mine.q0e
name_quick tw14450432598845223664 for Mine.q0 by Mine.q0e
name_quick tw17800104583723942244 for Mine.q0 by Mine.q0e
name_quick tw4463765978830552353 for Mine.q0 by Mine.q0e
name_quick tw14734042463447054339 for Mine.q0 by Mine.q0e
name_quick tw11521078212044571074 for Mine.q0 by Mine.q0e
name_quick tw1261252591231786529 for Mine.q0 by Mine.q0e
name_quick tw16816477880562461259 for Mine.q0 by Mine.q0e
name_quick tw4411290793550161379 for Mine.q0 by Mine.q0e
name_quick tw12827162805601163137 for Mine.q0 by Mine.q0e
name_quick tw6918735726730536799 for Mine.q0 by Mine.q0e
name_quick tw15602727583517590683 for Mine.q0 by Mine.q0e
name_quick tw685562521452338037 for Mine.q0 by Mine.q0e
name_quick tw9193465879266002670 for Mine.q0 by Mine.q0e
name_quick tw16445384812482523940 for Mine.q0 by Mine.q0e
name_quick tw15689369791147690585 for Mine.q0 by Mine.q0e
name_quick tw16836607870296270102 for Mine.q0 by Mine.q0e
name_quick tw14444912935265572050 for Mine.q0 by Mine.q0e
name_quick tw6486230050510579236 for Mine.q0 by Mine.q0e
name_quick tw11388520840152868383 for Mine.q0 by Mine.q0e
name_quick tw562824333647985516 for Mine.q0 by Mine.q0e
name_quick tw14870770745611436461 for Mine.q0 by Mine.q0e
name_quick tw8036486758145578796 for Mine.q0 by Mine.q0e
name_quick tw12954872086571697668 for Mine.q0 by Mine.q0e
name_quick tw14782187991396119735 for Mine.q0 by Mine.q0e
name_quick tw5029168520527151055 for Mine.q0 by Mine.q0e
name_quick tw17830689002386089400 for Mine.q0 by Mine.q0e
name_quick tw2806880414218570891 for Mine.q0 by Mine.q0e
name_quick tw17110600837870249848 for Mine.q0 by Mine.q0e
name_quick tw15730284624857657352 for Mine.q0 by Mine.q0e
name_quick tw9032331655631936921 for Mine.q0 by Mine.q0e
name_quick tw11926372440042310652 for Mine.q0 by Mine.q0e
name_quick tw13885097968331123155 for Mine.q0 by Mine.q0e
name_quick tw461526091371636332 for Mine.q0 by Mine.q0e
name_quick tw7634809911451497438 for Mine.q0 by Mine.q0e
name_quick tw5595643536889347889 for Mine.q0 by Mine.q0e
name_quick tw6049780860729716213 for Mine.q0 by Mine.q0e
name_quick tw589391287819747051 for Mine.q0 by Mine.q0e
name_quick tw14906287167592442352 for Mine.q0 by Mine.q0e
name_quick tw10177109604753880837 for Mine.q0 by Mine.q0e
name_quick tw5256154521438584894 for Mine.q0 by Mine.q0e
name_quick tw1238595415737638967 for Mine.q0 by Mine.q0e
name_quick tw6484566844355695134 for Mine.q0 by Mine.q0e
name_quick tw9990570383241052235 for Mine.q0 by Mine.q0e
name_quick tw16136297196320570603 for Mine.q0 by Mine.q0e
name_quick tw5016512158103865239 for Mine.q0 by Mine.q0e
name_quick tw13797564374804347560 for Mine.q0 by Mine.q0e
name_quick tw1927131739245503936 for Mine.q0 by Mine.q0e
name_quick tw13399595482443060046 for Mine.q0 by Mine.q0e
name_quick tw16764219127769476307 for Mine.q0 by Mine.q0e
name_quick tw554142372786181814 for Mine.q0 by Mine.q0e
name_quick tw17784113562922941679 for Mine.q0 by Mine.q0e
name_quick tw5604120370524950386 for Mine.q0 by Mine.q0e
name_quick tw8300314852669135744 for Mine.q0 by Mine.q0e
name_quick tw15055921757182560244 for Mine.q0 by Mine.q0e
name_quick tw4069165179534995632 for Mine.q0 by Mine.q0e
name_quick tw15341209207597234545 for Mine.q0 by Mine.q0e
name_quick tw13122867787621835373 for Mine.q0 by Mine.q0e
name_quick tw10690168996644088634 for Mine.q0 by Mine.q0e
name_quick tw8308079190722217169 for Mine.q0 by Mine.q0e
name_quick tw16937553820502200637 for Mine.q0 by Mine.q0e
name_quick tw11669040737554700476 for Mine.q0 by Mine.q0e
name_quick tw12882680493636598871 for Mine.q0 by Mine.q0e
name_quick tw6499185219651584899 for Mine.q0 by Mine.q0e
name_quick tw1416211871504216869 for Mine.q0 by Mine.q0e
name_quick tw15712826820161636848 for Mine.q0 by Mine.q0e
name_quick tw10910500426307860915 for Mine.q0 by Mine.q0e
name_quick tw16537641500378988540 for Mine.q0 by Mine.q0e
name_quick tw248987602123510933 for Mine.q0 by Mine.q0e
name_quick tw1387045331610549679 for Mine.q0 by Mine.q0e
name_quick tw15898780333596621279 for Mine.q0 by Mine.q0e
name_quick tw1294481369216620021 for Mine.q0 by Mine.q0e
name_quick tw18065686850524440906 for Mine.q0 by Mine.q0e
name_quick tw2318700141472847451 for Mine.q0 by Mine.q0e
name_quick tw4589630997370659670 for Mine.q0 by Mine.q0e
name_quick tw9770581129465013308 for Mine.q0 by Mine.q0e
name_quick tw13823358226104698344 for Mine.q0 by Mine.q0e
name_quick tw16400016595712608788 for Mine.q0 by Mine.q0e
name_quick tw9551317034426070889 for Mine.q0 by Mine.q0e
name_quick tw6827926592285555192 for Mine.q0 by Mine.q0e
name_quick tw2083206547413610113 for Mine.q0 by Mine.q0e
name_quick tw3214800880672141247 for Mine.q0 by Mine.q0e
name_quick tw6660228741666801721 for Mine.q0 by Mine.q0e
name_quick tw1645416536445544294 for Mine.q0 by Mine.q0e
name_quick tw11407745236206815071 for Mine.q0 by Mine.q0e
name_quick tw5439284854214895029 for Mine.q0 by Mine.q0e
name_quick tw11143768272562805522 for Mine.q0 by Mine.q0e
name_quick tw17129898257789008275 for Mine.q0 by Mine.q0e
name_quick tw2124509357427881907 for Mine.q0 by Mine.q0e
name_quick tw7559106073459751256 for Mine.q0 by Mine.q0e
name_quick tw1151210275408195001 for Mine.q0 by Mine.q0e
name_quick tw16100489756509405846 for Mine.q0 by Mine.q0e
name_quick tw484476106176246958 for Mine.q0 by Mine.q0e
name_quick tw12945090046248338341 for Mine.q0 by Mine.q0e
name_quick tw12323825445494688772 for Mine.q0 by Mine.q0e
name_quick tw15360542556397272561 for Mine.q0 by Mine.q0e
name_quick tw1819335464279002427 for Mine.q0 by Mine.q0e
name_quick tw324933426538041608 for Mine.q0 by Mine.q0e
name_quick tw780930818486175078 for Mine.q0 by Mine.q0e
name_quick tw11832513903113972437 for Mine.q0 by Mine.q0e
name_quick tw17878570914750709988 for Mine.q0 by Mine.q0e
name_quick tw5241572521001221465 for Mine.q0 by Mine.q0e
name_quick tw12619849665793505211 for Mine.q0 by Mine.q0e
name_quick tw198504860294293083 for Mine.q0 by Mine.q0e
name_quick tw3675744681799833161 for Mine.q0 by Mine.q0e
name_quick tw18008112846074752397 for Mine.q0 by Mine.q0e
name_quick tw3301836688314924490 for Mine.q0 by Mine.q0e
name_quick tw10526584227958572320 for Mine.q0 by Mine.q0e
name_quick tw8476196986230411691 for Mine.q0 by Mine.q0e
name_quick tw3080683881949809352 for Mine.q0 by Mine.q0e
name_quick tw17357896593873135442 for Mine.q0 by Mine.q0e
name_quick tw11570821312600407443 for Mine.q0 by Mine.q0e
name_quick tw11172067266977791027 for Mine.q0 by Mine.q0e
name_quick tw9799934444094898133 for Mine.q0 by Mine.q0e
name_quick tw9486266255395988086 for Mine.q0 by Mine.q0e
name_quick tw11496744984063369682 for Mine.q0 by Mine.q0e
name_quick tw10379321834373122622 for Mine.q0 by Mine.q0e
name_quick tw12276027683413660504 for Mine.q0 by Mine.q0e
name_quick tw17061270822459319302 for Mine.q0 by Mine.q0e
name_quick tw1472070873999846459 for Mine.q0 by Mine.q0e
name_quick tw8677561159813669603 for Mine.q0 by Mine.q0e
name_quick tw5839910193610731128 for Mine.q0 by Mine.q0e
name_quick tw4270063711666240580 for Mine.q0 by Mine.q0e
name_quick tw11574754313174304092 for Mine.q0 by Mine.q0e
name_quick tw3808713459876854783 for Mine.q0 by Mine.q0e
name_quick tw5925677904530398632 for Mine.q0 by Mine.q0e
name_quick tw14711150546272337698 for Mine.q0 by Mine.q0e
name_quick tw8560481476867760079 for Mine.q0 by Mine.q0e
name_quick tw1353806516709213652 for Mine.q0 by Mine.q0e
name_quick tw17112531671375510050 for Mine.q0 by Mine.q0e
name_quick tw8611535103894549989 for Mine.q0 by Mine.q0e
name_quick tw15505016207983350219 for Mine.q0 by Mine.q0e
name_quick tw14121339504579065530 for Mine.q0 by Mine.q0e
name_quick tw7074042520107314779 for Mine.q0 by Mine.q0e
name_quick tw9342929360029617816 for Mine.q0 by Mine.q0e
name_quick tw13558515226143749496 for Mine.q0 by Mine.q0e
name_quick tw8831395615162036120 for Mine.q0 by Mine.q0e
name_quick tw11803113345338607896 for Mine.q0 by Mine.q0e
name_quick tw1819623039194476383 for Mine.q0 by Mine.q0e
name_quick tw1036242029146094812 for Mine.q0 by Mine.q0e
name_quick tw13455071865529471406 for Mine.q0 by Mine.q0e
name_quick tw7568909643988881247 for Mine.q0 by Mine.q0e
name_quick tw17496357856586012374 for Mine.q0 by Mine.q0e
name_quick tw16530427164939236717 for Mine.q0 by Mine.q0e
name_quick tw13011121385079812987 for Mine.q0 by Mine.q0e
name_quick tw12115981751592244304 for Mine.q0 by Mine.q0e
name_quick tw7581856112329467797 for Mine.q0 by Mine.q0e
name_quick tw14491202345515161015 for Mine.q0 by Mine.q0e
name_quick tw16040037685339682269 for Mine.q0 by Mine.q0e
name_quick tw8075333405429411213 for Mine.q0 by Mine.q0e
name_quick tw8833922172399313090 for Mine.q0 by Mine.q0e
name_quick tw5320455616162177791 for Mine.q0 by Mine.q0e
name_quick tw1881592005453019260 for Mine.q0 by Mine.q0e
name_quick tw15510523310717406279 for Mine.q0 by Mine.q0e
name_quick tw3606088988653585849 for Mine.q0 by Mine.q0e
name_quick tw784313864143304485 for Mine.q0 by Mine.q0e
name_quick tw12460814129142229338 for Mine.q0 by Mine.q0e
name_quick tw8010246972178686963 for Mine.q0 by Mine.q0e
name_quick tw2329386603121520706 for Mine.q0 by Mine.q0e
name_quick tw1992953853942091738 for Mine.q0 by Mine.q0e
name_quick tw4542783696451638688 for Mine.q0 by Mine.q0e
name_quick tw11621520677062292847 for Mine.q0 by Mine.q0e
name_quick tw16960960787757685651 for Mine.q0 by Mine.q0e
name_quick tw6570294101818038893 for Mine.q0 by Mine.q0e
name_quick tw1599447513901877897 for Mine.q0 by Mine.q0e
name_quick tw13392548360322283002 for Mine.q0 by Mine.q0e
name_quick tw14071148075376273089 for Mine.q0 by Mine.q0e
name_quick tw1485768696396848571 for Mine.q0 by Mine.q0e
name_quick tw15590776557643776480 for Mine.q0 by Mine.q0e
name_quick tw1797900049844379354 for Mine.q0 by Mine.q0e
name_quick tw4329480099307691383 for Mine.q0 by Mine.q0e
name_quick tw8784007745705242732 for Mine.q0 by Mine.q0e
name_quick tw4583438609481055255 for Mine.q0 by Mine.q0e
name_quick tw11975648713884972126 for Mine.q0 by Mine.q0e
name_quick tw4246645986686433439 for Mine.q0 by Mine.q0e
name_quick tw5527535327463814895 for Mine.q0 by Mine.q0e
name_quick tw14843452191956841994 for Mine.q0 by Mine.q0e
name_quick tw3172548601239802781 for Mine.q0 by Mine.q0e
name_quick tw14798717175292202303 for Mine.q0 by Mine.q0e
name_quick tw10496963362137338298 for Mine.q0 by Mine.q0e
name_quick tw12721207637761522401 for Mine.q0 by Mine.q0e
name_quick tw10690588818590966184 for Mine.q0 by Mine.q0e
name_quick tw6164499554663401530 for Mine.q0 by Mine.q0e
name_quick tw18087829859840545504 for Mine.q0 by Mine.q0e
name_quick tw15257280984142603915 for Mine.q0 by Mine.q0e
name_quick tw6283516385678463938 for Mine.q0 by Mine.q0e
name_quick tw16310358521718867248 for Mine.q0 by Mine.q0e
name_quick tw188907094527342377 for Mine.q0 by Mine.q0e
name_quick tw10325047135882149690 for Mine.q0 by Mine.q0e
name_quick tw2545199220103731436 for Mine.q0 by Mine.q0e
name_quick tw12755313418936477376 for Mine.q0 by Mine.q0e
name_quick tw17762562114899350506 for Mine.q0 by Mine.q0e
name_quick tw5232819215954089605 for Mine.q0 by Mine.q0e
name_quick tw4344904321240971631 for Mine.q0 by Mine.q0e
name_quick tw7917899229864368045 for Mine.q0 by Mine.q0e
name_quick tw8037718086032899440 for Mine.q0 by Mine.q0e
name_quick tw9074643599363574561 for Mine.q0 by Mine.q0e
name_quick tw2910707003103984263 for Mine.q0 by Mine.q0e
name_quick tw9108518485325877984 for Mine.q0 by Mine.q0e
name_quick tw15318258455073326801 for Mine.q0 by Mine.q0e
name_quick tw1865126893814855931 for Mine.q0 by Mine.q0e
name_quick tw9102088334535604022 for Mine.q0 by Mine.q0e
name_quick tw3770676926503304384 for Mine.q0 by Mine.q0e
name_quick tw7929266030905124125 for Mine.q0 by Mine.q0e
name_quick tw15996939727017199951 for Mine.q0 by Mine.q0e
name_quick tw6856903083061180174 for Mine.q0 by Mine.q0e
name_quick tw7345854011622752057 for Mine.q0 by Mine.q0e
name_quick tw10287392008144451208 for Mine.q0 by Mine.q0e
name_quick tw18076409593686553183 for Mine.q0 by Mine.q0e
name_quick tw8399083438078906085 for Mine.q0 by Mine.q0e
name_quick tw660456220046174568 for Mine.q0 by Mine.q0e
name_quick tw15178527139230063192 for Mine.q0 by Mine.q0e
name_quick tw7069720009172565085 for Mine.q0 by Mine.q0e
name_quick tw8397622247638061433 for Mine.q0 by Mine.q0e
name_quick tw12184506776185394893 for Mine.q0 by Mine.q0e
name_quick tw4701692670160357557 for Mine.q0 by Mine.q0e
name_quick tw12864965801208946844 for Mine.q0 by Mine.q0e
name_quick tw12270666148758811399 for Mine.q0 by Mine.q0e
name_quick tw1388947029201405383 for Mine.q0 by Mine.q0e
name_quick tw3298646182019698073 for Mine.q0 by Mine.q0e
name_quick tw6405571644956461824 for Mine.q0 by Mine.q0e
name_quick tw2639173330749580502 for Mine.q0 by Mine.q0e
name_quick tw786857902941621993 for Mine.q0 by Mine.q0e
name_quick tw1738561423168114081 for Mine.q0 by Mine.q0e
name_quick tw1411540244697197098 for Mine.q0 by Mine.q0e
name_quick tw15989673952306882969 for Mine.q0 by Mine.q0e
name_quick tw12199816428797243561 for Mine.q0 by Mine.q0e
name_quick tw14649663994964726639 for Mine.q0 by Mine.q0e
name_quick tw547788606857100495 for Mine.q0 by Mine.q0e
name_quick tw7869309791569650336 for Mine.q0 by Mine.q0e
name_quick tw15574347575042029620 for Mine.q0 by Mine.q0e
name_quick tw3190760207141743029 for Mine.q0 by Mine.q0e
name_quick tw15383334063051888526 for Mine.q0 by Mine.q0e
name_quick tw9217423013088033230 for Mine.q0 by Mine.q0e
name_quick tw3689664285994382047 for Mine.q0 by Mine.q0e
name_quick tw3123518624708622372 for Mine.q0 by Mine.q0e
name_quick tw16090050895458379137 for Mine.q0 by Mine.q0e
name_quick tw6615595607992170612 for Mine.q0 by Mine.q0e
name_quick tw7366837841392078986 for Mine.q0 by Mine.q0e
name_quick tw11075947581304295817 for Mine.q0 by Mine.q0e
name_quick tw4825522416327543859 for Mine.q0 by Mine.q0e
name_quick tw13645837555083235244 for Mine.q0 by Mine.q0e
name_quick tw273408563810707963 for Mine.q0 by Mine.q0e
name_quick tw4240171949968958974 for Mine.q0 by Mine.q0e
name_quick tw2717108869126386111 for Mine.q0 by Mine.q0e
name_quick tw5373505459924814474 for Mine.q0 by Mine.q0e
name_quick tw1933548215582834592 for Mine.q0 by Mine.q0e
name_quick tw13224759513773261670 for Mine.q0 by Mine.q0e
name_quick tw8390612519050821687 for Mine.q0 by Mine.q0e
name_quick tw10686479057739778555 for Mine.q0 by Mine.q0e
name_quick tw8896441059860742887 for Mine.q0 by Mine.q0e
name_quick tw9497172805971972075 for Mine.q0 by Mine.q0e
name_quick tw14657540489960416111 for Mine.q0 by Mine.q0e
name_quick tw1073703666028201163 for Mine.q0 by Mine.q0e
name_quick tw3875922297447750122 for Mine.q0 by Mine.q0e
name_quick tw5740653612549909874 for Mine.q0 by Mine.q0e
name_quick tw8822294022439691679 for Mine.q0 by Mine.q0e
name_quick tw17562681323104964587 for Mine.q0 by Mine.q0e
name_quick tw4622071567923353769 for Mine.q0 by Mine.q0e
name_quick tw1093411769311691298 for Mine.q0 by Mine.q0e
name_quick tw7770374307054340895 for Mine.q0 by Mine.q0e
name_quick tw17399640402804507867 for Mine.q0 by Mine.q0e
name_quick tw16906604975300737365 for Mine.q0 by Mine.q0e
name_quick tw9137617782584528760 for Mine.q0 by Mine.q0e
name_quick tw15245419774139179703 for Mine.q0 by Mine.q0e
name_quick tw3683354792168701201 for Mine.q0 by Mine.q0e
name_quick tw3700945219554050187 for Mine.q0 by Mine.q0e
name_quick tw2314348711392155673 for Mine.q0 by Mine.q0e
name_quick tw800221313667952207 for Mine.q0 by Mine.q0e
name_quick tw8028707080570679157 for Mine.q0 by Mine.q0e
name_quick tw7191463910360999626 for Mine.q0 by Mine.q0e
name_quick tw16397702114211242184 for Mine.q0 by Mine.q0e
name_quick tw7895203552438279735 for Mine.q0 by Mine.q0e
name_quick tw12454917023759810675 for Mine.q0 by Mine.q0e
name_quick tw7105858002001698005 for Mine.q0 by Mine.q0e
name_quick tw11862977320920353320 for Mine.q0 by Mine.q0e
name_quick tw3674447781859145897 for Mine.q0 by Mine.q0e
name_quick tw8157345236655086360 for Mine.q0 by Mine.q0e
name_quick tw11583221058821265748 for Mine.q0 by Mine.q0e
name_quick tw4444641353128492290 for Mine.q0 by Mine.q0e
name_quick tw3875386248040614176 for Mine.q0 by Mine.q0e
name_quick tw7195521681116383605 for Mine.q0 by Mine.q0e
name_quick tw5778862531338503150 for Mine.q0 by Mine.q0e
name_quick tw15584511898058692700 for Mine.q0 by Mine.q0e
name_quick tw5346168171221360354 for Mine.q0 by Mine.q0e
name_quick tw11378519044535547880 for Mine.q0 by Mine.q0e
name_quick tw1011813051234549188 for Mine.q0 by Mine.q0e
name_quick tw15162099512666518280 for Mine.q0 by Mine.q0e
name_quick tw14031858927501198141 for Mine.q0 by Mine.q0e
name_quick tw4733140681139431876 for Mine.q0 by Mine.q0e
name_quick tw16302068932967126216 for Mine.q0 by Mine.q0e
name_quick tw9511979422951563644 for Mine.q0 by Mine.q0e
name_quick tw13150018187274537053 for Mine.q0 by Mine.q0e
name_quick tw14639897853692639746 for Mine.q0 by Mine.q0e
name_quick tw5050417243596231504 for Mine.q0 by Mine.q0e
name_quick tw9497228900587710660 for Mine.q0 by Mine.q0e
name_quick tw5087626474495301469 for Mine.q0 by Mine.q0e
name_quick tw1745576553385058832 for Mine.q0 by Mine.q0e
name_quick tw3918944488912854848 for Mine.q0 by Mine.q0e
name_quick tw9326829511358702461 for Mine.q0 by Mine.q0e
name_quick tw10895667329473377303 for Mine.q0 by Mine.q0e
name_quick tw17410303209086465232 for Mine.q0 by Mine.q0e
name_quick tw15780241679713367431 for Mine.q0 by Mine.q0e
name_quick tw1870318407727414014 for Mine.q0 by Mine.q0e
name_quick tw11715608435934413063 for Mine.q0 by Mine.q0e
name_quick tw2752589324536513426 for Mine.q0 by Mine.q0e
name_quick tw5097756325152655476 for Mine.q0 by Mine.q0e
name_quick tw1017432645852070668 for Mine.q0 by Mine.q0e
name_quick tw238718508902472675 for Mine.q0 by Mine.q0e
name_quick tw11851934548053346675 for Mine.q0 by Mine.q0e
name_quick tw8560093686346063080 for Mine.q0 by Mine.q0e
name_quick tw2556958263579679723 for Mine.q0 by Mine.q0e
name_quick tw17766334573147206048 for Mine.q0 by Mine.q0e
name_quick tw17096435064127452095 for Mine.q0 by Mine.q0e
name_quick tw6660667360950953387 for Mine.q0 by Mine.q0e
name_quick tw6320504933010889086 for Mine.q0 by Mine.q0e
name_quick tw11517429948437807199 for Mine.q0 by Mine.q0e
name_quick tw6157246493311680181 for Mine.q0 by Mine.q0e
name_quick tw5724714362561251793 for Mine.q0 by Mine.q0e
name_quick tw3654550422942700542 for Mine.q0 by Mine.q0e
name_quick tw16306471041007574302 for Mine.q0 by Mine.q0e
name_quick tw2921941889802128996 for Mine.q0 by Mine.q0e
name_quick tw16412508739529544907 for Mine.q0 by Mine.q0e
name_quick tw15761867230528343883 for Mine.q0 by Mine.q0e
name_quick tw4907996153801691679 for Mine.q0 by Mine.q0e
name_quick tw14261380312754420053 for Mine.q0 by Mine.q0e
name_quick tw5428518131179922250 for Mine.q0 by Mine.q0e
name_quick tw2306880584327598580 for Mine.q0 by Mine.q0e
name_quick tw583880939902245116 for Mine.q0 by Mine.q0e
name_quick tw3528411756471331296 for Mine.q0 by Mine.q0e
name_quick tw15696634644421741483 for Mine.q0 by Mine.q0e
name_quick tw15890673374211325791 for Mine.q0 by Mine.q0e
name_quick tw10978947136029048236 for Mine.q0 by Mine.q0e
name_quick tw16065712253879970822 for Mine.q0 by Mine.q0e
name_quick tw12624294872135808324 for Mine.q0 by Mine.q0e
name_quick tw14601306900076338716 for Mine.q0 by Mine.q0e
name_quick tw8138225554580394311 for Mine.q0 by Mine.q0e
name_quick tw10373922715373872324 for Mine.q0 by Mine.q0e
name_quick tw2059399313024778374 for Mine.q0 by Mine.q0e
name_quick tw9474662259500401466 for Mine.q0 by Mine.q0e
name_quick tw16047689015485406196 for Mine.q0 by Mine.q0e
name_quick tw5221937178247984138 for Mine.q0 by Mine.q0e
name_quick tw14500411135737228606 for Mine.q0 by Mine.q0e
name_quick tw16909661072453606825 for Mine.q0 by Mine.q0e
name_quick tw13229043474557952591 for Mine.q0 by Mine.q0e
name_quick tw3759742015169945515 for Mine.q0 by Mine.q0e
name_quick tw8770424306583264296 for Mine.q0 by Mine.q0e
name_quick tw10881878694454554170 for Mine.q0 by Mine.q0e
name_quick tw14324268096735894603 for Mine.q0 by Mine.q0e
name_quick tw11924085142132554173 for Mine.q0 by Mine.q0e
name_quick tw17111039094530701071 for Mine.q0 by Mine.q0e
name_quick tw2422196984374529920 for Mine.q0 by Mine.q0e
name_quick tw2608708846052363017 for Mine.q0 by Mine.q0e
name_quick tw17816889905900654921 for Mine.q0 by Mine.q0e
name_quick tw2243911446918418818 for Mine.q0 by Mine.q0e
name_quick tw606718037904071668 for Mine.q0 by Mine.q0e
name_quick tw13960106010971603417 for Mine.q0 by Mine.q0e
name_quick tw3072409836450178838 for Mine.q0 by Mine.q0e
name_quick tw11523212913554301537 for Mine.q0 by Mine.q0e
name_quick tw5708533217929720893 for Mine.q0 by Mine.q0e
name_quick tw13908029652141137867 for Mine.q0 by Mine.q0e
name_quick tw5847320311164933460 for Mine.q0 by Mine.q0e
name_quick tw4010890314049835210 for Mine.q0 by Mine.q0e
name_quick tw17631941282273115896 for Mine.q0 by Mine.q0e
name_quick tw9631881709950999050 for Mine.q0 by Mine.q0e
name_quick tw6060865445992308402 for Mine.q0 by Mine.q0e
name_quick tw11206228267898002769 for Mine.q0 by Mine.q0e
name_quick tw13327800786046723322 for Mine.q0 by Mine.q0e
name_quick tw8644340643179958747 for Mine.q0 by Mine.q0e
name_quick tw18033078722780330302 for Mine.q0 by Mine.q0e
name_quick tw8991996869113129842 for Mine.q0 by Mine.q0e
name_quick tw12085744072961438550 for Mine.q0 by Mine.q0e
name_quick tw8035445114082532141 for Mine.q0 by Mine.q0e
name_quick tw10122681753551085502 for Mine.q0 by Mine.q0e
name_quick tw10028096550336740522 for Mine.q0 by Mine.q0e
name_quick tw1416690439914891236 for Mine.q0 by Mine.q0e
name_quick tw17526243892439830529 for Mine.q0 by Mine.q0e
name_quick tw279599616855308923 for Mine.q0 by Mine.q0e
name_quick tw15823859403950219671 for Mine.q0 by Mine.q0e
name_quick tw1379442970828501104 for Mine.q0 by Mine.q0e
name_quick tw3456783370123826927 for Mine.q0 by Mine.q0e
name_quick tw10999714508647465856 for Mine.q0 by Mine.q0e
name_quick tw9951369995624947013 for Mine.q0 by Mine.q0e
name_quick tw7149745159553296591 for Mine.q0 by Mine.q0e
name_quick tw773971334401513513 for Mine.q0 by Mine.q0e
name_quick tw4172457941364548341 for Mine.q0 by Mine.q0e
name_quick tw5536961493446010719 for Mine.q0 by Mine.q0e
name_quick tw7476439450188673201 for Mine.q0 by Mine.q0e
name_quick tw581153138143944489 for Mine.q0 by Mine.q0e
name_quick tw15218131781015400482 for Mine.q0 by Mine.q0e
name_quick tw9372745843309595448 for Mine.q0 by Mine.q0e
name_quick tw6914714470897120505 for Mine.q0 by Mine.q0e
name_quick tw16888315478854293338 for Mine.q0 by Mine.q0e
name_quick tw13846401026923426350 for Mine.q0 by Mine.q0e
name_quick tw17303909800333967246 for Mine.q0 by Mine.q0e
name_quick tw17285268897737886918 for Mine.q0 by Mine.q0e
name_quick tw8419488506755329626 for Mine.q0 by Mine.q0e
name_quick tw5480934689145962099 for Mine.q0 by Mine.q0e
name_quick tw16059305859458059918 for Mine.q0 by Mine.q0e
name_quick tw9108684506227328932 for Mine.q0 by Mine.q0e
name_quick tw11839479123321745976 for Mine.q0 by Mine.q0e
namespace Mine
open_top hd11 for PySem.Challenge.rw_dn0005_11
end Mine

namespace Mine
theorem off11 : True := by
  w_top off
  trivial
end Mine
end
section
open PySem PySem.W PyProof.Rows PySem.Calls PySem.Spec
set_option compiler.extract_closed false
set_option Elab.async false
set_option maxRecDepth 100000
set_option maxHeartbeats 3000000
namespace Mine
noncomputable def lv : List Str := looseW Mine.hd11.view_39
      [Str.ofString "Iterable", Str.ofString "Sized", Str.ofString "Container", Str.ofString "Collection",
        Str.ofString "Set", Str.ofString "Mapping", Str.ofString "MappingView", Str.ofString "KeysView",
        Str.ofString "ItemsView", Str.ofString "ValuesView", Str.ofString "nlargest", Str.ofString "chain",
        Str.ofString "repeat", Str.ofString "starmap", Str.ofString "itemgetter", Str.ofString "Counter"]
/-- the names that a top may bind -/
noncomputable def ls : List Str := lv ++ (recsOf Mine.hd11.view_39).map (·.name) ++ (litsOf Mine.hd11.view_39).map (·.1) ++ (clssOf Mine.hd11.view_39 lv).map (·.name)
noncomputable def vw : Program := topProg
noncomputable abbrev KK (w : World) : Frag := Mine.hd11.heap_39 w.params
theorem fill : PySem.Challenge.rw_dn0005_11 = PySem.Challenge.rw_dn0005_11 ∧ Mine.hd11.heap_39 = Mine.hd11.heap_39 := by
  k_fill
  exact ⟨rfl, rfl⟩
noncomputable abbrev ek (e0 : Env) (L : Addr) : Env := { e0 with frame := some L, scope := { e0.scope with kind := .function } }
noncomputable abbrev AK (l : Nat) (e : Env) (outer : List Env) : Around := { handled := none, depth := 400 + 10 * l, frames := some (e :: outer), guards := some [], units := 1000 + 100 * l }
/-- a mark: the walk stops here, the text goes on by hand -/
noncomputable def Halt (p : Prop) : Prop := p
theorem halt {p : Prop} (h : Halt p) : p := h
theorem ek_eq {e : Env} {L : Addr} (hf : e.frame = some L) (hk : e.scope.kind = .function) : ek e L = e := by
  cases e with
  | mk scope locals globals cells qual func code frame builtins =>
    cases scope
    simp only at hf hk
    subst hf hk
    rfl
theorem codeAny_weak {M : Model} {A A' : Around} {c : Code} {R : Result → Shared → Prop} {s : Shared} (h1 : A.handled = A'.handled) (h2 : A.depth ≤ A'.depth) (h3 : A.frames = A'.frames) (h4 : A.guards = A'.guards) (h5 : A.units ≤ A'.units)
    (h : codeAny M A' c R s) : codeAny M A c R s := fun Γ p hc hΓ => h Γ p hc ⟨hΓ.1.trans h1, Nat.le_trans hΓ.2.1 h2, fun l hl => hΓ.2.2.1 l (h3.trans hl), fun g hg => hΓ.2.2.2.1 g (h4.trans hg), Nat.le_trans hΓ.2.2.2.2 h5⟩
/-- a spec at the level l serves a call from any place below it -/
theorem use_at {prog : Program} {w : World} (l : Nat) {A : Around} {env : Env} {outer : List Env} {L : Addr} {f : Value} {pos : List Value} {kw : List (Str × Value)} {Q : Value → Shared → Prop} {E : Value → Shared → Prop} {s : Shared}
    (hA : A.frames = some (env :: outer)) (hf : env.frame = some L) (hk : env.scope.kind = .function) (hh : A.handled = none) (hg : A.guards = some []) (hd : A.depth ≤ 400 + 10 * l) (hu : A.units ≤ 1000 + 100 * l)
    (h : codeAny (model prog w) (AK l (ek env L) outer) (.call f ⟨pos, kw⟩) (fun r s' => match r with | .ok (.ret v) => Q v s' | .ok _ => False | .error e => E e s') s) : wpAny (model prog w) A (call f pos kw) Q E s :=
  wpAny_call (codeAny_weak hh hd (by rw [hA, ek_eq hf hk]) hg hu h)
theorem news_sub {h₀ h : Heap} {L : Addr} {l l' : List (Addr × Obj)} (N : News h₀ L h l) (hs : ∀ p ∈ l', p ∈ l) : News h₀ L h l' := fun p hp => N p (hs p hp)
end Mine
end
section
open PySem PySem.W PyProof.Rows PySem.Calls PySem.Spec
set_option Elab.async false
set_option maxRecDepth 100000
set_option maxHeartbeats 3000000
namespace Mine
section
variable {prog : Program} {w : World} {A : Around} {E : Value → Shared → Prop} {s : Shared} {K : Frag}
theorem isi_hook {v t mc : Value} {C f : Addr} {b : Bool} {Q : Value → Shared → Prop} (X : K.In s.heap) (ht : ∀ M, Looks M s.heap (typeOf v) t) (hx : v ≠ .builtin "__main__.__loader__#opaque") (hne : (t == Value.ref C) = false)
    (hm : typeIn K (.ref C) = some mc) (hm1 : (mc == Value.type "type") = false) (hm2 : (mc == Value.type "types.UnionType") = false) (htup : instIn K (.ref C) (.type "tuple") = some false)
    (hs : specialIn K (.ref C) "__instancecheck__" = some (some (.ref f))) (hf : typeIn K (.ref f) = some (.type "function")) (hu : A.units + 1 < cLine)
    (h : wpAny (model prog w) A.in1 (call (.ref f) [.ref C, v] []) (fun r s' => r = .bool b ∧ Q (.bool b) s') E s) :
    wpAny (model prog w) A (call (.builtin "isinstance") [v, .ref C]) Q E s := by
  refine call_isinstance_of ?_ hx
  obtain ⟨hh, g, d, tt, os⟩ := s
  unfold Builtin.«isinstance.nested»
  refine wpAny_bind ((ht _).at ?_)
  rw [if_neg (by rw [hne]; exact Bool.false_ne_true)]
  refine wpAny_bind ((looks_typeIn X hm).at ?_)
  rw [if_neg (by rw [hm1]; exact Bool.false_ne_true)]
  unfold Builtin.Builtins.unionMembers
  refine wpAny_bind (wpAny_bind ((looks_typeIn X hm).at ?_))
  rw [if_neg (by rw [hm2]; exact Bool.false_ne_true)]
  refine wpAny_pure ?_
  refine wpAny_bind ((looks_instIn X htup).at ?_)
  rw [if_neg Bool.false_ne_true]
  refine wpAny_bind (wpAny_cRoom hu ?_)
  unfold callSpecial?
  refine wpAny_bind (wpAny_bind ((looks_specialIn X hs).at ?_))
  dsimp only
  refine wpAny_holding (wpAny_bind ((bind_fn X (.ref C) hf).at ?_))
  dsimp only
  refine wpAny_bind (wpAny_mono h (fun r s' hr => ?_) fun _ _ e => e)
  obtain ⟨rfl, hq⟩ := hr
  refine wpAny_pure ?_
  dsimp only
  refine wpAny_bind (wpAny_rule ?_)
  refine wpAny_bind (wpAny_holding (wpAny_truthy_bool ?_))
  exact wpAny_bind (wpAny_letGo (wpAny_pure hq))
end
end Mine
end
section
open PySem PySem.W PyProof.Rows PySem.Calls PySem.Spec
set_option Elab.async false
set_option maxRecDepth 100000
set_option maxHeartbeats 3000000
namespace Mine
section
variable {prog : Program} {w : World} {A : Around} {E : Value → Shared → Prop} {h : Heap} {g : Array GenState} {d : Drawn} {t : Nat} {os : OsState} {a : Addr} {o : Obj}
theorem class_at_dict {b : Bool} {Q : Value → Shared → Prop} (hx : h.get? a = some o) (hc : o.cls = .type "dict") (hq : ∀ t', Q (.type "dict") ⟨h, g, d, t', os⟩) : wpAny (model prog w) A (getAttr (.ref a) (Str.ofString "__class__") b) Q E ⟨h, g, d, t, os⟩ := by
  have hT : ∀ t, (⟨h, g, d, t, os⟩ : Shared).TypeIs (.ref a) "dict" := fun t => ⟨_, hx, hc⟩
  have hT' := hT (t + 1)
  have f2 := F.slot_dict_getattribute.lookup
  have f3 := F.slot_dict_getattribute.bind (.ref a)
  have q' := hq (t + 1)
  unfold getAttr
  repeat (any_goals (first | assumption | wp_step))
  rw [if_neg (by cases b <;> decide)]
  unfold boundAndCalled
  repeat (any_goals (first | assumption | wp_step))
  refine class_call_dict hx hc ?_
  repeat (any_goals (first | assumption | wp_step))
end
end Mine
end
section
open PySem PySem.W PyProof.Rows PySem.Calls PySem.Spec
set_option Elab.async false
set_option maxRecDepth 100000
set_option maxHeartbeats 3000000
namespace Mine
section
variable {prog : Program} {w : World} {A : Around} {E : Value → Shared → Prop} {s : Shared} {K : Frag}
end
end Mine
end
section
open PySem PySem.W PyProof.Rows PySem.Calls PySem.Spec Builtin Builtin.ObjectAttr
set_option Elab.async false
set_option maxRecDepth 100000
set_option maxHeartbeats 3000000
namespace Mine
theorem kind_dict_ga : builtinKind "dict.__getattribute__" = some .slot := by decide +kernel
theorem split_dict_ga : splitId "dict.__getattribute__" = some ("dict", "__getattribute__") := by decide +kernel
section
variable {prog : Program} {w : World} {A : Around} {E : Value → Shared → Prop} {s : Shared} {K : Frag}
/-- an attribute of an object of a class below dict that has no hook of its own: what the look-up finds, bound -/
theorem sub_get_bind {x C : Addr} {ox od : Obj} {name : Str} {b : Bool} {gg a : Value} {Q : Value → Shared → Prop} (X : K.In s.heap) (I : InstAt s.heap x ox C (some od)) (h1 : findIn K (.ref C) "__getattribute__" = some (some (.builtin "dict.__getattribute__")))
    (h2 : findIn K (.ref C) "__getattr__" = some none) (h3 : subIn K (.ref C) (.type "dict") = some true) (h4 : findObj K C (some od) name = some (.bind gg a))
    (h : codeAny (model prog w) A.in1 (.call gg ⟨[a, .ref x, .ref C], []⟩) (fun r s' => match r with | .ok (.ret v) => wpAny (model prog w) A (handedOut v) Q E s' | .ok _ => False | .error e => wpAny (model prog w) A (getattributeRaised (.ref x) (.str name s.toks) (.ref C) e none true b) Q E s') { s with toks := s.toks + 1 }) :
    wpAny (model prog w) A (getAttr (.ref x) name b) Q E s := by
  obtain ⟨hh, g, d, t, os⟩ := s
  have L0 := I.type (M := model prog w)
  have L1 := looks_findIn (M := model prog w) X h1
  have L2 := looks_findIn (M := model prog w) X h2
  have L3 : Looks (model prog w) hh (isInstance (.ref x) (.type "dict")) true := L0.andThen (looks_subIn X h3)
  have L4 := looks_find (M := model prog w) X I h4
  have f3 := F.slot_dict_getattribute.bind (.ref x)
  unfold getAttr
  repeat lk
  refine wpAny_tryCatch (wpAny_bind (wpAny_holding ?_))
  unfold callGetattribute
  rw [if_neg (by cases b <;> decide)]
  unfold boundAndCalled
  refine wpAny_bind (wpAny_of_eq f3 ?_)
  dsimp only
  refine wpAny_call (codeAny_call_builtin F.slot_dict_getattribute.plain F.entry_dict_ga ?_)
  unfold checkBuiltinCall
  rw [kind_dict_ga, split_dict_ga]
  dsimp only
  repeat lk
  refine PySem.W.X.x_call (codeAny_mono h fun r s' hr => ?_) (by intro e; cases e)
  rcases r with e | f
  · exact wpAny_throw (wpAny_pure hr)
  · cases f with
    | ret v => exact wpAny_pure (wpAny_pure (wpAny_pure (wpAny_pure hr)))
    | _ => exact hr.elim
end
end Mine
end
section
open PySem PySem.W PyProof.Rows PySem.Calls PySem.Spec Builtin Builtin.ObjectAttr
set_option Elab.async false
set_option maxRecDepth 100000
set_option maxHeartbeats 3000000
namespace Mine
theorem canon_dict_ga : (Manifest.canonical "dict.__getattribute__" != "object.__getattribute__") = false := by decide +kernel
theorem slot_md : Slot "method_descriptor" "__get__" "method_descriptor.__get__" :=
  .of (owner := "method_descriptor") (n := "__get__") (by rw [typeLookup_type, builtinLookup_eq_fast]; kernel_rfl) (by decide +kernel) (by decide +kernel) (by decide +kernel)
    (by first | exact .inl (by decide +kernel) | exact .inr (by decide +kernel)) (by rw [isSubtype_type]; kernel_rfl)
theorem entry_md : entryFor table "method_descriptor.__get__" = some Builtin.«method_descriptor.__get__» := entryFor_of_tree (by kernel_rfl)
theorem args_md (a b c : Value) : argsOk "method_descriptor.__get__" ⟨[a, b, c], []⟩ := by unfold argsOk; kernel_rfl
section
variable {prog : Program} {w : World} {A : Around} {E : Value → Shared → Prop} {s : Shared} {K : Frag}
theorem sub_method {x C : Addr} {ox od : Obj} {name : Str} {pl : Sem Bool} {f : Value} {tn : String} {Q : Value × List Value → Shared → Prop} (X : K.In s.heap) (I : InstAt s.heap x ox C (some od)) (h1 : findIn K (.ref C) "__getattribute__" = some (some (.builtin "dict.__getattribute__")))
    (hk : findIn K (.ref C) "__getattr__" = some none) (hf : findIn K (.ref C) name = some (some f)) (ht : typeIn K f = some (.type tn)) (htn : (Value.type tn != .type "function" && Value.type tn != .type "method_descriptor" && Value.type tn != .type "wrapper_descriptor") = false) (hs : shadowIn (some od) name = some false) (h : Q (f, [.ref x]) s) :
    wpAny (model prog w) A (getMethod (.ref x) name pl) Q E s := by
  unfold getMethod specialOf
  refine wpAny_bind (wpAny_bind (I.type.here ((looks_findIn X h1).here ?_)))
  dsimp only
  rw [canon_dict_ga, if_neg (by decide)]
  refine wpAny_bind (wpAny_bind (I.type.here ((looks_findIn X hk).here ?_)))
  refine wpAny_bind (wpAny_bind (I.type.here ((looks_findIn X hf).here (wpAny_bind ((looks_typeIn X ht).here ?_)))))
  rw [if_neg (by rw [htn]; decide)]
  refine wpAny_bind (wpAny_loadPart I.at_ ?_)
  have hd := I.dict
  cases e : ox.dict with
  | none => exact wpAny_bind (wpAny_rule (wpAny_pure h))
  | some dx =>
    rw [e] at hd
    obtain ⟨r, a, b⟩ := Option.map_eq_some_iff.mp hs
    refine wpAny_bind (wpAny_bind (wpAny_loadPart hd ?_))
    rw [nsLook_of a]
    refine wpAny_pure ?_
    rw [if_neg (by rw [b]; exact Bool.false_ne_true)]
    exact wpAny_bind (wpAny_rule (wpAny_pure h))
theorem own_get : ".".intercalate ("dict.get".cutAt '.').dropLast = "dict" := by decide +kernel
theorem own_upd : ".".intercalate ("dict.update".cutAt '.').dropLast = "dict" := by decide +kernel
theorem md_get {id : String} {x C : Addr} {ox : Obj} {od : Option Obj} {R : Result → Shared → Prop} (hid : id = "dict.get" ∨ id = "dict.update") (hT : typeOf (.builtin id) = pure (.type "method_descriptor")) (ht : Manifest.toldItsClass.contains id = false)
    (I : InstAt s.heap x ox C od) (hi : Looks (model prog w) s.heap (isSubtype (.ref C) (.type "dict")) true)
    (h : R (.ok (.ret (.ref s.heap.objs.size))) { s with heap := s.heap.push { cls := .type "builtin_function_or_method", data := .fields #[.builtin id, .ref x] } }) :
    codeAny (model prog w) A (.call (.builtin "method_descriptor.__get__") ⟨[.builtin id, .ref x, .ref C], []⟩) R s := by
  obtain ⟨hh, g, d, t, os⟩ := s
  have hx := I.at_
  obtain ⟨c, dd, da, sl⟩ := ox
  have hc : c = .ref C := I.cls
  subst hc
  refine codeAny_call_builtin slot_md.plain entry_md (slot_md.check _ _ _ _ _ _ _ _ hT (args_md _ _ _) ?_)
  unfold Builtin.«method_descriptor.__get__»
  repeat lk
  rw [if_neg (by rw [ht]; exact Bool.false_ne_true)]
  rcases hid with rfl | rfl
  · have hi' := hi
    rw [← own_get] at hi'
    repeat lk
    exact h
  · have hi' := hi
    rw [← own_upd] at hi'
    repeat lk
    exact h
end
end Mine
end
section
open PySem PySem.W PyProof.Rows PySem.Calls PySem.Spec
set_option compiler.extract_closed false
set_option Elab.async false
set_option maxRecDepth 100000
set_option maxHeartbeats 3000000
namespace Mine
theorem fill4 : PySem.Challenge.rw_dn0005_11 = PySem.Challenge.rw_dn0005_11 ∧ Mine.hd11.heap_39 = Mine.hd11.heap_39 := by
  k_fill
  exact ⟨rfl, rfl⟩
section
variable {prog : Program} {w : World} {A : Around} {E : Value → Shared → Prop} {s : Shared} {h₀ : Heap} {L x : Addr} {news : List (Addr × Obj)} {o : Obj} {b : Bool} {Q : Value → Shared → Prop}
theorem class_dict_K (N : News h₀ L s.heap news) (hm : (x, o) ∈ news) (hc : o.cls = .type "dict") (h : ∀ t, Q (.type "dict") { s with toks := t }) : wpAny (model prog w) A (getAttr (.ref x) (Str.ofString "__class__") b) Q E s := by
  obtain ⟨hh, g, d, t, os⟩ := s
  exact class_at_dict (N _ hm).1 hc h
theorem type_K {T : String} (N : News h₀ L s.heap news) (hm : (x, o) ∈ news) (hc : o.cls = .type T) (hb : (Value.type T == Value.type "builtin_function_or_method") = false) (h : Q (.type T) s) : wpAny (model prog w) A (call (.type "type") [.ref x]) Q E s :=
  call_type_of (x := .ref x) ⟨o, (N _ hm).1, hc⟩ hb h
end
section
variable {prog : Program} {w : World} {A : Around} {E : Value → Shared → Prop} {s : Shared}
theorem issub_any {a : Value} {U : String} {b : Bool} {Q : Value → Shared → Prop} (hT : ∀ M, Looks M s.heap (isType a) true) (hS : ∀ M, Looks M s.heap (isSubtype a (.type U)) b) (hU : typeOf (.type U) = pure (.type "type")) (hU2 : isType (.type U) = pure true)
    (h : Q (.bool b) s) : wpAny (model prog w) A (call (.builtin "issubclass") [a, .type U]) Q E s := by
  refine call_issubclass (S := fun _ R s => ((∀ M, Looks M s.heap (isType a) true) ∧ ∀ M, Looks M s.heap (isSubtype a (.type U)) b) ∧ R (.ok (.ret (.bool b))) s) (fun _ _ _ _ _ hs => issubclass_outer ?_) ⟨⟨hT, hS⟩, h⟩
  rename_i s'
  obtain ⟨⟨h1, h2⟩, h3⟩ := hs
  obtain ⟨hh, g, d, t, os⟩ := s'
  unfold Builtin.«issubclass.nested»
  refine wpAny_bind (wpAny_of_eq hU ?_)
  rw [if_pos (by decide)]
  k_delta "plainIsSubclass"
  refine wpAny_bind (wpAny_bind ((h1 _).at ?_))
  refine wpAny_bind (wpAny_of_eq hU2 ?_)
  simp only [Bool.and_self, if_true]
  refine (h2 _).at ?_
  exact wpAny_pure h3
theorem sub_dict_dict : isSubtype (.type "dict") (.type "dict") = pure true := by rw [isSubtype_type]; kernel_rfl
theorem mt_dict : typeOf (.type "dict") = pure (.type "type") := by kernel_rfl
end
local macro_rules | `(tactic| walk_at "call builtin:issubclass") => `(tactic| (k_here; (refine issub_any (fun _ => Looks.of_pure rfl) (fun _ => Looks.of_pure sub_dict_dict) mt_dict rfl ?_)))


local macro_rules | `(tactic| walk_at "call type:type") => `(tactic| (k_here; refine type_K ‹_› (by k_mem) ‹_› (by decide) ?_))
local macro_rules | `(tactic| walk_at "getAttr ref") => `(tactic| (k_here; ((refine class_dict_K ‹_› (by k_mem) ‹_› ?_; intro t'))))
section
variable {prog : Program} {w : World} {A₀ : Around} {base h₀ : Heap} {outer : List Env} {e0 : Env} {L : Addr} {m mg mb : Str → Option Value} {mean : ExcName → Option Value} {s : Shared} {R : Result → Shared → Prop} {rest : List (Addr × Obj)}
theorem spec_ic_dict {x : Addr} {o : Obj} (hc : o.cls = .type "dict")
   (B : Below A₀ base outer h₀) (F : Fr h₀ L s.heap m) (X : (Mine.hd11.heap_39 w.params).In h₀) (N : News h₀ L s.heap ((x, o) :: rest)) (T : Top vw ls mean mg mb h₀)
   (k : ∀ h' tk, Fr h₀ L h' m → News h₀ L h' ((x, o) :: rest) → R (.ok (.ret (.bool true))) {s with heap := h', toks := tk})
   : codeAny (model prog w) (AK 15 (ek e0 L) outer) (.call (.ref 100) ⟨[.ref 471, .ref x], []⟩) R s := by
  k_enter
  k_steps
  exact k _ _ (by assumption) (by assumption)
end
end Mine
end
section
open PySem PySem.W PyProof.Rows PySem.Calls PySem.Spec Builtin Builtin.ObjectAttr
set_option Elab.async false
set_option maxRecDepth 100000
set_option maxHeartbeats 3000000
namespace Mine
theorem fill5 : PySem.Challenge.rw_dn0005_11 = PySem.Challenge.rw_dn0005_11 ∧ Mine.hd11.heap_39 = Mine.hd11.heap_39 := by
  k_fill
  exact ⟨rfl, rfl⟩
/-- a Counter as the call makes it -/
noncomputable abbrev cnt (es : Array DictEntry) (n : Nat) (dx : Addr) : Obj := { cls := .ref 1093, dict := some dx, data := .dict es n, slots := #[] }
theorem inst_cnt {h₀ h : Heap} {L x dx : Addr} {news : List (Addr × Obj)} {od : Obj} {es : Array DictEntry} {n : Nat} (N : News h₀ L h news) (h1 : (x, cnt es n dx) ∈ news) (h2 : (dx, od) ∈ news) : InstAt h x (cnt es n dx) 1093 (some od) :=
  ⟨(N _ h1).1, rfl, rfl, (N _ h2).1⟩
section
variable (P : Params)
theorem c_ga : findIn (Mine.hd11.heap_39 P) (.ref 1093) (Str.ofString "__getattribute__") = some (some (.builtin "dict.__getattribute__")) := by k_is
theorem c_gt : findIn (Mine.hd11.heap_39 P) (.ref 1093) (Str.ofString "__getattr__") = some none := by k_is
theorem c_sub : subIn (Mine.hd11.heap_39 P) (.ref 1093) (.type "dict") = some true := by k_is
theorem c_has : hasDictIn (Mine.hd11.heap_39 P) 1093 = true := by k_is
theorem c_clsIn0 : isClsIn (Mine.hd11.heap_39 P) 1093 = true := by k_is
theorem c_clsIn : (clsIn (Mine.hd11.heap_39 P) 1093).isSome = true := c_clsIn0 P
end
theorem findObj_meth {K : Frag} {C : Addr} {od : Obj} {name : Str} {a g : Value} (hh : hasDictIn K C = true) (ha : findIn K (.ref C) name = some (some a)) (hg : specialIn K a "__get__" = some (some g)) (ht : takesIn K a = some false) (hc : copiedNames.contains name = false) (hl : lookIn name od = some none) :
    findObj K C (some od) name = some (.bind g a) := by
  obtain ⟨cd, hc', hd⟩ := any_some hh
  unfold findObj
  have ho : W.ownOf cd (some od) name = some none := by unfold W.ownOf; rw [if_pos hd]; exact hl
  rw [hc', Option.bind_some, ha, Option.bind_some]
  simp only [hg, ht, Option.bind_some, ho, hc, Bool.false_and, Bool.false_eq_true, if_false]
section
variable {prog : Program} {w : World} {A : Around} {E : Value → Shared → Prop} {s : Shared} {h₀ : Heap} {L x dx : Addr} {m : Str → Option Value} {news : List (Addr × Obj)} {es : Array DictEntry} {n : Nat} {b : Bool} {Q : Value → Shared → Prop}
end
end Mine
end
section
open PySem PySem.W PyProof.Rows PySem.Calls PySem.Spec
set_option compiler.extract_closed false
set_option Elab.async false
set_option maxRecDepth 100000
set_option maxHeartbeats 3000000
namespace Mine
theorem fill6 : PySem.Challenge.rw_dn0005_11 = PySem.Challenge.rw_dn0005_11 ∧ Mine.hd11.heap_39 = Mine.hd11.heap_39 := by
  k_fill
  exact ⟨rfl, rfl⟩


theorem looks_isType {K : Frag} {M : Model} {h : Heap} (X : K.In h) {C : Addr} (e : isClsIn K C = true) : Looks M h (isType (.ref C)) true := by
  obtain ⟨cd, hc⟩ := Option.isSome_iff_exists.mp (show (clsIn K C).isSome = true from e)
  unfold clsIn at hc
  split at hc
  · rename_i ho
    cases hc
    exact (Looks.ld (part := some headPart) (X _ _ ho)).andThen .now
  · cases hc

section
variable {prog : Program} {w : World} {A₀ : Around} {base h₀ : Heap} {outer : List Env} {e0 : Env} {L : Addr} {m mg mb : Str → Option Value} {mean : ExcName → Option Value} {s : Shared} {R : Result → Shared → Prop} {rest : List (Addr × Obj)}
end
end Mine
end
section
open PySem PySem.W PyProof.Rows PySem.Calls PySem.Spec Builtin Builtin.ObjectAttr
set_option compiler.extract_closed false
set_option Elab.async false
set_option maxRecDepth 100000
set_option maxHeartbeats 3000000
namespace Mine
theorem fill7 : PySem.Challenge.rw_dn0005_11 = PySem.Challenge.rw_dn0005_11 ∧ Mine.hd11.heap_39 = Mine.hd11.heap_39 := by
  k_fill
  exact ⟨rfl, rfl⟩
section
variable (P : Params)
theorem m_type : typeIn (Mine.hd11.heap_39 P) (.ref 471) = some (.ref 117) := by k_is
theorem m_tup : instIn (Mine.hd11.heap_39 P) (.ref 471) (.type "tuple") = some false := by k_is
theorem m_ic : specialIn (Mine.hd11.heap_39 P) (.ref 471) (Str.ofString "__instancecheck__") = some (some (.ref 100)) := by k_is
theorem m_fn : typeIn (Mine.hd11.heap_39 P) (.ref 100) = some (.type "function") := by k_is
end
section
variable {prog : Program} {w : World} {A A₀ : Around} {E : Value → Shared → Prop} {base h₀ : Heap} {outer : List Env} {env : Env} {L x dx : Addr} {m mg mb : Str → Option Value} {mean : ExcName → Option Value} {s : Shared} {news : List (Addr × Obj)} {o : Obj} {es : Array DictEntry} {n : Nat} {Q : Value → Shared → Prop}
theorem isi_dict_K (hA : A.frames = some (env :: outer)) (hf : env.frame = some L) (hk : env.scope.kind = .function) (hh : A.handled = none) (hg : A.guards = some []) (hd : A.depth ≤ 550) (hu : A.units + 1 ≤ 2500)
   (B : Below A₀ base outer h₀) (F : Fr h₀ L s.heap m) (X : (Mine.hd11.heap_39 w.params).In h₀) (N : News h₀ L s.heap news) (T : Top vw ls mean mg mb h₀) (hm : (x, o) ∈ news) (hc : o.cls = .type "dict")
   (h : ∀ h' tk, Fr h₀ L h' m → News h₀ L h' news → Q (.bool true) { s with heap := h', toks := tk }) :
   wpAny (model prog w) A (call (.builtin "isinstance") [.ref x, .ref 471]) Q E s := by
  have Xs := X.keeps F.keep
  refine isi_hook (t := .type "dict") (mc := .ref 117) (b := true) Xs (fun M => ?_) (by intro e; cases e) (by decide) (m_type _) (by decide) (by decide) (m_tup _) (m_ic _) (m_fn _) (by have : cLine = 9900 := rfl; exact Nat.lt_of_le_of_lt ‹_› (by decide)) ?_
  · have := (Looks.ld (M := M) (part := none) (N _ hm).1).andThen (f := fun o => (pure o.cls : Sem Value)) (b := .type "dict") (by rw [hc]; exact .now)
    exact this
  · refine use_at 15 (A := A.in1) hA hf hk hh hg hd hu (spec_ic_dict hc B F X (fun p hp => by rcases List.mem_cons.mp hp with rfl | hp; exact N _ hm; exact N p hp) T fun h' tk F' N' => ⟨rfl, h h' tk F' fun p hp => N' p (.tail _ hp)⟩)
end
end Mine
end
section
open PySem PySem.W PyProof.Rows PySem.Calls PySem.Spec Builtin Builtin.ObjectAttr
set_option compiler.extract_closed false
set_option Elab.async false
set_option maxRecDepth 100000
set_option maxHeartbeats 3000000
namespace Mine
theorem fill8 : PySem.Challenge.rw_dn0005_11 = PySem.Challenge.rw_dn0005_11 ∧ Mine.hd11.heap_39 = Mine.hd11.heap_39 := by
  k_fill
  exact ⟨rfl, rfl⟩
section
variable {prog : Program} {w : World} {A : Around} {E : Value → Shared → Prop} {s : Shared} {K : Frag}
/-- a built-in method's look at its arguments, for an object of a class below its own -/
theorem check_sub {M : Model} {id owner n : String} {self : Value} {rest : List Value} {kw : List (Str × Value)} {Q : Unit → Shared → Prop} (hsplit : splitId id = some (owner, n))
    (hkind : (Manifest.find? owner).bind (·.attrs.lookup n) = some .slot ∨ (Manifest.find? owner).bind (·.attrs.lookup n) = some .method)
    (hi : Looks M s.heap (isInstance self (.type owner)) true) (ha : argsOk id ⟨self :: rest, kw⟩) (hQ : Q () s) : wpAny M A (checkBuiltinCall id ⟨self :: rest, kw⟩) Q E s := by
  have hk : builtinKind id = (Manifest.find? owner).bind (·.attrs.lookup n) := by simp only [builtinKind, hsplit]
  obtain ⟨hh, g, d, t, os⟩ := s
  rcases hkind with h | h <;>
  · simp only [checkBuiltinCall, hk, h, hsplit]
    refine wpAny_bind (hi.at ?_)
    simp only [Bool.not_true, Bool.false_eq_true, if_false]
    cases hsig : Manifest.signature? id with
    | none => exact wpAny_pure hQ
    | some sig =>
      simp only [argsOk, hsig] at ha
      have h2 : Bind.checkArgs id sig ⟨self :: rest, kw⟩ = pure () := ha
      show wpAny M A (Bind.checkArgs id sig ⟨self :: rest, kw⟩) Q E _
      rw [h2]; exact wpAny_pure hQ
theorem call_sub {id owner n : String} {b : Builtin} {self : Value} {rest : List Value} {kw : List (Str × Value)} {Q : Value → Shared → Prop} (hp : plainId id = true) (hb : entryFor table id = some b) (hsplit : splitId id = some (owner, n))
    (hkind : (Manifest.find? owner).bind (·.attrs.lookup n) = some .slot ∨ (Manifest.find? owner).bind (·.attrs.lookup n) = some .method)
    (hi : Looks (model prog w) s.heap (isInstance self (.type owner)) true) (ha : argsOk id ⟨self :: rest, kw⟩)
    (hc : wpAny (model prog w) A.in1 (b ⟨self :: rest, kw⟩) (fun fin s' => ∃ v, fin = .done (.ret v) ∧ Q v s') E s) : wpAny (model prog w) A (call (.builtin id) (self :: rest) kw) Q E s := by
  refine wpAny_call (codeAny_call_builtin hp hb (check_sub hsplit hkind hi ha (wpAny_mono hc (fun fin s' h' => ?_) fun _ _ h' => h')))
  obtain ⟨v, rfl, hv⟩ := h'; exact hv
end
/-- the entries of a dict, told as a list of its pairs in their order -/
structure DIs {prog : Program} {w : World} {K : Type} [DecidableEq K] (knd : KeyKind prog w K) (es : Array DictEntry) (kvs : List (K × Value)) : Prop where
  keys : PySem.KeysOf knd es
  pairs : Pairs knd es.toList kvs
  nodup : (kvs.map (·.1)).Nodup
section
variable {prog : Program} {w : World} {K : Type} [DecidableEq K] {knd : KeyKind prog w K} {A : Around} {E : Value → Shared → Prop} {s : Shared} {d : Addr} {o : Obj} {es : Array DictEntry} {ep : Nat} {kvs : List (K × Value)} {k : K} {key v : Value}
theorem DIs.nil : DIs knd #[] [] := ⟨by intro e he; simp at he, Pairs.nil, List.nodup_nil⟩
theorem DIs.size (D : DIs knd es kvs) : es.size = kvs.length := by have e1 := D.pairs.length; have e2 : es.toList.length = es.size := by simp
                                                                   assumption
end
end Mine
end
section
open PySem PySem.W PyProof.Rows PySem.Calls PySem.Spec Builtin Builtin.ObjectAttr
set_option Elab.async false
set_option maxRecDepth 100000
set_option maxHeartbeats 3000000
namespace Mine
theorem fill9 : PySem.Challenge.rw_dn0005_11 = PySem.Challenge.rw_dn0005_11 ∧ Mine.hd11.heap_39 = Mine.hd11.heap_39 := by
  k_fill
  exact ⟨rfl, rfl⟩
section
variable (P : Params)
theorem c_nomod : subIn (Mine.hd11.heap_39 P) (.ref 1093) (.type "module") = some false := by k_is
theorem c_noord : subIn (Mine.hd11.heap_39 P) (.ref 1093) (.type "collections.OrderedDict") = some false := by k_is
theorem c_meta : typeIn (Mine.hd11.heap_39 P) (.ref 1093) = some (.type "type") := by k_is
end
noncomputable abbrev bm (id : String) (x : Addr) : Obj := { cls := .type "builtin_function_or_method", data := .fields #[.builtin id, .ref x] }
section
variable {prog : Program} {w : World} {A : Around} {E : Value → Shared → Prop} {s : Shared} {h₀ : Heap} {L x dx q : Addr} {m : Str → Option Value} {news : List (Addr × Obj)} {es : Array DictEntry} {n : Nat} {Q : Value → Shared → Prop}
  {K : Type} [DecidableEq K] {knd : KeyKind prog w K} {kvs : List (K × Value)} {k : K} {key dflt : Value}
end
end Mine
end
section
open PySem PySem.W PyProof.Rows PySem.Calls PySem.Spec Builtin Builtin.ObjectAttr
set_option compiler.extract_closed false
set_option Elab.async false
set_option maxRecDepth 100000
set_option maxHeartbeats 3000000
namespace Mine
theorem fill8b : PySem.Challenge.rw_dn0005_11 = PySem.Challenge.rw_dn0005_11 ∧ Mine.hd11.heap_39 = Mine.hd11.heap_39 := by
  k_fill
  exact ⟨rfl, rfl⟩
section
variable (P : Params)
theorem c_bool0 : findIn (Mine.hd11.heap_39 P) (.ref 1093) (Str.ofString "__bool__") = some none := by k_is
theorem c_len : findIn (Mine.hd11.heap_39 P) (.ref 1093) (Str.ofString "__len__") = some (some (.builtin "dict.__len__")) := by k_is
end
section
variable {prog : Program} {w : World} {A : Around} {E : Value → Shared → Prop} {s : Shared} {h₀ : Heap} {L x dx q : Addr} {m : Str → Option Value} {news : List (Addr × Obj)} {es : Array DictEntry} {n : Nat} 
  {K : Type} [DecidableEq K] {knd : KeyKind prog w K} {kvs : List (K × Value)} {k : K} {key v : Value}
theorem cnt_truthy {Q : Bool → Shared → Prop} (Fr0 : Fr h₀ L s.heap m) (X₀ : (Mine.hd11.heap_39 w.params).In h₀) (N : News h₀ L s.heap news) (hm : (x, cnt es n dx) ∈ news) (hdx : (dx, dictOf [] 0) ∈ news)
    (hs : (x == sysModules) = false) (hsz : es.size ≤ sizeLine) (h : ∀ t, Q (es.size != 0) { s with toks := t }) : wpAny (model prog w) A (truthy (.ref x)) Q E s := by
  have X := X₀.keeps Fr0.keep
  have I := inst_cnt N hm hdx
  have hx := (N _ hm).1
  have L0 := I.type (M := model prog w)
  have L1 := looks_findIn (M := model prog w) X (c_len _)
  have L2 := looks_findIn (M := model prog w) X (c_bool0 _)
  have L3 := looks_subIn (M := model prog w) X (c_noord _)
  have L4 := looks_subIn (M := model prog w) X (c_sub _)
  obtain ⟨hh, g, d, t, os⟩ := s
  unfold truthy
  repeat lk
  refine PySem.W.X.x_call (codeAny_builtin entry_len ?_) (by intro e; cases e)
  unfold Builtin.«len»
  repeat ((fail_if_success (with_reducible show wpAny _ _ (call _ _ _) _ _ _)); lk)
  have L5 : Looks (model prog w) hh (isInstance (.ref x) (.type "dict")) true := L0.andThen L4
  refine call_sub (owner := "dict") (n := "__len__") F.slot_dict_len.plain F.entry_dict_len (by decide +kernel) (.inl (by decide +kernel)) L5 (F.args_dict_len_1 _) ?_
  unfold Builtin.«dict.__len__»
  repeat ((fail_if_success (with_reducible show wpAny _ _ (call _ _ _) _ _ _)); lk)
  rw [if_neg (by rw [hs]; exact Bool.false_ne_true)]
  repeat lk
  refine ⟨_, rfl, ?_⟩
  refine wpAny_pure ?_
  dsimp only
  repeat lk
  have hlt : ¬ ((es.size : Int) + ((0 : Nat) : Int) ≥ 2 ^ 63) := by
    have := PySem.sizeLine_eq
    lia
  rw [if_neg hlt]
  repeat lk
  have e : (((es.size : Int) + ((0 : Nat) : Int)) != 0) = (es.size != 0) := by
    cases es.size with
    | zero => rfl
    | succ k => 
      rw [Bool.eq_iff_iff]; simp; lia
  rw [e]
  exact h _
end
end Mine
end
section
open PySem PySem.W PyProof.Rows PySem.Calls PySem.Spec Builtin Builtin.ObjectAttr
set_option compiler.extract_closed false
set_option Elab.async false
set_option maxRecDepth 100000
set_option maxHeartbeats 3000000
namespace Mine
theorem fill11 : PySem.Challenge.rw_dn0005_11 = PySem.Challenge.rw_dn0005_11 ∧ Mine.hd11.heap_39 = Mine.hd11.heap_39 := by
  k_fill
  exact ⟨rfl, rfl⟩
section
variable (P : Params)
theorem c_items : findIn (Mine.hd11.heap_39 P) (.ref 1093) (Str.ofString "items") = some (some (.builtin "dict.items")) := by k_is
end
theorem look_alive {M : Model} {A : Around} {E : Value → Shared → Prop} {s : Shared} {a : Addr} {o : Obj} {Q : Option Obj → Shared → Prop} (ho : s.heap.get? a = some o) (h : Q (some o) s) : wpAny M A (Sem.loadIfAlive a Sem.pure) Q E s := by
  have h2 : Q (s.heap.get? a) s := ho ▸ h
  exact fun _ _ _ => h2
/-- an object that holds a dict's entries, whatever its class -/
noncomputable def DatAt {prog : Program} {w : World} {K : Type} [DecidableEq K] (knd : KeyKind prog w K) (h : Heap) (d : Addr) (kvs : List (K × Value)) (ep : Nat) : Prop :=
  ∃ o es, h.get? d = some o ∧ o.data = .dict es ep ∧ DIs knd es kvs
/-- an iterator over the items -/
noncomputable abbrev itm (d : Addr) (i n ep : Nat) (a : Value) (f : Bool) (ok ov : Value) : Obj := { cls := .type "dict_itemiterator", dict := none, data := .fields #[a, .bool f, .ref d, .int i 0, .int n 0, .int ep 0, ok, ov], slots := #[] }
section
variable {prog : Program} {w : World} {A : Around} {E : Value → Shared → Prop} {s : Shared} {h₀ : Heap} {L x dx q vw it d : Addr} {m : Str → Option Value} {news : List (Addr × Obj)} {es : Array DictEntry} {n : Nat} 
  {K : Type} [DecidableEq K] {knd : KeyKind prog w K} {kvs : List (K × Value)} {k : K} {key v : Value} {ep i : Nat} {ok ov : Value}
theorem cnt_items {Q : Value → Shared → Prop} (Fr0 : Fr h₀ L s.heap m) (X₀ : (Mine.hd11.heap_39 w.params).In h₀) (N : News h₀ L s.heap news) (hm : (x, cnt es n dx) ∈ news) (hdx : (dx, dictOf [] 0) ∈ news)
    (hs : (x == sysModules) = false) (h : Q (.ref s.heap.objs.size) { s with heap := s.heap.push { cls := .type "dict_items", data := .fields #[.ref x] } }) : wpAny (model prog w) A (call (.builtin "dict.items") [.ref x]) Q E s := by
  have X := X₀.keeps Fr0.keep
  have I := inst_cnt N hm hdx
  have hx := (N _ hm).1
  have L0 := I.type (M := model prog w)
  have L3 := looks_subIn (M := model prog w) X (c_noord _)
  have L5 : Looks (model prog w) s.heap (isInstance (.ref x) (.type "dict")) true := L0.andThen (looks_subIn X (c_sub _))
  obtain ⟨hh, g, d, t, os⟩ := s
  refine call_sub (owner := "dict") (n := "items") F.slot_dict_items.plain F.entry_dict_items (by decide +kernel) (.inr (by decide +kernel)) L5 (F.args_dict_items_1 _) ?_
  unfold Builtin.«dict.items» Builtin.Dict.noArgs
  repeat lk
  rw [if_neg (by rw [hs]; exact Bool.false_ne_true)]
  repeat lk
  exact ⟨_, rfl, h⟩
theorem it_iter {Q : Value → Shared → Prop} (hv : s.heap.get? vw = some { cls := .type "dict_items", data := .fields #[.ref d] }) (hd : DatAt knd s.heap d kvs ep) (h : Q (.ref s.heap.objs.size) { s with heap := s.heap.push (itm d 0 kvs.length ep .none false .none .none) }) :
   wpAny (model prog w) A (pyIter (.ref vw)) Q E s := by
  obtain ⟨o, es, ho, hdat, D⟩ := hd
  obtain ⟨hh, g, dr, t, os⟩ := s
  obtain ⟨oc, od, oda, osl⟩ := o
  dsimp only at hdat ho hv
  subst hdat
  have hT : Shared.TypeIs ⟨hh, g, dr, t, os⟩ (.ref vw) "dict_items" := ⟨_, hv, rfl⟩
  refine wpAny_pyIter_slot hT F.slot_dict_items_iter (wpAny_call_entry F.slot_dict_items_iter hT F.entry_dict_items_iter ?_ (F.args_dict_items_iter_1 _))
  unfold Builtin.«dict_items.__iter__»
  repeat lk
  refine ⟨_, rfl, "dict_itemiterator", _, ⟨_, Heap.get?_push_size _ rfl, rfl⟩, F.slot_dict_itemiterator_next.lookup, ?_⟩
  rw [D.size]
  exact h
theorem sp_next0 {Q : Option Value → Shared → Prop} (hi : s.heap.get? it = some (itm d i kvs.length ep .none false ok ov)) (hd : DatAt knd s.heap d kvs ep) (hx : kvs[i]? = some (k, v))
   (h : ∀ key h', knd.is k key = true → h'.get? it = some (itm d (i + 1) kvs.length ep (rawInt s.heap.objs.size) false key v) → h'.get? s.heap.objs.size = some { cls := .type "tuple", data := .seq #[key, v] } → h'.objs.size = s.heap.objs.size + 1 → 
      (∀ b o, b ≠ it → s.heap.get? b = some o → h'.get? b = some o) → Q (some (.ref s.heap.objs.size)) { s with heap := h' }) :
   wpAny (model prog w) A (callSpecial? (.ref it) (Str.ofString "__next__")) Q E s := by
  obtain ⟨o, es, ho, hdat, D⟩ := hd
  obtain ⟨hh, g, dr, t, os⟩ := s
  obtain ⟨oc, od, oda, osl⟩ := o
  dsimp only at hdat ho hi
  have hi0 := hi
  subst hdat
  have hT : Shared.TypeIs ⟨hh, g, dr, t, os⟩ (.ref it) "dict_itemiterator" := ⟨_, hi, rfl⟩
  have hsz := D.size
  have hlt : i < kvs.length := by
    rcases Nat.lt_or_ge i kvs.length with h | h
    · exact h
    · simp [List.getElem?_eq_none h] at hx
  refine wpAny_callSpecial?_slot (name := Str.ofString "__next__") hT PySem.F.slot_dict_itemiterator_next
    (wpAny_call_entry PySem.F.slot_dict_itemiterator_next hT PySem.F.entry_dict_itemiterator_next ?_ (PySem.F.args_dict_itemiterator_next_1 _))
  unfold Builtin.«dict_itemiterator.__next__»
  repeat lk
  rw [if_neg (by rw [hsz]; simp)]
  repeat lk
  rw [if_neg (by simp)]
  repeat lk
  have hlt' : i < es.size := by rw [hsz]; exact hlt
  obtain ⟨hkey, hval⟩ := D.pairs.get? (e := es[i]) (by simp [hlt']) hx
  simp only [show ¬ ((i : Int) < 0) from by lia, if_false, Int.toNat_natCast, Array.getElem?_eq_getElem hlt']
  repeat ((fail_if_success (with_reducible show wpAny _ _ (setField _ _ _) _ _ _)); lk)
  (with_unfolding_all show wpAny _ _ (setField (.ref it) 3 (rawInt ((i : Int) + 1))) _ _ _)
  refine wpAny_setField_rec hi (by simp) fun h₁ he₁ hs₁ => ?_
  replace hs₁ : Heap.SameBut it hh h₁ := hs₁
  have he₁ : h₁.get? it = some (itm d (i + 1) kvs.length ep .none false ok ov) := by
    rw [he₁]
    rfl
  have hil : it < hh.objs.size := Heap.lt_size hi
  clear hi
  have hz₁ : h₁.objs.size = hh.objs.size := hs₁.1
  dsimp only
  repeat lk
  have he₂ : (h₁.push { cls := .type "tuple", data := .seq #[es[i].key, es[i].val] }).get? it = some (itm d (i + 1) kvs.length ep .none false ok ov) := Heap.get?_push_of_some _ he₁
  generalize hh₂ : h₁.push { cls := .type "tuple", data := .seq #[es[i].key, es[i].val] } = h₂ at he₂ ⊢
  have ht₂ : h₂.get? hh.objs.size = some { cls := .type "tuple", data := .seq #[es[i].key, es[i].val] } := by rw [← hh₂, ← hz₁]; exact Heap.get?_push_size _ rfl
  have hz₂ : h₂.objs.size = hh.objs.size + 1 := by rw [← hh₂, Heap.size_push, hz₁]
  have hk₂ : ∀ b o, b ≠ it → hh.get? b = some o → h₂.get? b = some o := fun b o hb e => by rw [← hh₂]; exact Heap.get?_push_of_some _ (hs₁.extBut b o hb e)
  rw [hz₁]
  clear hh₂ he₁ hs₁ hz₁
  repeat ((fail_if_success (with_reducible show wpAny _ _ (setField _ _ _) _ _ _)); lk)
  refine wpAny_setField_rec he₂ (by simp) fun h₃ he₃ hs₃ => ?_
  dsimp only
  refine wpAny_bind (wpAny_setField_rec he₃ (by simp) fun h₄ he₄ hs₄ => ?_)
  refine wpAny_bind (wpAny_setField_rec he₄ (by simp) fun h₅ he₅ hs₅ => ?_)
  refine wpAny_bind (wpAny_setField_rec he₅ (by simp) fun h₆ he₆ hs₆ => ?_)
  have step : ∀ {a b : Heap}, Heap.SameBut it a b → ∀ c o, c ≠ it → a.get? c = some o → b.get? c = some o := fun q c o hc e => q.extBut c o hc e
  have hk₆ : ∀ c o, c ≠ it → h₂.get? c = some o → h₆.get? c = some o := fun c o hc e => step hs₆ c o hc (step hs₅ c o hc (step hs₄ c o hc (step hs₃ c o hc e)))
  have hz₆ : h₆.objs.size = hh.objs.size + 1 := by rw [← hz₂]; exact hs₆.1.trans (hs₅.1.trans (hs₄.1.trans hs₃.1))
  refine wpAny_bind (wpAny_letGo (wpAny_pure (wpAny_pure ⟨_, rfl, ?_⟩)))
  refine h es[i].key h₆ hkey ?_ ?_ hz₆ fun b o hb e => hk₆ b o hb (hk₂ b o hb e)
  · rw [he₆, ← hval]
    rfl
  · rw [← hval]
    exact hk₆ _ _ (Nat.ne_of_gt hil) ht₂
theorem sp_next1 {a : Addr} {oa : Obj} {f : Bool} {Q : Option Value → Shared → Prop} (hi : s.heap.get? it = some (itm d i kvs.length ep (rawInt a) f ok ov)) (hal : s.heap.get? a = some oa) (hai : a ≠ it) (hd : DatAt knd s.heap d kvs ep) (hx : kvs[i]? = some (k, v))
   (h : ∀ key h', knd.is k key = true → h'.get? it = some (itm d (i + 1) kvs.length ep (rawInt a) true ok ov) → h'.get? s.heap.objs.size = some { cls := .type "tuple", data := .seq #[key, v] } → h'.objs.size = s.heap.objs.size + 1 → 
      (∀ b o, b ≠ it → s.heap.get? b = some o → h'.get? b = some o) → Q (some (.ref s.heap.objs.size)) { s with heap := h' }) :
   wpAny (model prog w) A (callSpecial? (.ref it) (Str.ofString "__next__")) Q E s := by
  obtain ⟨o, es, ho, hdat, D⟩ := hd
  obtain ⟨hh, g, dr, t, os⟩ := s
  obtain ⟨oc, od, oda, osl⟩ := o
  dsimp only at hdat ho hi hal
  subst hdat
  have hT : Shared.TypeIs ⟨hh, g, dr, t, os⟩ (.ref it) "dict_itemiterator" := ⟨_, hi, rfl⟩
  have hsz := D.size
  have hlt : i < kvs.length := by
    rcases Nat.lt_or_ge i kvs.length with h | h
    · exact h
    · simp [List.getElem?_eq_none h] at hx
  refine wpAny_callSpecial?_slot (name := Str.ofString "__next__") hT PySem.F.slot_dict_itemiterator_next
    (wpAny_call_entry PySem.F.slot_dict_itemiterator_next hT PySem.F.entry_dict_itemiterator_next ?_ (PySem.F.args_dict_itemiterator_next_1 _))
  unfold Builtin.«dict_itemiterator.__next__»
  repeat lk
  rw [if_neg (by rw [hsz]; simp)]
  repeat lk
  rw [if_neg (by simp)]
  repeat lk
  have hlt' : i < es.size := by rw [hsz]; exact hlt
  obtain ⟨hkey, hval⟩ := D.pairs.get? (e := es[i]) (by simp [hlt']) hx
  simp only [show ¬ ((i : Int) < 0) from by lia, if_false, Int.toNat_natCast, Array.getElem?_eq_getElem hlt']
  repeat ((fail_if_success (with_reducible show wpAny _ _ (setField _ _ _) _ _ _)); lk)
  (with_unfolding_all show wpAny _ _ (setField (.ref it) 3 (rawInt ((i : Int) + 1))) _ _ _)
  refine wpAny_setField_rec hi (by simp) fun h₁ he₁ hs₁ => ?_
  replace hs₁ : Heap.SameBut it hh h₁ := hs₁
  have he₁ : h₁.get? it = some (itm d (i + 1) kvs.length ep (rawInt a) f ok ov) := by
    rw [he₁]
    rfl
  have hil : it < hh.objs.size := Heap.lt_size hi
  clear hi
  have hz₁ : h₁.objs.size = hh.objs.size := hs₁.1
  dsimp only
  repeat lk
  have he₂ : (h₁.push { cls := .type "tuple", data := .seq #[es[i].key, es[i].val] }).get? it = some (itm d (i + 1) kvs.length ep (rawInt a) f ok ov) := Heap.get?_push_of_some _ he₁
  generalize hh₂ : h₁.push { cls := .type "tuple", data := .seq #[es[i].key, es[i].val] } = h₂ at he₂ ⊢
  have ht₂ : h₂.get? hh.objs.size = some { cls := .type "tuple", data := .seq #[es[i].key, es[i].val] } := by rw [← hh₂, ← hz₁]; exact Heap.get?_push_size _ rfl
  have hz₂ : h₂.objs.size = hh.objs.size + 1 := by rw [← hh₂, Heap.size_push, hz₁]
  have hk₂ : ∀ b o, b ≠ it → hh.get? b = some o → h₂.get? b = some o := fun b o hb e => by rw [← hh₂]; exact Heap.get?_push_of_some _ (hs₁.extBut b o hb e)
  have hal₂ := hk₂ a oa hai hal
  rw [hz₁]
  clear hh₂ he₁ hs₁ hz₁
  repeat ((fail_if_success (with_reducible show wpAny _ _ (setField _ _ _) _ _ _)); lk)
  have fin : ∀ h₃ : Heap, h₃.get? it = some (itm d (i + 1) kvs.length ep (rawInt a) true ok ov) → Heap.SameBut it h₂ h₃ → Q (some (.ref hh.objs.size)) ⟨h₃, g, dr, t, os⟩ := fun h₃ he₃ hs₃ =>
    h es[i].key h₃ hkey he₃ (by rw [← hval]; exact hs₃.extBut _ _ (Nat.ne_of_gt hil) ht₂) (by show h₃.objs.size = hh.objs.size + 1; rw [hs₃.1, hz₂]) fun b o hb e => hs₃.extBut b o hb (hk₂ b o hb e)
  rw [Int.toNat_natCast]
  refine look_alive (s := ⟨h₂, g, dr, t, os⟩) hal₂ ?_
  cases f with
  | true =>
    simp only [Option.isNone_some, Bool.false_eq_true, if_false]
    repeat lk
    exact ⟨_, rfl, fin h₂ he₂ (Heap.SameBut.refl _ _)⟩
  | false =>
    simp only [Option.isNone_some, Bool.false_eq_true, if_false]
    repeat ((fail_if_success (with_reducible show wpAny _ _ (setField _ _ _) _ _ _)); lk)
    refine wpAny_setField_rec he₂ (by simp) fun h₃ he₃ hs₃ => ?_
    repeat lk
    refine ⟨_, rfl, fin h₃ ?_ hs₃⟩
    rw [he₃]; rfl
theorem it_next0 {Q : Option Value → Shared → Prop} (hi : s.heap.get? it = some (itm d i kvs.length ep .none false ok ov)) (hd : DatAt knd s.heap d kvs ep) (hx : kvs[i]? = some (k, v))
   (h : ∀ key h', knd.is k key = true → h'.get? it = some (itm d (i + 1) kvs.length ep (rawInt s.heap.objs.size) false key v) → h'.get? s.heap.objs.size = some { cls := .type "tuple", data := .seq #[key, v] } → h'.objs.size = s.heap.objs.size + 1 → 
      (∀ b o, b ≠ it → s.heap.get? b = some o → h'.get? b = some o) → Q (some (.ref s.heap.objs.size)) { s with heap := h' }) :
   wpAny (model prog w) A (pyNext (.ref it)) Q E s := by
  unfold pyNext
  exact wpAny_bind (wpAny_attempt (sp_next0 hi hd hx fun key h' e1 e2 e3 e4 e5 => wpAny_pure (h key h' e1 e2 e3 e4 e5)))
theorem it_next1 {a : Addr} {oa : Obj} {f : Bool} {Q : Option Value → Shared → Prop} (hi : s.heap.get? it = some (itm d i kvs.length ep (rawInt a) f ok ov)) (hal : s.heap.get? a = some oa) (hai : a ≠ it) (hd : DatAt knd s.heap d kvs ep) (hx : kvs[i]? = some (k, v))
   (h : ∀ key h', knd.is k key = true → h'.get? it = some (itm d (i + 1) kvs.length ep (rawInt a) true ok ov) → h'.get? s.heap.objs.size = some { cls := .type "tuple", data := .seq #[key, v] } → h'.objs.size = s.heap.objs.size + 1 → 
      (∀ b o, b ≠ it → s.heap.get? b = some o → h'.get? b = some o) → Q (some (.ref s.heap.objs.size)) { s with heap := h' }) :
   wpAny (model prog w) A (pyNext (.ref it)) Q E s := by
  unfold pyNext
  exact wpAny_bind (wpAny_attempt (sp_next1 hi hal hai hd hx fun key h' e1 e2 e3 e4 e5 => wpAny_pure (h key h' e1 e2 e3 e4 e5)))
theorem it_end {a : Value} {f : Bool} {Q : Option Value → Shared → Prop} (hh : A.handled = none) (hi : s.heap.get? it = some (itm d i kvs.length ep a f ok ov)) (hd : DatAt knd s.heap d kvs ep) (hx : kvs[i]? = none)
   (h : ∀ h', Heap.ExtBut it s.heap h' → Q none { s with heap := h' }) : wpAny (model prog w) A (pyNext (.ref it)) Q E s := by
  obtain ⟨o, es, ho, hdat, D⟩ := hd
  obtain ⟨hp, g, dr, t, os⟩ := s
  obtain ⟨oc, od, oda, osl⟩ := o
  dsimp only at hdat ho hi
  subst hdat
  have hT : Shared.TypeIs ⟨hp, g, dr, t, os⟩ (.ref it) "dict_itemiterator" := ⟨_, hi, rfl⟩
  have hsz := D.size
  have hge : es.size ≤ i := by rw [hsz]; simpa using hx
  unfold pyNext
  refine wpAny_bind (wpAny_attempt (wpAny_callSpecial?_slot (name := Str.ofString "__next__") hT PySem.F.slot_dict_itemiterator_next
    (wpAny_call_entry PySem.F.slot_dict_itemiterator_next hT PySem.F.entry_dict_itemiterator_next ?_ (PySem.F.args_dict_itemiterator_next_1 _))))
  unfold Builtin.«dict_itemiterator.__next__»
  repeat lk
  rw [if_neg (by rw [hsz]; simp)]
  repeat lk
  rw [if_neg (by simp)]
  repeat lk
  simp only [show ¬ ((i : Int) < 0) from by lia, if_false, Int.toNat_natCast, Array.getElem?_eq_none hge]
  repeat ((fail_if_success (with_reducible show wpAny _ _ (setField _ _ _) _ _ _)); lk)
  (with_unfolding_all show wpAny _ _ (setField (.ref it) 2 .none) _ _ _)
  refine wpAny_setField_rec hi (by simp) fun h₁ he₁ hs₁ => ?_
  repeat lk
  refine wpAny_handled ?_
  rw [show A.in1.handled = none from hh]
  repeat lk
  refine wpAny_throw ?_
  refine wpAny_bind (wpAny_isInstance (T := "StopIteration") (b := true) ⟨_, Heap.get?_push_size _ rfl, rfl⟩ isSubtype_stop ?_)
  exact wpAny_pure (h _ ((hs₁.extBut.push _).push _))
end
end Mine
end
section
open PySem PySem.W PyProof.Rows PyProof.V PySem.Calls PySem.Spec Builtin Builtin.ObjectAttr
set_option Elab.async false
set_option maxRecDepth 100000
set_option maxHeartbeats 3000000
namespace Mine
section
variable {prog : Program} {w : World} {A : Around} {E : Value → Shared → Prop} {s : Shared} {h₀ : Heap} {L x dx q vw it d : Addr} {m : Str → Option Value} {news : List (Addr × Obj)} {es : Array DictEntry} {n : Nat} 
  {K : Type} [DecidableEq K] {knd : KeyKind prog w K} {kvs : List (K × Value)} {k : K} {key v : Value} {ep i : Nat} {ok ov : Value} {env : Env} {body : List Stmt} {Q : Flow → Shared → Prop}
theorem DatAt.at {h h' : Heap} (D : DatAt knd h d kvs ep) (e : ∀ o, h.get? d = some o → h'.get? d = some o) : DatAt knd h' d kvs ep := let ⟨o, es, ho, r⟩ := D; ⟨o, es, e o ho, r⟩
end
end Mine
end
section
open PySem PySem.W PyProof.Rows PyProof.V PySem.Calls PySem.Spec Builtin Builtin.ObjectAttr
set_option Elab.async false
set_option maxRecDepth 100000
set_option maxHeartbeats 3000000
namespace Mine
theorem fill12 : PySem.Challenge.rw_dn0005_11 = PySem.Challenge.rw_dn0005_11 ∧ Mine.hd11.heap_39 = Mine.hd11.heap_39 := by
  k_fill
  exact ⟨rfl, rfl⟩
theorem ne_cls {h₀ h : Heap} {L x : Addr} {o : Obj} {news : List (Addr × Obj)} {p : Addr × Obj} (N : News h₀ L h news) (hm : (x, o) ∈ news) (hp : p ∈ news) (hc : p.2.cls ≠ o.cls) : p.1 ≠ x := by
  intro e
  have a := (N _ hm).1
  have b := (N _ hp).1
  rw [e] at b
  dsimp only at a
  rw [a] at b
  exact hc (congrArg Obj.cls (Option.some.inj b)).symm
section
variable {prog : Program} {w : World} {A : Around} {E : Value → Shared → Prop} {s : Shared} {h₀ : Heap} {L x dx q : Addr} {m : Str → Option Value} {news l : List (Addr × Obj)} {es : Array DictEntry} {n : Nat} {kvs : List (Str × Value)} {cs : List (Str × Int)} {k : Str} {u t0 : Tok} {c : Int}
noncomputable abbrev iview (d : Addr) : Obj := { cls := .type "dict_items", data := .fields #[.ref d] }
theorem cnt_items_K {Q : Value → Shared → Prop} (F : Fr h₀ L s.heap m) (X₀ : (Mine.hd11.heap_39 w.params).In h₀) (N : News h₀ L s.heap news) (hm : (x, cnt es n dx) ∈ news) (hdx : (dx, dictOf [] 0) ∈ news) (hs : (x == sysModules) = false)
    (h : ∀ v h', Fr h₀ L h' m → News h₀ L h' ((v, iview x) :: news) → (∀ p ∈ news, p.1 < v) → Q (.ref v) { s with heap := h' }) : wpAny (model prog w) A (call (.builtin "dict.items") [.ref x]) Q E s :=
  cnt_items F X₀ N hm hdx hs (h _ _ (F.push _) (N.push F _) fun p hp => Heap.lt_size (N p hp).1)
noncomputable def BmAt (q : Addr) (id : String) (x : Addr) (h : Heap) : Prop := h.get? q = some (bm id x)
theorem bm_of {id : String} {h : Heap} (N : News h₀ L h news) (hq : (q, bm id x) ∈ news) : BmAt q id x h := (N _ hq).1
theorem keeps_B {M : Model} {id : String} (h : Heap) (X : BmAt q id x h) : ∃ k, (k = Keeper.frame ∨ k = Keeper.machine ∨ k = Keeper.boundFrame) ∧ Looks M h (keeperOf (.ref q)) k :=
  ⟨.machine, .inr (.inl rfl), (Looks.ld (part := none) X).andThen .now⟩
theorem callWith_B {M : Model} {id : String} {first : List Value} {pos : Pos} {env : Env} {e : Expr} {rest : List Expr} {Q : Value → Shared → Prop} (_N : News h₀ L s.heap news) (_q : (q, bm id x) ∈ news)
    (h : wpAny M A (spliced (backTo pos (starEach (e :: rest) env))) (fun vs s₁ => BmAt q id x s₁.heap ∧ wpAny M A (call (.ref q) (first ++ vs)) Q E s₁) E s)
    (he : starEach (e :: rest) env = (false, eval e env) :: starEach rest env := by rfl) (hplain : (backTo pos (starEach rest env)).any (·.1) = false := by rfl) :
    wpAny M A (callWith pos (.ref q) first (backTo pos (starEach (e :: rest) env)) []) Q E s := by
  rw [he] at h ⊢
  exact callWith_of (by show ((false || (backTo pos (starEach rest env)).any (·.1)) || false) = false; rw [hplain]; rfl) keeps_B (evalArgs_plain h)
theorem isDict_DIs {o : Obj} (hc : o.IsDictOf (strKind prog w) kvs) : ∃ es n, o.data = .dict es n ∧ DIs (strKind prog w) es kvs := by
  obtain ⟨es, n, _, a, b, c, d⟩ := hc
  exact ⟨es, n, a, b, c, d⟩
theorem fr_fun {h : Heap} {m m' : Str → Option Value} (F : Fr h₀ L h m) (e : ∀ y, m y = m' y) : Fr h₀ L h m' := by
  have : m = m' := funext e
  exact this ▸ F
end
section
variable {prog : Program} {w : World} {A : Around} {E : Value → Shared → Prop} {s : Shared} {env : Env} {h₀ : Heap} {target : Expr} {body : List Stmt} {Q : Flow → Shared → Prop} {ws : List (Addr × String)} {keep : List (Addr × Obj)}
theorem allObj_mono : ∀ {ws : List (Addr × String)} {k k' : List (Addr × Obj) → Prop}, (∀ its, k its → k' its) → AllObj ws k → AllObj ws k'
  | [], _, _, h, a => h [] a
  | w :: _, _, _, h, a => fun o ho => allObj_mono (fun its => h ((w.1, o) :: its)) (a o ho)
end
theorem subL_of : ∀ {l all : List (Addr × Obj)}, (∀ p ∈ l, p ∈ all) → SubL l all
  | [], _, _ => trivial
  | p :: _, _, h => ⟨h p (.head _), subL_of fun q hq => h q (.tail _ hq)⟩
end Mine
end
section
open PySem PySem.W PyProof.Rows PyProof.V PySem.Calls PySem.Spec Builtin Builtin.ObjectAttr
set_option Elab.async false
set_option maxRecDepth 100000
set_option maxHeartbeats 3000000
namespace Mine
theorem fill13 : PySem.Challenge.rw_dn0005_11 = PySem.Challenge.rw_dn0005_11 ∧ Mine.hd11.heap_39 = Mine.hd11.heap_39 := by
  k_fill
  exact ⟨rfl, rfl⟩
section
variable {prog : Program} {w : World} {A A₀ : Around} {s : Shared} {K : Frag} {L : Addr} {h₀ base : Heap} {m mg mb : Str → Option Value} {news : List (Addr × Obj)} {p : Program} {loose : List Str} {mean : ExcName → Option Value}
/-- a function's frame, with the activation known: for super() -/
theorem frame_at {E : Value → Shared → Prop} {R : Result → Shared → Prop} {env : Env} {outer : List Env} {qual : Str} {scope : Scope} {cl : List (Str × Addr)} {binds : List (Str × Value)} {body : List Stmt} {f : Addr} {cdv : Value}
    (B : Below A₀ base outer h₀) (F : Fr h₀ L s.heap m) (N : News h₀ L s.heap news) (hlim : h₀.NoLimit) (hA : A.frames = some (env :: outer)) (hf : env.frame = some L) (hke : env.scope.kind = .function)
    (hloc : ∀ y ∈ binds, scope.names.lookup y.1 = some .local)
    (h : ∀ g L' h₁, Fr h₀ L g m → Fr g L' h₁ (fun y => binds.reverse.lookup y) → News g L' h₁ news → Below A base (env :: outer) g → h₀.StaysIn g →
      _root_.PySem.wpAt (model prog w) (A.deeper (envX qual scope L' f cdv cl)) (.func body (envX qual scope L' f cdv cl)) (execs body (envX qual scope L' f cdv cl))
        (fun fl s' => LeaveK h₀ L m g R (match fl with | .ret v => v | _ => .none) s')
        (fun e s' => wpAny (model prog w) (A.deeper (envX qual scope L' f cdv cl)) (leaving (envX qual scope L' f cdv cl) e) (fun _ s'' => R (.error e) s'') (fun e' s'' => R (.error e') s'') s')
        { s with heap := h₁, toks := s.toks + binds.length })
    (hcell : ∀ x ∈ scope.names, x.2 ≠ .cell) (hk : scope.kind = .function) :
    wpAny (model prog w) A.in1 (newFunctionEnv scope mainGlobals cl binds (qual ++ ".<locals>.") (some f) cdv none builtinsNs) (fun env' s₂ => s₂.heap.NoLimit ∧ codeAny (model prog w) A (.func body env') R s₂) E s := by
  obtain ⟨FG, BG, st, lv⟩ := groundX (R := R) B F N hA hf hke
  refine wpAny_newFunctionEnv hcell hloc (fun h₁ hns hsb => ⟨(hlim.keeps F.keep).fresh _ hsb, ks_codeAny_funcAt ?_⟩) hk
  have kp : ∀ b o, s.heap.get? b = some o → h₁.get? b = some o := fun b o e => hsb.extBut b o (Nat.ne_of_lt (Heap.lt_size e)) (Heap.get?_push_of_some _ e)
  refine ks_wpAt_mono (h _ s.heap.objs.size h₁ FG ⟨hns, fun b o e => kp b o (of_hideAll _ e), Nat.le_of_eq (hideAll_size _ _)⟩
    (fun p hp => ⟨kp _ _ (N p hp).1, Nat.ne_of_lt (Heap.lt_size (N p hp).1), hideAll_none _ (List.mem_map_of_mem hp)⟩) BG st) (fun fl s' hl => lv _ _ hl) fun _ _ y => y
theorem more_at {env : Env} {outer : List Env} {R : Result → Shared → Prop} {name qual : Str} {params : Arguments} {body : List Stmt} {scope : Scope} {cl : List (Str × Addr)} {dV kV doc pm cdv ct oc : Value} {an od : Option Addr} {osl : Array (Option Value)} {f : Addr} {args : Args} {nm : Str} {ex front : List (Str × Value)} {g₁ : Addr → Sem (List (Str × Value))}
    (B : Below A₀ base outer h₀) (F : Fr h₀ L s.heap m) (X₀ : K.In h₀) (N : News h₀ L s.heap news) (T : Top p loose mean mg mb h₀) (hA : A.frames = some (env :: outer)) (hf : env.frame = some L) (hke : env.scope.kind = .function)
    (ho : K.lookup f = some ⟨oc, od, .func (fnX name qual params body scope cl dV kV doc pm an cdv ct), osl⟩) (hcd : codeIn K cdv qual = true) (hroom : A.depth < recursionLimit)
    (hx : args.kw.filter (fun x => !ownKw params x.1) = ex) (hnm : params.kwarg.map (·.arg) = some nm) (hn : (ex.map (·.1)).Nodup)
    (hfr : peek K ⟨prog, w.params⟩ (bindArgs (fnCut (fnX name qual params body scope cl dV kV doc pm an cdv ct)) (argsCut params args)) = some front)
    (hp : peekA K ⟨prog, w.params⟩ (bindArgs (fnX name qual params body scope cl dV kV doc pm an cdv ct) args) = some (dictOf [] 0, g₁))
    (hk₁ : ∀ D, g₁ D = (forIn ex PUnit.unit (fun x _ => (nsSet D x.1 x.2 >>= fun _ => pure (ForInStep.yield PUnit.unit))) >>= fun _ => pure (front ++ [(nm, Value.ref D)])))
    (hloc : ∀ D, ∀ y ∈ front ++ [(nm, Value.ref D)], scope.names.lookup y.1 = some .local)
    (h : ∀ D o g L' h₁ tk, (∀ p ∈ news, p.1 < D) → (D == sysModules) = false → o.IsDictOf (PySem.strKind prog w) ex → Fr h₀ L g m → Fr g L' h₁ (fun y => (front ++ [(nm, Value.ref D)]).reverse.lookup y) → News g L' h₁ ((D, o) :: news) → Below A base (env :: outer) g → K.In g → Top p loose mean mg mb g →
      _root_.PySem.wpAt (model prog w) (A.deeper (envX qual scope L' f cdv cl)) (.func body (envX qual scope L' f cdv cl)) (execs body (envX qual scope L' f cdv cl))
        (fun fl s' => LeaveK h₀ L m g R (match fl with | .ret v => v | _ => .none) s')
        (fun e s' => wpAny (model prog w) (A.deeper (envX qual scope L' f cdv cl)) (leaving (envX qual scope L' f cdv cl) e) (fun _ s'' => R (.error e) s'') (fun e' s'' => R (.error e') s'') s')
        { s with heap := h₁, toks := tk })
    (hco : scope.isCoroutine = false) (hgen : scope.isGenerator = false) (hk : scope.kind = .function)
    (hcell : ∀ x ∈ scope.names, x.2 ≠ .cell) : codeAny (model prog w) A (.call (.ref f) args) R s := by
  have _ := hx
  have _ := hnm
  have _ := hfr
  refine codeAny_call_function (fd := fnX name qual params body scope cl dV kV doc pm an cdv ct) (body := body) hroom ((X₀.keeps F.keep) _ _ ho) rfl hco hgen rfl (codeRec_of (X₀.keeps F.keep) hcd) ?_
  refine wp_of_peekA (o := dictOf [] 0) F N (X₀.keeps F.keep) rfl _ g₁ hp fun h' F' N' l => ?_
  rw [hk₁]
  refine wpAny_bind (kp_fill ex { s with heap := h' } [] 0 F' N' (fun p hp => Nat.ne_of_lt (l p hp)) (fun _ he => nomatch he) (fun _ he => nomatch he) hn fun h'' F'' N'' => wpAny_pure ?_)
  exact frame_at (cl := cl) (s := { s with heap := h'', toks := s.toks + ex.length }) B F'' N'' T.nolimit hA hf hke (hloc _)
    (fun g L' h₁ FG FL NG BG st => h _ _ g L' h₁ _ l (F.notModules (modules_low T.nolimit)) (kp_isDict s.toks (0 + ex.length) hn) FG FL NG BG (X₀.keeps st) (T.keeps st)) hcell hk
end
end Mine
end
section
open PySem PySem.W PyProof.Rows PyProof.V PySem.Calls PySem.Spec Builtin Builtin.ObjectAttr
set_option Elab.async false
set_option maxRecDepth 100000
set_option maxHeartbeats 3000000
namespace Mine
theorem fill15 : PySem.Challenge.rw_dn0005_11 = PySem.Challenge.rw_dn0005_11 ∧ Mine.hd11.heap_39 = Mine.hd11.heap_39 := by
  k_fill
  exact ⟨rfl, rfl⟩
section
variable {prog : Program} {w : World} {M : Model} {A : Around} {E : Value → Shared → Prop} {h : Heap} {g : Array GenState} {d : Drawn} {t : Nat} {os : OsState} {so D x C : Addr} {l₀ l : List Value} {K : Frag} {name : Str} {o : Obj} {id G tn : String}
theorem super_ga {tk : Tok} {Q : Fin → Shared → Prop}
    (hso : h.get? so = some (ks_superObj D x C)) (hno : Looks (model prog w) h (opaqueClassAbove (.ref C)) none)
    (hC : Looks (model prog w) h (mroOf (.ref C)) l₀) (hl : (l₀.dropWhile (· != .ref D)).drop 1 = l) (X : K.In h)
    (hf : alongIn K name l = some (some (.builtin id))) (ht : typeOf (.builtin id) = pure (.type tn)) (hg : typeLookup (.type tn) "__get__" = pure (some (.builtin G))) (hxC : x ≠ C) (hn : (name == ("__class__" : Str)) = false)
    (hget : ∀ A, wpAny (model prog w) A (call (.builtin G) [.builtin id, .ref x, .ref C] []) (fun v s' => v = .ref h.objs.size ∧ s' = ⟨h.push o, g, d, t, os⟩) (fun _ _ => False) ⟨h, g, d, t, os⟩)
    (hq : Q (.done (.ret (.ref h.objs.size))) ⟨h.push o, g, d, t, os⟩) :
    wpAny (model prog w) A (Builtin.«super.__getattribute__» ⟨[.ref so, .str name tk], []⟩) Q E ⟨h, g, d, t, os⟩ := by
  have hne : (Value.ref x == Value.ref C) = false := by simp [hxC]
  unfold Builtin.«super.__getattribute__»
  repeat ((fail_if_success (with_reducible show wpAny _ _ (notOfAnOpaqueClass _ _ _) _ _ _)); lk)
  rw [if_neg (by rw [hn]; exact Bool.false_ne_true)]
  refine wpAny_bind (ks_wpAny_notOpaque (C := C) hno ?_)
  rw [if_neg (by exact Bool.false_ne_true)]
  refine wpAny_bind (Looks.at hC ?_)
  (show wpAny _ _ (forIn (List.drop 1 (List.dropWhile (fun x_1 => x_1 != Value.ref D) l₀)) _ _ >>= _) _ _ _)
  rw [hl]
  refine wpAny_bind (ks_forIn_along X (fun _ _ => rfl) rfl ?_ hf)
  dsimp only
  refine wpAny_bind (wpAny_of_eq ht (wpAny_bind (wpAny_of_eq hg ?_)))
  dsimp only
  rw [if_neg (by show ¬ ((Value.ref x == Value.ref C) = true); rw [hne]; exact Bool.false_ne_true)]
  refine wpAny_bind (wpAny_holding (wpAny_mono (hget _) (fun v s' hv => ?_) fun _ _ z => z.elim))
  obtain ⟨rfl, rfl⟩ := hv
  repeat lk
  exact hq
theorem super_method {pl : Sem Bool} {Q : Value × List Value → Shared → Prop}
    (hso : h.get? so = some (ks_superObj D x C)) (hno : Looks (model prog w) h (opaqueClassAbove (.ref C)) none)
    (hC : Looks (model prog w) h (mroOf (.ref C)) l₀) (hl : (l₀.dropWhile (· != .ref D)).drop 1 = l) (X : K.In h)
    (hf : alongIn K name l = some (some (.builtin id))) (ht : typeOf (.builtin id) = pure (.type tn)) (hg : typeLookup (.type tn) "__get__" = pure (some (.builtin G))) (hxC : x ≠ C) (hn : (name == ("__class__" : Str)) = false)
    (hget : ∀ A, wpAny (model prog w) A (call (.builtin G) [.builtin id, .ref x, .ref C] []) (fun v s' => v = .ref h.objs.size ∧ s' = ⟨h.push o, g, d, t + 1, os⟩) (fun _ _ => False) ⟨h, g, d, t + 1, os⟩)
    (hq : Q (.ref h.objs.size, []) ⟨h.push o, g, d, t + 1, os⟩) : wpAny (model prog w) A (getMethod (.ref so) name pl) Q E ⟨h, g, d, t, os⟩ := by
  have hlk := F.ks_slot_super_ga.lookup
  have hT : ∀ t', (⟨h, g, d, t', os⟩ : Shared).TypeIs (.ref so) "super" := fun _ => ⟨_, hso, rfl⟩
  unfold getMethod
  refine wpAny_bind (wpAny_specialOf (hT _) hlk ?_)
  dsimp only
  rw [if_pos F.ks_canon_super_ga]
  unfold getAttr getAttrBy
  refine wpAny_bind (wpAny_bind (wpAny_mkText (wpAny_holding (wpAny_bind (wpAny_typeOf (hT _) (wpAny_bind (wpAny_of_eq hlk ?_)))))))
  (show wpAny _ _ (getAttrByItsOwn (.ref so) (.str name t) (.type "super") (.builtin "super.__getattribute__") true false) _ _ _)
  unfold getAttrByItsOwn hookBefore callGetattribute boundAndCalled
  refine wpAny_bind (wpAny_of_eq (show (if onTheHeap (.type "super") then typeLookup (.type "super") "__getattr__" else pure none) = pure none from rfl) ?_)
  refine wpAny_bind (wpAny_attempt (wpAny_holding ?_))
  (show wpAny _ _ (bindSpecial (.builtin "super.__getattribute__") (.ref so) >>= _) _ _ _)
  refine wpAny_bind (wpAny_of_eq (F.ks_slot_super_ga.bind _) ?_)
  refine wpAny_mono (Q := fun v s' => v = .ref h.objs.size ∧ s' = ⟨h.push o, g, d, t + 1, os⟩) (E := fun _ _ => False)
    (wpAny_call_entry F.ks_slot_super_ga (hT _) F.ks_entry_super_ga (super_ga hso hno hC hl X hf ht hg hxC hn hget ⟨_, rfl, rfl, rfl⟩) (F.ks_gaArgs_super _ _)) (fun v s' hv => ?_) fun _ _ z => z.elim
  obtain ⟨rfl, rfl⟩ := hv
  exact wpAny_pure (wpAny_pure hq)
end
end Mine
end
section
open PySem PySem.W PyProof.Rows PyProof.V PySem.Calls PySem.Spec Builtin Builtin.ObjectAttr
set_option Elab.async false
set_option maxRecDepth 100000
set_option maxHeartbeats 3000000
namespace Mine
theorem fill16 : PySem.Challenge.rw_dn0005_11 = PySem.Challenge.rw_dn0005_11 ∧ Mine.hd11.heap_39 = Mine.hd11.heap_39 := by
  k_fill
  exact ⟨rfl, rfl⟩
theorem slot_wd : Slot "wrapper_descriptor" "__get__" "wrapper_descriptor.__get__" :=
  .of (owner := "wrapper_descriptor") (n := "__get__") (by rw [typeLookup_type, builtinLookup_eq_fast]; kernel_rfl) (by decide +kernel) (by decide +kernel) (by decide +kernel)
    (by first | exact .inl (by decide +kernel) | exact .inr (by decide +kernel)) (by rw [isSubtype_type]; kernel_rfl)
theorem entry_wd : entryFor table "wrapper_descriptor.__get__" = some Builtin.«wrapper_descriptor.__get__» := entryFor_of_tree (by kernel_rfl)
theorem args_wd (a b c : Value) : argsOk "wrapper_descriptor.__get__" ⟨[a, b, c], []⟩ := by unfold argsOk; kernel_rfl
theorem upd_told : Manifest.toldItsClass.contains "dict.update" = false := by decide +kernel
theorem upd_type : typeOf (.builtin "dict.update") = pure (.type "method_descriptor") := by show builtinType _ = _; rw [builtinType_eq_fast]; kernel_rfl
theorem init_type : typeOf (.builtin "dict.__init__") = pure (.type "wrapper_descriptor") := by show builtinType _ = _; rw [builtinType_eq_fast]; kernel_rfl
theorem own_init : ".".intercalate ("dict.__init__".cutAt '.').dropLast = "dict" := by decide +kernel
theorem c_sup_upd (P : Params) : ks_superIn (Mine.hd11.heap_39 P) 1093 1093 (Str.ofString "update") = some (some (.builtin "dict.update")) := by ks_is
theorem c_sup_init (P : Params) : ks_superIn (Mine.hd11.heap_39 P) 1093 1093 (Str.ofString "__init__") = some (some (.builtin "dict.__init__")) := by ks_is
theorem c_third (P : Params) : nsIn (Mine.hd11.heap_39 P) cStatics "thirdparty.any" = some none := by k_is
section
variable {prog : Program} {w : World} {A : Around} {E : Value → Shared → Prop} {s : Shared} {K : Frag} {h₀ : Heap} {L x dx so : Addr} {m : Str → Option Value} {news : List (Addr × Obj)} {es : Array DictEntry} {n : Nat}
noncomputable abbrev mw (id : String) (x : Addr) : Obj := { cls := .type "method-wrapper", data := .fields #[.builtin id, .ref x] }
theorem wd_get {x C : Addr} {ox : Obj} {od : Option Obj} {R : Result → Shared → Prop} 
    (I : InstAt s.heap x ox C od) (hi : Looks (model prog w) s.heap (isSubtype (.ref C) (.type "dict")) true)
    (h : R (.ok (.ret (.ref s.heap.objs.size))) { s with heap := s.heap.push (mw "dict.__init__" x) }) :
    codeAny (model prog w) A (.call (.builtin "wrapper_descriptor.__get__") ⟨[.builtin "dict.__init__", .ref x, .ref C], []⟩) R s := by
  obtain ⟨hh, g, d, t, os⟩ := s
  have hx := I.at_
  obtain ⟨c, dd, da, sl⟩ := ox
  have hc : c = .ref C := I.cls
  subst hc
  refine codeAny_call_builtin slot_wd.plain entry_wd (slot_wd.check _ _ _ _ _ _ _ _ init_type (args_wd _ _ _) ?_)
  unfold Builtin.«wrapper_descriptor.__get__»
  have hi' := hi
  rw [← own_init] at hi'
  repeat lk
  exact h
theorem super_K {id G tn : String} {name : Str} {o : Obj} {pl : Sem Bool} {Q : Value × List Value → Shared → Prop} (F : Fr h₀ L s.heap m) (X₀ : (Mine.hd11.heap_39 w.params).In h₀) (N : News h₀ L s.heap news) (hso : (so, ks_superObj 1093 x 1093) ∈ news) (hm : (x, cnt es n dx) ∈ news) (hdx : (dx, dictOf [] 0) ∈ news)
    (hm2 : ks_superIn (Mine.hd11.heap_39 w.params) 1093 1093 name = some (some (.builtin id))) (ht : typeOf (.builtin id) = pure (.type tn)) (hg : typeLookup (.type tn) "__get__" = pure (some (.builtin G))) (hn : (name == ("__class__" : Str)) = false)
    (hget : ∀ (A : Around) (s : Shared) (R : Result → Shared → Prop), InstAt s.heap x (cnt es n dx) 1093 (some (dictOf [] 0)) → Looks (model prog w) s.heap (isSubtype (.ref 1093) (.type "dict")) true → R (.ok (.ret (.ref s.heap.objs.size))) { s with heap := s.heap.push o } →
      codeAny (model prog w) A (.call (.builtin G) ⟨[.builtin id, .ref x, .ref 1093], []⟩) R s)
    (h : ∀ q h', Fr h₀ L h' m → News h₀ L h' ((q, o) :: news) → (∀ p ∈ news, p.1 < q) → Q (.ref q, []) { s with heap := h', toks := s.toks + 1 }) (hof : o.isFreed = false) : wpAny (model prog w) A (getMethod (.ref so) name pl) Q E s := by
  have X : (Mine.hd11.heap_39 w.params).In s.heap := X₀.keeps F.keep
  have I := inst_cnt N hm hdx
  obtain ⟨hh, g, d, t, os⟩ := s
  cases hc : clsIn (Mine.hd11.heap_39 w.params) 1093 with
  | none => unfold ks_superIn at hm2; rw [hc] at hm2; cases hm2
  | some cd =>
    unfold ks_superIn at hm2
    rw [hc] at hm2
    refine super_method (o := o) (N _ hso).1 (looks_opaque X (c_third _)) (l₀ := cd.mro) (fun A Q E s k q => wpAny_bind ((looks_clsIn X hc) A _ E s k (wpAny_pure q))) rfl X hm2 ht hg (ks_ne X I hc) hn (fun A => ?_) ?_
    · exact wpAny_call (hget A ⟨hh, g, d, t + 1, os⟩ _ I (looks_subIn X (c_sub _)) ⟨rfl, rfl⟩)
    · exact h _ _ (F.push _) (News.push (hfree := hof) F N _) fun p hp => Heap.lt_size (N p hp).1
theorem get_md : typeLookup (.type "method_descriptor") "__get__" = pure (some (.builtin "method_descriptor.__get__")) := slot_md.lookup
theorem get_wd : typeLookup (.type "wrapper_descriptor") "__get__" = pure (some (.builtin "wrapper_descriptor.__get__")) := slot_wd.lookup
theorem super_upd_K {pl : Sem Bool} {Q : Value × List Value → Shared → Prop} (F : Fr h₀ L s.heap m) (X₀ : (Mine.hd11.heap_39 w.params).In h₀) (N : News h₀ L s.heap news) (hso : (so, ks_superObj 1093 x 1093) ∈ news) (hm : (x, cnt es n dx) ∈ news) (hdx : (dx, dictOf [] 0) ∈ news)
    (h : ∀ q h', Fr h₀ L h' m → News h₀ L h' ((q, bm "dict.update" x) :: news) → (∀ p ∈ news, p.1 < q) → Q (.ref q, []) { s with heap := h', toks := s.toks + 1 }) : wpAny (model prog w) A (getMethod (.ref so) (Str.ofString "update") pl) Q E s :=
  super_K F X₀ N hso hm hdx (c_sup_upd _) upd_type get_md (by decide) (fun A s R I hi h => md_get (.inr rfl) upd_type upd_told I hi h) h rfl
theorem super_init_K {pl : Sem Bool} {Q : Value × List Value → Shared → Prop} (F : Fr h₀ L s.heap m) (X₀ : (Mine.hd11.heap_39 w.params).In h₀) (N : News h₀ L s.heap news) (hso : (so, ks_superObj 1093 x 1093) ∈ news) (hm : (x, cnt es n dx) ∈ news) (hdx : (dx, dictOf [] 0) ∈ news)
    (h : ∀ q h', Fr h₀ L h' m → News h₀ L h' ((q, mw "dict.__init__" x) :: news) → (∀ p ∈ news, p.1 < q) → Q (.ref q, []) { s with heap := h', toks := s.toks + 1 }) : wpAny (model prog w) A (getMethod (.ref so) (Str.ofString "__init__") pl) Q E s :=
  super_K F X₀ N hso hm hdx (c_sup_init _) init_type get_wd (by decide) (fun A s R I hi h => wd_get I hi h) h rfl
end
end Mine
end
section
open PySem PySem.W PyProof.Rows PyProof.V PySem.Calls PySem.Spec Builtin Builtin.ObjectAttr
set_option compiler.extract_closed false
set_option Elab.async false
set_option maxRecDepth 100000
set_option maxHeartbeats 3000000
namespace Mine
theorem fill17 : PySem.Challenge.rw_dn0005_11 = PySem.Challenge.rw_dn0005_11 ∧ Mine.hd11.heap_39 = Mine.hd11.heap_39 := by
  k_fill
  exact ⟨rfl, rfl⟩
section
variable {prog : Program} {w : World} {K : Type} [DecidableEq K] {knd : KeyKind prog w K} {A : Around} {E : Value → Shared → Prop} {s : Shared} {d o : Addr} {od oo : Obj} {es es2 : Array DictEntry} {ep ep2 : Nat} {kvs more : List (K × Value)} {k : K} {key v : Value}
theorem dsetH {Q : Unit → Shared → Prop} (ho : s.heap.get? d = some od) (hd : od.data = .dict es ep) (D : DIs knd es kvs) (hkey : knd.is k key = true) (hsz : kvs.length ≤ sizeLine)
    (h : ∀ h' es' ep', DIs knd es' (stored kvs k v) → h'.get? d = some { od with data := .dict es' ep' } → Heap.SameBut d s.heap h' → Q () { s with heap := h' }) :
    wpAny (model prog w) A (dictSetHashed d key (knd.hash k) v) Q E s := by
  obtain ⟨oc, odd, oda, osl⟩ := od
  dsimp only at hd
  subst hd
  have hes : es.size ≤ sizeLine := by rw [D.size]; exact hsz
  unfold dictSetHashed
  refine wpAny_holding ?_
  refine wpAny_bind (wpAny_dictFind_of hkey ho rfl D.keys ?_)
  have hl : (es.toList.findIdx? fun e => knd.is k e.key) = es.findIdx? fun e => knd.is k e.key := by obtain ⟨l⟩ := es; simp
  have hidx : (es.findIdx? fun e => knd.is k e.key) = kvs.findIdx? fun kv => decide (kv.1 = k) := by rw [← hl, D.pairs.findIdx k]
  cases hi : es.findIdx? fun e => knd.is k e.key with
  | some i =>
    refine wpAny_bind (wpAny_rule (wpAny_bind (wpAny_updateDict ho rfl (wpAny_point (h _ (es.modify i fun e => { e with val := v }) ep ?_ (Heap.get?_update_self _ ho rfl) (Heap.SameBut.update ..))))))
    refine ⟨D.keys.modify _ _, ?_, ?_⟩
    · rw [stored, if_pos (any_of_findIdx_some (hidx ▸ hi))]
      have := D.pairs.modify D.nodup (hl.trans hi) v
      obtain ⟨l⟩ := es
      simpa using this
    · rw [stored, if_pos (any_of_findIdx_some (hidx ▸ hi)), keys_map_store]; exact D.nodup
  | none =>
    refine wpAny_bind (wpAny_rule (wpAny_updateDictKeys ho rfl (h _ (es.push ⟨knd.hash k, key, v⟩) (ep + 1) ?_ (Heap.get?_update_self _ ho rfl) (Heap.SameBut.update ..)) hes))
    have hno : (kvs.any fun kv => decide (kv.1 = k)) = false := by
      have h1 : (kvs.findIdx? fun kv => decide (kv.1 = k)) = none := hidx ▸ hi
      rw [List.findIdx?_eq_none_iff] at h1
      rw [List.any_eq_false]
      intro x hx
      simp [h1 x hx]
    refine ⟨D.keys.push hkey _, ?_, ?_⟩
    · rw [stored, if_neg (by rw [hno]; exact Bool.false_ne_true)]
      have := D.pairs.append hkey (knd.hash k) v
      obtain ⟨l⟩ := es
      simpa using this
    · rw [stored, if_neg (by rw [hno]; exact Bool.false_ne_true), List.map_append, List.nodup_append]
      refine ⟨D.nodup, by simp, ?_⟩
      intro a ha b hb e
      subst e
      obtain ⟨x, hx, rfl⟩ := List.mem_map.mp ha
      simp only [List.map_cons, List.map_nil, List.mem_singleton] at hb
      have := List.any_eq_false.mp hno x hx
      exact this (decide_eq_true hb)
/-- the entries of the object o laid into the object d, where there are few and their keys are texts -/
theorem merge_in {nm : String} {Q : Unit → Shared → Prop} (hdo : d ≠ o) (hoS : (o == sysModules) = false) (ho : s.heap.get? d = some od) (hd : od.data = .dict es ep) (D : DIs knd es kvs)
    (ho2 : s.heap.get? o = some oo) (hd2 : oo.data = .dict es2 ep2) (D2 : DIs knd es2 more) (hfew : (decide (es2.size ≤ 8) && es2.all fun e => (keyPart e.key).isSome) = true) (hsz : kvs.length + more.length ≤ sizeLine)
    (h : ∀ h' es' ep', DIs knd es' (merged kvs more) → h'.get? d = some { od with data := .dict es' ep' } → Heap.SameBut d s.heap h' → Q () { s with heap := h' }) :
    wpAny (model prog w) A (Builtin.Dict.mergeDict nm d o) Q E s := by
  unfold Builtin.Dict.mergeDict
  rw [if_neg (by simpa using hdo)]
  unfold Builtin.Dict.showsAll
  rw [if_neg (by rw [hoS]; exact Bool.false_ne_true)]
  refine wpAny_bind (wpAny_pure ?_)
  refine wpAny_bind (wpAny_dictEntries ho2 hd2 ?_)
  have hlen : more.length = es2.size := D2.size.symm
  dsimp only
  rw [hfew]
  simp only [Bool.not_true, Bool.false_eq_true, if_false]
  refine wpAny_bind (wpAny_dictEpoch ho2 hd2 ?_)
  refine wpAny_bind (wpAny_dictEntries ho2 hd2 ?_)
  rw [Std.Legacy.Range.forIn_eq_forIn_range']
  simp only [Std.Legacy.Range.size, Nat.sub_zero, Nat.add_sub_cancel, Nat.div_one]
  refine wpAny_bind ?_
  refine wpAny_forIn_list _ (fun rest _ s' => ∃ h' es' ep' i, s' = { s with heap := h' } ∧ rest = List.range' i (es2.size - i) ∧ i ≤ es2.size ∧ DIs knd es' (merged kvs (more.take i)) ∧ h'.get? d = some { od with data := .dict es' ep' } ∧ h'.get? o = some oo ∧ Heap.SameBut d s.heap h') _ ?_ ?_ _ _
    ⟨s.heap, es, ep, 0, rfl, by simp, Nat.zero_le _, by simpa [merged] using D, by rw [ho]; congr 1; obtain ⟨a, b, c, e⟩ := od; dsimp only at hd; subst hd; rfl, ho2, Heap.SameBut.refl _ _⟩
  · rintro x rest b s' ⟨h', es', ep', i, rfl, hr, hi, D', hd', ho', hs'⟩
    have hlt : i < es2.size := by
      rcases Nat.lt_or_ge i es2.size with q | q
      · exact q
      · rw [Nat.sub_eq_zero_of_le q] at hr; simp at hr
    obtain ⟨rfl, hrest⟩ : x = i ∧ rest = List.range' (i + 1) (es2.size - (i + 1)) := by
      have e : es2.size - i = (es2.size - (i + 1)) + 1 := by (clear hs' ho' hd' D' hi hr hlen h hsz hfew D2 hd2 ho2 D hd ho hoS hdo; lia)
      rw [e, List.range'_succ] at hr
      injection hr with h1 h2
      exact ⟨h1, h2⟩
    refine wpAny_bind (wpAny_dictEntries (s := { s with heap := h' }) ho' hd2 ?_)
    rw [Array.getElem?_eq_getElem hlt]
    obtain ⟨⟨k, v⟩, hkv⟩ : ∃ kv, more[x]? = some kv := ⟨more[x]'(by rw [hlen]; exact hlt), List.getElem?_eq_getElem _⟩
    obtain ⟨hkey, hval⟩ := D2.pairs.get? (e := es2[x]) (by simp [hlt]) hkv
    obtain ⟨k', hkey', hhash⟩ := D2.keys es2[x] (Array.getElem_mem hlt)
    obtain rfl : k' = k := knd.inj _ _ _ hkey' hkey
    dsimp only
    rw [hhash, hval]
    have hmx : (merged kvs (more.take x)).length ≤ sizeLine := by
      have e1 := merged_length_le kvs (more.take x)
      have e2 : (more.take x).length ≤ more.length := by rw [List.length_take]; lia
      (clear hkey hkv hhash hkey' hval hrest hlt D' hi hr hs' ho' hd' hlen h hfew D2 hd2 ho2 D hd ho hoS hdo; lia)
    refine wpAny_bind (wpAny_holding (dsetH (s := { s with heap := h' }) hd' rfl D' hkey hmx fun h'' es'' ep'' D'' hd'' hs'' => ?_))
    have hoo'' : h''.get? o = some oo := (hs''.2 o (Ne.symm hdo)).trans ho'
    refine wpAny_bind (wpAny_dictEpoch (s := { s with heap := h'' }) hoo'' hd2 ?_)
    rw [if_neg (by simp)]
    exact wpAny_pure ⟨h'', es'', ep'', x + 1, rfl, hrest, hlt, by rw [merged_take_succ kvs more x (k', v) hkv]; exact D'', hd'', hoo'', hs'.trans hs''⟩
  · rintro b s' ⟨h', es', ep', i, rfl, hr, hi, D', hd', ho', hs'⟩
    have hin : i = es2.size := by
      rcases Nat.lt_or_ge i es2.size with q | q
      · have e : es2.size - i = (es2.size - (i + 1)) + 1 := by lia
        rw [e, List.range'_succ] at hr; exact nomatch hr
      · exact Nat.le_antisymm hi q
    rw [hin, ← hlen, List.take_length] at D'
    exact wpAny_pure (h h' es' ep' D' hd' hs')
end
section
variable {prog : Program} {w : World} {A : Around} {E : Value → Shared → Prop} {s : Shared} {h₀ : Heap} {L x y dx dy q : Addr} {m : Str → Option Value} {news l : List (Addr × Obj)} {es es2 : Array DictEntry} {n n2 : Nat} {kvs more : List (Str × Value)}
theorem full_ne2 (a : String) : (a ++ toString "." ++ toString (Bind.lastOf "dict.update") != "*") = true := by
  rw [bne_iff_ne]
  show (a ++ "." ++ Bind.lastOf "dict.update") ≠ "*"
  intro h
  have h2 := congrArg String.length h
  rw [String.length_append, String.length_append] at h2
  have e1 : (Bind.lastOf "dict.update").length = 6 := by decide +kernel
  have e2 : ("." : String).length = 1 := by decide +kernel
  have e3 : ("*" : String).length = 1 := by decide +kernel
  (clear e2 h; lia)
end
end Mine
end
section
open PySem PySem.W PyProof.Rows PyProof.V PySem.Calls PySem.Spec Builtin Builtin.ObjectAttr
set_option compiler.extract_closed false
set_option Elab.async false
set_option maxRecDepth 100000
set_option maxHeartbeats 3000000
namespace Mine
theorem fill18 : PySem.Challenge.rw_dn0005_11 = PySem.Challenge.rw_dn0005_11 ∧ Mine.hd11.heap_39 = Mine.hd11.heap_39 := by
  k_fill
  exact ⟨rfl, rfl⟩
section
variable {prog : Program} {w : World} {A A₀ : Around} {E : Value → Shared → Prop} {base h₀ : Heap} {outer : List Env} {env : Env} {L x dx y q : Addr} {m mg mb : Str → Option Value} {mean : ExcName → Option Value} {s : Shared} {news : List (Addr × Obj)} {o : Obj} {es : Array DictEntry} {n : Nat} {kvs kvs' ex : List (Str × Value)}
theorem dict_truthy_K {Q : Bool → Shared → Prop} (N : News h₀ L s.heap news) (hm : (y, o) ∈ news) (hc : o.IsDictOf (PySem.strKind prog w) ex) (hs : (y == sysModules) = false) (hl : ex.length ≤ 4000) (h : ∀ t, Q (!ex.isEmpty) { s with toks := t }) : wpAny (model prog w) A (truthy (.ref y)) Q E s :=
  wpAny_truthy_dict (knd := PySem.strKind prog w) hs ((Heap.dictOf_iff).mpr ⟨o, (N _ hm).1, hc⟩) (by lia) (h _)
end
end Mine
end
section
open PySem PySem.W PyProof.Rows PyProof.V PySem.Calls PySem.Spec Builtin Builtin.ObjectAttr
set_option compiler.extract_closed false
set_option Elab.async false
set_option maxRecDepth 100000
set_option maxHeartbeats 3000000
namespace Mine
section
variable {prog : Program} {w : World} {A : Around} {E : Value → Shared → Prop} {s : Shared} {d o : Addr} {od oo : Obj} {es es2 : Array DictEntry} {ep ep2 : Nat} {more : List (Str × Value)}
theorem DIs.none {es : Array DictEntry} (D : DIs (PySem.strKind prog w) es more) (h : more.length ≤ 0) : es = #[] ∧ more = [] := by
  have h1 := D.size
  have h2 : es.size = 0 := by lia
  exact ⟨Array.eq_empty_of_size_eq_zero h2, List.eq_nil_of_length_eq_zero (by lia)⟩
/-- an empty dict merged into a new one -/
theorem merge_kw {Q : Unit → Shared → Prop} (hoS : (o == sysModules) = false) (hd : s.heap.get? d = some { cls := .type "dict", data := .dict #[] })
    (hdict : oo.ExactDict) (ho2 : s.heap.get? o = some oo) (hd2 : oo.data = .dict es2 ep2) (D2 : DIs (PySem.strKind prog w) es2 more) (hsz : more.length ≤ 0)
    (h : Q () s) : wpAny (model prog w) A (mergeMapping d (.ref o) true) Q E s := by
  obtain ⟨hh, g, dr, t, os⟩ := s
  obtain ⟨oc, odd, oda, osl⟩ := oo
  obtain ⟨h1, h2, h3⟩ := hdict
  obtain ⟨e1, _⟩ := D2.none hsz
  dsimp only at h1 h2 h3 hd2 hd ho2
  subst h1 h2 h3 hd2 e1
  have L3 : Looks (model prog w) hh (typeLookup (.type "dict") (Str.ofString "__iter__")) (some (.builtin "dict.__iter__")) := Looks.of_pure F.slot_dict_iter.lookup
  unfold mergeMapping
  repeat ((fail_if_success (with_reducible show wpAny _ _ (forIn _ _ _) _ _ _)); lk)
  rw [if_neg (by rw [hoS]; exact Bool.false_ne_true)]
  repeat ((fail_if_success (with_reducible show wpAny _ _ (forIn _ _ _) _ _ _)); lk)
  rw [← Array.forIn_toList]
  refine wpAny_pure ?_
  refine wpAny_bind (wpAny_dictEntries ho2 rfl ?_)
  refine wpAny_bind (wpAny_dictEpoch ho2 rfl ?_)
  exact wpAny_bind (wpAny_pure (wpAny_pure h))
theorem keywords_in {f : Value} {Q : List (Str × Value) → Shared → Prop} (hd : s.heap.get? d = some od) (hda : od.data = .dict es ep) (D : DIs (PySem.strKind prog w) es more) (hsz : more.length ≤ 0) (h : Q more s) : wpAny (model prog w) A (keywordsIn f d) Q E s := by
  obtain ⟨rfl, rfl⟩ := D.none hsz
  unfold keywordsIn
  refine wpAny_bind (wpAny_dictEntries hd hda ?_)
  dsimp only
  refine wpAny_bind ?_
  rw [← Array.forIn_toList]
  exact wpAny_pure (wpAny_pure h)
end
section
variable {prog : Program} {w : World} {A : Around} {E : Value → Shared → Prop} {s : Shared} {d o : Addr} {es : Array DictEntry} {ep : Nat} {more : List (Str × Value)} {f : Value}
theorem merged_one {h₀ : Heap} {L : Addr} {m : Str → Option Value} {news : List (Addr × Obj)} {oo : Obj} {x : Sem Value} {Q : Addr → Shared → Prop} (F : Fr h₀ L s.heap m) (N : News h₀ L s.heap news) (ho : (o, oo) ∈ news) (hc : oo.IsDictOf (PySem.strKind prog w) more) (hoS : (o == sysModules) = false) (hsz : more.length ≤ 0)
    (hx : ∀ (s' : Shared) (Q : Value → Shared → Prop) (E : Value → Shared → Prop), Fr h₀ L s'.heap m → Q (.ref o) s' → wpAny (model prog w) A x Q E s')
    (h : ∀ d h' es' ep', DIs (PySem.strKind prog w) es' more → h'.get? d = some { cls := .type "dict", data := .dict es' ep' } → Fr h₀ L h' m → News h₀ L h' news → Q d { s with heap := h' }) :
    wpAny (model prog w) A (mergedKeywords f [(none, x)]) Q E s := by
  have hlt := Heap.lt_size (N _ ho).1
  unfold mergedKeywords
  refine wpAny_bind (wpAny_alloc ?_)
  refine wpAny_bind (wpAny_holding ?_)
  dsimp only
  refine wpAny_bind ?_
  rw [List.forIn_cons]
  refine wpAny_bind ?_
  dsimp only
  refine wpAny_bind (wpAny_pure ?_)
  have F1 := F.push { cls := .type "dict", data := .dict #[] }
  refine wpAny_bind (hx _ _ _ F1 ?_)
  refine wpAny_bind (wpAny_onRaise (wpAny_holding (wpAny_tryCatch (wpAny_onRaise ?_))))
  have N1 := N.push F { cls := .type "dict", data := .dict #[] }
  have D0 := (isDict_DIs hc).choose_spec.choose_spec.2
  obtain ⟨e1, rfl⟩ := D0.none hsz
  refine merge_kw (s := { s with heap := s.heap.push { cls := .type "dict", data := .dict #[] } }) hoS (Heap.get?_push_size _ rfl) hc.choose_spec.choose_spec.1 (N1 _ (.tail _ ho)).1 (isDict_DIs hc).choose_spec.choose_spec.1 D0 (Nat.le_refl _) ?_
  refine wpAny_pure ?_
  dsimp only
  refine wpAny_pure ?_
  refine wpAny_bind (wpAny_pure ?_)
  refine wpAny_pure (wpAny_pure ?_)
  exact h _ _ #[] 0 (e1 ▸ D0) (Heap.get?_push_size _ rfl) F1 fun p hp => N1 p (.tail _ hp)
/-- what the ** of a dict of texts leaves to be shown -/
noncomputable def StarRest (prog : Program) (w : World) (A : Around) (h₀ : Heap) (L : Addr) (m : Str → Option Value) (env : Env) (x : Expr) (f : Value) (first vs : List Value) (Q : Value → Shared → Prop) (E : Value → Shared → Prop) (s₁ : Shared) : Prop :=
  ∃ o oo more news, Fr h₀ L s₁.heap m ∧ News h₀ L s₁.heap news ∧ (∀ h', Fr h₀ L h' m → News h₀ L h' news → ∃ k, (k = Keeper.frame ∨ k = Keeper.machine ∨ k = Keeper.boundFrame) ∧ Looks (model prog w) h' (keeperOf f) k) ∧ (o, oo) ∈ news ∧ oo.IsDictOf (PySem.strKind prog w) more ∧ (o == sysModules) = false ∧ more.length ≤ 0 ∧
    (∀ (s' : Shared) (Q : Value → Shared → Prop) (E : Value → Shared → Prop), Fr h₀ L s'.heap m → Q (.ref o) s' → wpAny (model prog w) A (eval x env) Q E s') ∧
    ∀ h' tk, Fr h₀ L h' m → News h₀ L h' news → wpAny (model prog w) A (call f (first ++ vs) more) Q E { s₁ with heap := h', toks := tk }
theorem callWith_star {h₀ : Heap} {L : Addr} {m : Str → Option Value} {env : Env} {e x : Expr} {first : List Value} {pos p2 : Pos} {Q : Value → Shared → Prop} (_F : Fr h₀ L s.heap m)
    (h : wpAny (model prog w) A (spliced (backTo pos (starEach [e] env))) (fun vs s₁ => StarRest prog w A h₀ L m env x f first vs Q E s₁) E s) (he : starEach [e] env = [(false, eval e env)] := by rfl) :
    wpAny (model prog w) A (callWith pos f first (backTo pos (starEach [e] env)) (backToKw pos (keywordEach [⟨none, x, p2⟩] env))) Q E s := by
  rw [he] at h ⊢
  unfold callWith evalArgs
  refine wpAny_bind (wpAny_holding ?_)
  refine wpAny_bind (wpAny_mono h (fun vs s₁ hs => ?_) fun _ _ z => z)
  obtain ⟨o, oo, more, news, F, N, hk, ho, hc, hoS, hsz, hx, k⟩ := hs
  refine wpAny_bind (wpAny_pure ?_)
  refine wpAny_holding ?_
  rw [if_neg (by exact Bool.false_ne_true)]
  refine wpAny_bind ?_
  show wpAny _ _ (mergedKeywords f [(none, do let v ← eval x env; standAt pos; pure v)]) _ _ _
  refine merged_one F N ho hc hoS hsz (fun s' Q E F' q => wpAny_bind (hx s' _ _ F' (wpAny_bind (wpAny_standAt (wpAny_pure q))))) fun d h' es' ep' D' hd' F' N' => ?_
  refine wpAny_bind (wpAny_pure ?_)
  refine wpAny_bind (wpAny_holding (keywords_in (s := { s₁ with heap := h' }) hd' rfl D' hsz ?_))
  refine wpAny_pure ?_
  refine wpAny_bind (wpAny_standAt ?_)
  dsimp only
  obtain ⟨kp, hkp, LK⟩ := hk h' F' N'
  refine wpAny_bind (LK.here ?_)
  have fin : wpAny (model prog w) A (call f (first ++ vs) more) (fun r s' => wpAny (model prog w) A (do holding [r] point; pure r) Q E s') E { s₁ with heap := h' } :=
    wpAny_mono (k h' s₁.toks F' N') (fun r s₂ hr => wpAny_bind (wpAny_holding (wpAny_point (wpAny_pure hr)))) fun _ _ x => x
  have hst : ((backTo pos [(false, eval e env)]).any (·.1) || (backToKw pos (keywordEach [⟨none, x, p2⟩] env)).any (·.1.isNone)) = true := rfl
  rw [hst]
  rcases hkp with rfl | rfl | rfl
  · exact wpAny_bind (Calls.wpAny_keep fin)
  · exact wpAny_bind (wpAny_operating fin)
  · exact wpAny_bind (wpAny_operating fin)
theorem methodCall_star {M : Model} {env : Env} {o x : Expr} {name : Str} {apos pos p2 : Pos} {args : List Expr} {Q : Value → Shared → Prop}
    (h : wpAny M A (eval o env) (fun ov s₁ => wpAny M A (getAttr ov name true) (fun v s₂ => wpAny M A (callWith pos v [] (backTo pos (starEach args env)) (backToKw pos (keywordEach [⟨none, x, p2⟩] env))) Q E s₂) E s₁) E s)
    (hf : methodCallForm (args.length + 1) (backTo pos (starEach args env)) (backToKw pos (keywordEach [⟨none, x, p2⟩] env)) = false := by rfl)
    (hb : attributeBase o name env (eval o env) = eval o env := by rfl)
    (he : eval (.Call (.Attribute o name apos) args [⟨none, x, p2⟩] pos) env = (attributeBase o name env (eval o env) >>= fun ov => standAt apos.atName >>= fun _ => methodCall o name apos pos env ov (args.length + 1) (backTo pos (starEach args env)) (backToKw pos (keywordEach [⟨none, x, p2⟩] env))) := by rfl) :
    wpAny M A (eval (.Call (.Attribute o name apos) args [⟨none, x, p2⟩] pos) env) Q E s := by
  rw [he, hb]
  refine wpAny_bind (wpAny_mono h (fun ov s₁ h₁ => wpAny_bind (wpAny_standAt ?_)) fun _ _ z => z)
  unfold methodCall calleeOf methodCallPos
  rw [hf]
  refine wpAny_bind (wpAny_holding (wpAny_bind (wpAny_mono h₁ (fun v s₂ h₂ => wpAny_pure ?_) fun _ _ z => z)))
  exact wpAny_bind (wpAny_pure h₂)
end
end Mine
end
section
open PySem PySem.W PyProof.Rows PyProof.V PySem.Calls PySem.Spec
set_option Elab.async false
set_option maxRecDepth 100000
set_option maxHeartbeats 3000000
namespace Mine
section
variable {prog : Program} {w : World} {A : Around} {E : Value → Shared → Prop} {s : Shared} {K : Frag} {x C L f : Addr} {h₀ : Heap} {m : Str → Option Value} {ox : Obj} {od : Option Obj}
end
end Mine
end
section
open PySem PySem.W PyProof.Rows PyProof.V PySem.Calls PySem.Spec Builtin Builtin.ObjectAttr
set_option compiler.extract_closed false
set_option Elab.async false
set_option maxRecDepth 100000
set_option maxHeartbeats 3000000
namespace Mine
section
variable {prog : Program} {w : World} {A : Around} {E : Value → Shared → Prop} {s : Shared} {h₀ : Heap} {L x dx q vw it d : Addr} {m : Str → Option Value} {news : List (Addr × Obj)} {es : Array DictEntry} {n : Nat} 
  {K : Type} [DecidableEq K] {knd : KeyKind prog w K} {kvs : List (K × Value)} {k : K} {key v : Value} {ep i : Nat} {ok ov : Value}
/-- a tuple's object -/
noncomputable abbrev TupO (o : Obj) : Prop := o.cls = .type "tuple" ∧ ∀ es n, o.data ≠ .dict es n
/-- the state of an iterator over items, told by its object and those beside it -/
noncomputable def ItS (l : List (Addr × Obj)) (d : Addr) (i n ep : Nat) (io : Obj) : Prop :=
  (∃ ok ov, io = itm d i n ep .none false ok ov) ∨ ∃ (a : Addr) (oa : Obj) (f : Bool) (ok ov : Value), io = itm d i n ep (rawInt a) f ok ov ∧ (a, oa) ∈ l ∧ TupO oa
theorem ItS.sub {l l' : List (Addr × Obj)} {d : Addr} {i n ep : Nat} {io : Obj} (h : ItS l d i n ep io) (hs : ∀ p ∈ l, p ∈ l') : ItS l' d i n ep io := by
  rcases h with h | ⟨a, oa, f, ok, ov, e, hm, ht⟩
  · exact .inl h
  · exact .inr ⟨a, oa, f, ok, ov, e, hs _ hm, ht⟩
noncomputable abbrev pairObj (x y : Value) : Obj := { cls := .type "tuple", data := .seq #[x, y] }
end
end Mine
end
section
open PySem PySem.W PyProof.Rows PyProof.V PySem.Calls PySem.Spec Builtin Builtin.ObjectAttr
set_option Elab.async false
set_option maxRecDepth 100000
set_option maxHeartbeats 3000000
namespace Mine
theorem fillD12 : PySem.Challenge.rw_dn0005_11 = PySem.Challenge.rw_dn0005_11 ∧ Mine.hd11.heap_39 = Mine.hd11.heap_39 := by
  k_fill
  exact ⟨rfl, rfl⟩
theorem c_upd (P : Params) : findIn (Mine.hd11.heap_39 P) (.ref 1093) (Str.ofString "update") = some (some (.ref 936)) := by k_is
theorem c_upd_fn (P : Params) : typeIn (Mine.hd11.heap_39 P) (.ref 936) = some (.type "function") := by k_is
section
variable {prog : Program} {w : World} {A : Around} {E : Value → Shared → Prop} {s : Shared} {d o : Addr} {od oo : Obj} {es2 : Array DictEntry} {ep ep2 : Nat} {more : List (Int × Value)}
theorem int_part {es2 : Array DictEntry} (D : DIs (PySem.intKind prog w) es2 more) : ∀ e ∈ es2, ∃ k t, e.key = .int k t := by
  intro e he
  obtain ⟨k, hk, _⟩ := D.keys e he
  obtain ⟨t, ht⟩ := PySem.Value.isInt_shape hk
  exact ⟨k, t, ht⟩
/-- the entries of o laid into the empty object d -/
theorem merge_nil {nm : String} {Q : Unit → Shared → Prop} (hdo : d ≠ o) (hoS : (o == sysModules) = false) (ho : s.heap.get? d = some od) (hd : od.data = .dict #[] ep) (ho2 : s.heap.get? o = some oo) (hd2 : oo.data = .dict es2 ep2) (D2 : DIs (PySem.intKind prog w) es2 more) (hsz : more.length ≤ sizeLine)
    (h : ∀ h' es' ep', DIs (PySem.intKind prog w) es' more → h'.get? d = some { od with data := .dict es' ep' } → Heap.SameBut d s.heap h' → Q () { s with heap := h' }) :
    wpAny (model prog w) A (Builtin.Dict.mergeDict nm d o) Q E s := by
  cases hfew : (decide (es2.size ≤ 8) && es2.all fun e => (keyPart e.key).isSome) with
  | true =>
    refine merge_in (kvs := []) hdo hoS ho hd DIs.nil ho2 hd2 D2 hfew (by simpa using hsz) fun h' es' ep' D' hd' hs' => h h' es' ep' ?_ hd' hs'
    rw [merged_nil_of_nodup more D2.nodup] at D'
    exact D'
  | false =>
    unfold Builtin.Dict.mergeDict
    rw [if_neg (by simpa using hdo)]
    unfold Builtin.Dict.showsAll
    rw [if_neg (by rw [hoS]; exact Bool.false_ne_true)]
    refine wpAny_bind (wpAny_pure ?_)
    refine wpAny_bind (wpAny_dictEntries ho2 hd2 ?_)
    dsimp only
    rw [hfew]
    simp only [Bool.not_false, if_true]
    refine wpAny_bind (wpAny_dictEntries ho hd ?_)
    rw [if_pos (by rfl)]
    unfold Builtin.Dict.entriesForEmpty
    refine wpAny_bind (wpAny_bind (wpAny_dictEntries ho2 hd2 (wpAny_bind ?_)))
    rw [← Array.forIn_toList]
    refine wpAny_forIn_list _ (fun rest _ s' => (∀ e ∈ rest, e ∈ es2.toList) ∧ s' = s) _ ?_ ?_ _ _ ⟨fun _ h => h, rfl⟩
    · rintro e rest b s' ⟨hin, rfl⟩
      obtain ⟨k, t, ht⟩ := int_part D2 e (Array.mem_toList_iff.mp (hin e (.head _)))
      rw [ht]
      refine wpAny_bind (wpAny_pure ?_)
      exact wpAny_pure ⟨fun e' he => hin e' (.tail _ he), rfl⟩
    rintro b s' ⟨_, rfl⟩
    refine wpAny_pure ?_
    have hne : es2.isEmpty = false := by
      cases q : es2.isEmpty with
      | false => rfl
      | true =>
        rw [Array.isEmpty_iff] at q
        subst q
        simp at hfew
    rw [hne]
    simp only [Bool.not_false, if_true]
    obtain ⟨oc, odd, oda, osl⟩ := od
    dsimp only at hd
    subst hd
    exact wpAny_bind (wpAny_updateDictKeysTo ho rfl (wpAny_pure (h _ es2 (ep + 1) D2 (Heap.get?_update_self _ ho rfl) (Heap.SameBut.update ..))) (by rw [D2.size]; exact Nat.le_succ_of_le hsz))
end
section
variable {prog : Program} {w : World} {A : Around} {E : Value → Shared → Prop} {s : Shared} {h₀ : Heap} {L x y dx dy q : Addr} {m : Str → Option Value} {news l : List (Addr × Obj)} {n : Nat}
/-- the bound update of a Counter, with a dict -/
theorem updI_dict {o : Obj} {es2 : Array DictEntry} {n2 : Nat} {more : List (Int × Value)} {Q : Value → Shared → Prop} (Fr0 : Fr h₀ L s.heap m) (X₀ : (Mine.hd11.heap_39 w.params).In h₀) (N : News h₀ L s.heap news) (hm : (x, cnt #[] n dx) ∈ news) (hdx : (dx, dictOf [] 0) ∈ news) (hq : (q, bm "dict.update" x) ∈ news) (hy : (y, o) ∈ news) (hcl : o.cls = .type "dict") (hod : o.data = .dict es2 n2) (D2 : DIs (PySem.intKind prog w) es2 more)
    (hsz : more.length ≤ sizeLine) (hxy : x ≠ y) (hsx : (x == sysModules) = false) (hsy : (y == sysModules) = false)
    (h : ∀ h' es' n' t', DIs (PySem.intKind prog w) es' more → h'.get? x = some (cnt es' n' dx) → Heap.SameBut x s.heap h' → Q .none { s with heap := h', toks := t' }) : wpAny (model prog w) A (call (.ref q) [.ref y] []) Q E s := by
  have X := X₀.keeps Fr0.keep
  have I := inst_cnt N hm hdx
  have hx := (N _ hm).1
  have hqo := (N _ hq).1
  have hyo := (N _ hy).1
  have L1 := looks_subIn (M := model prog w) X (c_nomod _)
  have L2 := looks_typeIn (M := model prog w) X (c_meta _)
  have L3 := looks_subIn (M := model prog w) X (c_noord _)
  obtain ⟨hh, g, d, t, os⟩ := s
  refine wpAny_call (codeAny_of_tree ?_)
  show wpAny _ _ (callAny (.ref q) _) _ _ _
  dsimp only at hqo hx hyo
  refine nd_load hqo ?_
  repeat lk
  obtain ⟨c1, d1, s1, cd, hC⟩ : ∃ c1 d1 s1 cd, hh.get? 1093 = some ⟨c1, d1, .cls cd, s1⟩ := by
    obtain ⟨cd, hc⟩ := Option.isSome_iff_exists.mp (c_clsIn w.params)
    unfold clsIn at hc
    split at hc
    · rename_i ho
      exact ⟨_, _, _, _, X _ _ ho⟩
    · cases hc
  have hfull := full_ne2 (toString cd.qualname.toString)
  refine nd_load hC ?_
  repeat lk
  rw [if_pos hfull]
  repeat lk
  refine ⟨by first | rfl | (with_unfolding_all rfl) | kernel_rfl, codeAny_builtin F.entry_dict_update ?_⟩
  unfold Builtin.«dict.update» Builtin.Dict.selfAndRest Builtin.Dict.updateCommon
  have LY : ∀ M, Looks M hh (typeOf (.ref y)) (.type "dict") := fun M => (Looks.ld (part := none) hyo).andThen (f := fun o => (pure o.cls : Sem Value)) (by rw [hcl]; exact .now)
  have LY1 := LY (model prog w)
  repeat ((fail_if_success (with_reducible show wpAny _ _ (Builtin.Dict.mergeDict _ _ _) _ _ _)); lk)
  refine merge_nil (s := ⟨hh, g, d, t, os⟩) hxy hsy hx rfl hyo hod D2 hsz fun h' es' n' D' hx' hs' => ?_
  repeat lk
  exact h h' es' n' t D' hx' hs'
theorem updI_dict_K {o : Obj} {es2 : Array DictEntry} {n2 : Nat} {more : List (Int × Value)} {Q : Value → Shared → Prop} (l : List (Addr × Obj)) (F : Fr h₀ L s.heap m) (X₀ : (Mine.hd11.heap_39 w.params).In h₀) (N : News h₀ L s.heap news) (hm : (x, cnt #[] n dx) ∈ news) (hdx : (dx, dictOf [] 0) ∈ news) (hq : (q, bm "dict.update" x) ∈ news) (hy : (y, o) ∈ news) (hcl : o.cls = .type "dict") (hod : o.data = .dict es2 n2) (D2 : DIs (PySem.intKind prog w) es2 more)
    (hsz : more.length ≤ sizeLine) (hxy : y ≠ x) (hsx : (x == sysModules) = false) (hsy : (y == sysModules) = false) (hl : ∀ p ∈ l, p ∈ news ∧ p.1 ≠ x)
    (h : ∀ h' es' n' tk, DIs (PySem.intKind prog w) es' more → Fr h₀ L h' m → News h₀ L h' ((x, cnt es' n' dx) :: l) → Q .none { s with heap := h', toks := tk }) : wpAny (model prog w) A (call (.ref q) [.ref y] []) Q E s := by
  have hmx := N _ hm
  refine updI_dict F X₀ N hm hdx hq hy hcl hod D2 hsz (Ne.symm hxy) hsx hsy fun h' es' n' t' D' hx' hs' => h h' es' n' t' D' (F.change hs' hmx.2.1 hmx.2.2) fun p hp => ?_
  rcases List.mem_cons.mp hp with rfl | hp
  · exact ⟨hx', hmx.2⟩
  · have z := hl p hp
    exact ⟨(hs'.2 p.1 z.2).trans (N p z.1).1, (N p z.1).2⟩
end
end Mine
end
section
open PySem PySem.W PyProof.Rows PyProof.V PySem.Calls PySem.Spec Builtin Builtin.ObjectAttr
set_option compiler.extract_closed false
set_option Elab.async false
set_option maxRecDepth 100000
set_option maxHeartbeats 3000000
namespace Mine
theorem fillD13 : PySem.Challenge.rw_dn0005_11 = PySem.Challenge.rw_dn0005_11 ∧ Mine.hd11.heap_39 = Mine.hd11.heap_39 := by
  k_fill
  exact ⟨rfl, rfl⟩
local macro_rules | `(tactic| k_room) => `(tactic| ((try dsimp only [AK]); (have h1000 : recursionLimit = 1000 := rfl); omega))
local macro_rules | `(tactic| walk_at "k le") => `(tactic| (((dsimp only [Around.deeper, Around.in1]; omega))))
local macro_rules | `(tactic| walk_at "call builtin:isinstance") => `(tactic| (k_here; (refine isi_dict_K rfl rfl rfl rfl rfl (by walk_at "k le") (by walk_at "k le") ‹_› ‹_› ‹_› ‹_› ‹_› (by ((repeat (first | assumption | refine List.Mem.tail _ ?_)))) ‹_› ?_; intro h' tk' F' N')))
local macro_rules | `(tactic| walk_at "truthy ref") => `(tactic| (k_here; first
  | (refine cnt_truthy ‹_› ‹_› ‹_› (by k_mem) (by k_mem) ‹_› (by first | assumption | simp) ?_; intro t'; refine halt ?_)
  | (refine dict_truthy_K ‹_› (by k_mem) ‹_› ‹_› (by first | assumption | simp) ?_; intro t'; dsimp only [List.isEmpty])))
local macro_rules | `(tactic| walk_at "getMethod ref") => `(tactic| (k_here; (refine super_upd_K ‹_› ‹_› ‹_› (by k_mem) (by k_mem) (by k_mem) ?_; intro q' h' F' N' l')))
local macro_rules | `(tactic| walk_at "callWith ref") => `(tactic| (k_here; refine callWith_B ‹_› (by k_mem) ?_))
local macro_rules | `(tactic| walk_at "BmAt") => `(tactic| (exact bm_of ‹_› (by k_mem)))
local macro_rules | `(tactic| walk_at "call ref") => `(tactic| (k_here; refine halt ?_))
local macro_rules | `(tactic| walk_at "wpAt") => `(tactic| ((with_reducible show _root_.PySem.wpAt _ _ _ (exec (Stmt.Expr (PySem.Expr.Call (PySem.Expr.Attribute _ _ _) _ _ _) _) _) _ _ _); refine halt ?_))
section
variable {prog : Program} {w : World} {A₀ : Around} {base h₀ : Heap} {outer : List Env} {e0 : Env} {L : Addr} {m mg mb : Str → Option Value} {mean : ExcName → Option Value} {s : Shared} {R : Result → Shared → Prop} {rest : List (Addr × Obj)}
theorem updI_map {l : Nat} (hlv : l ≤ 13) {x dx y : Addr} {oy : Obj} {es2 : Array DictEntry} {n n2 : Nat} {more : List (Int × Value)} (hfile : ((prog.main.file : Str) == Str.ofString "/claim/cut.py") = true) (htop : (prog.main.scope.names.lookup (Str.ofString "super")).isSome = false)
    (hy : (y, oy) ∈ rest) (hcl : oy.cls = .type "dict") (hod : oy.data = .dict es2 n2) (D2 : DIs (PySem.intKind prog w) es2 more) (hsz : more.length ≤ sizeLine) (hsx : (x == sysModules) = false) (hsy : (y == sysModules) = false) (hxr : ∀ p ∈ rest, p.1 ≠ x)
    (B : Below A₀ base outer h₀) (F : Fr h₀ L s.heap m) (X : (Mine.hd11.heap_39 w.params).In h₀) (N : News h₀ L s.heap ((x, cnt #[] n dx) :: (dx, dictOf [] 0) :: rest)) (T : Top vw ls mean mg mb h₀)
    (k : ∀ h' tk es' n', DIs (PySem.intKind prog w) es' more → Fr h₀ L h' m → News h₀ L h' ((x, cnt es' n' dx) :: (dx, dictOf [] 0) :: rest) → R (.ok (.ret .none)) {s with heap := h', toks := tk}) :
    codeAny (model prog w) (AK l (ek e0 L) outer) (.call (.ref 936) ⟨[.ref x, .ref y], []⟩) R s := by
  refine' more_at (ex := []) ?k1 ?k2 ?k3 ?k4 ?k5 ?kA ?kF ?kK ?k6 ?k7 ?k8 ?kX ?kM ?kN ?kR ?kP ?kT ?kB ?_ ?c2 ?c3 ?c4 ?c5
  case kA => exact rfl
  case kF => exact rfl
  case kK => exact rfl
  case k1 => k_asm
  case k2 => k_asm
  case k3 => k_asm
  case k4 => k_asm
  case k5 => k_asm
  case k6 => k_is
  case k7 => k_is
  case k8 => k_room
  case kX => exact rfl
  case kM => exact rfl
  case kN => exact List.nodup_nil
  case kR => exact rfl
  case kP => exact rfl
  case kT => exact fun _ => rfl
  case kB => exact fun _ => locs rfl
  case c5 => decide
  case c2 => exact rfl
  case c3 => exact rfl
  case c4 => exact rfl
  k_whole
  intro D1 o1 g1 L1 h1 tk1 l1 lo1 hs1 FG1 F1 N1 B1 X1 T1
  have hx2 : ∀ {a : Addr}, x < a → a ≠ x := fun h e => Nat.lt_irrefl _ (e ▸ h)
  have hxy : y ≠ x := hxr _ hy
  k_steps
  unfold Halt
  rw [if_neg (show ¬ (((#[] : Array DictEntry).size != 0) = true) by decide)]
  k_steps
  unfold Halt
  ks_step "exec Expr"
  refine ks_wpAt_Expr_any ?_
  refine ks_wpAt_MethodCall ?_
  k_here
  refine ks_node (by k_asm) (by k_asm) (by k_asm) (by k_asm) (by k_is) (by rfl) (by rfl) (inst_cnt (by k_asm) (by k_mem) (by k_mem)) (by k_is) (by rfl) hfile (by k_is) (by k_is) (by k_is) (by k_is) (by decide) (by rfl) (by rfl) (by rfl) (by rfl) htop (by first | boot_by_name | rfl | kernel_rfl) ?_
  intro so' h' F' N' l1'
  k_steps
  unfold Halt
  rename_i q5 h5 F5 N5 l5
  refine updI_dict_K (y := y) ((q5, bm "dict.update" x) :: (so', ks_superObj 1093 x 1093) :: (D1, o1) :: (dx, dictOf [] 0) :: rest) F5 (by k_asm) N5 (by k_mem) (by k_mem) (by k_mem) (by simp [hy]) hcl hod D2 hsz hxy hsx hsy (fun p hp => ?_) ?_
  · simp only [List.mem_cons] at hp
    rcases hp with rfl | rfl | rfl | rfl | hp
    · exact ⟨by k_mem, hx2 (l5 (x, cnt #[] n dx) (by k_mem))⟩
    · exact ⟨by k_mem, hx2 (l1' (x, cnt #[] n dx) (by k_mem))⟩
    · exact ⟨by k_mem, hx2 (l1 (x, cnt #[] n dx) (by k_mem))⟩
    · exact ⟨by k_mem, ne_cls N5 (o := cnt #[] n dx) (by k_mem) (p := (dx, dictOf [] 0)) (by k_mem) (by intro e; cases e)⟩
    · exact ⟨by simp [hp], hxr p hp⟩
  · intro h7 es7 n7 tk7 D7 F7 N7
    k_steps
    refine k _ _ es7 n7 D7 (by assumption) (news_sub (by assumption) fun p hp => ?_)
    revert p; kqd_sub
end
end Mine
end
section
open PySem PySem.W PyProof.Rows PyProof.V PySem.Calls PySem.Spec Builtin Builtin.ObjectAttr
set_option compiler.extract_closed false
set_option Elab.async false
set_option maxRecDepth 100000
set_option maxHeartbeats 3000000
namespace Mine
theorem fillD14 : PySem.Challenge.rw_dn0005_11 = PySem.Challenge.rw_dn0005_11 ∧ Mine.hd11.heap_39 = Mine.hd11.heap_39 := by
  k_fill
  exact ⟨rfl, rfl⟩
section
variable {prog : Program} {w : World} {A : Around} {E : Value → Shared → Prop} {s : Shared} {h₀ : Heap} {L x dx q : Addr} {m : Str → Option Value} {news : List (Addr × Obj)} {es : Array DictEntry} {n : Nat}
theorem init_call {Q : Value → Shared → Prop} (Fr0 : Fr h₀ L s.heap m) (X₀ : (Mine.hd11.heap_39 w.params).In h₀) (N : News h₀ L s.heap news) (hm : (x, cnt es n dx) ∈ news) (hdx : (dx, dictOf [] 0) ∈ news) (hq : (q, mw "dict.__init__" x) ∈ news)
    (h : Q .none s) : wpAny (model prog w) A (call (.ref q) [] []) Q E s := by
  have X := X₀.keeps Fr0.keep
  have I := inst_cnt N hm hdx
  have hx := (N _ hm).1
  have hqo := (N _ hq).1
  have L0 := I.type (M := model prog w)
  have L1 := looks_subIn (M := model prog w) X (c_nomod _)
  have L2 := looks_typeIn (M := model prog w) X (c_meta _)
  have L3 := looks_subIn (M := model prog w) X (c_noord _)
  have L5 : Looks (model prog w) s.heap (isInstance (.ref x) (.type "dict")) true := L0.andThen (looks_subIn X (c_sub _))
  obtain ⟨hh, g, d, t, os⟩ := s
  refine wpAny_call (codeAny_of_tree ?_)
  show wpAny _ _ (callAny (.ref q) _) _ _ _
  dsimp only at hqo hx
  refine nd_load hqo ?_
  repeat lk
  refine ⟨by first | rfl | (with_unfolding_all rfl) | kernel_rfl, codeAny_builtin (entryFor_of_tree (b := Builtin.«dict.__init__») (by kernel_rfl)) ?_⟩
  unfold Builtin.«dict.__init__» Builtin.Dict.selfAndRest Builtin.Dict.updateCommon
  repeat lk
  exact h
noncomputable def WmAt (q x : Addr) (h : Heap) : Prop := h.get? q = some (mw "dict.__init__" x)
theorem keeps_W {M : Model} (h : Heap) (X : WmAt q x h) : ∃ k, (k = Keeper.frame ∨ k = Keeper.machine ∨ k = Keeper.boundFrame) ∧ Looks M h (keeperOf (.ref q)) k :=
  ⟨.machine, .inr (.inl rfl), (Looks.ld (part := none) X).andThen .now⟩
theorem callWith_W {M : Model} {pos : Pos} {env : Env} {Q : Value → Shared → Prop} (N : News h₀ L s.heap news) (hq : (q, mw "dict.__init__" x) ∈ news) (h : wpAny M A (call (.ref q) []) Q E s) :
    wpAny M A (callWith pos (.ref q) [] (backTo pos (starEach [] env)) []) Q E s :=
  callWith_of (P := WmAt q x) rfl keeps_W (evalArgs_nil3 ⟨(N _ hq).1, h⟩)
theorem cnt_meth_K {b : Bool} {fn : Addr} {name : Str} {Q : Value → Shared → Prop} (F : Fr h₀ L s.heap m) (X₀ : (Mine.hd11.heap_39 w.params).In h₀) (N : News h₀ L s.heap news) (hm : (x, cnt es n dx) ∈ news) (hdx : (dx, dictOf [] 0) ∈ news)
    (h1 : findIn (Mine.hd11.heap_39 w.params) (.ref 1093) name = some (some (.ref fn))) (h2 : specialIn (Mine.hd11.heap_39 w.params) (.ref fn) "__get__" = some (some (.builtin "function.__get__"))) (h3 : takesIn (Mine.hd11.heap_39 w.params) (.ref fn) = some false) (h4 : typeIn (Mine.hd11.heap_39 w.params) (.ref fn) = some (.type "function")) (hc : copiedNames.contains name = false)
    (h : ∀ q h', Fr h₀ L h' m → News h₀ L h' ((q, methodObj (.ref fn) (.ref x)) :: news) → (∀ p ∈ news, p.1 < q) → Q (.ref q) { s with heap := h', toks := s.toks + 1 }) :
    wpAny (model prog w) A (getAttr (.ref x) name b) Q E s := by
  have X := X₀.keeps F.keep
  have I := inst_cnt N hm hdx
  refine sub_get_bind X I (c_ga _) (c_gt _) (c_sub _) (findObj_meth (c_has _) h1 h2 h3 hc (by rw [lookIn_dict]; rfl)) ?_
  refine fn_get (s := { s with toks := s.toks + 1 }) X h4 ?_
  show wpAny _ _ (handedOut (.ref _)) _ _ _
  exact wpAny_pure (h _ _ (F.push _) (N.push F _) fun p hp => Heap.lt_size (N p hp).1)
theorem keeps_meth {K : Frag} {fn : Addr} {news : List (Addr × Obj)} (X₀ : K.In h₀) (hf : fnIn K fn = true) (hq : (q, methodObj (.ref fn) (.ref x)) ∈ news) : ∀ h', Fr h₀ L h' m → News h₀ L h' news → ∃ k, (k = Keeper.frame ∨ k = Keeper.machine ∨ k = Keeper.boundFrame) ∧ Looks (model prog w) h' (keeperOf (.ref q)) k :=
  fun h' F' N' => keeps_M hf h' (methP N' hq (X₀.keeps F'.keep))
end
theorem use_code {prog : Program} {w : World} (l : Nat) {A : Around} {env : Env} {outer : List Env} {L : Addr} {c : Code} {R : Result → Shared → Prop} {s : Shared}
    (hA : A.frames = some (env :: outer)) (hf : env.frame = some L) (hk : env.scope.kind = .function) (hh : A.handled = none) (hg : A.guards = some []) (hd : A.depth ≤ 400 + 10 * l) (hu : A.units ≤ 1000 + 100 * l)
    (h : codeAny (model prog w) (AK l (ek env L) outer) c R s) : codeAny (model prog w) A c R s := codeAny_weak hh hd (by rw [hA, ek_eq hf hk]) hg hu h
theorem c_upd_get (P : Params) : specialIn (Mine.hd11.heap_39 P) (.ref 936) "__get__" = some (some (.builtin "function.__get__")) := by k_is
theorem c_upd_takes (P : Params) : takesIn (Mine.hd11.heap_39 P) (.ref 936) = some false := by k_is
theorem c_upd_isfn (P : Params) : fnIn (Mine.hd11.heap_39 P) 936 = true := by k_is

local macro_rules | `(tactic| walk_at "k le") => `(tactic| (((dsimp only [Around.deeper, Around.in1]; omega))))
local macro_rules | `(tactic| walk_at "getMethod ref") => `(tactic| (k_here; ((refine super_init_K ‹_› ‹_› ‹_› (by k_mem) (by k_mem) (by k_mem) ?_; intro q' h' F' N' l'))))
local macro_rules | `(tactic| walk_at "getAttr ref") => `(tactic| (k_here; (refine cnt_meth_K ‹_› ‹_› ‹_› (by k_mem) (by k_mem) (c_upd _) (c_upd_get _) (c_upd_takes _) (c_upd_fn _) (by decide) ?_; intro q' h' F' N' l')))
local macro_rules | `(tactic| walk_at "eval Call Attribute") => `(tactic| (k_here; refine methodCall_star ?_))
local macro_rules | `(tactic| walk_at "callWith ref nil nil") => `(tactic| (k_here; refine callWith_W ‹_› (by k_mem) ?_))
local macro_rules | `(tactic| walk_at "callWith ref") => `(tactic| (k_here; refine callWith_star ‹_› ?_))
local macro_rules | `(tactic| walk_at "call ref") => `(tactic| (k_here; refine init_call ‹_› ‹_› ‹_› (by k_mem) (by k_mem) (by k_mem) ?_))
local macro_rules | `(tactic| walk_at "StarRest") => `(tactic| (refine halt ?_))
local macro_rules | `(tactic| walk_at "wpAt") => `(tactic| ((with_reducible show _root_.PySem.wpAt _ _ _ (exec (Stmt.Expr (PySem.Expr.Call (PySem.Expr.Attribute _ _ _) _ _ _) _) _) _ _ _); refine halt ?_))
theorem c_init (P : Params) : findIn (Mine.hd11.heap_39 P) (.ref 1093) (Str.ofString "__init__") = some (some (.ref 887)) := by k_is
section
variable {prog : Program} {w : World} {A₀ : Around} {base h₀ : Heap} {outer : List Env} {e0 : Env} {L : Addr} {m mg mb : Str → Option Value} {mean : ExcName → Option Value} {s : Shared} {R : Result → Shared → Prop} {rest : List (Addr × Obj)}
theorem W_initI {l : Nat} (hlv : l ≤ 12) {name qual : Str} {params : Arguments} {body : List Stmt} {scope : Scope} {cl : List (Str × Addr)} {dV kV doc pm cdv ct oc : Value} {an od : Option Addr} {osl : Array (Option Value)}
    (ho : (Mine.hd11.heap_39 w.params).lookup 887 = some ⟨oc, od, .func (fnX name qual params body scope cl dV kV doc pm an cdv ct), osl⟩)
    {x dx D1 L1 : Addr} {o1 : Obj} {v : Value} {tk1 : Nat} (Po : Array DictEntry → Prop) {g1 h1 : Heap}
    (hfile : ((prog.main.file : Str) == Str.ofString "/claim/cut.py") = true) (htop : (prog.main.scope.names.lookup (Str.ofString "super")).isSome = false)
    (hsx : (x == sysModules) = false) (hxr : ∀ p ∈ rest, p.1 ≠ x)
    (hex : o1.IsDictOf (PySem.strKind prog w) []) (hsD : (D1 == sysModules) = false)
    (hupd : ∀ {A₀ : Around} {base h₀ : Heap} {outer : List Env} {e0 : Env} {L : Addr} {m mg mb : Str → Option Value} {mean : ExcName → Option Value} {s : Shared} {R : Result → Shared → Prop} {rest' : List (Addr × Obj)} {n : Nat}, (∀ p ∈ rest, p ∈ rest') → (∀ p ∈ rest', p.1 ≠ x) →
      Below A₀ base outer h₀ → Fr h₀ L s.heap m → (Mine.hd11.heap_39 w.params).In h₀ → News h₀ L s.heap ((x, cnt #[] n dx) :: (dx, dictOf [] 0) :: rest') → Top vw ls mean mg mb h₀ →
      (∀ h' tk es' n', Po es' → Fr h₀ L h' m → News h₀ L h' ((x, cnt es' n' dx) :: (dx, dictOf [] 0) :: rest') → R (.ok (.ret .none)) {s with heap := h', toks := tk}) →
      codeAny (model prog w) (AK (l + 1) (ek e0 L) outer) (.call (.ref 936) ⟨[.ref x, v], []⟩) R s)
    (k : ∀ h' tk es' n', Po es' → Fr h₀ L h' m → News h₀ L h' ((x, cnt es' n' dx) :: (dx, dictOf [] 0) :: rest) → R (.ok (.ret .none)) {s with heap := h', toks := tk})
    (B : Below A₀ base outer h₀) (F : Fr h₀ L s.heap m) (X : (Mine.hd11.heap_39 w.params).In h₀) (N : News h₀ L s.heap ((x, cnt #[] 0 dx) :: (dx, dictOf [] 0) :: rest)) (T : Top vw ls mean mg mb h₀)
    (l1 : ∀ p ∈ (x, cnt #[] 0 dx) :: (dx, dictOf [] 0) :: rest, p.1 < D1) (FG1 : Fr h₀ L g1 m) (F1 : Fr g1 L1 h1 (fun z => [(Str.ofString "kwds", Value.ref D1), (Str.ofString "iterable", v), (Str.ofString "self", .ref x)].lookup z))
    (N1 : News g1 L1 h1 ((D1, o1) :: (x, cnt #[] 0 dx) :: (dx, dictOf [] 0) :: rest)) (B1 : Below (AK l (ek e0 L) outer) base (ek e0 L :: outer) g1) (X1 : (Mine.hd11.heap_39 w.params).In g1) (T1 : Top vw ls mean mg mb g1) :
    _root_.PySem.wpAt (model prog w) ((AK l (ek e0 L) outer).deeper (envX qual scope L1 887 cdv cl)) (.func body (envX qual scope L1 887 cdv cl)) (execs body (envX qual scope L1 887 cdv cl))
        (fun fl s' => LeaveK h₀ L m g1 R (match fl with | .ret v => v | _ => .none) s')
        (fun e s' => wpAny (model prog w) ((AK l (ek e0 L) outer).deeper (envX qual scope L1 887 cdv cl)) (leaving (envX qual scope L1 887 cdv cl) e) (fun _ s'' => R (.error e) s'') (fun e' s'' => R (.error e') s'') s')
        { s with heap := h1, toks := tk1 } := by
  have e := ho.symm.trans (by k_is : (Mine.hd11.heap_39 w.params).lookup 887 = some _)
  cases e
  have hx2 : ∀ {a : Addr}, x < a → a ≠ x := fun h e => Nat.lt_irrefl _ (e ▸ h)
  k_steps
  unfold Halt
  ks_step "exec Expr"
  refine ks_wpAt_Expr_any ?_
  refine ks_wpAt_MethodCall ?_
  k_here
  refine ks_node (by k_asm) (by k_asm) (by k_asm) (by k_asm) (by k_is) (by rfl) (by rfl) (inst_cnt (by k_asm) (by k_mem) (by k_mem)) (by k_is) (by rfl) hfile (by k_is) (by k_is) (by k_is) (by k_is) (by decide) (by rfl) (by rfl) (by rfl) (by rfl) htop (by first | boot_by_name | rfl | kernel_rfl) ?_
  intro so' h' F' N' l1'
  k_steps
  unfold Halt
  rename_i q2 h2 F2 N2 l2 q3 h3 F3 N3 l3
  refine ⟨D1, o1, [], _, F3, N3, keeps_meth X1 (c_upd_isfn _) (.head _), by k_mem, hex, hsD, by simp, fun s' Q E F' q => wpAny_Name (wpAny_loadName_local rfl rfl F'.ns rfl q) (by decide), fun h4 tk4 F4 N4 => ?_⟩
  refine call_meth N4 (.head _) ?_
  refine use_code (l + 1) rfl rfl rfl rfl rfl (by walk_at "k le") (by walk_at "k le") (hupd (rest' := (q3, methodObj (.ref 936) (.ref x)) :: (q2, mw "dict.__init__" x) :: (so', ks_superObj 1093 x 1093) :: (D1, o1) :: rest) (n := 0) (fun p hp => by simp [hp]) ?_ B1 F4 X1 (news_sub N4 fun p hp => ?_) T1 ?_)
  · intro p hp
    simp only [List.mem_cons] at hp
    rcases hp with rfl | rfl | rfl | rfl | hp
    · exact hx2 (l3 (x, cnt #[] 0 dx) (by k_mem))
    · exact hx2 (l2 (x, cnt #[] 0 dx) (by k_mem))
    · exact hx2 (l1' (x, cnt #[] 0 dx) (by k_mem))
    · exact hx2 (l1 (x, cnt #[] 0 dx) (by k_mem))
    · exact hxr p hp
  · revert p; kqd_sub
  · intro h9 tk9 es9 n9 D9 F9 N9
    dsimp only
    k_steps
    refine k _ _ es9 n9 D9 (by assumption) (news_sub (by assumption) fun p hp => ?_)
    revert p; kqd_sub
end
end Mine
end
section
open PySem PySem.W PyProof.Rows PyProof.V PySem.Calls PySem.Spec Builtin Builtin.ObjectAttr
set_option compiler.extract_closed false
set_option Elab.async false
set_option maxRecDepth 100000
set_option maxHeartbeats 3000000
namespace Mine
theorem fillD15 : PySem.Challenge.rw_dn0005_11 = PySem.Challenge.rw_dn0005_11 ∧ Mine.hd11.heap_39 = Mine.hd11.heap_39 := by
  k_fill
  exact ⟨rfl, rfl⟩
theorem kind_dn : builtinKind "dict.__new__" = some .builtinFn := by decide +kernel
theorem split_dn : splitId "dict.__new__" = some ("dict", "__new__") := by decide +kernel
noncomputable def badMro : Value → Bool
  | .type n => !["dict", "object", "collections.defaultdict", "collections.OrderedDict"].contains n
  | _ => false
noncomputable def cntMakes (K : Frag) : Bool := match K.lookup 1093 with
  | some ⟨_, _, .cls cd, sl⟩ => (sl.toList[4]?).join == some (.builtin "dict.__new__") && !cd.mro.isEmpty && !cd.hasDel && !cd.mro.any badMro
  | _ => false
theorem c_makes (P : Params) : cntMakes (Mine.hd11.heap_39 P) = true := by kernel_rfl
theorem c_call (P : Params) : specialIn (Mine.hd11.heap_39 P) (.ref 1093) (Str.ofString "__call__") = some (some (.builtin "type.__call__")) := by k_is
theorem c_isty (P : Params) : instIn (Mine.hd11.heap_39 P) (.ref 1093) (.type "type") = some true := by k_is
theorem c_self (P : Params) : subIn (Mine.hd11.heap_39 P) (.ref 1093) (.ref 1093) = some true := by k_is
theorem c_init_fn (P : Params) : typeIn (Mine.hd11.heap_39 P) (.ref 887) = some (.type "function") := by k_is
section
variable {prog : Program} {w : World} {A : Around} {E : Value → Shared → Prop} {s : Shared} {h₀ : Heap} {L : Addr} {m : Str → Option Value} {news : List (Addr × Obj)} {R : Result → Shared → Prop}
theorem cnt_make {rest : List Value} {kw : List (Str × Value)} (F : Fr h₀ L s.heap m) (N : News h₀ L s.heap news) (X₀ : (Mine.hd11.heap_39 w.params).In h₀)
    (h : ∀ x dx h', Fr h₀ L h' m → News h₀ L h' ((x, cnt #[] 0 dx) :: (dx, dictOf [] 0) :: news) → (∀ p ∈ news, p.1 < dx) → dx < x → dx = s.heap.objs.size →
      codeAny (model prog w) (A.under (.builtin "type.__call__" ⟨.ref 1093 :: rest, kw⟩)) (.call (.ref 887) ⟨.ref x :: rest, kw⟩) (InitBack x R) { s with heap := h' }) :
    codeAny (model prog w) A (.call (.ref 1093) ⟨rest, kw⟩) R s := by
  have X := X₀.keeps F.keep
  have L1 := looks_specialIn (M := model prog w) X (c_call _)
  have L2 := looks_instIn (M := model prog w) X (c_isty _)
  obtain ⟨hh, g, d, t, os⟩ := s
  obtain ⟨oc, od, cd, sl, hC, hn, hmro, ha, hd⟩ : ∃ oc od cd sl, hh.get? 1093 = some ⟨oc, od, .cls cd, sl⟩ ∧ (sl.toList[4]?).join = some (.builtin "dict.__new__") ∧ cd.mro.isEmpty = false ∧ cd.hasDel = false ∧ cd.mro.any badMro = false := by
    have := c_makes w.params
    unfold cntMakes at this
    split at this
    · rename_i a b c e hl
      simp only [Bool.and_eq_true, Bool.not_eq_true', beq_iff_eq] at this
      exact ⟨a, b, c, e, X _ _ hl, this.1.1.1, this.1.1.2, this.1.2, this.2⟩
    · cases this
  refine codeAny_of_tree ?_
  show wpAny _ _ (callAny (.ref 1093) _) _ _ _
  refine nd_load hC ?_
  show wpAny _ _ (callAny.viaDunder (.ref 1093) _) _ _ _
  unfold callAny.viaDunder
  repeat lk
  refine ⟨rfl, codeAny_call_builtin_at (Code.quiet_builtin _ (by decide +kernel)) entry_typeCall (check_slot tc_kind tc_split L2 (tc_args _ _ _) ?_)⟩
  unfold Builtin.«type.__call__»
  have hm : Looks (model prog w) hh (mroOf (.ref 1093)) cd.mro := ((Looks.ld (part := none) hC).andThen .now).andThen .now
  repeat (first | simp only [hmro, Bool.false_eq_true, if_false] | ((fail_if_success (with_reducible show wpAny _ _ (Bind.madeBy _) _ _ _)); lk))
  have made : Looks (model prog w) hh (Bind.madeBy (.ref 1093)) (some "dict.__new__") := by
    intro A Q E s k q
    unfold Bind.madeBy
    refine wpAny_bind (hm A _ E s k ?_)
    obtain ⟨c, r, e⟩ : ∃ c r, cd.mro = c :: r := by
      cases q : cd.mro with
      | nil => rw [q] at hmro; cases hmro
      | cons c r => exact ⟨c, r, rfl⟩
    rw [e]
    obtain ⟨h2, g2, d2, t2, os2⟩ := s
    have hC2 : h2.get? 1093 = _ := k _ _ hC
    rw [List.forIn_cons]
    refine wpAny_bind (wpAny_bind (wpAny_bind (wpAny_bind (wpAny_loadPart hC2 (wpAny_pure ?_)))))
    dsimp only
    rw [← Array.getElem?_toList, hn]
    exact wpAny_pure (wpAny_pure (wpAny_pure q))
  refine made.at ?_
  repeat ((fail_if_success (with_reducible show wpAny _ _ (call _ _ _) _ _ _)); lk)
  have L3 := looks_subIn (M := model prog w) X (c_sub _)
  have L4 : Looks (model prog w) hh (isType (.ref 1093)) true := looks_isType X (c_clsIn0 _)
  refine wpAny_call (codeAny_call_builtin (by decide +kernel) (entryFor_of_tree (b := Builtin.«dict.__new__») (by kernel_rfl)) ?_)
  have base : Looks (model prog w) hh (Bind.staticBase (.ref 1093)) (.ref 1093) := by
    intro A Q E s k q
    unfold Bind.staticBase
    refine wpAny_bind (hm A _ E s k ?_)
    obtain ⟨c, r, e⟩ : ∃ c r, cd.mro = c :: r := by
      cases q : cd.mro with
      | nil => rw [q] at hmro; cases hmro
      | cons c r => exact ⟨c, r, rfl⟩
    rw [e, List.forIn_cons]
    exact wpAny_bind (wpAny_bind (wpAny_bind (made A _ E s k (wpAny_pure (wpAny_pure (wpAny_pure q))))))
  unfold checkBuiltinCall
  rw [kind_dn, split_dn]
  dsimp only
  repeat lk
  rw [if_neg (by intro e; have e2 : cd.mro.any badMro = true := e; rw [hd] at e2; cases e2)]
  repeat ((fail_if_success (with_reducible show wpAny _ _ (isInstance _ _ >>= _) _ _ _)); lk)
  refine nd_load (Heap.get?_push_of_some _ (Heap.get?_push_of_some _ hC)) ?_
  have kk : ∀ b o, hh.get? b = some o → ((hh.push { cls := .type "dict", data := .dict #[] }).push (cnt #[] 0 hh.objs.size)).get? b = some o := fun b o e => Heap.get?_push_of_some _ (Heap.get?_push_of_some _ e)
  have NN := (N.push F (dictOf [] 0)).push (F.push _) (cnt #[] 0 hh.objs.size)
  rw [Heap.size_push] at NN
  have FF : Fr h₀ L ((hh.push { cls := .type "dict", data := .dict #[] }).push (cnt #[] 0 hh.objs.size)) m := (F.push _).push _
  have hq := h _ hh.objs.size _ FF NN (fun p hp => Heap.lt_size (N p hp).1) (Nat.lt_succ_self _) rfl
  generalize hh2 : (hh.push { cls := .type "dict", data := .dict #[] }).push (cnt #[] 0 hh.objs.size) = h2 at kk NN FF hq
  rw [Heap.size_push]
  refine nd_pure ?_
  refine wpAny_pure ?_
  rw [ha]
  have hx := (NN _ (.head _)).1
  dsimp only at hx
  have X2 := X₀.keeps FF.keep
  have I2 := inst_cnt NN (.head _) (.tail _ (.head _))
  have T1 := I2.type (M := model prog w)
  have L7 := looks_findIn (M := model prog w) X2 (c_init _)
  have L8 := bind_fn (M := model prog w) X2 (.ref (hh.objs.size + 1)) (c_init_fn _)
  have L9 := looks_subIn (M := model prog w) X2 (c_self _)
  unfold callSpecial? specialOf isInstance
  repeat ((fail_if_success (with_reducible show wpAny _ _ (call (.ref _) _ _) _ _ _)); lk)
  refine wpAny_call (codeAny_mono hq fun r s' z => ?_)
  rcases r with e | (v | _ | _ | _) <;> first | exact z | exact z.elim | skip
  obtain ⟨rfl, z⟩ := z
  repeat lk
  exact z
end
end Mine
end
section
open PySem PySem.W PyProof.Rows PyProof.V PySem.Calls PySem.Spec Builtin Builtin.ObjectAttr
set_option compiler.extract_closed false
set_option Elab.async false
set_option maxRecDepth 100000
set_option maxHeartbeats 3000000
namespace Mine
theorem fillD16 : PySem.Challenge.rw_dn0005_11 = PySem.Challenge.rw_dn0005_11 ∧ Mine.hd11.heap_39 = Mine.hd11.heap_39 := by
  k_fill
  exact ⟨rfl, rfl⟩
local macro_rules | `(tactic| k_room) => `(tactic| ((try dsimp only [AK]); (have h1000 : recursionLimit = 1000 := rfl); omega))
theorem under_tc (A : Around) (r : List Value) (kw : List (Str × Value)) : A.under (.builtin "type.__call__" ⟨.ref 1093 :: r, kw⟩) = { A with depth := A.depth + 1, units := A.units + 1 } := by
  unfold Around.under
  have h1 : (Code.builtin "type.__call__" ⟨.ref 1093 :: r, kw⟩).weight = 1 := rfl
  have h2 : (Code.builtin "type.__call__" ⟨.ref 1093 :: r, kw⟩).envs = [] := rfl
  have h3 : (Code.builtin "type.__call__" ⟨.ref 1093 :: r, kw⟩).guards = [] := rfl
  have h4 : (Code.builtin "type.__call__" ⟨.ref 1093 :: r, kw⟩).cUnits = 1 := rfl
  rw [h1, h2, h3, h4]
  rfl
section
variable {prog : Program} {w : World} {A A₀ : Around} {E : Value → Shared → Prop} {base h₀ : Heap} {outer : List Env} {e0 env : Env} {L : Addr} {m mg mb : Str → Option Value} {mean : ExcName → Option Value} {s : Shared} {R : Result → Shared → Prop} {rest : List (Addr × Obj)}
theorem init_map {l : Nat} (hlv : l ≤ 12) {x dx y : Addr} {oy : Obj} {es2 : Array DictEntry} {n2 : Nat} {more : List (Int × Value)} (hfile : ((prog.main.file : Str) == Str.ofString "/claim/cut.py") = true) (htop : (prog.main.scope.names.lookup (Str.ofString "super")).isSome = false)
    (hy : (y, oy) ∈ rest) (hcl : oy.cls = .type "dict") (hod : oy.data = .dict es2 n2) (D2 : DIs (PySem.intKind prog w) es2 more) (hsz : more.length ≤ sizeLine) (hsx : (x == sysModules) = false) (hsy : (y == sysModules) = false) (hxr : ∀ p ∈ rest, p.1 ≠ x)
    (B : Below A₀ base outer h₀) (F : Fr h₀ L s.heap m) (X : (Mine.hd11.heap_39 w.params).In h₀) (N : News h₀ L s.heap ((x, cnt #[] 0 dx) :: (dx, dictOf [] 0) :: rest)) (T : Top vw ls mean mg mb h₀)
    (k : ∀ h' tk es' n', DIs (PySem.intKind prog w) es' more → Fr h₀ L h' m → News h₀ L h' ((x, cnt es' n' dx) :: (dx, dictOf [] 0) :: rest) → R (.ok (.ret .none)) {s with heap := h', toks := tk}) :
    codeAny (model prog w) (AK l (ek e0 L) outer) (.call (.ref 887) ⟨[.ref x, .ref y], []⟩) R s := by
  refine' more_at (ex := []) ?k1 ?k2 ?k3 ?k4 ?k5 ?kA ?kF ?kK ?k6 ?k7 ?k8 ?kX ?kM ?kN ?kR ?kP ?kT ?kB ?_ ?c2 ?c3 ?c4 ?c5
  case kA => exact rfl
  case kF => exact rfl
  case kK => exact rfl
  case k1 => k_asm
  case k2 => k_asm
  case k3 => k_asm
  case k4 => k_asm
  case k5 => k_asm
  case k6 => k_is
  case k7 => k_is
  case k8 => k_room
  case kX => exact rfl
  case kM => exact rfl
  case kN => exact List.nodup_nil
  case kR => exact rfl
  case kP => exact rfl
  case kT => exact fun _ => rfl
  case kB => exact fun _ => locs rfl
  case c5 => decide
  case c2 => exact rfl
  case c3 => exact rfl
  case c4 => exact rfl
  k_whole
  intro D1 o1 g1 L1 h1 tk1 l1 lo1 hs1 FG1 F1 N1 B1 X1 T1
  exact W_initI hlv (by k_is) (fun es' => DIs (PySem.intKind prog w) es' more) hfile htop hsx hxr hs1 lo1 (fun {A₀ base h₀ outer e0 L m mg mb mean s R rest' n} hsub hxr' B F X N T k => updI_map (by omega) hfile htop (hsub _ hy) hcl hod D2 hsz hsx hsy hxr' B F X N T k) k B F X N T l1 FG1 (fr_fun F1 fun _ => rfl) N1 B1 X1 T1
theorem make_map {y : Addr} {oy : Obj} {es2 : Array DictEntry} {n2 : Nat} {more : List (Int × Value)} {Q : Value → Shared → Prop} (hA : A.frames = some (env :: outer)) (hf : env.frame = some L) (hk : env.scope.kind = .function) (hh : A.handled = none) (hg : A.guards = some []) (hd : A.depth + 1 ≤ 520) (hu : A.units + 1 ≤ 2200)
    (hfile : ((prog.main.file : Str) == Str.ofString "/claim/cut.py") = true) (htop : (prog.main.scope.names.lookup (Str.ofString "super")).isSome = false)
    (hy : (y, oy) ∈ rest) (hcl : oy.cls = .type "dict") (hod : oy.data = .dict es2 n2) (D2 : DIs (PySem.intKind prog w) es2 more) (hsz : more.length ≤ sizeLine) (hsy : (y == sysModules) = false)
    (B : Below A₀ base outer h₀) (F : Fr h₀ L s.heap m) (X : (Mine.hd11.heap_39 w.params).In h₀) (N : News h₀ L s.heap rest) (T : Top vw ls mean mg mb h₀)
    (k : ∀ x dx h' tk es' n', DIs (PySem.intKind prog w) es' more → Fr h₀ L h' m → News h₀ L h' ((x, cnt es' n' dx) :: (dx, dictOf [] 0) :: rest) → (∀ p ∈ rest, p.1 < dx) → dx < x → (x == sysModules) = false → Q (.ref x) {s with heap := h', toks := tk}) :
    wpAny (model prog w) A (call (.ref 1093) [.ref y] []) Q E s := by
  refine wpAny_call (cnt_make F N X fun x dx h' F' N' hl hx hdx => ?_)
  rw [under_tc]
  have hlow : sysModules < dx := by rw [hdx]; exact Nat.lt_trans (modules_low T.nolimit) (Nat.lt_of_le_of_lt F.above F.ns.lt)
  have hsx : (x == sysModules) = false := beq_eq_false_iff_ne.mpr (Nat.ne_of_gt (Nat.lt_trans hlow hx))
  refine use_code 12 (A := { A with depth := A.depth + 1, units := A.units + 1 }) hA hf hk hh hg hd hu (init_map (Nat.le_refl _) hfile htop hy hcl hod D2 hsz hsx hsy (fun p hp => Nat.ne_of_lt (Nat.lt_trans (hl p hp) hx)) B F' X N' T fun h2 tk es' n' D F2 N2 => ⟨rfl, k x dx h2 tk es' n' D F2 N2 hl hx hsx⟩)
end
end Mine
end
section
open PySem PySem.W PyProof.Rows PyProof.V PySem.Calls PySem.Spec
set_option compiler.extract_closed false
set_option Elab.async false
set_option maxRecDepth 100000
set_option maxHeartbeats 3000000
namespace Mine
/-- the order that a stable sort by a key gives -/
noncomputable def lexLt (key : Nat → Int) (a b : Nat) : Prop := key a < key b ∨ (key a = key b ∧ a < b)
theorem lex_tr {a b c : Int} {p q r : Prop} (tr : p → q → r) (h : a < b ∨ a = b ∧ p) (k : b < c ∨ b = c ∧ q) : a < c ∨ a = c ∧ r :=
  h.elim (fun h => k.elim (fun k => .inl (Int.lt_trans h k)) fun k => .inl (k.1 ▸ h)) fun h => k.elim (fun k => .inl (h.1 ▸ k)) fun k => .inr ⟨h.1.trans k.1, tr h.2 k.2⟩
theorem lexLt.trans {key : Nat → Int} {a b c : Nat} (h : lexLt key a b) (k : lexLt key b c) : lexLt key a c := lex_tr Nat.lt_trans h k
theorem get_of {p : Array Nat} {i : Nat} (h : i < p.size) : p[i]? = some (p.getD i 0) := by
  simp [Array.getD, h]
theorem getD_of {p : Array Nat} {i v : Nat} (h : p[i]? = some v) : p.getD i 0 = v := by
  have hi : i < p.size := by
    rcases Nat.lt_or_ge i p.size with h' | h'
    · exact h'
    · rw [Array.getElem?_eq_none h'] at h; cases h
  rw [get_of hi] at h
  exact Option.some.inj h
theorem rev_at {p : Array Nat} {i j : Nat} (hj : j ≤ p.size) (k : Nat) (hk : k < p.size) :
    (kas_rev p i j).getD k 0 = if i ≤ k ∧ k < j then p.getD (i + j - 1 - k) 0 else p.getD k 0 := by
  refine getD_of ?_
  unfold kas_rev
  rw [getElem?_mirror_all hj]
  by_cases c : i ≤ k ∧ k < j
  · rw [if_pos c, if_pos c]; exact get_of (by omega)
  · rw [if_neg c, if_neg c]; exact get_of hk
theorem bubble_at {p : Array Nat} {src d : Nat} (hs : src < p.size) (hd : d ≤ src) (k : Nat) (hk : k < p.size) :
    (bubble p src d).getD k 0 = if k = src - d then p.getD src 0 else if src - d < k ∧ k ≤ src then p.getD (k - 1) 0 else p.getD k 0 := by
  refine getD_of ?_
  rw [getElem?_bubble hs d hd]
  by_cases c : k = src - d
  · rw [if_pos c, if_pos c]; exact get_of hs
  · rw [if_neg c, if_neg c]
    by_cases c2 : src - d < k ∧ k ≤ src
    · rw [if_pos c2, if_pos c2]; exact get_of (by (clear c2 c hd hs; omega))
    · rw [if_neg c2, if_neg c2]; exact get_of hk
/-- the array is a reordering whose places from m on are as they were -/
structure Pre (n : Nat) (p : Array Nat) (m : Nat) : Prop where
  size : p.size = n
  perm : p.toList.Perm (List.range n)
  tail : ∀ i, m ≤ i → i < n → p.getD i 0 = i
  head : ∀ i, i < m → p.getD i 0 < m
noncomputable def Asc (key : Nat → Int) (p : Array Nat) (m : Nat) : Prop := ∀ i j, i < j → j < m → lexLt key (p.getD i 0) (p.getD j 0)
theorem Pre.lt {n m : Nat} {p : Array Nat} (h : Pre n p m) (hm : m ≤ n) {i : Nat} (hi : i < n) : p.getD i 0 < n := by
  rcases Nat.lt_or_ge i m with h1 | h1
  · exact Nat.lt_of_lt_of_le (h.head i h1) hm
  · rw [h.tail i h1 hi]; exact hi
theorem Pre.more {n m : Nat} {p : Array Nat} (h : Pre n p m) (hm : m < n) : Pre n p (m + 1) :=
  ⟨h.size, h.perm, fun i h1 h2 => h.tail i (by exact Nat.le_of_lt ‹_›) h2, fun i h1 => by
    rcases Nat.lt_or_ge i m with h2 | h2
    · exact Nat.lt_succ_of_lt (h.head i h2)
    · have : i = m := by lia
      subst this
      rw [h.tail i (Nat.le_refl _) hm]
      exact h1⟩
theorem Pre.start (n : Nat) : Pre n (List.toArray (List.range n)) 1 where
  size := by simp
  perm := by simp
  tail i _ h := getD_of (by simp [h])
  head i h := by
    have : i = 0 := by lia
    subst this
    rcases Nat.lt_or_ge 0 n with h' | h'
    · rw [getD_of (v := 0) (by simp [h'])]; exact h
    · have : n = 0 := by lia
      subst this
      simp [Array.getD]
theorem Pre.rev {n m i j : Nat} {p : Array Nat} (h : Pre n p m) (hj : j ≤ m) (hm : m ≤ n) : Pre n (kas_rev p i j) m where
  size := (mirror_size _ _ _ _).trans h.size
  perm := ((Array.perm_iff_toList_perm.mp (mirror_perm p i j _))).trans h.perm
  tail k h1 h2 := by
    rw [rev_at (by rw [h.size]; exact Nat.le_trans ‹_› ‹_›) k (by rw [h.size]; exact h2), if_neg (by lia)]
    exact h.tail k h1 h2
  head k h1 := by
    rw [rev_at (by rw [h.size]; exact Nat.le_trans ‹_› ‹_›) k (by rw [h.size]; exact Nat.lt_of_lt_of_le ‹_› ‹_›)]
    split
    · exact h.head _ (by (clear h1 hm h; omega))
    · exact h.head k h1
section
variable {cmp : Nat → Nat → (Bool → Shared → Prop) → Shared → Prop} {s : Shared} {key : Nat → Int} {n : Nat}
noncomputable def Answers (cmp : Nat → Nat → (Bool → Shared → Prop) → Shared → Prop) (s : Shared) (key : Nat → Int) (n : Nat) : Prop := ∀ i j C, i < n → j < n → C (decide (key i < key j)) s → cmp i j C s
theorem asc_wp (hc : Answers cmp s key n) {p : Array Nat} {G : Nat → Shared → Prop} : ∀ (f m : Nat), 1 ≤ m → m + f = n → Pre n p m → Asc key p m →
    (∀ m', m ≤ m' → m' ≤ n → Pre n p m' → Asc key p m' → (m' = n ∨ key (p.getD m' 0) < key (p.getD (m' - 1) 0)) → G m' s) → (kas_asc p f m).kasWp cmp G s
  | 0, m, _, e, P, A, h => h m (Nat.le_refl _) (by lia) P A (.inl ‹_›)
  | f + 1, m, h1, e, P, A, h => by
    have hm : p.getD m 0 = m := P.tail m (Nat.le_refl _) (by lia)
    show cmp (p.getD m 0) (p.getD (m - 1) 0) _ s
    refine hc _ _ _ (P.lt (by lia) (by lia)) (P.lt (by lia) (by lia)) ?_
    by_cases q : key (p.getD m 0) < key (p.getD (m - 1) 0)
    · rw [decide_eq_true q]
      show (KasT.ret m).kasWp cmp G s
      exact h m (Nat.le_refl _) (by lia) P A (.inr q)
    · rw [decide_eq_false q]
      show (kas_asc p f (m + 1)).kasWp cmp G s
      have hl : p.getD (m - 1) 0 < m := P.head _ (by (clear q hm h A P e hc; omega))
      have q2 : lexLt key (p.getD (m - 1) 0) (p.getD m 0) := by unfold lexLt; (clear h A P e h1 hc; omega)
      refine asc_wp hc f (m + 1) (by exact Nat.lt_succ_of_lt ‹_›) (by lia) (P.more (by lia)) (fun i j hij hj => ?_) fun m' a => h m' (by exact Nat.le_of_lt ‹_›)
      rcases Nat.lt_or_ge j m with hj' | hj'
      · exact A i j hij hj'
      · have : j = m := by lia
        subst this
        rcases Nat.lt_or_ge i (j - 1) with hi | hi
        · exact (A i (j - 1) hi (by lia)).trans q2
        · have : i = j - 1 := by lia
          subst this
          exact q2
/-- a falling start whose last run of equal ones still stands as it was -/
structure Desc (key : Nat → Int) (p : Array Nat) (m q : Nat) : Prop where
  le : q + 1 ≤ m
  high : ∀ i j, i < j → j < m - (q + 1) → lexLt key (p.getD j 0) (p.getD i 0)
  over : ∀ i j, i < m - (q + 1) → m - (q + 1) ≤ j → j < m → key (p.getD j 0) < key (p.getD i 0)
  run : ∀ i j, m - (q + 1) ≤ i → i < j → j < m → key (p.getD i 0) = key (p.getD j 0) ∧ p.getD i 0 < p.getD j 0
theorem Desc.turned {p : Array Nat} {m q : Nat} (D : Desc key p m q) (hm : m ≤ p.size) : ∀ i j, i < j → j < m → lexLt key ((kas_rev p (m - (q + 1)) m).getD j 0) ((kas_rev p (m - (q + 1)) m).getD i 0) := by
  intro i j hij hj
  have hle := D.le
  rw [rev_at hm i (by lia), rev_at hm j (by exact Nat.lt_of_lt_of_le ‹_› ‹_›)]
  by_cases h1 : m - (q + 1) ≤ j
  · rw [if_pos (And.intro h1 hj)]
    by_cases h2 : m - (q + 1) ≤ i
    · rw [if_pos (And.intro h2 (Nat.lt_trans hij hj))]
      have := D.run (m - (q + 1) + m - 1 - j) (m - (q + 1) + m - 1 - i) (by (clear h2 h1 hle hij hm D; omega)) (by omega) (by (clear h1 hle hij hm D; omega))
      unfold lexLt
      (clear h2 h1 hle hj hij hm D; omega)
    · rw [if_neg (by lia)]
      exact .inl (D.over i _ (by lia) (by (clear h2 h1 hle hij hm D; omega)) (by (clear h2 hle hij hm D; omega)))
  · rw [if_neg (by lia), if_neg (by lia)]
    exact D.high i j hij (by lia)
theorem Desc.straight {p : Array Nat} {m q : Nat} (D : Desc key p m q) (hq : ¬ q > 0) : ∀ i j, i < j → j < m → lexLt key (p.getD j 0) (p.getD i 0) := by
  intro i j hij hj
  have : q = 0 := by lia
  subst this
  rcases Nat.lt_or_ge j (m - 1) with h | h
  · exact D.high i j hij ‹_›
  · exact .inl (D.over i j (by omega) ‹_› hj)
theorem Desc.of_straight {p : Array Nat} {m : Nat} (h : ∀ i j, i < j → j < m → lexLt key (p.getD j 0) (p.getD i 0)) (hm : 1 ≤ m) (hl : ∀ i, i < m → key (p.getD m 0) < key (p.getD i 0)) : Desc key p (m + 1) 0 where
  le := by exact Nat.lt_succ_of_lt ‹_›
  high i j a b := h i j a ‹_›
  over i j a b c := by
    have : j = m := by lia
    subst this
    exact hl i ‹_›
  run i j a b c := by lia
theorem desc_wp (hc : Answers cmp s key n) {G : Array Nat × Nat × Nat → Shared → Prop} : ∀ (f m q : Nat) (p : Array Nat), m + f = n → Pre n p m → Desc key p m q →
    (∀ p' m' q', m ≤ m' → m' ≤ n → Pre n p' m' → Desc key p' m' q' → G (p', m', q') s) → (kas_desc f p m q).kasWp cmp G s
  | 0, m, q, p, e, P, D, h => h p m q (Nat.le_refl _) (by lia) P D
  | f + 1, m, q, p, e, P, D, h => by
    have hle := D.le
    have hsz : m ≤ p.size := by rw [P.size]; lia
    show cmp (p.getD m 0) (p.getD (m - 1) 0) _ s
    refine hc _ _ _ (P.lt (by lia) (by lia)) (P.lt (by lia) (by (clear hsz hle h D P hc; omega))) ?_
    by_cases c : key (p.getD m 0) < key (p.getD (m - 1) 0)
    · rw [decide_eq_true c]
      have low : ∀ i, i < m → key (p.getD m 0) < key (p.getD i 0) := by
        intro i hi
        rcases Nat.lt_or_ge i (m - (q + 1)) with h1 | h1
        · have := D.over i (m - 1) h1 (by (clear h1 hi c hsz hle h D P e hc; omega)) (by (clear h1 hi c hsz h D P e hc; omega))
          (clear h1 hi hsz hle h D P e hc; omega)
        · rcases Nat.lt_or_ge i (m - 1) with h2 | h2
          · have := D.run i (m - 1) h1 h2 (by (clear h2 h1 hi c hsz h D P e hc; omega))
            (clear h2 h1 hi hsz hle h D P e hc; omega)
          · have : i = m - 1 := by lia
            subst this
            exact c
      show ((if q > 0 then kas_desc f (kas_rev p (m - (q + 1)) m) (m + 1) 0 else kas_desc f p (m + 1) 0)).kasWp cmp G s
      by_cases hq : q > 0
      · rw [if_pos hq]
        have P2 : Pre n (kas_rev p (m - (q + 1)) m) m := P.rev (Nat.le_refl _) (by lia)
        refine desc_wp hc f (m + 1) 0 _ (by lia) (P2.more (by lia)) (Desc.of_straight (D.turned hsz) (by exact Nat.lt_trans ‹_› ‹_›) fun i hi => ?_) fun p' m' q' a => h p' m' q' (by exact Nat.le_of_lt ‹_›)
        rw [rev_at hsz m (by rw [P.size]; lia), if_neg (by lia), rev_at hsz i (by exact Nat.lt_of_lt_of_le ‹_› ‹_›)]
        split
        · exact low _ (by (clear hi P2 hq low c hsz hle h D P e hc; omega))
        · exact low i hi
      · rw [if_neg hq]
        exact desc_wp hc f (m + 1) 0 _ (by lia) (P.more (by lia)) (Desc.of_straight (D.straight hq) (by (clear hq low c hsz h D P e hc; lia)) low) fun p' m' q' a => h p' m' q' (by exact Nat.le_of_lt ‹_›)
    · rw [decide_eq_false c]
      show cmp (p.getD (m - 1) 0) (p.getD m 0) _ s
      refine hc _ _ _ (P.lt (by lia) (by (clear c hsz hle h D P hc; omega))) (P.lt (by lia) (by lia)) ?_
      by_cases d : key (p.getD (m - 1) 0) < key (p.getD m 0)
      · rw [decide_eq_true d]
        exact h p m q (Nat.le_refl _) (by lia) P D
      · rw [decide_eq_false d]
        show (kas_desc f p (m + 1) (q + 1)).kasWp cmp G s
        have em : p.getD m 0 = m := P.tail m (Nat.le_refl _) (by lia)
        have eq : key (p.getD m 0) = key (p.getD (m - 1) 0) := by (clear em hsz hle h D P e hc; omega)
        refine desc_wp hc f (m + 1) (q + 1) p (by lia) (P.more (by lia)) ⟨by lia, fun i j a b => D.high i j a (by lia), fun i j a b c => ?_, fun i j a b c => ?_⟩ fun p' m' q' a => h p' m' q' (by exact Nat.le_of_lt ‹_›)
        · rcases Nat.lt_or_ge j m with h1 | h1
          · exact D.over i j (by lia) (by lia) h1
          · have : j = m := by lia
            subst this
            rw [eq]
            exact D.over i (j - 1) (by lia) (by omega) (by omega)
        · rcases Nat.lt_or_ge j m with h1 | h1
          · exact D.run i j (by lia) b h1
          · have : j = m := by lia
            subst this
            have hl : p.getD i 0 < j := P.head i b
            refine ⟨?_, by omega⟩
            rw [eq]
            rcases Nat.lt_or_ge i (j - 1) with h2 | h2
            · exact (D.run i (j - 1) (by lia) h2 (by omega)).1
            · have : i = j - 1 := by lia
              rw [this]
theorem tail3_wp (hc : Answers cmp s key n) {p : Array Nat} {m : Nat} {G : Nat × Array Nat → Shared → Prop} (hm : 1 ≤ m) (hn : m ≤ n) (P : Pre n p m) (D : ∀ i j, i < j → j < m → lexLt key (p.getD j 0) (p.getD i 0))
    (h : ∀ m' p', 1 ≤ m' → m' ≤ n → Pre n p' m' → Asc key p' m' → G (m', p') s) : (kas_tail3 m n p).kasWp cmp G s := by
  unfold kas_tail3
  rw [KasT.kasWp_bind]
  have hsz : m ≤ p.size := by rw [P.size]; exact hn
  refine asc_wp hc (n - m) m hm (by lia) (P.rev (Nat.le_refl _) hn) (fun i j a b => ?_) fun m' a b P' A' _ => h m' _ (by exact Nat.lt_of_lt_of_le ‹_› ‹_›) b P' A'
  rw [rev_at hsz i (by lia), rev_at hsz j (by exact Nat.lt_of_lt_of_le ‹_› ‹_›), if_pos (by lia), if_pos (by lia)]
  exact D _ _ (by (clear hsz h D P hn hm hc; omega)) (by (clear b a hsz h D P hn hc; omega))
theorem descPart_wp (hc : Answers cmp s key n) {p : Array Nat} {m : Nat} {G : Nat × Array Nat → Shared → Prop} (hn : m + 1 ≤ n) (P : Pre n p (m + 1)) (D : Desc key p (m + 1) 0)
    (h : ∀ m' p', 1 ≤ m' → m' ≤ n → Pre n p' m' → Asc key p' m' → G (m', p') s) : (kas_descPart m n p).kasWp cmp G s := by
  unfold kas_descPart
  rw [KasT.kasWp_bind]
  refine desc_wp hc (n - (m + 1)) (m + 1) 0 p (by omega) P D fun p' m' q' a b P' D' => ?_
  show ((if q' > 0 then kas_tail3 m' n (kas_rev p' (m' - (q' + 1)) m') else kas_tail3 m' n p')).kasWp cmp G s
  by_cases hq : q' > 0
  · rw [if_pos hq]
    exact tail3_wp hc (by (clear hq D' P' b h D P hn hc; lia)) b (P'.rev (Nat.le_refl _) b) (D'.turned (by rw [P'.size]; exact b)) h
  · rw [if_neg hq]
    exact tail3_wp hc (by lia) b P' (D'.straight hq) h
theorem count_wp (hc : Answers cmp s key n) (h1 : 1 ≤ n) {G : Nat × Array Nat → Shared → Prop}
    (h : ∀ m' p', 1 ≤ m' → m' ≤ n → Pre n p' m' → Asc key p' m' → G (m', p') s) : (kas_count n (List.toArray (List.range n))).kasWp cmp G s := by
  unfold kas_count
  rw [KasT.kasWp_bind]
  refine asc_wp hc (n - 1) 1 (Nat.le_refl _) (by lia) (Pre.start n) (fun i j a b => by (clear h h1 hc; omega)) fun m a b P A hor => ?_
  generalize List.toArray (List.range n) = p at P A hor
  by_cases e1 : (m == n) = true
  · rw [if_pos e1]
    exact h m p a b P A
  · rw [if_neg e1]
    have hlt : m < n := by
      have : m ≠ n := fun q => e1 (by rw [q]; exact beq_self_eq_true _)
      lia
    have hless : key (p.getD m 0) < key (p.getD (m - 1) 0) := by
      rcases hor with e | e
      · (clear hlt A P b a h h1 hc; lia)
      · exact e
    have hsz : m ≤ p.size := by rw [P.size]; exact b
    by_cases e2 : m > 1
    · rw [if_pos e2]
      show cmp (p.getD 0 0) (p.getD (m - 1) 0) _ s
      refine hc _ _ _ (P.lt b ‹_›) (P.lt b (by (clear e2 hsz hless hlt e1 hor A P a h hc; omega))) ?_
      by_cases c : key (p.getD 0 0) < key (p.getD (m - 1) 0)
      · rw [decide_eq_true c]
        exact h m p a b P A
      · rw [decide_eq_false c]
        show (kas_descPart m n (kas_rev p 0 m)).kasWp cmp G s
        have same : ∀ i, i < m → key (p.getD i 0) = key (p.getD (m - 1) 0) := by
          intro i hi
          have b1 : key (p.getD 0 0) ≤ key (p.getD i 0) := by
            rcases Nat.eq_zero_or_pos i with e | e
            · rw [e]; exact Int.le_refl _
            · have := A 0 i e hi; unfold lexLt at this; (clear e hi c e2 hsz hless hlt e1 hor A P b a h h1 hc; omega)
          have b2 : key (p.getD i 0) ≤ key (p.getD (m - 1) 0) := by
            rcases Nat.lt_or_ge i (m - 1) with e | e
            · have := A i (m - 1) e (by lia); unfold lexLt at this; (clear e b1 hi c e2 hsz hless hlt e1 hor A P b a h h1 hc; omega)
            · have : i = m - 1 := by lia
              rw [this]; exact Int.le_refl _
          (clear hi e2 hsz hless hlt e1 hor A P b a h h1 hc; omega)
        have P2 : Pre n (kas_rev p 0 m) m := P.rev (Nat.le_refl _) b
        refine descPart_wp hc hlt (P2.more hlt) (Desc.of_straight (fun i j hij hj => ?_) a fun i hi => ?_) h
        · rw [rev_at hsz i (by lia), rev_at hsz j (by exact Nat.lt_of_lt_of_le ‹_› ‹_›), if_pos (by lia), if_pos (by lia)]
          exact A _ _ (by (clear P2 same c e2 hsz hless hlt e1 hor A P b a h h1 hc; omega)) (by (clear hj hij P2 same c e2 hsz hless hlt e1 hor A P b h h1 hc; omega))
        · rw [rev_at hsz m (by rw [P.size]; exact hlt), if_neg (by lia), rev_at hsz i (by exact Nat.lt_of_lt_of_le ‹_› ‹_›), if_pos (by lia), same (0 + m - 1 - i) (by (clear hi P2 same c e2 hsz hless hlt e1 hor A P b h h1 hc; omega))]
          exact hless
    · rw [if_neg e2]
      have : m = 1 := by lia
      subst this
      refine descPart_wp hc hlt (P.more hlt) (Desc.of_straight (fun i j hij hj => by (clear e2 hsz hless hlt e1 hor A P b a h h1 hc; omega)) a fun i hi => ?_) h
      have : i = 0 := by lia
      subst this
      exact hless
theorem place_wp (hc : Answers cmp s key n) {p : Array Nat} {k : Nat} (hk : k < n) (P : Pre n p k) (A : Asc key p k) {G : Nat → Shared → Prop}
    (h : ∀ l, l ≤ k → (∀ i, i < l → key (p.getD i 0) ≤ key (p.getD k 0)) → (∀ i, l ≤ i → i < k → key (p.getD k 0) < key (p.getD i 0)) → G l s) : ∀ (f l r : Nat), l ≤ r → r ≤ k → r - l ≤ f →
      (∀ i, i < l → key (p.getD i 0) ≤ key (p.getD k 0)) → (∀ i, r ≤ i → i < k → key (p.getD k 0) < key (p.getD i 0)) → (kas_place p k f l r).kasWp cmp G s
  | 0, l, r, h1, h2, h3, lo, hi => h l (by exact Nat.le_trans ‹_› ‹_›) lo fun i a b => hi i (by lia) b
  | f + 1, l, r, h1, h2, h3, lo, hi => by
    unfold kas_place
    by_cases e : l ≥ r
    · rw [if_pos e]
      exact h l (by exact Nat.le_trans ‹_› ‹_›) lo fun i a b => hi i (by exact Nat.le_trans ‹_› ‹_›) b
    · rw [if_neg e]
      show cmp (p.getD k 0) (p.getD ((l + r) / 2) 0) _ s
      refine hc _ _ _ (P.lt (by exact Nat.le_of_lt ‹_›) hk) (P.lt (by exact Nat.le_of_lt ‹_›) (by (clear e hi lo h3 h A P hc; lia))) ?_
      by_cases c : key (p.getD k 0) < key (p.getD ((l + r) / 2) 0)
      · rw [decide_eq_true c]
        show (kas_place p k f l ((l + r) / 2)).kasWp cmp G s
        refine place_wp hc hk P A h f l _ (by (clear c e hi lo h3 h2 h A P hk hc; lia)) (by (clear c e hi lo h3 h A P hk hc; lia)) (by (clear c e hi lo h2 h1 h A P hk hc; omega)) lo fun i a b => ?_
        rcases Nat.lt_or_ge ((l + r) / 2) i with q | q
        · have := A _ _ q b
          unfold lexLt at this
          (clear q b a e hi lo h3 h2 h1 h A P hk hc; omega)
        · have : i = (l + r) / 2 := by lia
          rw [this]
          exact c
      · rw [decide_eq_false c]
        show (kas_place p k f ((l + r) / 2 + 1) r).kasWp cmp G s
        refine place_wp hc hk P A h f _ r (by (clear c hi lo h3 h2 h1 h A P hk hc; lia)) h2 (by (clear c e hi lo h2 h1 h A P hk hc; omega)) (fun i a => ?_) hi
        rcases Nat.lt_or_ge i ((l + r) / 2) with q | q
        · have := A _ _ q (by (clear q a c hi lo h3 h1 h A P hk hc; lia) : (l + r) / 2 < k)
          unfold lexLt at this
          (clear q a e hi lo h3 h2 h1 h A P hk hc; omega)
        · have : i = (l + r) / 2 := by lia
          rw [this]
          (clear this q a e hi lo h3 h2 h1 h A P hk hc; omega)
theorem bin_wp (hc : Answers cmp s key n) {G : Array Nat → Shared → Prop} (h : ∀ p, Pre n p n → Asc key p n → G p s) : ∀ (f k : Nat) (p : Array Nat), k + f = n → Pre n p k → Asc key p k → (kas_bin f p k).kasWp cmp G s
  | 0, k, p, e, P, A => by
    have : k = n := by assumption
    subst this
    exact h p P A
  | f + 1, k, p, e, P, A => by
    show ((kas_place p k k 0 k).bind fun l => kas_bin f (bubble p k (k - l)) (k + 1)).kasWp cmp G s
    rw [KasT.kasWp_bind]
    have hk : k < n := by lia
    have hks : k < p.size := by rw [P.size]; exact hk
    have hkk : p.getD k 0 = k := P.tail k (Nat.le_refl _) hk
    refine place_wp hc hk P A (fun l hl lo hi => ?_) k 0 k (Nat.zero_le _) (Nat.le_refl _) (by exact Nat.le_refl _) (fun i a => by exact absurd ‹_ < 0› (Nat.not_lt_zero _)) (fun i a b => by (clear hkk hks hk A P e h hc; omega))
    have hd : k - (k - l) = l := by (clear hi lo hkk hks hk A P e h hc; lia)
    have at_ : ∀ i, i < n → (bubble p k (k - l)).getD i 0 = if i = l then p.getD k 0 else if l < i ∧ i ≤ k then p.getD (i - 1) 0 else p.getD i 0 := fun i hi => by
      rw [bubble_at hks (by omega) i (by rw [P.size]; exact hi), hd]
    refine bin_wp hc h f (k + 1) _ (by lia) ⟨(bubble_size _ _ _).trans P.size, (Array.perm_iff_toList_perm.mp (bubble_perm p k _)).trans P.perm, fun i a b => ?_, fun i a => ?_⟩ fun i j hij hj => ?_
    · rw [at_ i b, if_neg (by lia), if_neg (by lia)]
      exact P.tail i (by exact Nat.le_of_lt ‹_›) b
    · rw [at_ i (by exact Nat.lt_of_lt_of_le ‹_› ‹_›)]
      by_cases c1 : i = l
      · rw [if_pos c1]; (clear c1 a at_ hd hi lo hl hks hk A P e h hc; omega)
      · rw [if_neg c1]
        by_cases c2 : l < i ∧ i ≤ k
        · rw [if_pos c2]
          have := P.head (i - 1) (by lia)
          exact Nat.lt_succ_of_lt ‹_›
        · rw [if_neg c2]
          rcases Nat.lt_or_ge i k with q | q
          · have := P.head i q
            exact Nat.lt_succ_of_lt ‹_›
          · have : i = k := by lia
            rw [this]
            (clear this q c2 c1 a at_ hd hi lo hl hks hk A P e h hc; omega)
    · have less : ∀ i, i < l → lexLt key (p.getD i 0) (p.getD k 0) := fun i a => by
        have b1 := lo i a
        have b2 := P.head i (by exact Nat.lt_of_lt_of_le ‹_› ‹_›)
        unfold lexLt
        (clear a hj hij at_ hd hi lo hl hks hk A P e h hc; omega)
      have more : ∀ i, l ≤ i → i < k → lexLt key (p.getD k 0) (p.getD i 0) := fun i a b => .inl (hi i a b)
      rw [at_ i (by lia), at_ j (by exact Nat.lt_of_lt_of_le ‹_› ‹_›)]
      by_cases h1 : i = l
      · rw [if_pos h1, if_neg (by (clear more less hj at_ hd hi lo hl hkk hks hk A P e h hc; lia)), if_pos (by lia)]
        exact more _ (by lia) (by (clear h1 more less at_ hd hi lo hl hkk hks hk A P e h hc; lia))
      · rw [if_neg h1]
        by_cases h2 : j = l
        · rw [if_pos h2, if_neg (by lia)]
          exact less i (by (clear h1 more less hj at_ hd hi lo hl hkk hks hk A P e h hc; lia))
        · rw [if_neg h2]
          by_cases h3 : l < i ∧ i ≤ k
          · rw [if_pos h3, if_pos (by (clear h2 h1 more less at_ hd hi lo hl hkk hks hk A P e h hc; lia))]
            exact A _ _ (by (clear h2 h1 more less hj at_ hd hi lo hl hkk hks hk A P e h hc; omega)) (by (clear h3 h2 h1 more less at_ hd hi lo hl hkk hks hk A P e h hc; lia))
          · rw [if_neg h3]
            by_cases h4 : l < j ∧ j ≤ k
            · rw [if_pos h4]
              exact A _ _ (by lia) (by lia)
            · rw [if_neg h4]
              exact A _ _ hij (by (clear h3 h1 more less hij at_ hd hi lo hkk hks hk A P e h hc; lia))
/-- the sort is stable: equal keys stay in the order of their places -/
theorem sort_wp (hc : Answers cmp s key n) (h1 : 1 ≤ n) {G : Array Nat → Shared → Prop} (h : ∀ p : Array Nat, p.size = n → p.toList.Perm (List.range n) → Asc key p n → G p s) : (kas_sort n).kasWp cmp G s := by
  unfold kas_sort
  rw [KasT.kasWp_bind]
  refine count_wp hc h1 fun m p a b P A => ?_
  dsimp only
  by_cases c : m < n
  · rw [if_pos c, show max m 1 = m by lia]
    exact bin_wp hc (fun p P A => h p P.size P.perm A) (n - m) m p (by (clear c A P a h h1 hc; lia)) P A
  · rw [if_neg c]
    have : m = n := by lia
    subst this
    exact h p P.size P.perm A
end
end Mine
end
section
open PySem PySem.W PyProof.Rows PyProof.V PySem.Calls PySem.Spec
set_option compiler.extract_closed false
set_option Elab.async false
set_option maxRecDepth 100000
set_option maxHeartbeats 3000000
namespace Mine
/-- a tuple of a count, a place and something -/
noncomputable def TripAt (h : Heap) (v : Value) (k o : Int) (e : Value) : Prop := ∃ a ob n t u, v = .ref a ∧ h.get? a = some ob ∧ ob.cls = .type "tuple" ∧ ob.data = .seq #[.int k t, .int o u, e] n
section
variable {prog : Program} {w : World} {A : Around} {E : Value → Shared → Prop} {s : Shared}
theorem lt_int_any {a b : Int} {t u : Tok} {Q : Value → Shared → Prop} (h : Q (.bool (decide (a < b))) s) : wpAny (model prog w) A (richCompare .Lt (.int a t) (.int b u)) Q E s := wpAny_lt_int h
theorem trip_lt {v v' : Value} {k o k' o' : Int} {e e' : Value} {Q : Value → Shared → Prop} (hu : A.units < cLine) (hv : TripAt s.heap v k o e) (hv' : TripAt s.heap v' k' o' e') (ho : o ≠ o')
    (h : Q (.bool (decide (k < k' ∨ k = k' ∧ o < o'))) s) : wpAny (model prog w) A (richCompare .Lt v v') Q E s := by
  obtain ⟨a, oa, n, t, u, rfl, ha, ca, da⟩ := hv
  obtain ⟨b, ob, n', t', u', rfl, hb, cb, db⟩ := hv'
  have Ta : s.TypeIs (.ref a) "tuple" := ⟨oa, ha, ca⟩
  have Tb : s.TypeIs (.ref b) "tuple" := ⟨ob, hb, cb⟩
  refine wpAny_richCompare_same_room (op := .Lt) Ta Tb F.slot_tuple_lt (wpAny_call_entry F.slot_tuple_lt Ta F.entry_tuple_lt ?_ (F.args_tuple_lt_2 _ _)) hu
  unfold Builtin.«tuple.__lt__»
  refine wpAny_bind (m := slotArgs _ _ _) (wpAny_pure ?_)
  dsimp only
  refine wpAny_bind (wpAny_isInstance Tb isSubtype_tuple_tuple ?_)
  simp only [Bool.not_true, Bool.false_eq_true, if_false]
  refine wpAny_bind (wpAny_tupleItemsOf ha da ?_)
  refine wpAny_bind (wpAny_tupleItemsOf hb db ?_)
  show wpAny _ _ (forIn [(Value.int k t, Value.int k' t'), (Value.int o u, Value.int o' u'), (e, e')] _ _ >>= _) _ _ _
  refine wpAny_bind ?_
  rw [List.forIn_cons]
  refine wpAny_bind (wpAny_bind (wpAny_eqBool_int ?_))
  by_cases hk : k = k'
  · have : (k == k') = true := by simpa using hk
    rw [this]
    simp only [Bool.not_true, Bool.false_eq_true, if_false]
    refine wpAny_pure ?_
    dsimp only
    rw [List.forIn_cons]
    refine wpAny_bind (wpAny_bind (wpAny_eqBool_int ?_))
    have : (o == o') = false := by simpa using ho
    rw [this]
    simp only [Bool.not_false, if_true]
    refine wpAny_bind (wpAny_rule (wpAny_bind (lt_int_any ?_)))
    refine wpAny_bind (wpAny_pure (wpAny_pure ?_))
    dsimp only
    refine wpAny_pure (wpAny_pure ⟨_, rfl, by simp, ?_⟩)
    rw [show decide (o < o') = decide (k < k' ∨ k = k' ∧ o < o') by simp [hk]]
    exact h
  · have : (k == k') = false := by simpa using hk
    rw [this]
    simp only [Bool.not_false, if_true]
    refine wpAny_bind (wpAny_rule (wpAny_bind (lt_int_any ?_)))
    refine wpAny_bind (wpAny_pure (wpAny_pure ?_))
    dsimp only
    refine wpAny_pure (wpAny_pure ⟨_, rfl, by simp, ?_⟩)
    rw [show decide (k < k') = decide (k < k' ∨ k = k' ∧ o < o') by simp [hk]]
    exact h
theorem truth_dropped {b : Bool} {M : Model} {Q : Bool → Shared → Prop} (h : Q b s) : wpAny M A (truthOfDropped (.bool b)) Q E s := wpAny_truthy_bool h
theorem plain_sift : plainId "_heapq.heapify.sift" = true := by decide +kernel
theorem entry_sift : entryFor table "_heapq.heapify.sift" = some Builtin.«_heapq.heapify.sift» := entryFor_of_tree (by kernel_rfl)
end
/-- an item of the heap: the value that stands in the list, its count, its place, what it carries -/
noncomputable abbrev Trip := Value × Int × Int × Value
noncomputable def t0 : Trip := (.none, 0, 0, .none)
noncomputable def tlt (x y : Trip) : Bool := decide (x.2.1 < y.2.1 ∨ x.2.1 = y.2.1 ∧ x.2.2.1 < y.2.2.1)
noncomputable def Trips (h : Heap) (T : Array Trip) : Prop := ∀ t ∈ T.toList, TripAt h t.1 t.2.1 t.2.2.1 t.2.2.2
noncomputable def Dist (T : Array Trip) : Prop := (T.toList.map fun t => t.2.2.1).Nodup
theorem tget {T : Array Trip} {i : Nat} (h : i < T.size) : T[i]? = some (T.getD i t0) := by simp [Array.getD, h]
theorem tgetD {T : Array Trip} {i : Nat} {v : Trip} (h : T[i]? = some v) : T.getD i t0 = v := by
  have hi : i < T.size := by
    rcases Nat.lt_or_ge i T.size with h' | h'
    · exact h'
    · rw [Array.getElem?_eq_none h'] at h; cases h
  rw [tget hi] at h
  exact Option.some.inj h
theorem tmem {T : Array Trip} {i : Nat} (h : i < T.size) : T.getD i t0 ∈ T.toList := by
  have e : T.getD i t0 = T[i] := by simp [Array.getD, h]
  rw [e]
  simp
theorem Dist.ne {T : Array Trip} (h : Dist T) {i j : Nat} (hi : i < T.size) (hj : j < T.size) (hne : i ≠ j) : (T.getD i t0).2.2.1 ≠ (T.getD j t0).2.2.1 := by
  have hp := List.pairwise_iff_getElem.mp h
  have gi : ∀ (k : Nat) (hk : k < T.size), (T.toList.map fun t => t.2.2.1)[k]'(by simpa using hk) = (T.getD k t0).2.2.1 := fun k hk => by simp [Array.getD, hk]
  rcases Nat.lt_or_ge i j with h1 | h1
  · have := hp i j (by simpa using hi) (by simpa using hj) h1
    rw [gi i hi, gi j hj] at this
    exact this
  · have := hp j i (by simpa using hj) (by simpa using hi) (by omega)
    rw [gi i hi, gi j hj] at this
    exact this.symm
theorem swap_at {T : Array Trip} {i j : Nat} (hi : i < T.size) (hj : j < T.size) (k : Nat) (hk : k < T.size) : (T.swapIfInBounds i j).getD k t0 = if k = j then T.getD i t0 else if k = i then T.getD j t0 else T.getD k t0 := by
  refine tgetD ?_
  rw [getElem?_swapIB hi hj]
  by_cases c : j = k
  · rw [if_pos c, if_pos c.symm]; exact tget hi
  · rw [if_neg c, if_neg (Ne.symm c)]
    by_cases c2 : i = k
    · rw [if_pos c2, if_pos c2.symm]; exact tget hj
    · rw [if_neg c2, if_neg (Ne.symm c2)]; exact tget hk
theorem swap_map {T : Array Trip} {i j : Nat} (hi : i < T.size) (hj : j < T.size) :
    (((T.map (·.1)).setIfInBounds i (T.getD j t0).1).setIfInBounds j (T.getD i t0).1) = (T.swapIfInBounds i j).map (·.1) := by
  apply Array.ext_getElem?
  intro k
  rw [Array.getElem?_map, getElem?_swapIB hi hj, Array.getElem?_setIfInBounds, Array.getElem?_setIfInBounds, Array.size_map, Array.size_setIfInBounds, Array.size_map]
  by_cases c : j = k
  · rw [if_pos c, if_pos c, if_pos hj, tget hi]; rfl
  · rw [if_neg c, if_neg c]
    by_cases c2 : i = k
    · rw [if_pos c2, if_pos c2, if_pos hi, tget hj]; rfl
    · rw [if_neg c2, if_neg c2, Array.getElem?_map]
/-- the list object holds the heap -/
structure HAt (h₁ h : Heap) (a : Addr) (n : Nat) (T : Array Trip) : Prop where
  same : Heap.SameBut a h₁ h
  lst : h.get? a = some (listOf (T.map (·.1)) n)
theorem HAt.get {h₁ h : Heap} {a : Addr} {n : Nat} {T : Array Trip} (H : HAt h₁ h a n T) (hT : Trips h₁ T) (h1 : ∃ o, h₁.get? a = some o ∧ o.cls = .type "list") {t : Trip} (ht : t ∈ T.toList) : TripAt h t.1 t.2.1 t.2.2.1 t.2.2.2 := by
  obtain ⟨b, ob, m, t', u, e, g, c, d⟩ := hT t ht
  obtain ⟨o, go, co⟩ := h1
  have hb : b ≠ a := fun q => by
    subst q
    rw [g] at go
    cases go
    rw [c] at co
    exact absurd co (by decide)
  exact ⟨b, ob, m, t', u, e, (H.same.2 b hb).trans g, c, d⟩
theorem at_of {i : Nat} {xs : Array Value} {v : Value} {msg : String} (h : xs[i]? = some v) : (match xs[i]? with | some v => pure v | none => unsupported msg : Sem Value) = pure v := by rw [h]
theorem items_at {T : Array Trip} {i : Nat} (hi : i < T.size) : (T.map (·.1))[i]? = some (T.getD i t0).1 := by rw [Array.getElem?_map, tget hi]; rfl
theorem HAt.put {h₁ h : Heap} {a : Addr} {n : Nat} {T T' : Array Trip} (H : HAt h₁ h a n T) (f : Array Value → Array Value) (hf : f (T.map (·.1)) = T'.map (·.1)) (hs : T'.size = T.size) : HAt h₁ (h.update a (Obj.mapSeq f)) a n T' := by
  refine ⟨H.same.trans (Heap.SameBut.update h a _), ?_⟩
  have g : h.get? a = some (seqObj "list" (T.map (·.1)) n) := H.lst
  have e := get?_update_seq g f
  rw [hf, Array.size_map, Array.size_map, hs, if_pos (by simp)] at e
  exact e
section
variable {prog : Program} {w : World} {A : Around} {E : Value → Shared → Prop} {s : Shared}
noncomputable abbrev hqNext (a : Addr) (result : Value) (P : PySem.Fin → Shared → Prop) (down : Bool) (pos top : Nat) (after : Int) (s : Shared) : Prop :=
  P (.again (.builtin "_heapq.heapify.sift" ⟨[.ref a, .bool false, .bool down, rawInt pos, rawInt top, result, rawInt after], []⟩)) s
set_option hygiene false in
local macro_rules | `(tactic| walk_at "hq swap") => `(tactic| (refine wpAny_bind (wpAny_bind (wpAny_bind (wpAny_seqItems H.lst rfl (wpAny_pure (wpAny_bind (wpAny_of_eq (at_of (items_at (by omega))) (wpAny_bind (wpAny_of_eq (at_of (items_at (by omega))) ?_)))))))); refine wpAny_updateSeq H.lst rfl ?_ (by rw [Array.size_map, PySem.sizeLine_eq]; omega) (by rw [Array.size_setIfInBounds, Array.size_setIfInBounds, Array.size_map, PySem.sizeLine_eq]; omega)))
set_option hygiene false in
local macro_rules | `(tactic| walk_at "hq less") => `(tactic| (refine wpAny_bind (wpAny_bind (wpAny_holding (wpAny_bind (trip_lt hu (H.get hT h0 (tmem (by omega))) (H.get hT h0 (tmem (by omega))) (hD.ne (by omega) (by omega) (by omega)) (truth_dropped (wpAny_bind (wpAny_bind (wpAny_seqItems H.lst rfl (wpAny_pure ?_))))))))); rw [if_neg (by simp)]; refine wpAny_pure ?_))
theorem up_step {h₁ : Heap} {a : Addr} {pos top n : Nat} {result : Value} {after : Int} {P : PySem.Fin → Shared → Prop} {T : Array Trip} (hu : A.units < cLine) (h0 : ∃ o, h₁.get? a = some o ∧ o.cls = .type "list") (H : HAt h₁ s.heap a n T) (hT : Trips h₁ T) (hD : Dist T) (hz : T.size ≤ 1000) (hp : pos < T.size)
    (yes : pos > top → tlt (T.getD pos t0) (T.getD ((pos - 1) / 2) t0) = true → ∀ h', HAt h₁ h' a n (T.swapIfInBounds ((pos - 1) / 2) pos) → hqNext a result P false ((pos - 1) / 2) top after { s with heap := h' })
    (no : (pos > top → tlt (T.getD pos t0) (T.getD ((pos - 1) / 2) t0) = false) → if after < 0 then P (.done (.ret result)) s else hqNext a result P true after.toNat after.toNat (after - 1) s) :
    wpAny (model prog w) A (Builtin.«_heapq.heapify.sift» ⟨[.ref a, .bool false, .bool false, rawInt pos, rawInt top, result, rawInt after], []⟩) P E s := by
  unfold Builtin.«_heapq.heapify.sift»
  dsimp only [rawInt, Int.toNat_natCast]
  refine wpAny_bind (wpAny_bind (wpAny_seqItems H.lst rfl (wpAny_pure ?_)))
  simp only [Bool.false_eq_true, if_false]
  have fin : (pos > top → tlt (T.getD pos t0) (T.getD ((pos - 1) / 2) t0) = false) → ∀ t : Sem PySem.Fin, t = (if after < 0 then ret result else again (.builtin "_heapq.heapify.sift" ⟨[.ref a, .bool false, .bool true, rawInt after.toNat, rawInt after.toNat, result, rawInt (after - 1)], []⟩)) → wpAny (model prog w) A t P E s := by
    rintro q t rfl
    have := no q
    by_cases c : after < 0
    · rw [if_pos c] at this ⊢
      exact wpAny_pure this
    · rw [if_neg c] at this ⊢
      exact wpAny_pure this
  by_cases c : pos > top
  · rw [if_pos c]
    refine wpAny_bind (wpAny_of_eq (at_of (items_at (by omega))) (wpAny_bind (wpAny_of_eq (at_of (items_at (by omega))) ?_)))
    walk_at "hq less"
    by_cases l : tlt (T.getD pos t0) (T.getD ((pos - 1) / 2) t0) = true
    · have l' : decide ((T.getD pos t0).2.1 < (T.getD ((pos - 1) / 2) t0).2.1 ∨ (T.getD pos t0).2.1 = (T.getD ((pos - 1) / 2) t0).2.1 ∧ (T.getD pos t0).2.2.1 < (T.getD ((pos - 1) / 2) t0).2.2.1) = true := l
      rw [if_pos l']
      walk_at "hq swap"
      refine wpAny_pure (yes c l _ (H.put _ ?_ ?_))
      · exact swap_map (by omega) (by omega)
      · exact Array.size_swapIfInBounds
    · have l' : ¬ decide ((T.getD pos t0).2.1 < (T.getD ((pos - 1) / 2) t0).2.1 ∨ (T.getD pos t0).2.1 = (T.getD ((pos - 1) / 2) t0).2.1 ∧ (T.getD pos t0).2.2.1 < (T.getD ((pos - 1) / 2) t0).2.2.1) = true := l
      rw [if_neg l']
      exact fin (fun _ => by simpa using l) _ rfl
  · rw [if_neg c]
    exact fin (fun q => absurd q c) _ rfl
theorem down_step {h₁ : Heap} {a : Addr} {pos top n : Nat} {result : Value} {after : Int} {P : PySem.Fin → Shared → Prop} {T : Array Trip} (hu : A.units < cLine) (h0 : ∃ o, h₁.get? a = some o ∧ o.cls = .type "list") (H : HAt h₁ s.heap a n T) (hT : Trips h₁ T) (hD : Dist T) (hz : T.size ≤ 1000) (hp : pos < T.size)
    (yes : ∀ child, (child = 2 * pos + 1 ∨ child = 2 * pos + 2) → child < T.size → (∀ j, (j = 2 * pos + 1 ∨ j = 2 * pos + 2) → j < T.size → j ≠ child → tlt (T.getD j t0) (T.getD child t0) = false) → ∀ h', HAt h₁ h' a n (T.swapIfInBounds child pos) → hqNext a result P true child top after { s with heap := h' })
    (no : T.size ≤ 2 * pos + 1 → hqNext a result P false pos top after s) :
    wpAny (model prog w) A (Builtin.«_heapq.heapify.sift» ⟨[.ref a, .bool false, .bool true, rawInt pos, rawInt top, result, rawInt after], []⟩) P E s := by
  unfold Builtin.«_heapq.heapify.sift»
  dsimp only [rawInt, Int.toNat_natCast]
  refine wpAny_bind (wpAny_bind (wpAny_seqItems H.lst rfl (wpAny_pure ?_)))
  simp only [Bool.false_eq_true, if_false, if_true, Array.size_map]
  by_cases c : pos < T.size / 2
  · rw [if_pos c]
    by_cases c2 : 2 * pos + 1 + 1 < T.size
    · rw [if_pos c2]
      refine wpAny_bind (wpAny_of_eq (at_of (items_at (by omega))) (wpAny_bind (wpAny_of_eq (at_of (items_at (by omega))) ?_)))
      walk_at "hq less"
      by_cases l : tlt (T.getD (2 * pos + 1) t0) (T.getD (2 * pos + 1 + 1) t0) = true
      · have l' : decide ((T.getD (2 * pos + 1) t0).2.1 < (T.getD (2 * pos + 1 + 1) t0).2.1 ∨ (T.getD (2 * pos + 1) t0).2.1 = (T.getD (2 * pos + 1 + 1) t0).2.1 ∧ (T.getD (2 * pos + 1) t0).2.2.1 < (T.getD (2 * pos + 1 + 1) t0).2.2.1) = true := l
        rw [l', if_neg (by simp)]
        walk_at "hq swap"
        refine wpAny_pure (yes (2 * pos + 1) (.inl rfl) (by omega) (fun j hj hz hne => ?_) _ (H.put _ ?_ ?_))
        · have : j = 2 * pos + 1 + 1 := by omega
          subst this
          unfold tlt at l ⊢
          simp only [decide_eq_true_eq, decide_eq_false_iff_not] at l ⊢
          omega
        · exact swap_map (by omega) (by omega)
        · exact Array.size_swapIfInBounds
      · have l' : decide ((T.getD (2 * pos + 1) t0).2.1 < (T.getD (2 * pos + 1 + 1) t0).2.1 ∨ (T.getD (2 * pos + 1) t0).2.1 = (T.getD (2 * pos + 1 + 1) t0).2.1 ∧ (T.getD (2 * pos + 1) t0).2.2.1 < (T.getD (2 * pos + 1 + 1) t0).2.2.1) = false := by simpa [tlt] using l
        rw [l', if_pos (by simp)]
        walk_at "hq swap"
        refine wpAny_pure (yes (2 * pos + 1 + 1) (.inr rfl) (by omega) (fun j hj hz hne => ?_) _ (H.put _ ?_ ?_))
        · have : j = 2 * pos + 1 := by omega
          subst this
          simpa using l
        · exact swap_map (by omega) (by omega)
        · exact Array.size_swapIfInBounds
    · rw [if_neg c2]
      walk_at "hq swap"
      refine wpAny_pure (yes (2 * pos + 1) (.inl rfl) (by omega) (fun j hj hz hne => by omega) _ (H.put _ ?_ ?_))
      · exact swap_map (by omega) (by omega)
      · exact Array.size_swapIfInBounds
  · rw [if_neg c]
    exact wpAny_pure (no (by omega))
end
end Mine
end
section
open PySem PySem.W PyProof.Rows PyProof.V PySem.Calls PySem.Spec
set_option compiler.extract_closed false
set_option Elab.async false
set_option maxRecDepth 100000
set_option maxHeartbeats 3000000
namespace Mine
noncomputable def tle (x y : Trip) : Prop := tlt y x = false
theorem tle_iff {x y : Trip} : tle x y ↔ (x.2.1 < y.2.1 ∨ x.2.1 = y.2.1 ∧ x.2.2.1 ≤ y.2.2.1) := by
  unfold tle tlt
  rw [decide_eq_false_iff_not]
  constructor
  · intro h
    rcases Int.lt_trichotomy x.2.1 y.2.1 with q | q | q
    · exact .inl q
    · exact .inr ⟨q, Int.not_lt.mp fun r => h (.inr ⟨q.symm, r⟩)⟩
    · exact absurd (.inl q) h
  · rintro (q | ⟨q, r⟩) (u | ⟨u, v⟩)
    · exact Int.lt_asymm q u
    · exact Int.ne_of_gt q u
    · exact Int.ne_of_gt u q
    · exact Int.not_lt.mpr r v
theorem tle.trans {x y z : Trip} (h : tle x y) (k : tle y z) : tle x z := tle_iff.mpr (lex_tr Int.le_trans (tle_iff.mp h) (tle_iff.mp k))
theorem tle.of_lt {x y : Trip} (h : tlt x y = true) : tle x y := by
  unfold tlt at h
  rw [decide_eq_true_eq] at h
  exact tle_iff.mpr (h.imp id fun q => ⟨q.1, Int.le_of_lt q.2⟩)
theorem tle.refl (x : Trip) : tle x x := tle_iff.mpr (.inr ⟨rfl, Int.le_refl _⟩)
noncomputable def child (q j : Nat) : Prop := j = 2 * q + 1 ∨ j = 2 * q + 2
theorem child.par {q j : Nat} (h : child q j) : (j - 1) / 2 = q := by
  rcases h with rfl | rfl
  · exact Nat.mul_div_cancel_left q (Nat.zero_lt_two)
  · exact (Nat.mul_add_div (Nat.zero_lt_two) q 1).trans rfl
theorem child.lt {q j : Nat} (h : child q j) : q < j := by
  have := Nat.le_mul_of_pos_left q (Nat.zero_lt_two)
  rcases h with rfl | rfl
  · exact Nat.lt_succ_of_le this
  · exact Nat.lt_succ_of_lt (Nat.lt_succ_of_le this)
inductive Sub (top : Nat) : Nat → Prop
  | refl : Sub top top
  | down {q j : Nat} (h : Sub top q) (c : child q j) : Sub top j
theorem Sub.le {top p : Nat} (h : Sub top p) : top ≤ p := by
  induction h with
  | refl => exact Nat.le_refl _
  | down _ c ih => exact Nat.le_of_lt (Nat.lt_of_le_of_lt ih c.lt)
theorem Sub.par {top p : Nat} (h : Sub top p) (hne : p ≠ top) : Sub top ((p - 1) / 2) ∧ child ((p - 1) / 2) p := by
  cases h with
  | refl => exact absurd rfl hne
  | down h c => rw [c.par]; exact ⟨h, c⟩
/-- below top every one is at most its children -/
noncomputable def Heaped (top : Nat) (T : Array Trip) : Prop := ∀ q j, top ≤ q → child q j → j < T.size → tle (T.getD q t0) (T.getD j t0)
structure Up (top p : Nat) (T : Array Trip) : Prop where
  sub : Sub top p
  edge : ∀ q j, top ≤ q → child q j → j < T.size → j ≠ p → tle (T.getD q t0) (T.getD j t0)
  over : p ≠ top → ∀ j, child p j → j < T.size → tle (T.getD ((p - 1) / 2) t0) (T.getD j t0)
structure Down (top p : Nat) (T : Array Trip) : Prop where
  sub : Sub top p
  edge : ∀ q j, top ≤ q → child q j → j < T.size → q ≠ p → j ≠ p → tle (T.getD q t0) (T.getD j t0)
  over : p ≠ top → ∀ j, child p j → j < T.size → tle (T.getD ((p - 1) / 2) t0) (T.getD j t0)
theorem Heaped.min {T : Array Trip} (h : Heaped 0 T) : ∀ i, i < T.size → tle (T.getD 0 t0) (T.getD i t0) := by
  intro i
  induction i using Nat.strongRecOn with
  | ind i ih =>
    intro hi
    rcases Nat.eq_zero_or_pos i with e | e
    · subst e; exact .refl _
    · have c : child ((i - 1) / 2) i := by unfold child; (clear hi ih h; lia)
      exact (ih ((i - 1) / 2) (by lia) (by lia)).trans (h _ _ (Nat.zero_le _) c hi)
theorem Up.swapped {top p : Nat} {T : Array Trip} (U : Up top p T) (hp : p < T.size) (hne : p ≠ top) (hl : tlt (T.getD p t0) (T.getD ((p - 1) / 2) t0) = true) : Up top ((p - 1) / 2) (T.swapIfInBounds ((p - 1) / 2) p) := by
  obtain ⟨S, c⟩ := U.sub.par hne
  generalize hr : (p - 1) / 2 = r at *
  have hrp : r < p := c.lt
  have hlt := tle.of_lt hl
  have g : ∀ k, k < T.size → (T.swapIfInBounds r p).getD k t0 = if k = p then T.getD r t0 else if k = r then T.getD p t0 else T.getD k t0 := fun k hk => swap_at (by exact Nat.lt_trans ‹_› ‹_›) hp k hk
  refine ⟨S, fun q j hq hc hj hjr => ?_, fun hrt j hc hj => ?_⟩
  · rw [Array.size_swapIfInBounds] at hj
    have hqj := hc.lt
    rw [g q (by exact Nat.lt_trans ‹_› ‹_›), g j hj]
    by_cases e1 : q = r
    · subst e1
      rw [if_neg (by exact Nat.ne_of_lt ‹_›), if_pos rfl]
      by_cases e2 : j = p
      · rw [if_pos e2]; exact hlt
      · rw [if_neg e2, if_neg hjr]
        exact hlt.trans (U.edge q j hq hc hj e2)
    · by_cases e2 : q = p
      · subst e2
        rw [if_pos rfl, if_neg (by exact Nat.ne_of_gt ‹_›), if_neg hjr]
        have := U.over hne j hc hj
        rw [hr] at this
        exact this
      · have e3 : j ≠ p := fun e => e1 (by rw [← hr, ← e]; exact hc.par.symm)
        rw [if_neg e2, if_neg e1, if_neg e3, if_neg hjr]
        exact U.edge q j hq hc hj e3
  · rw [Array.size_swapIfInBounds] at hj
    obtain ⟨S2, c2⟩ := S.par hrt
    have h1 := c2.lt
    have hrj := hc.lt
    rw [g _ (by lia), g j hj, if_neg (by lia), if_neg (by exact Nat.ne_of_lt ‹_›)]
    have b := U.edge _ r S2.le c2 (by exact Nat.lt_trans ‹_› ‹_›) (by exact Nat.ne_of_lt ‹_›)
    by_cases e2 : j = p
    · rw [if_pos e2]; exact b
    · rw [if_neg e2, if_neg (by exact Nat.ne_of_gt ‹_›)]
      exact b.trans (U.edge r j S.le hc hj e2)
theorem Up.done {top p : Nat} {T : Array Trip} (U : Up top p T) (h : p > top → tlt (T.getD p t0) (T.getD ((p - 1) / 2) t0) = false) : Heaped top T := by
  intro q j hq hc hj
  by_cases e : j = p
  · subst e
    have hlt := hc.lt
    have := h (by exact Nat.lt_of_le_of_lt ‹_› ‹_›)
    rw [hc.par] at this
    exact this
  · exact U.edge q j hq hc hj e
theorem Down.swapped {top p c : Nat} {T : Array Trip} (D : Down top p T) (hc : child p c) (hz : c < T.size) (hbest : ∀ j, child p j → j < T.size → j ≠ c → tlt (T.getD j t0) (T.getD c t0) = false) : Down top c (T.swapIfInBounds c p) := by
  have hpc := hc.lt
  have g : ∀ k, k < T.size → (T.swapIfInBounds c p).getD k t0 = if k = p then T.getD c t0 else if k = c then T.getD p t0 else T.getD k t0 := fun k hk => swap_at hz (by exact Nat.lt_trans ‹_› ‹_›) k hk
  have hle := D.sub.le
  refine ⟨.down D.sub hc, fun q j hq hcj hj hqc hjc => ?_, fun hct j hcj hj => ?_⟩
  · rw [Array.size_swapIfInBounds] at hj
    have hqj := hcj.lt
    rw [g q (by exact Nat.lt_trans ‹_› ‹_›), g j hj]
    by_cases e1 : q = p
    · subst e1
      rw [if_pos rfl, if_neg (by exact Nat.ne_of_gt ‹_›), if_neg hjc]
      exact hbest j hcj hj hjc
    · rw [if_neg e1, if_neg hqc]
      by_cases e2 : j = p
      · rw [if_pos e2]
        subst e2
        have := D.over (by (clear e1 hle g hpc hbest hc D hjc hqc hj hcj hz; lia)) c hc hz
        rw [hcj.par] at this
        exact this
      · rw [if_neg e2, if_neg hjc]
        exact D.edge q j hq hcj hj e1 e2
  · rw [Array.size_swapIfInBounds] at hj
    have hcj' := hcj.lt
    rw [hc.par, g p (by exact Nat.lt_trans ‹_› ‹_›), g j hj, if_pos rfl, if_neg (by lia), if_neg (by exact Nat.ne_of_gt ‹_›)]
    exact D.edge c j (by lia) hcj hj (by exact Nat.ne_of_gt ‹_›) (by lia)
theorem Down.leaf {top p : Nat} {T : Array Trip} (D : Down top p T) (h : T.size ≤ 2 * p + 1) : Up top p T :=
  ⟨D.sub, fun q j hq hc hj hne => D.edge q j hq hc hj (fun e => by subst e; unfold child at hc; lia) hne, D.over⟩
theorem Heaped.down {t : Nat} {T : Array Trip} (h : Heaped (t + 1) T) : Down t t T :=
  ⟨.refl, fun q j hq hc hj hne _ => h q j (by lia) hc hj, fun e => absurd rfl e⟩
theorem Trips.swap {h : Heap} {T : Array Trip} {i j : Nat} (H : Trips h T) : Trips h (T.swapIfInBounds i j) := fun t ht => H t ((Array.perm_iff_toList_perm.mp (swapIB_perm T i j)).mem_iff.mp ht)
theorem Trips.perm {h : Heap} {T T' : Array Trip} (p : T'.toList.Perm T.toList) (H : Trips h T) : Trips h T' := fun t ht => H t (p.mem_iff.mp ht)
theorem Dist.perm {T T' : Array Trip} (p : T'.toList.Perm T.toList) (H : Dist T) : Dist T' := ((p.map _).nodup_iff).mpr H
theorem Dist.swap {T : Array Trip} {i j : Nat} (H : Dist T) : Dist (T.swapIfInBounds i j) := H.perm (Array.perm_iff_toList_perm.mp (swapIB_perm T i j))
section
variable {prog : Program} {w : World} {A : Around} {s : Shared} {h₁ : Heap} {a : Addr} {n : Nat} {result : Value} {R : Result → Shared → Prop}
noncomputable abbrev hqCode (a : Addr) (result : Value) (down : Bool) (pos top : Nat) (after : Int) : Code := .builtin "_heapq.heapify.sift" ⟨[.ref a, .bool false, .bool down, rawInt pos, rawInt top, result, rawInt after], []⟩
noncomputable def HqDone (prog : Program) (w : World) (A : Around) (a : Addr) (result : Value) (R : Result → Shared → Prop) (after : Int) (s : Shared) : Prop :=
  if after < 0 then R (.ok (.ret result)) s else codeAny (model prog w) A (hqCode a result true after.toNat after.toNat (after - 1)) R s
theorem hq_go {pos top : Nat} {down : Bool} {after : Int} (h : codeAny (model prog w) A (hqCode a result down pos top after) R s) :
    hqNext a result (fun fin s' => match fin with | .done f => R (.ok f) s' | .again c' => c'.quiet = true ∧ codeAny (model prog w) A c' R s') down pos top after s := ⟨plainId_quiet plain_sift _, h⟩
theorem up_wp (hu : A.in1.units < cLine) (h0 : ∃ o, h₁.get? a = some o ∧ o.cls = .type "list") {top : Nat} {after : Int} : ∀ (pos : Nat) (T : Array Trip) (h : Heap), HAt h₁ h a n T → Trips h₁ T → Dist T → T.size ≤ 1000 → pos < T.size → Up top pos T →
    (∀ h' T', HAt h₁ h' a n T' → T'.toList.Perm T.toList → Heaped top T' → HqDone prog w A a result R after { s with heap := h' }) → codeAny (model prog w) A (hqCode a result false pos top after) R { s with heap := h } := by
  intro pos
  induction pos using Nat.strongRecOn with
  | ind pos ih =>
    intro T h H hT hD hz hp U k
    refine codeAny_builtin entry_sift ?_
    rw [Around.under_plainId plain_sift _]
    refine up_step (s := { s with heap := h }) hu h0 H hT hD hz hp (fun hgt hl h' H' => ?_) (fun hno => ?_)
    · refine hq_go (ih _ (by (clear H' hl k U hp hz hD hT H ih h0 hu; lia)) _ h' H' hT.swap hD.swap (by rw [Array.size_swapIfInBounds]; exact hz) (by rw [Array.size_swapIfInBounds]; (clear H' hl hgt k U hz hD hT H ih h0 hu; omega)) (U.swapped hp (by exact Nat.ne_of_gt ‹_›) hl) fun h2 T2 H2 p2 hh => k h2 T2 H2 (p2.trans (Array.perm_iff_toList_perm.mp (swapIB_perm _ _ _))) hh)
    · have := k h T H (List.Perm.refl _) (U.done hno)
      unfold HqDone at this
      split
      · rename_i c; rw [if_pos c] at this; exact this
      · rename_i c; rw [if_neg c] at this; exact hq_go this
theorem down_wp (hu : A.in1.units < cLine) (h0 : ∃ o, h₁.get? a = some o ∧ o.cls = .type "list") {top : Nat} {after : Int} : ∀ (f pos : Nat) (T : Array Trip) (h : Heap), T.size - pos ≤ f → HAt h₁ h a n T → Trips h₁ T → Dist T → T.size ≤ 1000 → pos < T.size → Down top pos T →
    (∀ h' T', HAt h₁ h' a n T' → T'.toList.Perm T.toList → Heaped top T' → HqDone prog w A a result R after { s with heap := h' }) → codeAny (model prog w) A (hqCode a result true pos top after) R { s with heap := h }
  | 0, pos, T, h, hf, _, _, _, _, hp, _, _ => by (clear h0 hu; omega)
  | f + 1, pos, T, h, hf, H, hT, hD, hz, hp, D, k => by
    refine codeAny_builtin entry_sift ?_
    rw [Around.under_plainId plain_sift _]
    refine down_step (s := { s with heap := h }) hu h0 H hT hD hz hp (fun c hc hcz hb h' H' => ?_) (fun hno => ?_)
    · have hlt : pos < c := child.lt hc
      exact hq_go (down_wp hu h0 f c _ h' (by rw [Array.size_swapIfInBounds]; (clear hlt H' hb hcz k D hp hz hD hT H h0 hu; omega)) H' hT.swap hD.swap (by rw [Array.size_swapIfInBounds]; exact hz) (by rw [Array.size_swapIfInBounds]; assumption) (D.swapped hc hcz hb) fun h2 T2 H2 p2 hh => k h2 T2 H2 (p2.trans (Array.perm_iff_toList_perm.mp (swapIB_perm _ _ _))) hh)
    · exact hq_go (up_wp hu h0 pos T h H hT hD hz hp (D.leaf hno) k)
theorem heapify_wp (hu : A.in1.units < cLine) (h0 : ∃ o, h₁.get? a = some o ∧ o.cls = .type "list") : ∀ (t : Nat) (T : Array Trip) (h : Heap), HAt h₁ h a n T → Trips h₁ T → Dist T → T.size ≤ 1000 → t ≤ T.size → Heaped t T →
    (∀ h' T', HAt h₁ h' a n T' → T'.toList.Perm T.toList → Heaped 0 T' → R (.ok (.ret result)) { s with heap := h' }) → HqDone prog w A a result R ((t : Int) - 1) { s with heap := h }
  | 0, T, h, H, hT, hD, hz, hp, hh, k => by
    unfold HqDone
    rw [if_pos (by decide)]
    exact k h T H (List.Perm.refl _) hh
  | t + 1, T, h, H, hT, hD, hz, hp, hh, k => by
    unfold HqDone
    rw [if_neg (by (clear k hh hp hz hD hT H h0 hu; lia))]
    have e : (((t + 1 : Nat) : Int) - 1).toNat = t := by (clear k hh hp hz hD hT H h0 hu; lia)
    rw [e, show (((t + 1 : Nat) : Int) - 1) - 1 = (t : Int) - 1 by lia]
    exact down_wp hu h0 (T.size - t) t T h (Nat.le_refl _) H hT hD hz ‹_› hh.down fun h2 T2 H2 p2 hh2 => heapify_wp hu h0 t T2 h2 H2 (hT.perm p2) (hD.perm p2) (by have := p2.length_eq; simp at this; lia) (by have := p2.length_eq; simp at this; lia) hh2 fun h3 T3 H3 p3 hh3 => k h3 T3 H3 (p3.trans p2) hh3
end
end Mine
end
section
open PySem PySem.W PyProof.Rows PyProof.V PySem.Calls PySem.Spec
set_option compiler.extract_closed false
set_option Elab.async false
set_option maxRecDepth 100000
set_option maxHeartbeats 3000000
namespace Mine
theorem entry_heapify : entryFor table "_heapq.heapify" = some Builtin.«_heapq.heapify» := entryFor_of_tree (by kernel_rfl)
theorem entry_heapreplace : entryFor table "_heapq.heapreplace" = some Builtin.«_heapq.heapreplace» := entryFor_of_tree (by kernel_rfl)
theorem args_heapify (a : Value) : argsOk "_heapq.heapify" ⟨[a], []⟩ := by unfold argsOk; kernel_rfl
theorem args_heapreplace (a b : Value) : argsOk "_heapq.heapreplace" ⟨[a, b], []⟩ := by unfold argsOk; kernel_rfl
theorem is_list_list : isSubtype (.type "list") (.type "list") = pure true := by rw [isSubtype_type]; kernel_rfl
section
variable {prog : Program} {w : World} {A : Around} {E : Value → Shared → Prop} {s : Shared} {a : Addr} {n : Nat} {T : Array Trip}
theorem HAt.start {h : Heap} (hl : h.get? a = some (listOf (T.map (·.1)) n)) : HAt h h a n T := ⟨Heap.SameBut.refl _ _, hl⟩
theorem call_heapify {Q : Value → Shared → Prop} (hu : A.in1.units < cLine) (hl : s.heap.get? a = some (listOf (T.map (·.1)) n)) (hT : Trips s.heap T) (hD : Dist T) (hz : T.size ≤ 1000)
    (h : ∀ h' T', HAt s.heap h' a n T' → T'.toList.Perm T.toList → Heaped 0 T' → Q .none { s with heap := h' }) : wpAny (model prog w) A (call (.builtin "_heapq.heapify") [.ref a]) Q E s := by
  refine call_function_tree (by decide +kernel) (by decide +kernel) entry_heapify (args_heapify _) ?_
  have Ta : s.TypeIs (.ref a) "list" := ⟨_, hl, rfl⟩
  unfold Builtin.«_heapq.heapify»
  refine wpAny_bind (wpAny_bind (wpAny_of_eq (a := Value.ref a) (by first | rfl | kernel_rfl) ?_))
  refine wpAny_bind (wpAny_bind (wpAny_isInstance Ta is_list_list ?_))
  rw [if_pos rfl]
  refine wpAny_pure ?_
  refine wpAny_pure ?_
  dsimp only
  refine wpAny_bind (wpAny_bind (wpAny_seqItems hl rfl (wpAny_pure ?_)))
  try dsimp only
  rw [Array.size_map, if_neg (by lia)]
  have hperm : ∀ {h' T'}, HAt s.heap h' a n T' → T'.toList.Perm T.toList → Heaped 0 T' → Q .none { s with heap := h' } := fun {h' T'} => h h' T'
  by_cases c : T.size < 2
  · rw [if_pos c]
    exact wpAny_pure (h _ T (HAt.start hl) (List.Perm.refl _) fun q j _ hc hj => by have := hc.lt; lia)
  · rw [if_neg c]
    refine wpAny_pure ?_
    have hd := heapify_wp (prog := prog) (w := w) (A := A) (s := s) (result := Value.none) (R := fun r s' => match r with | .ok (.ret v) => Q v s' | .ok _ => False | .error e => E e s') hu ⟨_, hl, rfl⟩ (T.size / 2) T s.heap (HAt.start hl) hT hD hz (by (clear c hperm Ta h hz hD hT hl hu; lia)) (fun q j hq hc hj => by unfold child at hc; lia) fun h' T' H' p hh => h h' T' H' p hh
    unfold HqDone at hd
    rw [if_neg (by lia)] at hd
    have e1 : (((T.size / 2 : Nat) : Int) - 1).toNat = T.size / 2 - 1 := by (clear hd c hperm Ta h hz hD hT hl hu; lia)
    have e2 : (((T.size / 2 : Nat) : Int) - 1) - 1 = ((T.size / 2 : Nat) : Int) - 2 := by lia
    rw [e1, e2] at hd
    exact ⟨plainId_quiet plain_sift _, hd⟩
theorem call_heapreplace {v : Value} {k o : Int} {e : Value} {Q : Value → Shared → Prop} (hu : A.in1.units < cLine) (hl : s.heap.get? a = some (listOf (T.map (·.1)) n)) (hT : Trips s.heap T) (hv : TripAt s.heap v k o e) (hD : Dist T) (ho : ∀ t ∈ T.toList, t.2.2.1 ≠ o) (hz : T.size ≤ 1000) (hp : 0 < T.size) (hh : Heaped 0 T)
    (h : ∀ h' T', HAt s.heap h' a n T' → T'.toList.Perm ((v, k, o, e) :: T.toList.tail) → Heaped 0 T' → Q (T.getD 0 t0).1 { s with heap := h' }) : wpAny (model prog w) A (call (.builtin "_heapq.heapreplace") [.ref a, v]) Q E s := by
  refine call_function_tree (by decide +kernel) (by decide +kernel) entry_heapreplace (args_heapreplace _ _) ?_
  have Ta : s.TypeIs (.ref a) "list" := ⟨_, hl, rfl⟩
  unfold Builtin.«_heapq.heapreplace»
  refine wpAny_bind (wpAny_bind (m := noKeywords _ _) (wpAny_pure (wpAny_bind (m := checkCount _ _ _ _) (wpAny_pure ?_))))
  refine wpAny_bind (wpAny_bind (wpAny_isInstance Ta is_list_list ?_))
  rw [if_pos rfl]
  refine wpAny_pure ?_
  refine wpAny_pure ?_
  dsimp only
  refine wpAny_bind (wpAny_bind (wpAny_seqItems hl rfl (wpAny_pure ?_)))
  rw [items_at hp]
  dsimp only
  refine wpAny_bind (wpAny_updateSeq hl rfl ?_ (by rw [Array.size_map, PySem.sizeLine_eq]; exact Nat.le_trans ‹_› (by decide)) (by rw [Array.size_setIfInBounds, Array.size_map, PySem.sizeLine_eq]; exact Nat.le_trans ‹_› (by decide)))
  refine wpAny_pure ?_
  have hset : ((T.map (·.1)).setIfInBounds 0 v) = (T.setIfInBounds 0 (v, k, o, e)).map (·.1) := by
    apply Array.ext_getElem?
    intro i
    rw [Array.getElem?_map, Array.getElem?_setIfInBounds, Array.getElem?_setIfInBounds, Array.size_map, Array.getElem?_map]
    by_cases c : 0 = i
    · rw [if_pos c, if_pos c, if_pos hp, if_pos hp]; rfl
    · rw [if_neg c, if_neg c]
  have H2 : HAt s.heap (s.heap.update a (Obj.mapSeq fun xs => xs.setIfInBounds 0 v)) a n (T.setIfInBounds 0 (v, k, o, e)) := (HAt.start hl).put _ hset Array.size_setIfInBounds
  have hperm : (T.setIfInBounds 0 (v, k, o, e)).toList = (v, k, o, e) :: T.toList.tail := by
    obtain ⟨l⟩ := T
    cases l with
    | nil => simp at hp
    | cons x r => simp
  have hne : ∀ i, 0 < i → i < T.size → (T.setIfInBounds 0 (v, k, o, e)).getD i t0 = T.getD i t0 := fun i h1 h2 => by
    refine tgetD ?_
    rw [Array.getElem?_setIfInBounds, if_neg (by exact Nat.ne_of_lt ‹_›)]
    exact tget h2
  have hT2 : Trips s.heap (T.setIfInBounds 0 (v, k, o, e)) := fun t ht => by
    rw [hperm] at ht
    rcases List.mem_cons.mp ht with rfl | ht
    · exact hv
    · exact hT t (List.mem_of_mem_tail ht)
  have hD2 : Dist (T.setIfInBounds 0 (v, k, o, e)) := by
    unfold Dist at hD ⊢
    rw [hperm]
    obtain ⟨l⟩ := T
    cases l with
    | nil => simp at hp
    | cons x r =>
      obtain ⟨d1, d2⟩ := List.nodup_cons.mp (show (x.2.2.1 :: r.map fun t => t.2.2.1).Nodup from hD)
      refine List.nodup_cons.mpr ⟨fun q => ?_, d2⟩
      obtain ⟨t, ht, et⟩ := List.mem_map.mp q
      exact ho t (.tail _ ht) et
  have hdn : Down 0 0 (T.setIfInBounds 0 (v, k, o, e)) := by
    refine ⟨.refl, fun q j _ hc hj hq hj0 => ?_, fun e => absurd rfl e⟩
    rw [Array.size_setIfInBounds] at hj
    have := hc.lt
    rw [hne q (by exact Nat.pos_of_ne_zero ‹_›) (by exact Nat.lt_trans ‹_› ‹_›), hne j (by exact Nat.pos_of_ne_zero ‹_›) hj]
    exact hh q j (Nat.zero_le _) hc hj
  refine ⟨plainId_quiet plain_sift _, down_wp (prog := prog) (w := w) (A := A) (s := s) (h₁ := s.heap) (n := n) hu ⟨_, hl, rfl⟩ _ 0 _ _ (Nat.le_refl _) H2 hT2 hD2 (by rw [Array.size_setIfInBounds]; exact hz) (by rw [Array.size_setIfInBounds]; exact hp) hdn fun h' T' H' p hh' => ?_⟩
  unfold HqDone
  rw [if_pos (by decide)]
  exact h h' T' H' (by rw [← hperm]; exact p) hh'
end
end Mine
end
section
open PySem PySem.W PyProof.Rows PyProof.V PySem.Calls PySem.Spec
set_option compiler.extract_closed false
set_option Elab.async false
set_option maxRecDepth 100000
set_option maxHeartbeats 3000000
namespace Mine
/-- the greater count first; of equal ones the one that came first -/
noncomputable def before (c : Nat → Int) (i j : Nat) : Prop := c j < c i ∨ (c i = c j ∧ i < j)
noncomputable def beforeB (c : Nat → Int) (i j : Nat) : Bool := decide (c j < c i ∨ (c i = c j ∧ i < j))
theorem beforeB_iff {c : Nat → Int} {i j : Nat} : beforeB c i j = true ↔ before c i j := by unfold beforeB before; rw [decide_eq_true_eq]
noncomputable def insI (c : Nat → Int) (i : Nat) : List Nat → List Nat
  | [] => [i]
  | j :: r => if c j < c i then i :: j :: r else j :: insI c i r
noncomputable def dueI (c : Nat → Int) : Nat → List Nat
  | 0 => []
  | n + 1 => insI c n (dueI c n)
theorem insI_perm {c : Nat → Int} {i : Nat} : ∀ (l : List Nat), (insI c i l).Perm (i :: l)
  | [] => List.Perm.refl _
  | j :: r => by
    unfold insI
    split
    · exact List.Perm.refl _
    · exact ((insI_perm r).cons j).trans (List.Perm.swap i j r)
theorem insI_len {c : Nat → Int} {i : Nat} (l : List Nat) : (insI c i l).length = l.length + 1 := (insI_perm l).length_eq
theorem insI_pw {c : Nat → Int} {i : Nat} : ∀ {l : List Nat}, l.Pairwise (before c) → (∀ j ∈ l, j < i) → (insI c i l).Pairwise (before c)
  | [], _, _ => List.pairwise_singleton _ _
  | j :: r, h, hl => by
    obtain ⟨h1, h2⟩ := List.pairwise_cons.mp h
    unfold insI
    split
    · rename_i q
      refine List.pairwise_cons.mpr ⟨fun x hx => ?_, h⟩
      rcases List.mem_cons.mp hx with rfl | hx
      · exact .inl q
      · have := h1 x hx
        unfold before at *
        lia
    · rename_i q
      refine List.pairwise_cons.mpr ⟨fun x hx => ?_, insI_pw h2 fun x hx => hl x (.tail _ hx)⟩
      rcases List.mem_cons.mp ((insI_perm r).mem_iff.mp hx) with rfl | hx
      · have := hl j (.head _)
        unfold before
        lia
      · exact h1 x hx
theorem dueI_perm (c : Nat → Int) : ∀ n, (dueI c n).Perm (List.range n)
  | 0 => List.Perm.refl _
  | n + 1 => by
    rw [List.range_succ]
    exact (insI_perm _).trans (((dueI_perm c n).cons n).trans (List.perm_append_comm (l₁ := [n])))
theorem dueI_mem {c : Nat → Int} {n i : Nat} : i ∈ dueI c n ↔ i < n := (dueI_perm c n).mem_iff.trans List.mem_range
theorem dueI_len (c : Nat → Int) (n : Nat) : (dueI c n).length = n := by rw [(dueI_perm c n).length_eq, List.length_range]
theorem dueI_pw (c : Nat → Int) : ∀ n, (dueI c n).Pairwise (before c)
  | 0 => .nil
  | n + 1 => insI_pw (dueI_pw c n) fun _ h => dueI_mem.mp h
theorem before_same {c : Nat → Int} {a b : List Nat} (h : a.Perm b) (ha : a.Pairwise (before c)) (hb : b.Pairwise (before c)) : a = b :=
  List.Perm.eq_of_pairwise (fun x y _ _ h1 h2 => by unfold before at *; lia) ha hb h
theorem pos_of {c : Nat → Int} {i : Nat} : ∀ {l : List Nat}, l.Pairwise (before c) → i ∈ l → l[l.countP fun j => beforeB c j i]? = some i
  | x :: r, h, hm => by
    obtain ⟨h1, h2⟩ := List.pairwise_cons.mp h
    rcases List.mem_cons.mp hm with rfl | hm
    · have z : (i :: r).countP (fun j => beforeB c j i) = 0 := by
        rw [List.countP_eq_zero]
        intro j hj
        rcases List.mem_cons.mp hj with rfl | hj
        · rw [beforeB_iff]; unfold before; lia
        · have := h1 j hj
          rw [beforeB_iff]
          unfold before at *
          omega
      rw [z]
      rfl
    · have e := List.countP_cons_of_pos (p := fun j => beforeB c j i) (l := r) (a := x) (beforeB_iff.mpr (h1 i hm))
      rw [e]
      exact pos_of h2 hm
/-- how many are ahead of i -/
noncomputable def rank (c : Nat → Int) (n i : Nat) : Nat := (List.range n).countP fun j => beforeB c j i
theorem dueI_at {c : Nat → Int} {n i : Nat} (h : i < n) : (dueI c n)[rank c n i]? = some i := by
  have := pos_of (dueI_pw c n) (dueI_mem.mpr h)
  rw [(dueI_perm c n).countP_eq] at this
  exact this
theorem rank_lt {c : Nat → Int} {n i : Nat} (h : i < n) : rank c n i < n := by
  have := dueI_at (c := c) h
  have h2 := (List.getElem?_eq_some_iff.mp this).1
  rw [dueI_len] at h2
  exact h2
theorem rank_inj {c : Nat → Int} {n i j : Nat} (h : i < n) (k : j < n) (e : rank c n i = rank c n j) : i = j := by
  have a := dueI_at (c := c) h
  rw [e, dueI_at k] at a
  exact (Option.some.inj a).symm
theorem dueI_nodup (c : Nat → Int) (n : Nat) : (dueI c n).Nodup := (dueI_perm c n).nodup_iff.mpr List.nodup_range
theorem placed_all {α : Type} {c : Nat → Int} {n : Nat} {p : Nat → α} {d : List α} (hl : d.length = n) (h : ∀ i, i < n → d[rank c n i]? = some (p i)) : d = (dueI c n).map p := by
  refine List.ext_getElem? fun r => ?_
  rw [List.getElem?_map]
  rcases Nat.lt_or_ge r n with hr | hr
  · have hr' : r < (dueI c n).length := by rw [dueI_len]; exact hr
    have e : (dueI c n)[r]? = some (dueI c n)[r] := List.getElem?_eq_getElem hr'
    have hi : (dueI c n)[r] < n := dueI_mem.mp (List.getElem_mem hr')
    have e2 := dueI_at (c := c) hi
    have e3 : rank c n (dueI c n)[r] = r := by
      have h1 : rank c n (dueI c n)[r] < (dueI c n).length := by rw [dueI_len]; exact rank_lt hi
      have e5 : (dueI c n)[rank c n (dueI c n)[r]]'h1 = (dueI c n)[r] := by
        rw [List.getElem?_eq_getElem h1] at e2
        exact Option.some.inj e2
      have hp := List.pairwise_iff_getElem.mp (dueI_nodup c n)
      rcases Nat.lt_trichotomy (rank c n (dueI c n)[r]) r with q | q | q
      · exact absurd e5 (hp _ _ h1 hr' q)
      · exact q
      · exact absurd e5.symm (hp _ _ hr' h1 q)
    rw [e]
    have := h _ hi
    rw [e3] at this
    exact this
  · rw [List.getElem?_eq_none (by lia), List.getElem?_eq_none (by rw [dueI_len]; exact hr)]
    rfl
/-- an item that is less than the last of the first n is put in ahead of it -/
theorem ins_before {c : Nat → Int} {m t : Nat} (h : c t < c m) : ∀ (l r : List Nat), insI c m (l ++ t :: r) = insI c m l ++ t :: r
  | [], r => by show insI c m (t :: r) = [m] ++ t :: r; unfold insI; rw [if_pos h]; rfl
  | x :: l, r => by
    show insI c m (x :: (l ++ t :: r)) = _
    unfold insI
    split
    · rfl
    · rw [ins_before h l r]; rfl
theorem ins_behind {c : Nat → Int} {m : Nat} : ∀ (l r : List Nat), (∀ x ∈ l, c m ≤ c x) → insI c m (l ++ r) = l ++ insI c m r
  | [], _, _ => rfl
  | x :: l, r, h => by
    show insI c m (x :: (l ++ r)) = _
    rw [insI, if_neg (by have := h x (.head _); lia), ins_behind l r fun y hy => h y (.tail _ hy)]
    rfl
theorem pw_ge {c : Nat → Int} {l : List Nat} {t : Nat} (h : (l ++ [t]).Pairwise (before c)) : ∀ x ∈ l ++ [t], c t ≤ c x := fun x hx => by
  rcases List.mem_append.mp hx with hx | hx
  · have := (List.pairwise_append.mp h).2.2 x hx t (.head _)
    unfold before at this
    lia
  · rw [List.mem_singleton.mp hx]; exact Int.le_refl _
/-- the first n of those so far, their last one apart -/
theorem take_split {c : Nat → Int} {n m : Nat} (hn : 0 < n) (hm : n ≤ m) : ∃ l t r, dueI c m = l ++ t :: r ∧ l.length + 1 = n ∧ (dueI c m).take n = l ++ [t] := by
  have hl : n - 1 < (dueI c m).length := by rw [dueI_len]; exact Nat.sub_one_lt_of_le ‹_› ‹_›
  refine ⟨(dueI c m).take (n - 1), (dueI c m)[n - 1], (dueI c m).drop n, ?_, by rw [List.length_take, dueI_len]; lia, ?_⟩
  · conv => lhs; rw [← List.take_append_drop (n - 1) (dueI c m)]
    rw [List.drop_eq_getElem_cons hl, show n - 1 + 1 = n by exact Nat.sub_add_cancel ‹_›]
  · conv => lhs; rw [show n = n - 1 + 1 by lia]
    rw [List.take_add_one, List.getElem?_eq_getElem hl]
    rfl
theorem due_in {c : Nat → Int} {n m t : Nat} {l r : List Nat} (e : dueI c m = l ++ t :: r) (hl : l.length + 1 = n) (h : c t < c m) : (dueI c (m + 1)).take n = insI c m l := by
  show (insI c m (dueI c m)).take n = _
  rw [e, ins_before h, List.take_left' (by rw [insI_len]; exact hl)]
theorem due_out {c : Nat → Int} {n m t : Nat} {l r : List Nat} (e : dueI c m = l ++ t :: r) (hl : l.length + 1 = n) (h : ¬ c t < c m) : (dueI c (m + 1)).take n = (dueI c m).take n := by
  have hp := dueI_pw c m
  have e2 : dueI c m = (l ++ [t]) ++ r := by rw [e]; simp
  rw [e2] at hp
  have hg := pw_ge (List.pairwise_append.mp hp).1
  show (insI c m (dueI c m)).take n = _
  rw [e2, ins_behind _ _ fun x hx => by have := hg x hx; lia, List.take_left' (by simpa using hl), List.take_left' (by simpa using hl)]
/-- the same among the items of the heap -/
noncomputable def insT (x : Trip) : List Trip → List Trip
  | [] => [x]
  | y :: r => if y.2.1 < x.2.1 then x :: y :: r else y :: insT x r
theorem insT_perm {x : Trip} : ∀ (l : List Trip), (insT x l).Perm (x :: l)
  | [] => List.Perm.refl _
  | y :: r => by
    unfold insT
    split
    · exact List.Perm.refl _
    · exact ((insT_perm r).cons y).trans (List.Perm.swap x y r)
theorem insT_pw {x : Trip} : ∀ {l : List Trip}, l.Pairwise (fun x y => tlt y x = true) → (∀ y ∈ l, x.2.2.1 < y.2.2.1) → (insT x l).Pairwise (fun x y => tlt y x = true)
  | [], _, _ => List.pairwise_singleton _ _
  | y :: r, h, hl => by
    obtain ⟨h1, h2⟩ := List.pairwise_cons.mp h
    have hy := hl y (.head _)
    unfold insT
    split
    · rename_i q
      refine List.pairwise_cons.mpr ⟨fun z hz => ?_, h⟩
      rcases List.mem_cons.mp hz with rfl | hz
      · unfold tlt; rw [decide_eq_true_eq]; exact .inl q
      · have := h1 z hz
        unfold tlt at this ⊢
        rw [decide_eq_true_eq] at this ⊢
        lia
    · rename_i q
      refine List.pairwise_cons.mpr ⟨fun z hz => ?_, insT_pw h2 fun z hz => hl z (.tail _ hz)⟩
      rcases List.mem_cons.mp ((insT_perm r).mem_iff.mp hz) with rfl | hz
      · unfold tlt; rw [decide_eq_true_eq]; lia
      · exact h1 z hz
theorem insT_map {c : Nat → Int} {ev : Nat → Value} {x : Trip} {m : Nat} (hk : x.2.1 = c m) (he : x.2.2.2 = ev m) : ∀ {l : List Trip} {I : List Nat}, l.map (fun t => (t.2.1, t.2.2.2)) = I.map (fun i => (c i, ev i)) → (insT x l).map (fun t => (t.2.1, t.2.2.2)) = (insI c m I).map (fun i => (c i, ev i))
  | [], [], _ => by show [(x.2.1, x.2.2.2)] = [(c m, ev m)]; rw [hk, he]
  | y :: l, i :: I, e => by
    rw [List.map_cons, List.map_cons] at e
    obtain ⟨e1, e2⟩ := List.cons.inj e
    have ek : y.2.1 = c i := congrArg Prod.fst e1
    unfold insT insI
    rw [ek, hk]
    split
    · rw [List.map_cons, List.map_cons, List.map_cons, List.map_cons, e2, e1, hk, he]
    · rw [List.map_cons, List.map_cons, e1, insT_map hk he e2]
/-- what the heap holds after m of the items: the first n of them; its order is below all of them -/
noncomputable def HeapInv (c : Nat → Int) (ev : Nat → Value) (n m : Nat) (order : Int) (T : Array Trip) : Prop :=
  ∃ L : List Trip, T.toList.Perm L ∧ L.Pairwise (fun x y => tlt y x = true) ∧ L.map (fun t => (t.2.1, t.2.2.2)) = ((dueI c m).take n).map (fun i => (c i, ev i)) ∧ ∀ t ∈ L, order < t.2.2.1
theorem HeapInv.size {c : Nat → Int} {ev : Nat → Value} {n m : Nat} {order : Int} {T : Array Trip} (h : HeapInv c ev n m order T) (hm : n ≤ m) : T.size = n := by
  obtain ⟨L, p, _, e, _⟩ := h
  have h1 := p.length_eq
  have h2 := congrArg List.length e
  rw [List.length_map, List.length_map, List.length_take, dueI_len] at h2
  rw [Array.length_toList] at h1
  lia
theorem HeapInv.dist {c : Nat → Int} {ev : Nat → Value} {n m : Nat} {order : Int} {T : Array Trip} (h : HeapInv c ev n m order T) : ∀ t ∈ T.toList, t.2.2.1 ≠ order := by
  obtain ⟨L, p, _, _, ho⟩ := h
  intro t ht
  have := ho t (p.mem_iff.mp ht)
  lia
/-- the top is the last of the first n -/
theorem HeapInv.top {c : Nat → Int} {ev : Nat → Value} {n m : Nat} {order : Int} {T : Array Trip} (h : HeapInv c ev n m order T) (hh : Heaped 0 T) (hn : 0 < n) (hm : n ≤ m) :
    ∃ L0 l t r, dueI c m = l ++ t :: r ∧ l.length + 1 = n ∧ T.toList.Perm (L0 ++ [T.getD 0 t0]) ∧ (L0 ++ [T.getD 0 t0]).Pairwise (fun x y => tlt y x = true) ∧ L0.map (fun t => (t.2.1, t.2.2.2)) = l.map (fun i => (c i, ev i)) ∧ (T.getD 0 t0).2.1 = c t ∧ ∀ t ∈ L0 ++ [T.getD 0 t0], order < t.2.2.1 := by
  have hs := h.size hm
  obtain ⟨L, p, pw, e, ho⟩ := h
  obtain ⟨l, t, r, e1, e2, e3⟩ := take_split (c := c) hn hm
  rw [e3, List.map_append] at e
  obtain ⟨L0, L1, eL, a1, a2⟩ := List.map_eq_append_iff.mp e
  obtain ⟨z, eL1, ez⟩ := List.map_eq_singleton_iff.mp a2
  subst eL1
  subst eL
  have ht : T.getD 0 t0 ∈ L0 ++ [z] := p.mem_iff.mp (tmem (by lia))
  have hz : z ∈ T.toList := p.mem_iff.mpr (by simp)
  have same : T.getD 0 t0 = z := by
    rcases List.mem_append.mp ht with q | q
    · have b1 := (List.pairwise_append.mp pw).2.2 _ q z (.head _)
      obtain ⟨i, hi, ei⟩ := List.getElem_of_mem hz
      have hi' : i < T.size := by simpa using hi
      have b2 := hh.min i hi'
      have e5 : T.getD i t0 = z := by
        rw [← ei]
        simp [Array.getD, hi']
      rw [e5] at b2
      unfold tle at b2
      have b3 : tlt z (T.getD 0 t0) = true := b1
      rw [b2] at b3
      cases b3
    · exact List.mem_singleton.mp q
  rw [same]
  exact ⟨L0, l, t, r, e1, e2, p, pw, a1, congrArg Prod.fst ez, ho⟩
theorem HeapInv.keep {c : Nat → Int} {ev : Nat → Value} {n m : Nat} {order : Int} {T : Array Trip} (h : HeapInv c ev n m order T) (hh : Heaped 0 T) (hn : 0 < n) (hm : n ≤ m) (hk : ¬ (T.getD 0 t0).2.1 < c m) : HeapInv c ev n (m + 1) order T := by
  obtain ⟨L0, l, t, r, e1, e2, p, pw, a1, a2, ho⟩ := h.top hh hn hm
  obtain ⟨L, p', pw', e', ho'⟩ := h
  refine ⟨L, p', pw', ?_, ho'⟩
  rw [due_out e1 e2 (by rw [← a2]; exact hk)]
  exact e'
theorem HeapInv.put {c : Nat → Int} {ev : Nat → Value} {n m : Nat} {order : Int} {T T' : Array Trip} {x : Trip} (h : HeapInv c ev n m order T) (hh : Heaped 0 T) (hn : 0 < n) (hm : n ≤ m) (hk : (T.getD 0 t0).2.1 < c m)
    (h1 : x.2.1 = c m) (h2 : x.2.2.1 = order) (h3 : x.2.2.2 = ev m) (hp : T'.toList.Perm (x :: T.toList.tail)) : HeapInv c ev n (m + 1) (order - 1) T' := by
  have hs := h.size hm
  obtain ⟨L0, l, t, r, e1, e2, p, pw, a1, a2, ho⟩ := h.top hh hn hm
  have htl : T.toList.tail.Perm L0 := by
    have e5 : T.toList = T.getD 0 t0 :: T.toList.tail := by
      obtain ⟨q⟩ := T
      cases q with
      | nil => simp at hs; lia
      | cons y r => simp [Array.getD]
    rw [e5] at p
    exact (List.perm_cons _).mp (p.trans List.perm_append_comm)
  refine ⟨insT x L0, hp.trans ((htl.cons x).trans (insT_perm L0).symm), insT_pw (List.pairwise_append.mp pw).1 fun y hy => by rw [h2]; exact ho y (List.mem_append_left _ hy), ?_, fun y hy => ?_⟩
  · rw [due_in e1 e2 (by rw [← a2]; exact hk)]
    exact insT_map h1 h3 a1
  · rcases List.mem_cons.mp ((insT_perm L0).mem_iff.mp hy) with rfl | hy
    · lia
    · have := ho y (List.mem_append_left _ hy)
      lia
end Mine
end
section
open PySem PySem.W PyProof.Rows PyProof.V PySem.Calls PySem.Spec
set_option compiler.extract_closed false
set_option Elab.async false
set_option maxRecDepth 100000
set_option maxHeartbeats 3000000
namespace Mine
/-- how many of the items are less: a number that orders them -/
noncomputable def below (T : List Trip) (x : Trip) : Nat := T.countP fun z => tlt z x
theorem tlt_iff {x y : Trip} : tlt x y = true ↔ (x.2.1 < y.2.1 ∨ x.2.1 = y.2.1 ∧ x.2.2.1 < y.2.2.1) := by unfold tlt; rw [decide_eq_true_eq]
theorem tlt_irrefl (x : Trip) : ¬ tlt x x = true := by rw [tlt_iff]; lia
theorem tlt_trans {x y z : Trip} (h : tlt x y = true) (k : tlt y z = true) : tlt x z = true := tlt_iff.mpr (lex_tr Int.lt_trans (tlt_iff.mp h) (tlt_iff.mp k))
theorem tlt_le {x y z : Trip} (h : tlt z x = true) (k : ¬ tlt y x = true) : tlt z y = true := tlt_iff.mpr (lex_tr Int.lt_of_lt_of_le (tlt_iff.mp h) (tle_iff.mp (Bool.eq_false_iff.mpr k)))
theorem below_le {T : List Trip} {x y : Trip} (h : ¬ tlt y x = true) : below T x ≤ below T y :=
  List.countP_mono_left fun _ _ hz => tlt_le hz h
theorem below_lt {x y : Trip} (h : tlt x y = true) : ∀ {T : List Trip}, x ∈ T → below T x < below T y := by
  intro T
  have hyx : ¬ tlt y x = true := fun c => tlt_irrefl x (tlt_trans h c)
  induction T with
  | nil => intro hm; cases hm
  | cons z r ih =>
    intro hm
    show (z :: r).countP (fun z => tlt z x) < (z :: r).countP (fun z => tlt z y)
    have e0 : z = x ∨ x ∈ r := by
      rcases List.mem_cons.mp hm with q | q
      · exact .inl q.symm
      · exact .inr q
    rcases e0 with e0 | e0
    · have a : r.countP (fun z => tlt z x) ≤ r.countP (fun z => tlt z y) := below_le hyx
      rw [List.countP_cons_of_neg (p := fun z => tlt z x) (by rw [e0]; exact tlt_irrefl x), List.countP_cons_of_pos (p := fun z => tlt z y) (by rw [e0]; exact h)]
      lia
    · have a : r.countP (fun z => tlt z x) < r.countP (fun z => tlt z y) := ih e0
      by_cases c : tlt z x = true
      · rw [List.countP_cons_of_pos (p := fun z => tlt z x) c, List.countP_cons_of_pos (p := fun z => tlt z y) (tlt_trans c h)]
        lia
      · rw [List.countP_cons_of_neg (p := fun z => tlt z x) c]
        by_cases c2 : tlt z y = true
        · rw [List.countP_cons_of_pos (p := fun z => tlt z y) c2]; exact Nat.lt_succ_of_lt ‹_›
        · rw [List.countP_cons_of_neg (p := fun z => tlt z y) c2]; exact a
theorem below_iff {T : List Trip} {x y : Trip} (hx : x ∈ T) : (below T x < below T y) ↔ tlt x y = true := by
  constructor
  · intro h
    cases c : tlt x y with
    | true => rfl
    | false =>
      have := below_le (T := T) (x := y) (y := x) (by rw [c]; exact Bool.false_ne_true)
      lia
  · exact fun h => below_lt h hx
theorem Trips.ext {h h' : Heap} {a : Addr} {T : Array Trip} (H : Trips h T) (h1 : ∃ o, h.get? a = some o ∧ o.cls = .type "list") (hx : ∀ b o, b ≠ a → h.get? b = some o → h'.get? b = some o) : Trips h' T := fun t ht => by
  obtain ⟨b, ob, m, t', u, e, g, c, d⟩ := H t ht
  obtain ⟨o, go, co⟩ := h1
  have hb : b ≠ a := fun q => by
    subst q
    rw [g] at go
    cases go
    rw [c] at co
    exact absurd co (by decide)
  exact ⟨b, ob, m, t', u, e, hx b ob hb g, c, d⟩
section
variable {prog : Program} {w : World} {A : Around} {E : Value → Shared → Prop} {s : Shared}
theorem eq_self {a : Addr} {M : Model} {Q : Bool → Shared → Prop} (h : Q true s) : wpAny M A (eqBool (.ref a) (.ref a)) Q E s := by
  unfold eqBool
  refine wpAny_holding ?_
  rw [if_pos (by simp)]
  exact wpAny_bind (wpAny_rule (wpAny_pure h))
/-- the sort's own way to compare two of the heap's items -/
theorem trip_keyLt {x y : Trip} {Q : Bool → Shared → Prop} (hx : TripAt s.heap x.1 x.2.1 x.2.2.1 x.2.2.2) (hy : TripAt s.heap y.1 y.2.1 y.2.2.1 y.2.2.2) (ho : x.2.2.1 = y.2.2.1 → x = y) (hr : ∃ a, x.2.2.2 = .ref a)
    (h : Q (tlt x y) s) : wpAny (model prog w) A (keyLt' (tuples' true) x.1 y.1) Q E s := by
  obtain ⟨vx, kx, ox, ex⟩ := x
  obtain ⟨vy, ky, oy, ey⟩ := y
  obtain ⟨a, oa, n, t, u, rfl, ga, ca, da⟩ := hx
  obtain ⟨b, ob, n', t', u', rfl, gb, cb, db⟩ := hy
  dsimp only at *
  refine kat_lt ga da gb db ?_
  show KatLex prog w A true (decide (3 < 3)) Q [(Value.int kx t, Value.int ky t'), (Value.int ox u, Value.int oy u'), (ex, ey)] 0 s
  refine kat_cons (wpAny_eqBool_int ?_)
  by_cases hk : kx = ky
  · rw [show (kx == ky) = true by simpa using hk]
    refine kat_yes (kat_cons (wpAny_eqBool_int ?_))
    by_cases hoo : ox = oy
    · rw [show (ox == oy) = true by simpa using hoo]
      refine kat_yes (kat_cons ?_)
      have e := ho hoo
      cases e
      obtain ⟨q, rfl⟩ := hr
      refine eq_self (kat_yes (kat_nil ?_))
      have : tlt (Value.ref a, kx, ox, Value.ref q) (Value.ref a, kx, ox, Value.ref q) = false := by unfold tlt; simp
      rw [this] at h
      exact h
    · rw [show (ox == oy) = false by simpa using hoo]
      refine kat_no (kat_one _ _ (wpAny_lt_int ?_))
      show Q (decide (ox < oy)) s
      have : tlt (Value.ref a, kx, ox, ex) (Value.ref b, ky, oy, ey) = decide (ox < oy) := by unfold tlt; simp [hk]
      rw [← this]
      exact h
  · rw [show (kx == ky) = false by simpa using hk]
    refine kat_no ?_
    show wpAny _ _ (oneLt' true _ _) _ _ _
    refine oneLt_int ?_
    have : tlt (Value.ref a, kx, ox, ex) (Value.ref b, ky, oy, ey) = decide (kx < ky) := by unfold tlt; simp [hk]
    rw [← this]
    exact h
theorem trips_tups {h : Heap} : ∀ {T : List Trip}, (∀ t ∈ T, TripAt h t.1 t.2.1 t.2.2.1 t.2.2.2) → ∃ fs, KatTups h (T.map (·.1)) fs ∧ fs.length = T.length ∧ ∀ v ∈ fs, ∃ k t, v = Value.int k t
  | [], _ => ⟨[], KatTups.nil, rfl, fun _ h => nomatch h⟩
  | x :: r, H => by
    obtain ⟨fs, a1, a2, a3⟩ := trips_tups (T := r) fun t ht => H t (.tail _ ht)
    obtain ⟨b, ob, m, t', u, e, g, c, d⟩ := H x (.head _)
    refine ⟨.int x.2.1 t' :: fs, ?_, by rw [List.length_cons, List.length_cons, a2], fun v hv => ?_⟩
    · rw [List.map_cons, e]
      exact KatTups.cons g c d rfl a1
    · rcases List.mem_cons.mp hv with rfl | hv
      · exact ⟨_, _, rfl⟩
      · exact a3 v hv
theorem range_map {α : Type} (l : List α) (d : α) : (List.range l.length).map (fun i => l.getD i d) = l := by
  refine List.ext_getElem (by simp) fun i h1 h2 => ?_
  simp [h2]
theorem asc_pairwise {key : Nat → Int} {p : Array Nat} {n : Nat} (hs : p.size = n) (h : Asc key p n) : p.toList.Pairwise (lexLt key) := by
  rw [List.pairwise_iff_getElem]
  intro i j hi hj hij
  have hi' : i < p.size := by simpa using hi
  have hj' : j < p.size := by simpa using hj
  have := h i j hij (by lia)
  rw [show p.getD i 0 = p.toList[i] by simp [Array.getD, hi'], show p.getD j 0 = p.toList[j] by simp [Array.getD, hj']] at this
  exact this
/-- list.sort(reverse=True) over the heap's items -/
theorem lsort_rev {D : Addr} {T : Array Trip} {n : Nat} {h₀ : Heap} {L : Addr} {m : Str → Option Value} {news : List (Addr × Obj)} {Q : Value → Shared → Prop} (F : Fr h₀ L s.heap m) (N : News h₀ L s.heap ((D, listOf (T.map (·.1)) n) :: news)) (hna : ∀ p ∈ news, p.1 ≠ D)
    (hT : Trips s.heap T) (hD : Dist T) (hr : ∀ t ∈ T.toList, ∃ a, t.2.2.2 = .ref a) (h2 : 2 ≤ T.size) (h64 : T.size < 64)
    (h : ∀ h' c Ls, T.toList.Perm Ls → Ls.Pairwise (fun x y => tlt y x = true) → Fr h₀ L h' m → News h₀ L h' ((D, listOf (Ls.map (·.1)).toArray c) :: news) → Q .none { s with heap := h' }) :
    wpAny (model prog w) A (call (.builtin "list.sort") [.ref D] [(Str.ofString "reverse", .bool true)]) Q E s := by
  have nD := N _ (.head _)
  have ho : s.heap.get? D = some (seqObj "list" (T.toList.map (·.1)).toArray n) := by
    have e : (T.toList.map (·.1)).toArray = T.map (·.1) := by rw [← Array.toList_map]
    rw [e]
    exact nD.1
  refine wpAny_call_entry_kw slot_list_sort ⟨_, nD.1, rfl⟩ entry_list_sort ?_ (args_list_sort_rev _ _)
  rw [list_sort_rev]
  have hvl : (T.toList.map (·.1)).length = T.size := by simp
  have h0 : ∃ o, s.heap.get? D = some o ∧ o.cls = .type "list" := ⟨_, nD.1, rfl⟩
  have hlt : D < s.heap.objs.size := Heap.lt_size nD.1
  have s1 := Heap.SameBut.update s.heap D (Obj.mapSeq fun _ => (#[] : Array Value))
  obtain ⟨e1, ho1⟩ : ∃ e1, (s.heap.update D (Obj.mapSeq fun _ => (#[] : Array Value))).get? D = some (seqObj "list" #[] e1) := ⟨_, get?_update_seq ho fun _ => #[]⟩
  have N0 : News h₀ L s.heap news := fun p hp => N p (.tail _ hp)
  have F3 : Fr h₀ L (((s.heap.update D (Obj.mapSeq fun _ => (#[] : Array Value))).push (seqObj "tuple" (T.toList.map (·.1)).toArray 0)).push (seqObj "list" #[] 0)) m := ((kas_fr F s1 nD.2.1 nD.2.2).push _).push _
  have kp : ∀ b o, (s.heap.update D (Obj.mapSeq fun _ => (#[] : Array Value))).get? b = some o → (((s.heap.update D (Obj.mapSeq fun _ => (#[] : Array Value))).push (seqObj "tuple" (T.toList.map (·.1)).toArray 0)).push (seqObj "list" #[] 0)).get? b = some o := fun b x e => Heap.get?_push_of_some _ (Heap.get?_push_of_some _ e)
  have N3 : News h₀ L (((s.heap.update D (Obj.mapSeq fun _ => (#[] : Array Value))).push (seqObj "tuple" (T.toList.map (·.1)).toArray 0)).push (seqObj "list" #[] 0)) news := (kas_news N0 s1 hna).grown kp
  have ho3 := kp _ _ ho1
  have hT3 : Trips (((s.heap.update D (Obj.mapSeq fun _ => (#[] : Array Value))).push (seqObj "tuple" (T.toList.map (·.1)).toArray 0)).push (seqObj "list" #[] 0)) T := hT.ext h0 fun b o hb e => kp _ _ ((s1.2 b hb).trans e)
  refine wpAny_bind (listItems_at ho rfl ?_)
  refine wpAny_bind (listUpdate_at ho rfl ?_ (by rw [List.size_toArray, hvl, PySem.sizeLine_eq]; lia) (Nat.zero_le _))
  refine wpAny_bind (seqEpoch_at ho1 rfl ?_)
  refine wpAny_bind (wpAny_newTuple ?_ (by show (T.toList.map (·.1)).length ≤ _; rw [hvl, PySem.sizeLine_eq]; lia))
  refine wpAny_bind (wpAny_newList ?_ (Nat.zero_le _))
  refine wpAny_holding ?_
  generalize hh3 : ((s.heap.update D (Obj.mapSeq fun _ => (#[] : Array Value))).push (seqObj "tuple" (T.toList.map (·.1)).toArray 0)).push (seqObj "list" #[] 0) = h3 at F3 kp N3 ho3 hT3 ⊢
  show wpAny (model prog w) A.in1 _ _ E { s with heap := h3 }
  dsimp only
  refine wpAny_bind (wpAny_rule ?_)
  have hn2 : ¬ (T.toList.map (·.1)).toArray.size < 2 := by rw [List.size_toArray, hvl]; lia
  rw [if_neg hn2, if_neg hn2]
  obtain ⟨fs, t1, t2, t3⟩ := trips_tups (T := T.toList) hT3
  refine wpAny_bind (kat_kind (s := { s with heap := h3 }) t1 (by rw [t2]; simp; exact Nat.le_of_lt ‹_›) (fun v hv => ?_) (T := .type "int") (by decide) ?_)
  · obtain ⟨k, t, rfl⟩ := t3 v hv
    exact Looks.of_pure rfl
  have hzip : ((T.toList.map (·.1)).toArray.zip (T.toList.map (·.1)).toArray).reverse = (T.toList.reverse.map (·.1)).toArray.zip (T.toList.reverse.map (·.1)).toArray := by
    have := kat_pairs (ks := T.toList.map (·.1)) (vs := T.toList.map (·.1)) true rfl
    rw [if_pos rfl] at this
    rw [this]
    show ((T.toList.map (·.1)).reverse).toArray.zip ((T.toList.map (·.1)).reverse).toArray = _
    rw [List.map_reverse]
  rw [if_pos rfl, hzip]
  have hrl : (T.toList.reverse.map (·.1)).length = T.size := by simp
  have hit : ∀ i, (T.toList.reverse.map (·.1)).getD i Value.none = (T.toList.reverse.getD i t0).1 := fun i => by
    rcases Nat.lt_or_ge i T.toList.reverse.length with q | q
    · simp only [List.getD_eq_getElem?_getD, List.getElem?_map, List.getElem?_eq_getElem q]
      rfl
    · simp only [List.getD_eq_getElem?_getD, List.getElem?_map, List.getElem?_eq_none q]
      rfl
  have hrm : ∀ i, i < T.size → T.toList.reverse.getD i t0 ∈ T.toList := fun i hi => by
    have q : i < T.toList.reverse.length := by simpa using hi
    rw [List.getD_eq_getElem?_getD, List.getElem?_eq_getElem q]
    exact List.mem_reverse.mp (List.getElem_mem q)
  have hinj : ∀ x ∈ T.toList, ∀ y ∈ T.toList, x.2.2.1 = y.2.2.1 → x = y := by
    intro x hx y hy e
    obtain ⟨i, hi, ei⟩ := List.getElem_of_mem hx
    obtain ⟨j, hj, ej⟩ := List.getElem_of_mem hy
    have hi' : i < T.size := by simpa using hi
    have hj' : j < T.size := by simpa using hj
    by_cases c : i = j
    · subst c; rw [← ei, ← ej]
    · have := hD.ne hi' hj' c
      rw [show T.getD i t0 = T.toList[i] by simp [Array.getD, hi'], show T.getD j t0 = T.toList[j] by simp [Array.getD, hj'], ei, ej] at this
      exact absurd e this
  have ans : Answers (kas_ask prog w A.in1 (tuples' (Value.type "int" != Value.type "tuple")) (T.toList.reverse.map (·.1))) { s with heap := h3 } (fun i => (below T.toList (T.toList.reverse.getD i t0) : Int)) (T.toList.reverse.map (·.1)).length := by
    intro i j C hi hj hC
    rw [hrl] at hi hj
    show wpAny (model prog w) A.in1 (keyLt' _ ((T.toList.reverse.map (·.1)).getD i Value.none) ((T.toList.reverse.map (·.1)).getD j Value.none)) C _ _
    rw [hit, hit]
    have mi := hrm i hi
    have mj := hrm j hj
    refine trip_keyLt (s := { s with heap := h3 }) (hT3 _ mi) (hT3 _ mj) (hinj _ mi _ mj) (hr _ mi) ?_
    have e : decide ((below T.toList (T.toList.reverse.getD i t0) : Int) < (below T.toList (T.toList.reverse.getD j t0) : Int)) = tlt (T.toList.reverse.getD i t0) (T.toList.reverse.getD j t0) := by
      have b := below_iff (T := T.toList) (y := T.toList.reverse.getD j t0) mi
      cases c : tlt (T.toList.reverse.getD i t0) (T.toList.reverse.getD j t0) with
      | true => rw [c] at b; have := b.mpr rfl; rw [decide_eq_true_eq]; (clear c b mj mi hC hj hi hinj hrm hit hrl hzip t3 t2 t1 hn2 hT3 ho3 N3 kp F3 hh3 N0 ho1 s1 hlt h0 hvl ho nD h h64 h2 hr hD hT hna N F; omega)
      | false =>
        rw [c] at b
        rw [decide_eq_false_iff_not]
        intro q
        have := b.mp (by (clear c b mj mi hC hj hi hinj hrm hit hrl hzip t3 t2 t1 hn2 hT3 ho3 N3 kp F3 hh3 N0 ho1 s1 hlt h0 hvl ho nD h h64 h2 hr hD hT hna N F; lia))
        cases this
    rw [← e]
    exact hC
  refine wpAny_bind (wpAny_mono (kat_run (ks := T.toList.reverse.map (·.1)) (vs := T.toList.reverse.map (·.1)) (Q := fun st' s' => s' = { s with heap := h3 } ∧ failedOf st' = none ∧ ∃ p : Array Nat, p.size = T.size ∧ p.toList.Perm (List.range T.size) ∧ Asc (fun i => (below T.toList (T.toList.reverse.getD i t0) : Int)) p T.size ∧ (arrOf st').map (·.2) = (p.toList.map fun i => (T.toList.reverse.getD i t0).1).toArray)
    (G := fun p s' => s' = { s with heap := h3 } ∧ p.toList.Perm (List.range T.size) ∧ Asc (fun i => (below T.toList (T.toList.reverse.getD i t0) : Int)) p T.size)
    rfl (by rw [hrl]; exact h2) (by rw [hrl]; exact h64) (fun p st' s' a1 a2 a3 a4 => ?_) (sort_wp ans (by rw [hrl]; exact Nat.le_of_lt ‹_›) fun p a1 a2 a3 => ⟨rfl, by rw [hrl] at a2; exact a2, by rw [hrl] at a3; exact a3⟩)) ?_ fun _ _ e => e)
  · obtain ⟨b1, b2, b3⟩ := a4
    refine ⟨b1, a3, p, by rw [a1, hrl], b2, b3, ?_⟩
    rw [kat_snds rfl a2]
    exact congrArg List.toArray (List.map_congr_left fun i _ => hit i)
  rintro ⟨⟨⟩, st'⟩ s' ⟨rfl, hf, p, hp1, hp2, hp3, har⟩
  dsimp only
  rw [har]
  have hsz : (p.toList.map fun i => (T.toList.reverse.getD i t0).1).length = T.size := by rw [List.length_map, Array.length_toList, hp1]
  have s2 := Heap.SameBut.update h3 D (Obj.mapSeq fun _ => ((p.toList.map fun i => (T.toList.reverse.getD i t0).1).reverse).toArray)
  obtain ⟨c2, hc2⟩ : ∃ c2, (h3.update D (Obj.mapSeq fun _ => ((p.toList.map fun i => (T.toList.reverse.getD i t0).1).reverse).toArray)).get? D = some (seqObj "list" ((p.toList.map fun i => (T.toList.reverse.getD i t0).1).reverse).toArray c2) := ⟨_, get?_update_seq ho3 fun _ => _⟩
  refine wpAny_bind (seqEpoch_at ho3 rfl ?_)
  rw [if_pos rfl, List.reverse_toArray]
  refine wpAny_bind (listUpdate_at ho3 rfl ?_ (Nat.zero_le _) (by rw [List.size_toArray, List.length_reverse, hsz, PySem.sizeLine_eq]; lia))
  rw [hf]
  simp only [bne_self_eq_false, Bool.false_eq_true, if_false]
  refine wpAny_pure ⟨_, rfl, ?_⟩
  have hpw : ((p.toList.map fun i => T.toList.reverse.getD i t0).reverse).Pairwise (fun x y => tlt y x = true) := by
    rw [List.pairwise_reverse, List.pairwise_map]
    refine (List.Pairwise.imp_of_mem ?_ (asc_pairwise hp1 hp3))
    intro i j hi hj hij
    have mi := hrm i (List.mem_range.mp (hp2.mem_iff.mp hi))
    have mj := hrm j (List.mem_range.mp (hp2.mem_iff.mp hj))
    rcases hij with q | ⟨q, hlt⟩
    · exact (below_iff mi).mp (by dsimp only at q; lia)
    · exfalso
      dsimp only at q
      have n1 : ¬ tlt (T.toList.reverse.getD i t0) (T.toList.reverse.getD j t0) = true := fun c => by have := (below_iff (T := T.toList) mi).mpr c; lia
      have n2 : ¬ tlt (T.toList.reverse.getD j t0) (T.toList.reverse.getD i t0) = true := fun c => by have := (below_iff (T := T.toList) mj).mpr c; lia
      have hir : i < T.toList.reverse.length := by simpa using List.mem_range.mp (hp2.mem_iff.mp hi)
      have hjr : j < T.toList.reverse.length := by simpa using List.mem_range.mp (hp2.mem_iff.mp hj)
      have hdr : (T.toList.reverse.map fun t => t.2.2.1).Nodup := by
        rw [List.map_reverse]
        exact ((List.reverse_perm _).nodup_iff).mpr hD
      have := List.pairwise_iff_getElem.mp hdr i j (by simpa using hir) (by simpa using hjr) hlt
      rw [List.getElem_map, List.getElem_map] at this
      have gi : T.toList.reverse.getD i t0 = T.toList.reverse[i] := by rw [List.getD_eq_getElem?_getD, List.getElem?_eq_getElem hir]; rfl
      have gj : T.toList.reverse.getD j t0 = T.toList.reverse[j] := by rw [List.getD_eq_getElem?_getD, List.getElem?_eq_getElem hjr]; rfl
      rw [← gi, ← gj] at this
      unfold tlt at n1 n2
      simp only [decide_eq_true_eq] at n1 n2
      omega
  have hperm : T.toList.Perm ((p.toList.map fun i => T.toList.reverse.getD i t0).reverse) := by
    have e1 := hp2.map fun i => T.toList.reverse.getD i t0
    have e2 : (List.range T.size).map (fun i => T.toList.reverse.getD i t0) = T.toList.reverse := by
      have := range_map T.toList.reverse t0
      rw [List.length_reverse, Array.length_toList] at this
      exact this
    rw [e2] at e1
    exact ((List.reverse_perm _).symm.trans e1.symm).trans (List.reverse_perm _).symm
  have hmap : (p.toList.map fun i => (T.toList.reverse.getD i t0).1).reverse = ((p.toList.map fun i => T.toList.reverse.getD i t0).reverse).map (·.1) := by rw [List.map_reverse, List.map_map]; rfl
  rw [hmap] at hc2 ⊢
  rw [hmap] at s2
  refine h _ c2 _ hperm hpw (kas_fr F3 s2 nD.2.1 nD.2.2) fun q hq => ?_
  rcases List.mem_cons.mp hq with rfl | hq
  · exact ⟨hc2, nD.2⟩
  · exact (kas_news N3 s2 hna) q hq
end
end Mine
end
section
open PySem PySem.W PyProof.Rows PyProof.V PySem.Calls PySem.Spec
set_option compiler.extract_closed false
set_option Elab.async false
set_option maxRecDepth 100000
set_option maxHeartbeats 3000000
namespace Mine
/-- the first n items, with their places -/
noncomputable def startT (c : Nat → Int) (v ev : Nat → Value) (n : Nat) : Array Trip := ((List.range n).map fun (i : Nat) => (v i, c i, -(i : Int), ev i)).toArray
theorem startT_size {c : Nat → Int} {v ev : Nat → Value} {n : Nat} : (startT c v ev n).size = n := by simp [startT]
theorem startT_dist {c : Nat → Int} {v ev : Nat → Value} {n : Nat} : Dist (startT c v ev n) := by
  unfold Dist startT
  rw [List.toList_toArray, List.map_map, List.nodup_iff_pairwise_ne]
  refine List.pairwise_map.mpr (List.Pairwise.imp ?_ List.nodup_range)
  intro i j h e
  have e' : -(i : Int) = -(j : Int) := e
  lia
theorem heap_start {c : Nat → Int} {v ev : Nat → Value} {n : Nat} {T : Array Trip} (h : T.toList.Perm (startT c v ev n).toList) : HeapInv c ev n n (-(n : Int)) T := by
  refine ⟨(dueI c n).map fun (i : Nat) => (v i, c i, -(i : Int), ev i), ?_, ?_, ?_, ?_⟩
  · refine h.trans ?_
    unfold startT
    rw [List.toList_toArray]
    exact ((dueI_perm c n).map _).symm
  · refine List.pairwise_map.mpr (List.Pairwise.imp ?_ (dueI_pw c n))
    intro i j q
    unfold tlt
    rw [decide_eq_true_eq]
    unfold before at q
    dsimp only
    lia
  · rw [List.map_map, List.take_of_length_le (by rw [dueI_len]; exact Nat.le_refl _)]
    rfl
  · intro t ht
    obtain ⟨i, hi, rfl⟩ := List.mem_map.mp ht
    have := dueI_mem.mp hi
    dsimp only
    lia
end Mine
end
section
open PySem PySem.W PyProof.Rows PyProof.V PySem.Calls PySem.Spec LCg
set_option compiler.extract_closed false
set_option Elab.async false
set_option maxRecDepth 100000
set_option maxHeartbeats 3000000
namespace Mine
section
variable {h₀ h h' : Heap} {L : Addr} {m : Str → Option Value} {news : List (Addr × Obj)}
theorem news_cons {p : Addr × Obj} (h1 : h.get? p.1 = some p.2 ∧ p.1 ≠ L ∧ h₀.get? p.1 = none) (h2 : News h₀ L h news) : News h₀ L h (p :: news) := List.forall_mem_cons.mpr ⟨h1, h2⟩
theorem fr_up {ex : Addr → Prop} (F : Fr h₀ L h m) (up : ∀ c o, ¬ ex c → h.get? c = some o → h'.get? c = some o) (hex : ∀ a, ex a → a ≠ L ∧ h₀.get? a = none) : Fr h₀ L h' m :=
  ⟨F.ns.at' fun o e => up _ o (fun q => (hex _ q).1 rfl) e, fun c o e => up c o (fun q => by rw [(hex c q).2] at e; cases e) (F.keep c o e), F.above⟩
theorem above_new {b : Nat} (h1 : h₀.objs.size ≤ L) (h2 : @LT.lt Nat _ L b) : b ≠ L ∧ h₀.get? b = none := ⟨Nat.ne_of_gt h2, Heap.get?_none_of_le (Nat.le_trans h1 (Nat.le_of_lt h2))⟩
/-- the start of a comprehension: its list D and its namespace C -/
theorem comp_begin {prog : Program} {w : World} {A : Around} {E : Value → Shared → Prop} {scope : Scope} {cl : List (Str × Addr)} {env : Env} {e : Expr} {it : Value} {s₂ : Shared} {RR : Value → Addr → Result → Shared → Prop}
    (hcell : ∀ y ∈ scope.names, y.2 ≠ .cell) (hkind : scope.kind = .function) (F : Fr h₀ L s₂.heap m)
    (K : ∀ (D C : Addr) (h₁ : Heap) (tk : Nat), @LT.lt Nat _ L D → @LT.lt Nat _ D C → (∀ b, @LT.lt Nat _ L b → b ≠ L ∧ h₀.get? b = none) → (∀ b o, s₂.heap.get? b = some o → @LT.lt Nat _ b D ∧ h₁.get? b = some o) → h₁.Ns C (fun x => ([] : List (Str × Value)).reverse.lookup x) → h₁.get? D = some (lst []) →
      codeAny (model prog w) A (.compStart e 0 it (.ref D) (compEnvC scope cl C env)) (RR (.ref D) C) { s₂ with heap := h₁, toks := tk }) :
    wpAny (model prog w) A (newList []) (fun acc s₃ => wpAny (model prog w) A (newFunctionEnv scope env.globals cl [] env.qual none .none (some env)) (fun cenv s₄ =>
      codeAny (model prog w) A (.compStart e 0 it acc { cenv with scope := relabel scope env }) (RR acc cenv.locals) s₄) E s₃) E s₂ := by
  refine wpAny_newObj_type (wpAny_newFunctionEnv hcell (fun y hy => nomatch hy) (fun h₁ hns₁ hsb₁ => ?_) hkind)
  refine K _ _ h₁ _ F.ns.lt ?_ (fun b hb => above_new F.above hb) (fun b o e => ⟨Heap.lt_size e, ?_⟩) hns₁ ?_
  · show @LT.lt Nat _ _ (Heap.push _ _).objs.size
    rw [Heap.size_push]
    exact Nat.lt_succ_self _
  · refine hsb₁.extBut b o ?_ (Heap.get?_push_of_some _ (Heap.get?_push_of_some _ e))
    show b ≠ (Heap.push _ _).objs.size
    rw [Heap.size_push]
    exact Nat.ne_of_lt (Nat.lt_succ_of_lt (Heap.lt_size e))
  · refine hsb₁.extBut _ _ ?_ (Heap.get?_push_of_some _ (Heap.get?_push_size _ rfl))
    show _ ≠ (Heap.push _ _).objs.size
    rw [Heap.size_push]
    exact Nat.ne_of_lt (Nat.lt_succ_self _)
theorem left_lt {n i : Nat} (h : i < n) : n + 1 - (i + 1) < n + 1 - i := by omega
theorem line_of {n i : Nat} (h : i < n) (hn : n < 64) : i ≤ sizeLine := Nat.le_trans (Nat.le_of_lt (Nat.lt_trans h hn)) (by rw [PySem.sizeLine_eq]; exact Nat.le_of_ble_eq_true rfl)
theorem range_from {n : Nat} (hn : n < 64) : Builtin.Range.small (-1) ((n : Int) + 2) 1 = true ∧ Builtin.Range.rangeSize (-1) ((n : Int) + 2) 1 = ((n + 3 : Nat) : Int) := by
  have e : Builtin.Range.rangeSize (-1) ((n : Int) + 2) 1 = ((n + 3 : Nat) : Int) := by
    unfold Builtin.Range.rangeSize
    rw [if_pos (by decide), if_pos (by omega), Int.ediv_one]
    omega
  refine ⟨?_, e⟩
  unfold Builtin.Range.small Builtin.Range.rangeFitsLong
  rw [e]
  simp
  omega
theorem cut_pos {q : Int} : 0 ≤ (if q > 0 then q else 0) := by
  split
  · exact Int.le_of_lt ‹_›
  · exact Int.le_refl _
theorem cut_nat {q : Int} : (if q > 0 then q else 0).toNat = q.toNat := by
  split
  · rfl
  · exact (Int.toNat_of_nonpos (Int.not_lt.mp ‹_›)).symm
theorem fit9 {i n : Nat} (h : i < n) (hn : n ≤ 9) : (i : Int) < 2 ^ 63 := Int.lt_of_lt_of_le (Int.ofNat_lt.mpr (Nat.lt_of_lt_of_le h hn)) (by decide)
theorem getD_left {vs : List Value} {x : Value} {i j : Nat} (e : vs.length = i) (h : j < i) : vs.getD j Value.none = (vs ++ [x]).getD j Value.none := by
  rw [List.getD_eq_getElem?_getD, List.getD_eq_getElem?_getD, List.getElem?_append_left (e ▸ h)]
theorem getD_last {vs : List Value} {x : Value} {i : Nat} (e : vs.length = i) : (vs ++ [x]).getD i Value.none = x := by
  rw [List.getD_eq_getElem?_getD, List.getElem?_append_right (Nat.le_of_eq e), e, Nat.sub_self]; rfl
theorem mem_skip {α : Type} {l r : List α} {a p : α} (h : p ∈ l ++ r) : p ∈ l ++ a :: r := (List.mem_append.mp h).elim (List.mem_append_left _) fun h => List.mem_append_right _ (.tail _ h)
theorem ne_map {p : Addr → Prop} {l l' : List (Addr × Obj)} (e : l'.map (·.1) = l.map (·.1)) (h : ∀ q ∈ l, p q.1) : ∀ q ∈ l', p q.1 := fun q hq => by
  obtain ⟨r, hr, e'⟩ := List.mem_map.mp (e ▸ List.mem_map_of_mem (f := fun x : Addr × Obj => x.1) hq)
  exact e' ▸ h r hr
end
end Mine
end
section
open PySem PySem.W PyProof.Rows PyProof.V PySem.Calls PySem.Spec Builtin Builtin.ObjectAttr
set_option compiler.extract_closed false
set_option Elab.async false
set_option maxRecDepth 100000
set_option maxHeartbeats 3000000
namespace Mine
theorem fillY0 : PySem.Challenge.rw_dn0005_11 = PySem.Challenge.rw_dn0005_11 ∧ Mine.hd11.heap_39 = Mine.hd11.heap_39 := by
  k_fill
  exact ⟨rfl, rfl⟩
inductive IntsI : List (Int × Value) → List (Int × Int) → Prop
  | nil : IntsI [] []
  | cons {k c : Int} {t : Tok} {r : List (Int × Value)} {r' : List (Int × Int)} (hr : IntsI r r') : IntsI ((k, .int c t) :: r) ((k, c) :: r')
theorem IntsI.length {kvs : List (Int × Value)} {cs : List (Int × Int)} (h : IntsI kvs cs) : kvs.length = cs.length := by
  induction h with
  | nil => rfl
  | cons _ ih => simp [ih]
theorem IntsI.at {kvs : List (Int × Value)} {cs : List (Int × Int)} (h : IntsI kvs cs) : ∀ {i : Nat} {x : Int × Value}, kvs[i]? = some x → ∃ k c t, x = (k, .int c t) ∧ cs[i]? = some (k, c) := by
  induction h with
  | nil => intro i x e; simp at e
  | @cons k c t r r' _ ih =>
    intro i x e
    cases i with
    | zero =>
      simp only [List.getElem?_cons_zero, Option.some.injEq] at e
      exact ⟨k, c, t, e.symm, rfl⟩
    | succ i =>
      rw [List.getElem?_cons_succ] at e ⊢
      exact ih e
theorem IntsI.keys {kvs : List (Int × Value)} {cs : List (Int × Int)} (h : IntsI kvs cs) : kvs.map (·.1) = cs.map (·.1) := by
  induction h with
  | nil => rfl
  | cons _ ih => simp [ih]
theorem IntsI.snoc {kvs : List (Int × Value)} {cs : List (Int × Int)} {k c : Int} {t : Tok} (h : IntsI kvs cs) : IntsI (kvs ++ [(k, .int c t)]) (cs ++ [(k, c)]) := by
  induction h with
  | nil => exact .cons .nil
  | cons _ ih => exact .cons ih
theorem IntsI.mapAt {kvs : List (Int × Value)} {cs : List (Int × Int)} {k c : Int} {t : Tok} (h : IntsI kvs cs) : IntsI (kvs.map fun kv => if kv.1 = k then (kv.1, .int c t) else kv) (cs.map fun p => if p.1 = k then (k, c) else p) := by
  induction h with
  | nil => exact .nil
  | @cons k' c' t' r r' hr ih =>
    rw [List.map_cons, List.map_cons]
    by_cases e : k' = k
    · rw [if_pos e, if_pos e, e]
      exact .cons ih
    · rw [if_neg e, if_neg e]
      exact .cons ih
theorem IntsI.put {kvs : List (Int × Value)} {cs : List (Int × Int)} {k c : Int} {t : Tok} (h : IntsI kvs cs) : ∃ cs', IntsI (stored kvs k (.int c t)) cs' ∧ cs'.length ≤ cs.length + 1 ∧ ∀ q ∈ cs', q ∈ cs ∨ q = (k, c) := by
  unfold stored
  split
  · refine ⟨cs.map fun p => if p.1 = k then (k, c) else p, h.mapAt, by rw [List.length_map]; exact Nat.le_succ _, fun q hq => ?_⟩
    · obtain ⟨p, hp, rfl⟩ := List.mem_map.mp hq
      split
      · exact .inr rfl
      · exact .inl hp
  · exact ⟨cs ++ [(k, c)], h.snoc, by simp, fun q hq => by
      rcases List.mem_append.mp hq with h | h
      · exact .inl h
      · exact .inr (List.mem_singleton.mp h)⟩
theorem len_sub : ∀ {l S : List Int}, l.Nodup → (∀ a ∈ l, a ∈ S) → l.length ≤ S.length
  | [], _, _, _ => Nat.zero_le _
  | a :: r, S, hn, h => by
    obtain ⟨n1, n2⟩ := List.nodup_cons.mp hn
    have ha := h a (.head _)
    have h2 := len_sub (S := S.erase a) n2 fun b hb => (List.mem_erase_of_ne (show b ≠ a from fun e => n1 (e ▸ hb))).mpr (h b (.tail _ hb))
    rw [List.length_erase_of_mem ha] at h2
    have := List.length_pos_of_mem ha
    rw [List.length_cons]
    lia
section
variable {prog : Program} {w : World} {A : Around} {E : Value → Shared → Prop} {s : Shared} {env : Env} {h₀ : Heap} {target : Expr} {body : List Stmt} {Q : Flow → Shared → Prop} {ws : List (Addr × String)} {keep : List (Addr × Obj)}
theorem ints_fold (J : Nat → (Str → Option Value) → List (Addr × Obj) → Prop) (n : Nat)
    (step : ∀ i x t m news, i < n → J i m news → ∀ h tk, Fr h₀ env.locals h m → AllObj ws (fun its => News h₀ env.locals h (its ++ news) →
      wpAny (model prog w) A (assign target env (.int x t)) (fun _ s₂ => wpAny (model prog w) A (execs body env) (UnrPostW h₀ env.locals { s with heap := h, toks := tk } its (fun m' n' => SubL keep n' ∧ J (i + 1) m' n') Q) E s₂) E { s with heap := h, toks := tk })) :
    ∀ {vs : List Value} {ks : List Int}, IntsAre vs ks → ∀ i m news, i + vs.length ≤ n → J i m news → (∀ m' news', J (i + vs.length) m' news' → ∀ h tk, Fr h₀ env.locals h m' → News h₀ env.locals h news' → Q .next { s with heap := h, toks := tk }) →
      ItemsRest prog w A E h₀ env target body Q s ws keep (vs.map .val) m news
  | [], _, _, i, m, news, _, j, fin => ItemsRest.zero (fin m news j)
  | v :: r, ns, hv, i, m, news, hn, j, fin => by
    obtain ⟨x, u, ns', rfl, hr⟩ : ∃ x u ns', v = .int x u ∧ IntsAre r ns' := by
      cases hv with
      | cons => exact ⟨_, _, _, rfl, by assumption⟩
    refine ItemsRest.val fun h tk F => ?_
    have e : i + (Value.int x u :: r).length = (i + 1) + r.length := by simp; lia
    have := step i x u m news (by rw [e] at hn; lia) j h tk F
    have key : ∀ m' n', J (i + 1) m' n' → ItemsRest prog w A E h₀ env target body Q s ws keep (r.map .val) m' n' := fun m' n' hj =>
      ints_fold J n step hr (i + 1) m' n' (e ▸ hn) hj (fun m2 n2 h2 => fin m2 n2 (by rw [e]; exact h2))
    refine allObj_mono (fun its hh N => wpAny_mono (hh N) (fun _ s₂ h₂ => wpAny_mono h₂ (fun fl s₃ q => ?_) fun _ _ e => e) fun _ _ e => e) this
    cases fl with
    | ret v => exact q
    | brk => exact q
    | next => obtain ⟨h', tk', m', n', e1, F', N', off, hk, hj⟩ := q; exact ⟨h', tk', m', n', e1, F', N', off, hk, key _ _ hj⟩
    | cont => obtain ⟨h', tk', m', n', e1, F', N', off, hk, hj⟩ := q; exact ⟨h', tk', m', n', e1, F', N', off, hk, key _ _ hj⟩
end
section
variable {prog : Program} {w : World} {A : Around} {E : Value → Shared → Prop} {s : Shared} {h₀ : Heap} {L d x dx v : Addr} {m : Str → Option Value} {news : List (Addr × Obj)} {es : Array DictEntry} {n : Nat}
theorem cnt_items_meth {pl : Sem Bool} {Q : Value × List Value → Shared → Prop} (F : Fr h₀ L s.heap m) (X₀ : (Mine.hd11.heap_39 w.params).In h₀) (N : News h₀ L s.heap news) (hm : (x, cnt es n dx) ∈ news) (hdx : (dx, dictOf [] 0) ∈ news)
   (h : Q (.builtin "dict.items", [.ref x]) s) : wpAny (model prog w) A (getMethod (.ref x) (Str.ofString "items") pl) Q E s :=
  sub_method (tn := "method_descriptor") (X₀.keeps F.keep) (inst_cnt N hm hdx) (c_ga _) (c_gt _) (c_items _) (by k_is) (by decide) (by show (lookIn (Str.ofString "items") (dictOf [] 0)).map _ = _; rw [lookIn_dict]; rfl) h
theorem iter_view {K : Type} [DecidableEq K] {knd : KeyKind prog w K} {kvs : List (K × Value)} {ep : Nat} {od : Obj} {Q : Value → Shared → Prop} (F : Fr h₀ L s.heap m) (N : News h₀ L s.heap news) (hv : (v, iview d) ∈ news) (hm : (d, od) ∈ news) (hod : od.data = .dict es ep) (D : DIs knd es kvs)
   (h : ∀ I h', Fr h₀ L h' m → News h₀ L h' ((I, itm d 0 kvs.length ep .none false .none .none) :: news) → (∀ p ∈ news, p.1 < I) → Q (.ref I) { s with heap := h' }) : wpAny (model prog w) A (call (.builtin "iter") [.ref v]) Q E s := by
  refine call_function_entry (by decide +kernel) (by decide +kernel) kdk_entry_iter (kdk_args_iter _) ?_
  unfold Builtin.«iter»
  refine wpAny_bind (m := someArgs "iter" 1 2 _) (wpAny_of_eq (a := [Value.ref v]) (by first | rfl | kernel_rfl!) ?_)
  show wpAny _ _ (pyIter (.ref v) >>= _) _ _ _
  refine wpAny_bind (it_iter (N _ hv).1 ⟨od, es, (N _ hm).1, hod, D⟩ ?_)
  exact wpAny_pure ⟨_, rfl, h _ _ (F.push _) (News.push F N _ rfl) fun q hq => Heap.lt_size (N q hq).1⟩
end
end Mine
end
section
open PySem PySem.W PyProof.Rows PyProof.V PySem.Calls PySem.Spec Builtin Builtin.ObjectAttr
set_option compiler.extract_closed false
set_option Elab.async false
set_option maxRecDepth 100000
set_option maxHeartbeats 3000000
namespace Mine
noncomputable abbrev tup (x y : Value) : Obj := { cls := .type "tuple", data := .seq #[x, y] }
/-- the state of an iterator over items before its turn i, while the tuples that it gave live on -/
noncomputable def ItSt (h : Heap) (it d S : Addr) (i n ep : Nat) : Prop :=
  (i = 0 ∧ ∃ ok ov, h.get? it = some (itm d 0 n ep .none false ok ov)) ∨ ∃ ok ov, ∃ a : Addr, ∃ f oa, h.get? it = some (itm d i n ep (rawInt a) f ok ov) ∧ h.get? a = some oa ∧ a ≠ it ∧ a ≠ S
/-- fresh tuples that hold the pairs -/
inductive TupsN {prog : Program} {w : World} (knd : KeyKind prog w Int) (h : Heap) (lo : Addr) : List Addr → List (Int × Value) → Prop
  | nil : TupsN knd h lo [] []
  | snoc {as : List Addr} {kvs : List (Int × Value)} {a : Addr} {k : Int} {key v : Value} (r : TupsN knd h lo as kvs) (hk : knd.is k key = true) (ho : h.get? a = some (tup key v)) (hl : lo ≤ a) : TupsN knd h lo (as ++ [a]) (kvs ++ [(k, v)])
theorem TupsN.keep {prog : Program} {w : World} {knd : KeyKind prog w Int} {h h' : Heap} {lo : Addr} {as : List Addr} {kvs : List (Int × Value)} (T : TupsN knd h lo as kvs) (e : ∀ b o, lo ≤ b → h.get? b = some o → h'.get? b = some o) : TupsN knd h' lo as kvs := by
  induction T with
  | nil => exact .nil
  | snoc r hk ho hl ih => exact .snoc ih hk (e _ _ hl ho) hl
theorem TupsN.low {prog : Program} {w : World} {knd : KeyKind prog w Int} {h : Heap} {lo lo' : Addr} {as : List Addr} {kvs : List (Int × Value)} (T : TupsN knd h lo as kvs) (hl : @LE.le Nat _ lo' lo) : TupsN knd h lo' as kvs := by
  induction T with
  | nil => exact .nil
  | snoc r hk ho hlo ih => exact .snoc ih hk ho (Nat.le_trans hl hlo)
theorem TupsN.length {prog : Program} {w : World} {knd : KeyKind prog w Int} {h : Heap} {lo : Addr} {as : List Addr} {kvs : List (Int × Value)} (T : TupsN knd h lo as kvs) : as.length = kvs.length := by
  induction T with
  | nil => rfl
  | snoc r hk ho hl ih => rw [List.length_append, List.length_append, ih]; rfl
section
variable {prog : Program} {w : World} {A : Around} {s : Shared} {R : Result → Shared → Prop} {kvs : List (Int × Value)} {ep : Nat}
theorem lstI_loop {S I d lo : Addr} (hh : A.handled = none) (hSI : S < lo) (hIl : I < lo) (hne : S ≠ I) (hSd : d ≠ S) (hId : d ≠ I) (hn : kvs.length ≤ sizeLine) (res : Value) {h₁ : Heap}
    (hR : ∀ h' tk acc c as, (∀ b o, b ≠ S → b ≠ I → h₁.get? b = some o → h'.get? b = some o) → h'.get? S = some { cls := .type "list", dict := none, data := .seq acc c, slots := #[] } → TupsN (PySem.intKind prog w) h' lo as kvs →
      acc.toList = as.map Value.ref → R (.ok (.ret res)) { s with heap := h', toks := tk }) :
    ∀ (k i : Nat) (h : Heap) (tk c : Nat) (acc : Array Value) (as : List Addr), kvs.length - i = k → i ≤ kvs.length → ItSt h I d S i kvs.length ep → DatAt (PySem.intKind prog w) h d kvs ep → (∀ b o, b ≠ S → b ≠ I → h₁.get? b = some o → h.get? b = some o) →
      h.get? S = some { cls := .type "list", dict := none, data := .seq acc c, slots := #[] } → acc.toList = as.map Value.ref → TupsN (PySem.intKind prog w) h lo as (kvs.take i) → lo ≤ h.objs.size →
      codeAny (model prog w) A (.builtin "list.extend.loop" ⟨[.ref S, .ref I, res], []⟩) R { s with heap := h, toks := tk } := by
  intro k
  induction k with
  | zero =>
    intro i h tk c acc as hk hi hst hD hkeep hS hacc hT hlo
    have hin : i = kvs.length := by lia
    refine codeAny_builtin PySem.F.entry_extend_loop ?_
    rw [Around.under_plainId PySem.F.plain_extend_loop _]
    show wpAny _ A.in1 (pyNext (.ref I) >>= _) _ _ _
    have fin : ∀ h', Heap.ExtBut I h h' → R (.ok (.ret res)) { s with heap := h', toks := tk } := fun h' he => by
      rw [hin, List.take_length] at hT
      exact hR h' tk acc c as (fun b o h1 h2 e => he b o h2 (hkeep b o h1 h2 e)) (he S _ hne hS) (hT.keep fun b o hb e => he b o (Nat.ne_of_gt (Nat.lt_of_lt_of_le hIl hb)) e) hacc
    rcases hst with ⟨rfl, ok, ov, hit⟩ | ⟨ok, ov, a, f, oa, hit, _, _, _⟩
    · exact wpAny_bind (it_end (s := { s with heap := h, toks := tk }) (A := A.in1) hh hit hD (List.getElem?_eq_none (by lia)) fun h' he => wpAny_pure (fin h' he))
    · exact wpAny_bind (it_end (s := { s with heap := h, toks := tk }) (A := A.in1) hh hit hD (List.getElem?_eq_none (by lia)) fun h' he => wpAny_pure (fin h' he))
  | succ k ih =>
    intro i h tk c acc as hk hi hst hD hkeep hS hacc hT hlo
    have hlt : i < kvs.length := by omega
    obtain ⟨⟨kk, x⟩, hx⟩ : ∃ p, kvs[i]? = some p := ⟨kvs[i], List.getElem?_eq_getElem hlt⟩
    have hsz : acc.size = i := by rw [← Array.length_toList, hacc, List.length_map, hT.length, List.length_take]; lia
    refine codeAny_builtin PySem.F.entry_extend_loop ?_
    rw [Around.under_plainId PySem.F.plain_extend_loop _]
    show wpAny _ A.in1 (pyNext (.ref I) >>= _) _ _ _
    have go : ∀ key h', (PySem.intKind prog w).is kk key = true → ItSt h' I d S (i + 1) kvs.length ep → h'.get? h.objs.size = some (tup key x) → h'.objs.size = h.objs.size + 1 → (∀ b o, b ≠ I → h.get? b = some o → h'.get? b = some o) →
        wpAny (model prog w) A.in1 (updateSeq S (·.push (Value.ref h.objs.size)) >>= fun _ => again (.builtin "list.extend.loop" ⟨[.ref S, .ref I, res], []⟩)) (fun fin s' => match fin with | .done f => R (.ok f) s' | .again c' => c'.quiet = true ∧ codeAny (model prog w) A c' R s') (fun e s' => R (.error e) s') { s with heap := h', toks := tk } := by
      intro key h' hkey hst' ht hz hkp
      have hS' := hkp S _ hne hS
      have up : ∀ b o, b ≠ S → h'.get? b = some o → (h'.update S (Obj.mapSeq (·.push (Value.ref h.objs.size)))).get? b = some o := fun b o hb e => (Heap.get?_update_other _ _ (Ne.symm hb)).trans e
      have hzu : (h'.update S (Obj.mapSeq (·.push (Value.ref h.objs.size)))).objs.size = h.objs.size + 1 := by rw [← hz]; exact (Heap.SameBut.update (a := S) (h := h') (f := Obj.mapSeq (·.push (Value.ref h.objs.size)))).1
      refine wpAny_bind (wpAny_updateSeq hS' rfl (wpAny_pure ⟨plainId_quiet PySem.F.plain_extend_loop _, ih (i + 1) _ tk _ (acc.push (Value.ref h.objs.size)) (as ++ [h.objs.size]) (by lia) hlt ?_ ((hD.at fun o e => hkp d o hId e).at fun o e => up d o hSd e)
        (fun b o h1 h2 e => up b o h1 (hkp b o h2 (hkeep b o h1 h2 e))) (Heap.get?_update_self _ hS' rfl) (by rw [Array.toList_push, hacc, List.map_append]; rfl) ?_ (by rw [hzu]; exact Nat.le_trans hlo (Nat.le_succ _))⟩) (by rw [hsz]; exact Nat.le_trans ‹_› ‹_›) (by show (acc.push (Value.ref h.objs.size)).size ≤ sizeLine + 1; rw [Array.size_push, hsz]; lia))
      · rcases hst' with ⟨e0, _⟩ | ⟨ok, ov, a, f, oa, h1, h2, h3, h4⟩
        · lia
        · exact .inr ⟨ok, ov, a, f, oa, up _ _ (Ne.symm hne) h1, up _ _ h4 h2, h3, h4⟩
      · rw [List.take_add_one, hx]
        exact (hT.keep fun b o hb e => up b o (Nat.ne_of_gt (Nat.lt_of_lt_of_le hSI hb)) (hkp b o (Nat.ne_of_gt (Nat.lt_of_lt_of_le hIl hb)) e)).snoc hkey (up _ _ (Nat.ne_of_gt (Nat.lt_of_lt_of_le hSI hlo)) ht) hlo
    have hS0 : S < h.objs.size := Heap.lt_size hS
    rcases hst with ⟨rfl, ok, ov, hit⟩ | ⟨ok, ov, a, f, oa, hit, ha, hai, haS⟩
    · refine wpAny_bind (it_next0 (s := { s with heap := h, toks := tk }) hit hD hx fun key h' hkey hi' ht hz hkp => go key h' hkey (.inr ⟨key, x, _, false, _, hi', ht, Nat.ne_of_gt (Heap.lt_size hit), Nat.ne_of_gt hS0⟩) ht hz hkp)
    · refine wpAny_bind (it_next1 (s := { s with heap := h, toks := tk }) hit ha hai hD hx fun key h' hkey hi' ht hz hkp => go key h' hkey (.inr ⟨ok, ov, a, true, oa, hi', hkp a oa hai ha, hai, haS⟩) ht hz hkp)
end
end Mine
end
section
open PySem PySem.W PyProof.Rows PyProof.V PySem.Calls PySem.Spec Builtin Builtin.ObjectAttr
set_option Elab.async false
set_option maxRecDepth 100000
set_option maxHeartbeats 3000000
namespace Mine
section
variable {prog : Program} {w : World} {A : Around} {E : Value → Shared → Prop} {s : Shared} {R : Result → Shared → Prop} {kvs : List (Int × Value)} {ep : Nat} {r d : Addr}
theorem lstI_extend (hh : A.handled = none) (hv : s.heap.get? r = some (iview d)) (hm : DatAt (PySem.intKind prog w) s.heap d kvs ep) (S : Addr) (hSr : S ≠ r) (hSd : d ≠ S) (res : Value) (c₀ : Nat) (hS : s.heap.get? S = some { cls := .type "list", data := .seq #[] c₀ })
    (hR : ∀ h' tk acc c as, (∀ b o, b ≠ S → s.heap.get? b = some o → h'.get? b = some o) → h'.get? S = some { cls := .type "list", dict := none, data := .seq acc c, slots := #[] } → TupsN (PySem.intKind prog w) h' (s.heap.objs.size + 1) as kvs →
      acc.toList = as.map Value.ref → R (.ok (.ret res)) { s with heap := h', toks := tk }) (hn : kvs.length ≤ sizeLine) :
    wpAny (model prog w) A.in1 (Builtin.List.listExtendWith (.ref S) (.ref r) res)
      (fun fin s' => match fin with | .done f => R (.ok f) s' | .again c' => c'.quiet = true ∧ codeAny (model prog w) A c' R s') (fun e s' => R (.error e) s') s := by
  have hSI : S < s.heap.objs.size := Heap.lt_size hS
  have hdI : d < s.heap.objs.size := let ⟨_, _, ho, _⟩ := hm; Heap.lt_size ho
  have hIV : s.heap.IsItemsView r d := ⟨_, hv, rfl, rfl⟩
  have key : ∀ (h : Heap) (c₁ tk : Nat), (∀ b o, b ≠ S → (s.heap.push (itm d 0 kvs.length ep .none false .none .none)).get? b = some o → h.get? b = some o) → h.objs.size = s.heap.objs.size + 1 →
      h.get? S = some { cls := .type "list", data := .seq #[] c₁ } → codeAny (model prog w) A (.builtin "list.extend.loop" ⟨[.ref S, .ref s.heap.objs.size, res], []⟩) R { s with heap := h, toks := tk } := by
    intro h c₁ tk hk hz hS₁
    have hI := hk s.heap.objs.size _ (Nat.ne_of_gt hSI) (Heap.get?_push_size _ rfl)
    refine lstI_loop (kvs := kvs) (ep := ep) (s := s) (h₁ := s.heap) (lo := s.heap.objs.size + 1) hh (Nat.lt_succ_of_lt hSI) (Nat.lt_succ_self _) (Nat.ne_of_lt hSI) hSd (Nat.ne_of_lt hdI) hn res (fun h' tk' acc c as hk' hS' hT hacc => hR h' tk' acc c as (fun b o hb e => hk' b o hb (Nat.ne_of_lt (Heap.lt_size e)) e) hS' hT hacc)
      kvs.length 0 h tk c₁ #[] [] (Nat.sub_zero _) (Nat.zero_le _) (.inl ⟨rfl, .none, .none, hI⟩) (hm.at fun o e => hk d o hSd (Heap.get?_push_of_some _ e)) (fun b o hb _ e => hk b o hb (Heap.get?_push_of_some _ e)) hS₁ rfl .nil (by rw [hz]; exact Nat.le_refl _)
  unfold Builtin.List.listExtendWith
  refine wpAny_bind (wpAny_typeOf (T := "dict_items") hIV.typeIs ?_)
  have h1 : Builtin.List.listSameRef (.ref S) (.ref r) = false := by simp [Builtin.List.listSameRef, hSr]
  have h2 : (Value.type "dict_items" == Value.type "list") = false := by decide
  have h3 : (Value.type "dict_items" == Value.type "tuple") = false := by decide
  simp only [h1, h2, h3, Bool.or_false, Bool.false_eq_true, if_false]
  refine wpAny_bind (it_iter hv hm ?_)
  have hS₁ := Heap.get?_push_of_some (itm d 0 kvs.length ep .none false .none .none) hS
  have hv₁ := Heap.get?_push_of_some (itm d 0 kvs.length ep .none false .none .none) hv
  refine wpAny_bind (wpAny_holding (kdx_hint ⟨_, hv₁, rfl⟩ ?_))
  refine wpAny_ite_split (fun _ => ?_) (fun _ => wpAny_pure ⟨plainId_quiet PySem.F.plain_extend_loop _, key _ c₀ _ (fun b o _ e => e) (Heap.size_push ..) hS₁⟩)
  refine wpAny_bind (wpAny_rule ?_)
  refine wpAny_bind ?_
  show wpAny _ _ (updateSeq S (·.push .none) >>= fun _ => updateSeq S (·.pop)) _ _ _
  refine wpAny_bind (wpAny_updateSeq hS₁ rfl ?_)
  have hS₂ := Heap.get?_update_self (Obj.mapSeq (·.push Value.none)) hS₁ rfl
  refine wpAny_updateSeq (hz := by seq_fits) hS₂ rfl ?_
  have hS₃ := Heap.get?_update_self (Obj.mapSeq (·.pop)) hS₂ rfl
  refine wpAny_pure ⟨plainId_quiet PySem.F.plain_extend_loop _, key _ _ _ (fun b o hb e => (Heap.get?_update_other _ _ (Ne.symm hb)).trans ((Heap.get?_update_other _ _ (Ne.symm hb)).trans e)) ?_ hS₃⟩
  have q1 := (Heap.SameBut.update (a := S) (h := (s.heap.push (itm d 0 kvs.length ep .none false .none .none)).update S (Obj.mapSeq (·.push Value.none))) (f := Obj.mapSeq (·.pop))).1
  have q2 := (Heap.SameBut.update (a := S) (h := s.heap.push (itm d 0 kvs.length ep .none false .none .none)) (f := Obj.mapSeq (·.push Value.none))).1
  exact q1.trans (q2.trans (Heap.size_push ..))
theorem lstI_init (hh : A.handled = none) (hv : s.heap.get? r = some (iview d)) (hm : DatAt (PySem.intKind prog w) s.heap d kvs ep) (S : Addr) (hSr : S ≠ r) (hSd : d ≠ S) (hS : s.heap.get? S = some { cls := .type "list", data := .seq #[] })
    (hR : ∀ h' tk acc c as, (∀ b o, b ≠ S → s.heap.get? b = some o → h'.get? b = some o) → h'.get? S = some { cls := .type "list", dict := none, data := .seq acc c, slots := #[] } → TupsN (PySem.intKind prog w) h' (s.heap.objs.size + 1) as kvs →
      acc.toList = as.map Value.ref → R (.ok (.ret .none)) { s with heap := h', toks := tk }) (hn : kvs.length ≤ sizeLine) :
    wpAny (model prog w) A.in1 (Builtin.«list.__init__» ⟨[.ref S, .ref r], []⟩)
      (fun fin s' => match fin with | .done f => R (.ok f) s' | .again c' => c'.quiet = true ∧ codeAny (model prog w) A c' R s') (fun e s' => R (.error e) s') s := by
  show wpAny _ _ (do let old ← Builtin.List.listItems (.ref S); Builtin.List.listUpdate (.ref S) (fun _ => #[]); letGo old.toList.reverse; Builtin.List.listExtendWith (.ref S) (.ref r) .none) _ _ s
  refine wpAny_bind ?_
  unfold Builtin.List.listItems
  refine wpAny_bind (wpAny_seqItems hS rfl (wpAny_pure ?_))
  show wpAny _ _ (updateSeq S (fun _ => #[]) >>= fun _ => letGo (#[] : Array Value).toList.reverse >>= fun _ => Builtin.List.listExtendWith (.ref S) (.ref r) .none) _ _ s
  refine wpAny_bind (wpAny_updateSeq hS rfl ?_)
  have hS₂ := Heap.get?_update_self (Obj.mapSeq (fun _ => (#[] : Array Value))) hS rfl
  have hsz := (Heap.SameBut.update (a := S) (h := s.heap) (f := Obj.mapSeq (fun _ => (#[] : Array Value)))).1
  have oth : ∀ b o, b ≠ S → s.heap.get? b = some o → (s.heap.update S (Obj.mapSeq (fun _ => (#[] : Array Value)))).get? b = some o :=
    fun b o hb e => (Heap.get?_update_other _ _ (Ne.symm hb)).trans e
  refine wpAny_bind (wpAny_letGo ?_)
  refine lstI_extend (s := { s with heap := s.heap.update S (Obj.mapSeq (fun _ => (#[] : Array Value))) }) (kvs := kvs) (ep := ep) hh (oth r _ hSr.symm hv) (hm.at fun o e => oth d o hSd e) S hSr hSd .none _ hS₂ (fun h' tk acc c as hk hS' hT hacc => ?_) hn
  exact hR h' tk acc c as (fun b o hb e => hk b o hb (oth b o hb e)) hS' (by dsimp only at hT; rw [hsz] at hT; exact hT) hacc
theorem lstI_call {Q : Value → Shared → Prop} (hh : A.handled = none) (hv : s.heap.get? r = some (iview d)) (hm : DatAt (PySem.intKind prog w) s.heap d kvs ep) (hn : kvs.length ≤ sizeLine)
    (hQ : ∀ h' tk acc c as, (∀ b o, s.heap.get? b = some o → h'.get? b = some o) → h'.get? s.heap.objs.size = some { cls := .type "list", dict := none, data := .seq acc c, slots := #[] } → TupsN (PySem.intKind prog w) h' s.heap.objs.size as kvs →
      acc.toList = as.map Value.ref → Q (.ref s.heap.objs.size) { s with heap := h', toks := tk }) :
    wpAny (model prog w) A (call (.type "list") [.ref r]) Q E s := by
  refine callType_codes (Q₁ := fun obj s₁ => obj = .ref s.heap.objs.size ∧ s₁ = { s with heap := s.heap.push { cls := .type "list", data := .seq #[] } }) PySem.F.called_list (PySem.F.typeCall_list_1 _) PySem.F.entry_list_init
    (code_list_new _ ⟨rfl, rfl⟩) fun obj s₁ h₁ => ?_
  obtain ⟨rfl, rfl⟩ := h₁
  have hS : (s.heap.push { cls := .type "list", data := .seq #[] }).get? s.heap.objs.size = some { cls := .type "list", data := .seq #[] } := Heap.get?_push_size _ rfl
  have hr : r < s.heap.objs.size := Heap.lt_size hv
  have hd : d < s.heap.objs.size := let ⟨_, _, ho, _⟩ := hm; Heap.lt_size ho
  refine ⟨⟨_, hS, rfl⟩, PySem.F.args_list_init_2 _ _, lstI_init (s := { s with heap := s.heap.push { cls := .type "list", data := .seq #[] } }) (kvs := kvs) (ep := ep) (A := A.in1) hh (Heap.get?_push_of_some _ hv) (hm.at fun o e => Heap.get?_push_of_some _ e) _ (Nat.ne_of_gt hr) (Nat.ne_of_lt hd) hS (fun h' tk acc c as hk hS' hT hacc => ?_) hn⟩
  refine ⟨rfl, hQ h' tk acc c as (fun b o e => hk b o (Nat.ne_of_lt (Heap.lt_size e)) (Heap.get?_push_of_some _ e)) hS' ?_ hacc⟩
  dsimp only at hT
  rw [Heap.size_push] at hT
  exact hT.low (Nat.le_trans (Nat.le_succ _) (Nat.le_succ _))
end
section
variable {prog : Program} {w : World} {A : Around} {E : Value → Shared → Prop} {s : Shared} {h₀ : Heap} {L : Addr} {m : Str → Option Value} {news : List (Addr × Obj)} {r y : Addr}
/-- references to tuples of a text and a whole number, the tuples among the objects of l -/
inductive TupsJ (l : List (Addr × Obj)) : List Value → List (Int × Int) → Prop
  | nil : TupsJ l [] []
  | cons {a : Addr} {k : Int} {c : Int} {t u : Tok} {r : List Value} {r' : List (Int × Int)} (h : (a, tup (.int k t) (.int c u)) ∈ l) (hr : TupsJ l r r') : TupsJ l (.ref a :: r) ((k, c) :: r')
theorem TupsJ.sub {l l' : List (Addr × Obj)} {vs : List Value} {cs : List (Int × Int)} (h : TupsJ l vs cs) (hs : ∀ p ∈ l, p ∈ l') : TupsJ l' vs cs := by
  induction h with
  | nil => exact .nil
  | cons h _ ih => exact .cons (hs _ h) ih
theorem TupsJ.append {l : List (Addr × Obj)} {vs vs' : List Value} {cs cs' : List (Int × Int)} (h : TupsJ l vs cs) (h' : TupsJ l vs' cs') : TupsJ l (vs ++ vs') (cs ++ cs') := by
  induction h with
  | nil => exact h'
  | cons h _ ih => exact .cons h ih
theorem TupsJ.length {l : List (Addr × Obj)} {vs : List Value} {cs : List (Int × Int)} (h : TupsJ l vs cs) : vs.length = cs.length := by
  induction h with
  | nil => rfl
  | cons _ _ ih => simp [ih]
theorem IntsI.split : ∀ {a : List (Int × Value)} {x : Int × Value} {cs : List (Int × Int)}, IntsI (a ++ [x]) cs → ∃ cs' y, cs = cs' ++ [y] ∧ IntsI a cs' ∧ x.1 = y.1 ∧ ∃ t, x.2 = .int y.2 t
  | [], _, _, .cons (k := k) (c := c) (t := t) .nil => ⟨[], (k, c), rfl, .nil, rfl, t, rfl⟩
  | _ :: _, _, _, .cons hr => by
    obtain ⟨cs', y, e, h1, h2, h3⟩ := IntsI.split hr
    exact ⟨_ :: cs', y, by rw [e]; rfl, .cons h1, h2, h3⟩
theorem TupsN.into {h : Heap} {lo : Addr} {as : List Addr} {kvs : List (Int × Value)} (T : TupsN (PySem.intKind prog w) h lo as kvs) : ∀ {cs : List (Int × Int)}, IntsI kvs cs → (hf : ∀ a o, lo ≤ a → h.get? a = some o → a ≠ L ∧ h₀.get? a = none) → ∃ l, News h₀ L h l ∧ TupsJ l (as.map .ref) cs ∧ ∀ p ∈ l, lo ≤ p.1 := by
  induction T with
  | nil => intro cs hi hf; cases hi; exact ⟨[], (fun _ hp => nomatch hp), .nil, (fun _ hp => nomatch hp)⟩
  | @snoc as kvs a k key v r hk ho hl ih =>
    intro cs hi hf
    obtain ⟨cs', y, rfl, h1, h2, t, h3⟩ := hi.split
    obtain ⟨l, N, hT, hlo⟩ := ih h1 hf
    obtain ⟨u, rfl⟩ := PySem.Value.isInt_shape hk
    obtain ⟨y1, y2⟩ := y
    dsimp only at h2 h3
    subst h2 h3
    refine ⟨(a, tup (.int k u) (.int y2 t)) :: l, fun p hp => ?_, ?_, fun p hp => ?_⟩
    · rcases List.mem_cons.mp hp with rfl | hp
      · exact ⟨ho, hf a _ hl ho⟩
      · exact N p hp
    · rw [List.map_append]
      exact (hT.sub fun p hp => .tail _ hp).append (.cons (.head _) .nil)
    · rcases List.mem_cons.mp hp with rfl | hp
      · exact hl
      · exact hlo p hp
theorem list_items_I {kvs : List (Int × Value)} {cs : List (Int × Int)} {Q : Value → Shared → Prop} (hh : A.handled = none) (F : Fr h₀ L s.heap m) (N : News h₀ L s.heap news) (hv : (r, iview y) ∈ news) {oo : Obj} {es : Array DictEntry} {ep : Nat} (hom : (y, oo) ∈ news) (hod : oo.data = .dict es ep) (D : DIs (PySem.intKind prog w) es kvs) (hi : IntsI kvs cs) (hn : kvs.length ≤ sizeLine)
    (h : ∀ S h' tk vs l n, TupsJ l vs cs → Fr h₀ L h' m → News h₀ L h' ((S, listOf vs.toArray n) :: (l ++ news)) → (∀ p ∈ news, p.1 < S) → (∀ p ∈ l, S ≤ p.1) → Q (.ref S) { s with heap := h', toks := tk }) :
    wpAny (model prog w) A (call (.type "list") [.ref r]) Q E s := by
  refine lstI_call (kvs := kvs) hh (N _ hv).1 ⟨oo, es, (N _ hom).1, hod, D⟩ hn fun h' tk acc c as hk hS hT hacc => ?_
  have F' : Fr h₀ L h' m := ⟨F.ns.at' fun o e => hk _ o e, fun b o e => hk b o (F.keep b o e), F.above⟩
  have hnew : ∀ a o, s.heap.objs.size ≤ a → h'.get? a = some o → a ≠ L ∧ h₀.get? a = none := fun a o hl _ => ⟨Nat.ne_of_gt (Nat.lt_of_lt_of_le F.ns.lt hl), Heap.get?_none_of_le (Nat.le_trans (Nat.le_of_lt (Nat.lt_of_le_of_lt F.above F.ns.lt)) hl)⟩
  obtain ⟨l, Nl, hTl, hlo⟩ := hT.into hi hnew
  have hac : acc = (as.map Value.ref).toArray := by rw [← hacc]
  subst hac
  refine h _ h' tk (as.map .ref) l c hTl F' (fun p hp => ?_) (fun p hp => Heap.lt_size (N p hp).1) hlo
  rcases List.mem_cons.mp hp with rfl | hp
  · exact ⟨hS, hnew _ _ (Nat.le_refl _) hS⟩
  · rcases List.mem_append.mp hp with hp | hp
    · exact Nl p hp
    · exact ⟨hk _ _ (N p hp).1, (N p hp).2⟩
end
end Mine
end
section
open PySem PySem.W PyProof.Rows PyProof.V PySem.Calls PySem.Spec Builtin Builtin.ObjectAttr
set_option compiler.extract_closed false
set_option Elab.async false
set_option maxRecDepth 100000
set_option maxHeartbeats 3000000
namespace Mine
theorem fillY2 : PySem.Challenge.rw_dn0005_11 = PySem.Challenge.rw_dn0005_11 ∧ Mine.hd11.heap_39 = Mine.hd11.heap_39 := by
  k_fill
  exact ⟨rfl, rfl⟩
/-- an object with one slot -/
noncomputable abbrev one (C dx : Addr) (a : Value) : Obj := { cls := .ref C, dict := some dx, data := .plain, slots := #[some a] }
noncomputable abbrev tup1 (x : Value) : Obj := { cls := .type "tuple", data := .seq #[x] }
theorem all_ne {l : List (Addr × Obj)} {d x : Nat} (h : AllLt d l) (hd : d ≤ x) : ∀ p ∈ l, p.1 ≠ x := by
  induction l with
  | nil => intro p hp; cases hp
  | cons q r ih =>
    intro p hp
    rcases List.mem_cons.mp hp with rfl | hp
    · exact fun e => absurd (Nat.lt_of_lt_of_le (e ▸ h.1) hd) (Nat.lt_irrefl _)
    · exact ih h.2 p hp
local macro_rules | `(tactic| k_room) => `(tactic| ((try dsimp only [AK]); (have h1000 : recursionLimit = 1000 := rfl); omega))

section
variable {prog : Program} {w : World} {A₀ : Around} {base h₀ : Heap} {outer : List Env} {e0 : Env} {L : Addr} {m mg mb : Str → Option Value} {mean : ExcName → Option Value} {s : Shared} {R : Result → Shared → Prop} {rest : List (Addr × Obj)}
theorem key_fn {l : Nat} (hlv : l ≤ 15) {g dg t p : Addr} {tk : Tok} {k v : Value} (B : Below A₀ base outer h₀) (F : Fr h₀ L s.heap m) (X : (Mine.hd11.heap_39 w.params).In h₀) (N : News h₀ L s.heap ((p, tup k v) :: (g, one 867 dg (.ref t)) :: (dg, dictOf [] 0) :: (t, tup1 (.int 1 tk)) :: rest)) (T : Top vw ls mean mg mb h₀)
   (kk : ∀ h' tk', Fr h₀ L h' m → News h₀ L h' ((p, tup k v) :: (g, one 867 dg (.ref t)) :: (dg, dictOf [] 0) :: (t, tup1 (.int 1 tk)) :: rest) → R (.ok (.ret v)) { s with heap := h', toks := tk' })
   : codeAny (model prog w) (AK l (ek e0 L) outer) (.call (.ref 849) ⟨[.ref g, .ref p], []⟩) R s := by
  k_enter
  k_steps
  exact kk _ _ ‹_› ‹_›
end
end Mine
end
section
open PySem PySem.W PyProof.Rows PyProof.V PySem.Calls PySem.Spec Builtin Builtin.ObjectAttr
set_option compiler.extract_closed false
set_option Elab.async false
set_option maxRecDepth 100000
set_option maxHeartbeats 3000000
namespace Mine
theorem rev_getD {α : Type} (l : List α) (d : α) {i : Nat} (h : i < l.length) : l.reverse.getD i d = l.getD (l.length - 1 - i) d := by
  rw [List.getD_eq_getElem?_getD, List.getD_eq_getElem?_getD, List.getElem?_reverse h]
/-- the stable order from the greatest down, as the sort of what is turned round gives it -/
theorem due_of_asc {kz : List Int} {p : Array Nat} {n : Nat} (hn : kz.length = n) (hs : p.size = n) (hp : p.toList.Perm (List.range n)) (ha : Asc (fun i => kz.reverse.getD i 0) p n) :
    (p.toList.map fun i => n - 1 - i).reverse = dueI (fun i => kz.getD i 0) n := by
  refine before_same (c := fun i => kz.getD i 0) ?_ ?_ (dueI_pw _ _)
  · refine (List.reverse_perm _).trans (((hp.map _).trans ?_).trans (dueI_perm _ n).symm)
    have e : (List.range n).map (fun i => n - 1 - i) = (List.range n).reverse := by
      refine List.ext_getElem (by simp) fun i h1 h2 => ?_
      simp at h1
      rw [List.getElem_map, List.getElem_range, List.getElem_reverse, List.getElem_range, List.length_range]
    rw [e]
    exact List.reverse_perm _
  · rw [List.pairwise_reverse, List.pairwise_map]
    refine (asc_pairwise hs ha).imp_of_mem fun {i j} hi hj hij => ?_
    have hi' := List.mem_range.mp (hp.mem_iff.mp hi)
    have hj' := List.mem_range.mp (hp.mem_iff.mp hj)
    unfold lexLt at hij
    dsimp only at hij
    rw [rev_getD kz 0 (by lia), rev_getD kz 0 (by lia), hn] at hij
    unfold before
    dsimp only
    exact hij.imp id fun q => ⟨q.1.symm, Nat.sub_lt_sub_left (Nat.lt_of_lt_of_le q.2 (Nat.le_sub_one_of_lt hj')) q.2⟩
section
variable {prog : Program} {w : World} {A : Around} {E : Value → Shared → Prop} {s : Shared} {h₀ : Heap} {L a : Addr} {m : Str → Option Value} {news : List (Addr × Obj)} {vs : List Value} {kz : List Int} {P : PySem.Fin → Shared → Prop}
/-- what a call of the key function must do -/
noncomputable def KeyTurn (prog : Program) (w : World) (A : Around) (h₀ : Heap) (L : Addr) (m : Str → Option Value) (news : List (Addr × Obj)) (f : Value) (vs : List Value) (kz : List Int) (s : Shared) : Prop :=
  ∀ (i : Nat) (v : Value) (k : Int), vs[i]? = some v → kz[i]? = some k → ∀ (h : Heap) (tk : Nat) (led : List (Addr × Obj)), (∀ p ∈ news, p ∈ led) → Fr h₀ L h m → News h₀ L h led →
      wpAny (model prog w) A (call f [v]) (KskEnd h₀ L m led k { s with heap := h, toks := tk }) (fun _ _ => False) { s with heap := h, toks := tk }
theorem keys_turn {f : Value} {kS e1 : Nat} (turn : KeyTurn prog w A h₀ L m news f vs kz s) (hka : kS ≠ a) (hnk : ∀ p ∈ news, p.1 ≠ kS) {Fn : List Value → Nat → Shared → Prop} (hlen : kz.length = vs.length)
    (fin : ∀ ks e h tk, IntsAre ks kz → Fr h₀ L h m → News h₀ L h ((kS, seqObj "list" (List.toArray ks) e) :: (a, seqObj "list" #[] e1) :: news) → Fn ks e { s with heap := h, toks := tk }) :
    ∀ (r : List Value) (i : Nat) (ks : List Value) (e : Nat) (h : Heap) (tk : Nat), r = vs.drop i → IntsAre ks (kz.take i) → Fr h₀ L h m → News h₀ L h ((kS, seqObj "list" (List.toArray ks) e) :: (a, seqObj "list" #[] e1) :: news) →
      KatKeys prog w A h₀ L m kS f Fn r ks e { s with heap := h, toks := tk }
  | [], i, ks, e, h, tk, hr, hk, F, N => by
    refine KatKeys.nil (fin ks e h tk ?_ F N)
    have : vs.length ≤ i := by
      rcases Nat.lt_or_ge i vs.length with q | q
      · rw [List.drop_eq_getElem_cons q] at hr; cases hr
      · exact q
    rw [List.take_of_length_le (by lia)] at hk
    exact hk
  | v :: r, i, ks, e, h, tk, hr, hk, F, N => by
    have hi : i < vs.length := by
      rcases Nat.lt_or_ge i vs.length with q | q
      · exact q
      · rw [List.drop_eq_nil_of_le q] at hr; cases hr
    rw [List.drop_eq_getElem_cons hi] at hr
    obtain ⟨ev, hr'⟩ := List.cons.inj hr
    subst ev
    have hik : i < kz.length := by lia
    refine KatKeys.cons (wpAny_mono (turn i _ kz[i] (List.getElem?_eq_getElem hi) (List.getElem?_eq_getElem hik) h tk _ (fun p hp => .tail _ (.tail _ hp)) F N) (fun k s' hk2 => ?_) fun _ _ z => z)
    obtain ⟨h', tk', t', rfl, rfl, F', N'⟩ := hk2
    refine KatBack.intro F' N' (.head fun p hp => ?_) fun h2 c2 F2 N2 => ?_
    · rcases List.mem_cons.mp hp with rfl | hp
      · exact Ne.symm hka
      · exact hnk p hp
    · refine keys_turn turn hka hnk hlen fin r (i + 1) _ c2 h2 tk' hr' ?_ F2 N2
      rw [List.take_add_one, List.getElem?_eq_getElem hik]
      exact ksk_snoc hk
theorem ints_getD {ks : List Value} {zs : List Int} (h : IntsAre ks zs) : ∀ {i : Nat}, i < zs.length → ∃ t, ks.getD i Value.none = .int (zs.getD i 0) t := by
  induction h with
  | nil => intro i h; simp at h
  | cons n t _ ih =>
    intro i h
    cases i with
    | zero => exact ⟨t, rfl⟩
    | succ i => exact ih (by simpa using h)
/-- list.sort(key=f, reverse=True): stable, from the greatest down -/
theorem kst_sort {f : Value} {n : Nat} (F : Fr h₀ L s.heap m) (N : News h₀ L s.heap news) (ho : s.heap.get? a = some (seqObj "list" vs.toArray n)) (haL : a ≠ L) (ha0 : h₀.get? a = none) (hna : ∀ p ∈ news, p.1 ≠ a)
    (hlen : kz.length = vs.length) (h64 : vs.length < 64) (turn : KeyTurn prog w A h₀ L m news f vs kz s)
    (h : ∀ h' tk c, Fr h₀ L h' m → News h₀ L h' ((a, seqObj "list" ((dueI (fun i => kz.getD i 0) vs.length).map fun i => vs.getD i Value.none).toArray c) :: news) → P (.done (.ret .none)) { s with heap := h', toks := tk }) :
    wpAny (model prog w) A (ksk_tree a f true) P E s := by
  by_cases h2 : 2 ≤ vs.length
  · refine kat_keyed F N ho haL ha0 hna h2 h64 fun kS e1 h' F' N' hka hnk => ?_
    refine keys_turn (a := a) (e1 := e1) turn (Nat.ne_of_gt hka) (fun p hp => Nat.ne_of_lt (hnk p hp)) hlen (fun ks e h3 tk3 hks F3 N3 => ?_) vs 0 [] 0 h' s.toks rfl .nil F' N'
    have hkl : ks.length = vs.length := by rw [hks.length, hlen]
    rw [ksk_kind (keys := List.toArray ks) (by simpa using hks) (by simpa using hkl ▸ h2)]
    refine wpAny_pure ?_
    refine sort_wp (key := fun i => kz.reverse.getD i 0) (fun i j C hi hj hC => ?_) (by exact Nat.le_of_lt ‹_›) fun p a1 a2 a3 => ?_
    · have hr : IntsAre (katRev true ks) kz.reverse := hks.reverse
      obtain ⟨t, e1⟩ := ints_getD hr (i := i) (by rw [List.length_reverse]; lia)
      obtain ⟨u, e2⟩ := ints_getD hr (i := j) (by rw [List.length_reverse]; lia)
      show wpAny _ _ (keyLt' oneType' ((katRev true ks).getD i Value.none) ((katRev true ks).getD j Value.none)) C _ _
      rw [e1, e2]
      exact kat_lt_int hC
    · refine KatFin.intro F3 N3 (.head fun p hp => ?_) fun h4 c4 F4 N4 => ?_
      · rcases List.mem_cons.mp hp with rfl | hp
        · exact Nat.ne_of_lt hka
        · exact Nat.ne_of_lt (hnk p hp)
      · refine KasFin.intro F4 N4 (.tail (Nat.ne_of_gt hka) (.head hna)) fun h5 c5 F5 N5 => ?_
        have e : katRev true (p.toList.map fun i => (katRev true vs).getD i Value.none) = (dueI (fun i => kz.getD i 0) vs.length).map fun i => vs.getD i Value.none := by
          rw [← due_of_asc hlen a1 a2 a3]
          show (p.toList.map fun i => vs.reverse.getD i Value.none).reverse = _
          rw [List.map_reverse, List.map_map]
          congr 1
          refine List.map_congr_left fun i hi => ?_
          have hi' := List.mem_range.mp (a2.mem_iff.mp hi)
          exact rev_getD vs _ hi'
        rw [e] at N5
        exact h h5 _ c5 F5 fun q hq => N5 q (.tail _ hq)
  · refine ksk_sort F N ho haL ha0 hna hlen h64 (fun i v k e1 e2 hh tk own F' N' => turn i v k e1 e2 hh tk _ (fun p hp => List.mem_append_left _ hp) F' N') fun h' tk out c F' N' hout => ?_
    have e : out = ((dueI (fun i => kz.getD i 0) vs.length).map fun i => vs.getD i Value.none).toArray := by
      obtain ⟨ps, q1, q2, _⟩ := hout
      apply Array.toList_inj.mp
      rw [q2]
      match vs, kz, h2, hlen with
      | [], [], _, _ => rw [List.Perm.eq_nil q1]; rfl
      | [v], [k], _, _ =>
        have : ps = [(k, v)] := List.perm_singleton.mp q1
        rw [this]
        rfl
      | _ :: _ :: _, _, h2, _ => exact absurd (by simp) h2
      | [], _ :: _, _, q => simp at q
      | [_], [], _, q => simp at q
      | [_], _ :: _ :: _, _, q => simp at q
    subst e
    exact h h' tk c F' N'
end
end Mine
end
section
open PySem PySem.W PyProof.Rows PyProof.V PySem.Calls PySem.Spec Builtin Builtin.ObjectAttr
set_option compiler.extract_closed false
set_option Elab.async false
set_option maxRecDepth 100000
set_option maxHeartbeats 3000000
namespace Mine
section
variable {prog : Program} {w : World} {A : Around} {E : Value → Shared → Prop} {s : Shared} {h₀ : Heap} {L r y : Addr} {m : Str → Option Value} {news : List (Addr × Obj)} {kvs : List (Int × Value)} {ps : List (Int × Int)} {es : Array DictEntry} {ep : Nat} {oo : Obj}
theorem collect_code {R : Result → Shared → Prop} (hh : A.handled = none) (hv : s.heap.get? r = some (iview y)) (hm : DatAt (PySem.intKind prog w) s.heap y kvs ep) (hn : kvs.length ≤ sizeLine)
    (hR : ∀ h' tk acc c as, (∀ b o, s.heap.get? b = some o → h'.get? b = some o) → h'.get? s.heap.objs.size = some { cls := .type "list", dict := none, data := .seq acc c, slots := #[] } → TupsN (PySem.intKind prog w) h' s.heap.objs.size as kvs →
      acc.toList = as.map Value.ref → R (.ok (.ret (.ref s.heap.objs.size))) { s with heap := h', toks := tk }) : codeAny (model prog w) A (.builtin "proto.collect" ⟨[.ref r], []⟩) R s := by
  refine codeAny_builtin entry_proto_collect' ?_
  show wpAny _ _ (do again (.builtin "list.__iadd__" ⟨[← newList [], .ref r], []⟩)) _ _ s
  refine wpAny_bind (wpAny_newList (wpAny_pure ⟨Code.quiet_builtin _ (by decide +kernel), codeAny_builtin entry_list_iadd' ?_⟩) (Nat.zero_le _))
  show wpAny _ _ (Builtin.List.listExtendWith (.ref s.heap.objs.size) (.ref r) (.ref s.heap.objs.size)) _ _ { s with heap := s.heap.push (seqObj "list" #[] 0) }
  rw [Around.under_plainId (id := "list.__iadd__") (by decide +kernel) _]
  have hr : r < s.heap.objs.size := Heap.lt_size hv
  have hd : y < s.heap.objs.size := let ⟨_, _, ho, _⟩ := hm; Heap.lt_size ho
  refine lstI_extend (s := { s with heap := s.heap.push (seqObj "list" #[] 0) }) (kvs := kvs) (ep := ep) hh (Heap.get?_push_of_some _ hv) (hm.at fun o e => Heap.get?_push_of_some _ e) s.heap.objs.size (Nat.ne_of_gt hr) (Nat.ne_of_lt hd) (.ref s.heap.objs.size) 0 (Heap.get?_push_size _ rfl) (fun h' tk acc c as hk hS hT hacc => ?_) hn
  refine hR h' tk acc c as (fun b o e => hk b o (Nat.ne_of_lt (Heap.lt_size e)) (Heap.get?_push_of_some _ e)) hS (hT.low ?_) hacc
  dsimp only
  rw [Heap.size_push]
  exact Nat.le_trans (Nat.le_succ _) (Nat.le_succ _)
theorem collect_items {Q : List Value → Shared → Prop} (hh : A.handled = none) (F : Fr h₀ L s.heap m) (N : News h₀ L s.heap news) (hv : (r, iview y) ∈ news) (hom : (y, oo) ∈ news) (hod : oo.data = .dict es ep) (D : DIs (PySem.intKind prog w) es kvs) (hi : IntsI kvs ps) (hn : kvs.length ≤ sizeLine)
    (h : ∀ h' tk vs l, TupsJ l vs ps → Fr h₀ L h' m → News h₀ L h' (l ++ news) → (∀ p ∈ l, s.heap.objs.size ≤ p.1) → (∀ p ∈ news, p.1 < s.heap.objs.size) → Q vs { s with heap := h', toks := tk }) : wpAny (model prog w) A (collect (.ref r)) Q E s := by
  have hv' := (N _ hv).1
  have hm : DatAt (PySem.intKind prog w) s.heap y kvs ep := ⟨oo, es, (N _ hom).1, hod, D⟩
  unfold collect
  refine wpAny_bind (wpAny_runValue (collect_code hh hv' hm hn fun h' tk acc c as kp hS hT' hacc => ?_))
  have F' : Fr h₀ L h' m := ⟨F.ns.at' fun o e => kp _ o e, fun b o e => kp b o (F.keep b o e), F.above⟩
  have hnew : ∀ a o, s.heap.objs.size ≤ a → h'.get? a = some o → a ≠ L ∧ h₀.get? a = none := fun a o hl _ => ⟨Nat.ne_of_gt (Nat.lt_of_lt_of_le F.ns.lt hl), Heap.get?_none_of_le (Nat.le_trans (Nat.le_of_lt (Nat.lt_of_le_of_lt F.above F.ns.lt)) hl)⟩
  obtain ⟨l, Nl, hTl, hlo⟩ := hT'.into hi hnew
  refine wpAny_bind (wpAny_load hS ?_)
  refine wpAny_pure ?_
  rw [hacc]
  refine h h' tk (as.map .ref) l hTl F' (fun p hp => ?_) hlo (fun p hp => Heap.lt_size (N p hp).1)
  rcases List.mem_append.mp hp with hp | hp
  · exact Nl p hp
  · exact ⟨kp _ _ (N p hp).1, (N p hp).2⟩
/-- sorted(view, key=f, reverse=True) -/
theorem sorted_items {f : Value} {kw : List (Str × Value)} {Q : Value → Shared → Prop} (hh : A.handled = none) (F : Fr h₀ L s.heap m) (N : News h₀ L s.heap news) (hv : (r, iview y) ∈ news) (hom : (y, oo) ∈ news) (hod : oo.data = .dict es ep) (D : DIs (PySem.intKind prog w) es kvs) (hi : IntsI kvs ps) (hn : ps.length < 64)
    (ha1 : argsOk "sorted" ⟨[.ref r], kw⟩) (ha2 : ∀ x, argsOk "list.sort" ⟨[.ref x], kw⟩) (ht : ∀ x, Builtin.«list.sort» ⟨[.ref x], kw⟩ = ksk_tree x f true)
    (turn : ∀ vs l, TupsJ l vs ps → KeyTurn prog w A.in1.in1 h₀ L m (l ++ news) f vs (ps.map (·.2)) s)
    (h : ∀ S h' tk vs l c, TupsJ l vs ps → Fr h₀ L h' m → News h₀ L h' ((S, listOf ((dueI (fun i => (ps.map (·.2)).getD i 0) ps.length).map fun i => vs.getD i Value.none).toArray c) :: (l ++ news)) → (∀ p ∈ l ++ news, p.1 < S) → (∀ p ∈ news, ∀ q ∈ l, p.1 < q.1) → Q (.ref S) { s with heap := h', toks := tk }) :
    wpAny (model prog w) A (call (.builtin "sorted") [.ref r] kw) Q E s := by
  refine call_function_entry_kw kind_sorted plain_sorted entry_sorted ha1 ?_
  unfold Builtin.«sorted»
  refine wpAny_bind (m := checkCount "sorted" 1 1 _) (wpAny_pure ?_)
  refine wpAny_bind (collect_items (A := A.in1) hh F N hv hom hod D hi (by rw [hi.length, PySem.sizeLine_eq]; lia) fun h1 tk1 vs l hT F1 N1 lo1 lo2 => ?_)
  have hvl : vs.length = ps.length := hT.length
  refine wpAny_bind (wpAny_newList ?_ (by rw [hvl, PySem.sizeLine_eq]; lia))
  have hoL : (h1.push (seqObj "list" vs.toArray 0)).get? h1.objs.size = some (seqObj "list" vs.toArray 0) := Heap.get?_push_size _ rfl
  have keep : ∀ b o, h1.get? b = some o → (h1.push (seqObj "list" vs.toArray 0)).get? b = some o := fun b o e => Heap.get?_push_of_some _ e
  have hL : L < h1.objs.size := F1.ns.lt
  refine wpAny_bind (wpAny_holding (wpAny_call_entry_kw slot_list_sort ⟨_, hoL, rfl⟩ entry_list_sort ?body (ha2 _)))
  case body =>
    have ht' := ht h1.objs.size
    show wpAny (model prog w) A.in1.in1 (Builtin.«list.sort» ⟨[.ref h1.objs.size], kw⟩) _ _ _
    rw [ht']
    refine kst_sort (s := { s with heap := h1.push (seqObj "list" vs.toArray 0), toks := tk1 }) (news := l ++ news) (kz := ps.map (·.2)) (F1.kept keep) (N1.grown keep) hoL (Nat.ne_of_gt hL) (Heap.get?_none_of_le (Nat.le_trans F1.above (Nat.le_of_lt hL)))
      (fun p hp => Nat.ne_of_lt (Heap.lt_size (N1 p hp).1)) (by rw [List.length_map, hvl]) (by lia) (turn vs l hT) fun h' tk c F' N' => ⟨_, rfl, ?_⟩
    rw [hvl] at N'
    exact wpAny_pure ⟨_, rfl, h _ h' tk vs l c hT F' N' (fun q hq => Heap.lt_size (N1 q hq).1) fun p hp q hq => Nat.lt_of_lt_of_le (lo2 p hp) (lo1 q hq)⟩
end
end Mine
end
section
open PySem PySem.W PyProof.Rows PyProof.V PySem.Calls PySem.Spec Builtin Builtin.ObjectAttr
set_option Elab.async false
set_option maxRecDepth 100000
set_option maxHeartbeats 3000000
namespace Mine
theorem fillY5 : PySem.Challenge.rw_dn0005_11 = PySem.Challenge.rw_dn0005_11 ∧ Mine.hd11.heap_39 = Mine.hd11.heap_39 := by
  k_fill
  exact ⟨rfl, rfl⟩
theorem TupsJ.at {l : List (Addr × Obj)} {vs : List Value} {cs : List (Int × Int)} (h : TupsJ l vs cs) : ∀ {i : Nat} {v : Value}, vs[i]? = some v → ∃ a k c t u, v = .ref a ∧ cs[i]? = some (k, c) ∧ (a, tup (.int k t) (.int c u)) ∈ l := by
  induction h with
  | nil => intro i v e; simp at e
  | @cons a k c t u r r' hm _ ih =>
    intro i v e
    cases i with
    | zero =>
      simp only [List.getElem?_cons_zero, Option.some.injEq] at e
      exact ⟨a, k, c, t, u, e.symm, rfl, hm⟩
    | succ i =>
      rw [List.getElem?_cons_succ] at e ⊢
      exact ih e
section
variable {prog : Program} {w : World} {A₀ : Around} {base h₀ : Heap} {outer : List Env} {e0 : Env} {L : Addr} {m mg mb : Str → Option Value} {mean : ExcName → Option Value} {s : Shared} {R : Result → Shared → Prop} {rest news : List (Addr × Obj)}
theorem key_spec {l : Nat} (hlv : l ≤ 15) {g dg t p : Addr} {tk : Tok} {k v : Value} (B : Below A₀ base outer h₀) (F : Fr h₀ L s.heap m) (X : (Mine.hd11.heap_39 w.params).In h₀) (N : News h₀ L s.heap ((p, tup k v) :: (g, one 867 dg (.ref t)) :: (dg, dictOf [] 0) :: (t, tup1 (.int 1 tk)) :: rest)) (T : Top vw ls mean mg mb h₀)
   (kk : ∀ h' tk', Fr h₀ L h' m → News h₀ L h' ((p, tup k v) :: (g, one 867 dg (.ref t)) :: (dg, dictOf [] 0) :: (t, tup1 (.int 1 tk)) :: rest) → R (.ok (.ret v)) { s with heap := h', toks := tk' })
   : codeAny (model prog w) (AK l (ek e0 L) outer) (.call (.ref g) ⟨[.ref p], []⟩) R s := by
  refine' kco_code ?k1 ?k2 ?k3 ?k4 ?k5 ?k6 (key_fn hlv B F X N T kk)
  case k1 => k_in
  case k2 => k_inst
  case k3 => rfl
  case k4 => k_is
  case k5 => k_is
  case k6 => k_is
/-- the key function of the sort, an itemgetter of place 1 -/
theorem ig_turn {l : Nat} (hlv : l ≤ 15) {A : Around} {env : Env} {g dg t : Addr} {tk : Tok} {lt : List (Addr × Obj)} {vs : List Value} {ps : List (Int × Int)} (hA : A.frames = some (env :: outer)) (hf : env.frame = some L) (hk : env.scope.kind = .function) (hh : A.handled = none) (hg : A.guards = some []) (hd : A.depth ≤ 400 + 10 * l) (hu : A.units ≤ 1000 + 100 * l)
   (B : Below A₀ base outer h₀) (X : (Mine.hd11.heap_39 w.params).In h₀) (T : Top vw ls mean mg mb h₀) (h1 : (g, one 867 dg (.ref t)) ∈ news) (h2 : (dg, dictOf [] 0) ∈ news) (h3 : (t, tup1 (.int 1 tk)) ∈ news) (hT : TupsJ lt vs ps) :
   KeyTurn prog w A h₀ L m (lt ++ news) (.ref g) vs (ps.map (·.2)) s := by
  intro i v k hv hkk h tk' led hsub F N
  obtain ⟨a, kk, c, t1, u, rfl, hc, hm⟩ := hT.at hv
  rw [List.getElem?_map, hc] at hkk
  cases Option.some.inj hkk
  have sub : ∀ q ∈ (a, tup (.int kk t1) (.int c u)) :: (g, one 867 dg (.ref t)) :: (dg, dictOf [] 0) :: (t, tup1 (.int 1 tk)) :: led, q ∈ led := fun q hq => by
    simp only [List.mem_cons] at hq
    rcases hq with rfl | rfl | rfl | rfl | hq
    · exact hsub _ (List.mem_append_left _ hm)
    · exact hsub _ (List.mem_append_right _ h1)
    · exact hsub _ (List.mem_append_right _ h2)
    · exact hsub _ (List.mem_append_right _ h3)
    · exact hq
  refine use_at l hA hf hk hh hg hd hu (key_spec (s := { s with heap := h, toks := tk' }) hlv B F X (news_sub N sub) T fun h' tk2 F' N' => ?_)
  exact KskEnd.intro F' N' fun q hq => .tail _ (.tail _ (.tail _ (.tail _ hq)))
end
end Mine
end
section
open PySem PySem.W PyProof.Rows PyProof.V PySem.Calls PySem.Spec Builtin Builtin.ObjectAttr
set_option compiler.extract_closed false
set_option Elab.async false
set_option maxRecDepth 100000
set_option maxHeartbeats 3000000
namespace Mine
theorem fillY6 : PySem.Challenge.rw_dn0005_11 = PySem.Challenge.rw_dn0005_11 ∧ Mine.hd11.heap_39 = Mine.hd11.heap_39 := by
  k_fill
  exact ⟨rfl, rfl⟩
/-- the values of the pairs, from the greatest count down -/
noncomputable abbrev dueV (ps : List (Int × Int)) (vs : List Value) : List Value := (dueI (fun i => (ps.map (·.2)).getD i 0) ps.length).map fun i => vs.getD i Value.none
local macro_rules | `(tactic| k_all) => `(tactic| (((repeat (rename And _ _ => hx; cases hx)); (exact all_ne ‹_› (by omega)))))
local macro_rules | `(tactic| walk_at "getMethod ref") => `(tactic| (k_here; refine cnt_items_meth (by k_asm) (by k_asm) (by k_asm) (by k_mem) (by k_mem) ?_))
local macro_rules | `(tactic| walk_at "call builtin:dict.items") => `(tactic| (k_here; (refine cnt_items_K (by k_asm) (by k_asm) (by k_asm) (by k_mem) (by k_mem) ‹_› ?_; intro v' h' F' N' l1)))
local macro_rules | `(tactic| walk_at "call builtin:sorted") => `(tactic| (refine halt ?_))
section
variable {prog : Program} {w : World} {A₀ : Around} {base h₀ : Heap} {outer : List Env} {e0 : Env} {L : Addr} {m mg mb : Str → Option Value} {mean : ExcName → Option Value} {s : Shared} {R : Result → Shared → Prop} {rest : List (Addr × Obj)}
theorem most_body {g1 : Heap} {L1 : Addr} {Q : Flow → Shared → Prop} {E : Value → Shared → Prop} {name qual : Str} {params : Arguments} {body : List Stmt} {scope : Scope} {dV kV doc pm cdv ct oc : Value} {an od : Option Addr} {osl : Array (Option Value)}
   (ho : (Mine.hd11.heap_39 w.params).lookup 909 = some ⟨oc, od, .func (fnOf name qual params body scope dV kV doc pm an cdv ct), osl⟩)
   {x dx : Addr} {es : Array DictEntry} {n : Nat} {kvs : List (Int × Value)} {ps : List (Int × Int)} (hD : DIs (PySem.intKind prog w) es kvs) (hi : IntsI kvs ps) (hn : ps.length < 64) (hsx : (x == sysModules) = false) (B1 : Below (AK 8 (ek e0 L) outer) base (ek e0 L :: outer) g1) (X1 : (Mine.hd11.heap_39 w.params).In g1) (T1 : Top vw ls mean mg mb g1)
   (F1 : Fr g1 L1 s.heap (fun z => [(Str.ofString "n", Value.none), (Str.ofString "self", .ref x)].lookup z)) (N1 : News g1 L1 s.heap ((x, cnt es n dx) :: (dx, dictOf [] 0) :: rest))
   (k : ∀ S h' tk vs l c m', TupsJ l vs ps → Fr g1 L1 h' m' → News g1 L1 h' ((S, listOf (dueV ps vs).toArray c) :: (l ++ (x, cnt es n dx) :: (dx, dictOf [] 0) :: rest)) → (∀ p ∈ l ++ (x, cnt es n dx) :: (dx, dictOf [] 0) :: rest, p.1 < S) → Q (.ret (.ref S)) { s with heap := h', toks := tk })
   : wpAny (model prog w) ((AK 8 (ek e0 L) outer).deeper (envOf qual scope L1 909 cdv)) (execs body (envOf qual scope L1 909 cdv)) Q E s := by
  have e := ho.symm.trans (by k_is : (Mine.hd11.heap_39 w.params).lookup 909 = some _)
  cases e
  k_steps
  unfold Halt
  rename Fr _ _ _ _ => F2
  rename News _ _ _ _ => N2
  refine sorted_items (by rfl) F2 N2 (by k_mem) (by k_mem) (by exact rfl) hD hi hn (by exact ksk_s2 _ _ _) (fun _ => by exact ksk_l2 _ _ _) (fun _ => by exact ksk_t2 _ _ _) (fun vs l hT => ig_turn (l := 12) (by decide) (by exact rfl) (by exact rfl) (by exact rfl) (by exact rfl) (by exact rfl) (Nat.le_of_ble_eq_true rfl) (Nat.le_of_ble_eq_true rfl) (by k_asm) (by k_asm) (by k_asm) (by k_mem) (by k_mem) (by k_mem) hT) fun S h3 tk3 vs l c hT F3 N3 l3 _ => ?_
  k_steps
  have sub : ∀ q ∈ l ++ (x, cnt es n dx) :: (dx, dictOf [] 0) :: rest, ∀ (a b c d e : Addr × Obj), q ∈ l ++ a :: b :: c :: d :: e :: (x, cnt es n dx) :: (dx, dictOf [] 0) :: rest := fun q hq a b c d e =>
    (List.mem_append.mp hq).elim (List.mem_append_left _) fun h => List.mem_append_right _ (.tail _ (.tail _ (.tail _ (.tail _ (.tail _ h)))))
  refine k S _ _ vs l c _ hT (by assumption) (news_sub (by assumption) fun p hp => ?_) fun p hp => l3 p (sub p hp _ _ _ _ _)
  exact (List.mem_cons.mp hp).elim (fun e => e ▸ .head _) fun hp => .tail _ (sub p hp _ _ _ _ _)
theorem most_none {x dx : Addr} {es : Array DictEntry} {n : Nat} {args : List Value} (hargs : args = [.ref x] ∨ args = [.ref x, .none])
   {kvs : List (Int × Value)} {ps : List (Int × Int)} (hD : DIs (PySem.intKind prog w) es kvs) (hi : IntsI kvs ps) (hn : ps.length < 64) (hsx : (x == sysModules) = false) (B : Below A₀ base outer h₀) (F : Fr h₀ L s.heap m) (X : (Mine.hd11.heap_39 w.params).In h₀) (N : News h₀ L s.heap ((x, cnt es n dx) :: (dx, dictOf [] 0) :: rest)) (T : Top vw ls mean mg mb h₀)
   (kk : ∀ S h' tk vs l c, TupsJ l vs ps → Fr h₀ L h' m → News h₀ L h' ((S, listOf (dueV ps vs).toArray c) :: (l ++ (x, cnt es n dx) :: (dx, dictOf [] 0) :: rest)) → (∀ p ∈ l ++ (x, cnt es n dx) :: (dx, dictOf [] 0) :: rest, p.1 < S) → R (.ok (.ret (.ref S))) { s with heap := h', toks := tk })
   : codeAny (model prog w) (AK 8 (ek e0 L) outer) (.call (.ref 909) ⟨args, []⟩) R s := by
  rcases hargs with rfl | rfl
  all_goals (
    k_enter
    rename_i g1 L1 h1 FG1 F1 N1 B1 X1 T1
    refine most_body (by k_is) hD hi hn hsx B1 X1 T1 (fr_fun F1 fun _ => rfl) N1 fun S h' tk vs l c m' hT F9 N9 l9 => ?_
    k_steps
    exact kk S _ _ vs l c hT (by assumption) (by assumption) l9)
end
end Mine
end
section
open PySem PySem.W PyProof.Rows PyProof.V PySem.Calls PySem.Spec
set_option compiler.extract_closed false
set_option Elab.async false
set_option maxRecDepth 100000
set_option maxHeartbeats 3000000
namespace Mine
section
variable {prog : Program} {w : World} {A : Around} {E : Value → Shared → Prop} {s : Shared}
theorem draw_range {J : Addr} {x left step : Int} {Q : Value → Shared → Prop} (hit : IsRangeIter s.heap J x left step) (hleft : 0 < left)
    (hQ : ∀ h', IsRangeIter h' J (x + step) (left - 1) step → Heap.SameBut J s.heap h' → Q (.int x s.toks) { s with heap := h', toks := s.toks + 1 }) :
    wpAny (model prog w) A (Builtin.SmallTypes.nextOf (.ref J)) Q E s := by
  have hT : s.TypeIs (.ref J) "range_iterator" := ⟨_, hit, rfl⟩
  unfold Builtin.SmallTypes.nextOf
  refine wpAny_bind (wpAny_callSpecial?_slot (name := Str.ofString "__next__") hT F.slot_range_iterator_next
    (call_meets F.slot_range_iterator_next hT F.entry_range_iterator_next (F.args_range_iterator_next_1 _) (AutoRange.range_iterator___next___range_iterator_1 J x left step (by lia)) ⟨hit, ?_⟩))
  exact wpAny_pure (hQ _ (Heap.get?_update_self _ (Heap.get?_update_self _ hit rfl) rfl) ((Heap.SameBut.update ..).trans (Heap.SameBut.update ..)))
variable {d I : Addr} {kvs : List (Int × Value)} {k : Int} {v : Value} {ep i : Nat} {rl : List (Addr × Obj)} {io : Obj}
theorem draw_items {Q : Value → Shared → Prop} (hI : s.heap.get? I = some io) (S : ItS rl d i kvs.length ep io) (hrl : ∀ p ∈ rl, s.heap.get? p.1 = some p.2 ∧ p.1 ≠ I) (hd : DatAt (PySem.intKind prog w) s.heap d kvs ep) (hx : kvs[i]? = some (k, v))
    (hQ : ∀ h' t io', h'.get? I = some io' → ItS ((s.heap.objs.size, pairObj (.int k t) v) :: rl) d (i + 1) kvs.length ep io' → h'.get? s.heap.objs.size = some (pairObj (.int k t) v) → h'.objs.size = s.heap.objs.size + 1 →
      (∀ b o, b ≠ I → s.heap.get? b = some o → h'.get? b = some o) → Q (.ref s.heap.objs.size) { s with heap := h' }) :
    wpAny (model prog w) A (Builtin.SmallTypes.nextOf (.ref I)) Q E s := by
  unfold Builtin.SmallTypes.nextOf
  rcases S with ⟨ok, ov, rfl⟩ | ⟨a, oa, f, ok, ov, rfl, hal, hat⟩
  · refine wpAny_bind (sp_next0 (knd := PySem.intKind prog w) hI hd hx fun key h' hk e1 e2 e3 e4 => ?_)
    obtain ⟨t, rfl⟩ := PySem.Value.isInt_shape hk
    exact wpAny_pure (hQ h' t _ e1 (.inr ⟨s.heap.objs.size, _, _, _, _, rfl, .head _, rfl, fun _ _ e => by cases e⟩) e2 e3 e4)
  · refine wpAny_bind (sp_next1 (knd := PySem.intKind prog w) hI (hrl _ hal).1 (hrl _ hal).2 hd hx fun key h' hk e1 e2 e3 e4 => ?_)
    obtain ⟨t, rfl⟩ := PySem.Value.isInt_shape hk
    exact wpAny_pure (hQ h' t _ e1 (.inr ⟨_, _, _, _, _, rfl, .tail _ hal, hat⟩) e2 e3 e4)
/-- the parts of a zip stand apart -/
structure ZAp (z TI TO J I : Addr) : Prop where
  zTI : z ≠ TI
  zTO : z ≠ TO
  zJ : z ≠ J
  zI : z ≠ I
  TITO : TI ≠ TO
  TIJ : TI ≠ J
  TII : TI ≠ I
  TOJ : TO ≠ J
  TOI : TO ≠ I
  JI : J ≠ I
theorem zip_item {z TI TO J : Addr} {x left : Int} {a b : Value} {Q : Value → Shared → Prop} (D : ZAp z TI TO J I) (hz : IsZip s.heap z TI TO .none) (hTI : IsPair s.heap TI (.ref J) (.ref I)) (hTO : IsPair s.heap TO a b)
    (hJ : IsRangeIter s.heap J x left (-1)) (hleft : 0 < left) (hI : s.heap.get? I = some io) (S : ItS rl d i kvs.length ep io) (hrl : ∀ p ∈ rl, s.heap.get? p.1 = some p.2 ∧ p.1 ≠ z ∧ p.1 ≠ TO ∧ p.1 ≠ J ∧ p.1 ≠ I)
    (hd : DatAt (PySem.intKind prog w) s.heap d kvs ep) (hdn : d ≠ z ∧ d ≠ TO ∧ d ≠ J ∧ d ≠ I) (hx : kvs[i]? = some (k, v))
    (hQ : ∀ (h' : Heap) (t u : Tok) (io' : Obj) (T E' : Addr), IsZip h' z TI TO (rawInt (T : Nat)) → IsPair h' TO (.int x u) (.ref E') → IsRangeIter h' J (x + -1) (left - 1) (-1) → h'.get? I = some io' → ItS ((E', pairObj (.int k t) v) :: rl) d (i + 1) kvs.length ep io' → h'.get? E' = some (pairObj (.int k t) v) →
      IsPair h' T (.int x u) (.ref E') → E' = s.heap.objs.size → T = s.heap.objs.size + 1 → (∀ c o, c ≠ z → c ≠ TO → c ≠ J → c ≠ I → s.heap.get? c = some o → h'.get? c = some o) → Q (.ref T) { s with heap := h', toks := s.toks + 1 }) :
    wpAny (model prog w) A (Builtin.«zip.__next__» ⟨[.ref z], []⟩) (fun fin s' => ∃ v, fin = .done (.ret v) ∧ Q v s') E s := by
  show wpAny _ _ (field (.ref z) 2 >>= _) _ _ _
  refine wpAny_bind (wpAny_field hz rfl (x := .bool false) rfl ?_)
  show wpAny _ _ (field (.ref z) 3 >>= _) _ _ _
  refine wpAny_bind (wpAny_field hz rfl (x := .ref TI) rfl ?_)
  refine wpAny_bind (wpAny_seqItems hTI rfl ?_)
  show wpAny _ _ (Builtin.SmallTypes.ownedTupleIsFree (.ref z) >>= _) _ _ _
  refine wpAny_bind ?_
  unfold Builtin.SmallTypes.ownedTupleIsFree
  refine wpAny_bind (wpAny_field hz rfl (x := .none) rfl (wpAny_pure ?_))
  simp only [if_true]
  refine wpAny_bind (wpAny_rule ?_)
  refine wpAny_bind (wpAny_field hz rfl (x := .ref TO) rfl ?_)
  refine wpAny_bind (wpAny_setField_rec hz (by simp) fun h₁ hz₁ hs₁ => ?_)
  replace hz₁ : IsZip h₁ z TI TO .ellipsis := hz₁
  refine wpAny_bind ?_
  simp only [List.zipIdx_cons, List.zipIdx_nil, List.forIn_cons, List.forIn_nil]
  refine wpAny_bind (wpAny_bind (wpAny_onRaise ?_))
  show wpAny _ _ (Builtin.SmallTypes.nextOf (.ref J) >>= _) _ _ _
  refine wpAny_bind (draw_range (s := { s with heap := h₁ }) (hs₁.extBut _ _ D.zJ.symm hJ) hleft fun h₂ hJ₂ hs₂ => wpAny_pure ?_)
  have hTO₂ : IsPair h₂ TO a b := hs₂.extBut _ _ D.TOJ (hs₁.extBut _ _ D.zTO.symm hTO)
  refine wpAny_bind (wpAny_seqItems hTO₂ rfl ?_)
  refine wpAny_bind (wpAny_updateSeq_pair hTO₂ fun h₃ hTO₃ hs₃ => ?_)
  replace hTO₃ : IsPair h₃ TO (.int x s.toks) b := hTO₃
  refine wpAny_bind (wpAny_letGo (wpAny_pure ?_))
  have up3 : ∀ c o, c ≠ z → c ≠ TO → c ≠ J → s.heap.get? c = some o → h₃.get? c = some o := fun c o c1 c2 c3 e => hs₃.extBut _ _ c2 (hs₂.extBut _ _ c3 (hs₁.extBut _ _ c1 e))
  have hz3 : h₃.objs.size = s.heap.objs.size := by rw [hs₃.1, hs₂.1, hs₁.1]
  refine wpAny_bind (wpAny_bind (wpAny_onRaise ?_))
  show wpAny _ _ (Builtin.SmallTypes.nextOf (.ref I) >>= _) _ _ _
  refine wpAny_bind (draw_items (s := { s with heap := h₃, toks := s.toks + 1 }) (up3 _ _ D.zI.symm D.TOI.symm D.JI.symm hI) S (fun p hp => ⟨up3 _ _ (hrl p hp).2.1 (hrl p hp).2.2.1 (hrl p hp).2.2.2.1 (hrl p hp).1, (hrl p hp).2.2.2.2⟩)
    (let ⟨o, es, ho, r⟩ := hd; ⟨o, es, up3 _ _ hdn.1 hdn.2.1 hdn.2.2.1 ho, r⟩) hx fun h₄ t io' hI₄ S₄ hE₄ hsz₄ hk₄ => wpAny_pure ?_)
  dsimp only at hE₄ hsz₄ hk₄ S₄ ⊢
  rw [hz3] at hE₄ hsz₄ S₄ ⊢
  have hTO₄ : IsPair h₄ TO (.int x s.toks) b := hk₄ _ _ D.TOI hTO₃
  refine wpAny_bind (wpAny_seqItems hTO₄ rfl ?_)
  refine wpAny_bind (wpAny_updateSeq_pair hTO₄ fun h₅ hTO₅ hs₅ => ?_)
  replace hTO₅ : IsPair h₅ TO (.int x s.toks) (.ref s.heap.objs.size) := hTO₅
  refine wpAny_bind (wpAny_letGo (wpAny_pure (wpAny_pure ?_)))
  refine wpAny_bind (wpAny_seqItems hTO₅ rfl ?_)
  refine wpAny_bind (wpAny_newTuple ?_)
  have hsz : h₅.objs.size = s.heap.objs.size + 1 := by rw [hs₅.1, hsz₄]
  have hz₅ : IsZip h₅ z TI TO .ellipsis := hs₅.extBut _ _ D.zTO (hk₄ _ _ D.zI (hs₃.extBut _ _ D.zTO (hs₂.extBut _ _ D.zJ hz₁)))
  have hk₅ : ∀ c o, c ≠ z → c ≠ TO → c ≠ J → c ≠ I → s.heap.get? c = some o → h₅.get? c = some o := fun c o c1 c2 c3 c4 e => hs₅.extBut _ _ c2 (hk₄ _ _ c4 (up3 c o c1 c2 c3 e))
  have hJ₅ : IsRangeIter h₅ J (x + -1) (left - 1) (-1) := hs₅.extBut _ _ D.TOJ.symm (hk₄ _ _ D.JI (hs₃.extBut _ _ D.TOJ.symm hJ₂))
  have hI₅ : h₅.get? I = some io' := hs₅.extBut _ _ D.TOI.symm hI₄
  have hTOlt : TO < s.heap.objs.size := Heap.lt_size hTO
  have hzlt : z < s.heap.objs.size := Heap.lt_size hz
  have hE₅ : h₅.get? s.heap.objs.size = some (pairObj (.int k t) v) := hs₅.extBut _ _ (Nat.ne_of_gt hTOlt) hE₄
  show wpAny _ _ (Builtin.SmallTypes.ownedTupleHandOut (.ref z) (.ref h₅.objs.size) >>= _) _ _ _
  refine wpAny_bind ?_
  unfold Builtin.SmallTypes.ownedTupleHandOut
  have hz₆ : IsZip (h₅.push { cls := .type "tuple", data := .seq #[.int x s.toks, .ref s.heap.objs.size] }) z TI TO .ellipsis := Heap.get?_push_of_some _ hz₅
  refine wpAny_bind (wpAny_setField_rec hz₆ (by simp) fun h₇ hz₇ hs₇ => ?_)
  replace hz₇ : IsZip h₇ z TI TO (rawInt h₅.objs.size) := hz₇
  refine wpAny_setField_rec hz₇ (by simp) fun h₈ hz₈ hs₈ => ?_
  replace hz₈ : IsZip h₈ z TI TO (rawInt h₅.objs.size) := hz₈
  have up : ∀ c o, c ≠ z → h₅.get? c = some o → h₈.get? c = some o := fun c o c1 e => hs₈.extBut _ _ c1 (hs₇.extBut _ _ c1 (Heap.get?_push_of_some _ e))
  have hT₈ : IsPair h₈ h₅.objs.size (.int x s.toks) (.ref s.heap.objs.size) := hs₈.extBut _ _ (Nat.ne_of_gt (Heap.lt_size hz₅)) (hs₇.extBut _ _ (Nat.ne_of_gt (Heap.lt_size hz₅)) (Heap.get?_push_size _ rfl))
  refine wpAny_pure ⟨_, rfl, ?_⟩
  exact hQ h₈ t s.toks io' h₅.objs.size s.heap.objs.size hz₈ (up _ _ D.zTO.symm hTO₅) (up _ _ D.zJ.symm hJ₅) (up _ _ D.zI.symm hI₅) S₄ (up _ _ (Nat.ne_of_gt hzlt) hE₅) hT₈ rfl hsz fun c o c1 c2 c3 c4 e => up c o c1 (hk₅ c o c1 c2 c3 c4 e)
/-- the zip is at its end when the range is -/
theorem zip_over {z TI TO J : Addr} {Q : Fin → Shared → Prop} (D : ZAp z TI TO J I) (hz : IsZip s.heap z TI TO .none) (hTI : IsPair s.heap TI (.ref J) (.ref I))
    (draw : ∀ (s' : Shared) (Q : Value → Shared → Prop) (E : Value → Shared → Prop), s'.heap.get? J = s.heap.get? J → (∀ h' e, Heap.ExtBut J s'.heap h' → (∃ o, h'.get? e = some o ∧ o.cls = .type "StopIteration") → E (.ref e) { s' with heap := h' }) → wpAny (model prog w) A (Builtin.SmallTypes.nextOf (.ref J)) Q E s')
    (hE : ∀ h' e, (∀ c o, c ≠ z → c ≠ J → s.heap.get? c = some o → h'.get? c = some o) → (∃ o, h'.get? e = some o ∧ o.cls = .type "StopIteration") → E (.ref e) { s with heap := h' }) :
    wpAny (model prog w) A (Builtin.«zip.__next__» ⟨[.ref z], []⟩) Q E s := by
  show wpAny _ _ (field (.ref z) 2 >>= _) _ _ _
  refine wpAny_bind (wpAny_field hz rfl (x := .bool false) rfl ?_)
  show wpAny _ _ (field (.ref z) 3 >>= _) _ _ _
  refine wpAny_bind (wpAny_field hz rfl (x := .ref TI) rfl ?_)
  refine wpAny_bind (wpAny_seqItems hTI rfl ?_)
  show wpAny _ _ (Builtin.SmallTypes.ownedTupleIsFree (.ref z) >>= _) _ _ _
  refine wpAny_bind ?_
  unfold Builtin.SmallTypes.ownedTupleIsFree
  refine wpAny_bind (wpAny_field hz rfl (x := .none) rfl (wpAny_pure ?_))
  simp only [if_true]
  refine wpAny_bind (wpAny_rule ?_)
  refine wpAny_bind (wpAny_field hz rfl (x := .ref TO) rfl ?_)
  refine wpAny_bind (wpAny_setField_rec hz (by simp) fun h₁ hz₁ hs₁ => ?_)
  replace hz₁ : IsZip h₁ z TI TO .ellipsis := hz₁
  refine wpAny_bind ?_
  simp only [List.zipIdx_cons, List.zipIdx_nil, List.forIn_cons, List.forIn_nil]
  refine wpAny_bind (wpAny_bind (wpAny_onRaise ?_))
  show wpAny _ _ (Builtin.SmallTypes.nextOf (.ref J) >>= _) _ _ _
  refine wpAny_bind (draw { s with heap := h₁ } _ _ (hs₁.2 J D.zJ.symm) fun h₂ e hs₂ he => ?_)
  obtain ⟨oe, hoe, hce⟩ := he
  have hz₂ : IsZip h₂ z TI TO .ellipsis := hs₂ _ _ D.zJ hz₁
  have hez : e ≠ z := fun x => by subst x; rw [hz₂] at hoe; cases hoe; simp at hce
  refine wpAny_setField_rec hz₂ (by simp) fun h₃ _ hs₃ => hE h₃ e (fun c o c1 c2 x => hs₃.extBut _ _ c1 (hs₂ _ _ c2 (hs₁.extBut _ _ c1 x))) ⟨oe, hs₃.extBut _ _ hez hoe, hce⟩
end
end Mine
end
section
open PySem PySem.W PyProof.Rows PyProof.V PySem.Calls PySem.Spec
set_option Elab.async false
set_option maxRecDepth 100000
set_option maxHeartbeats 3000000
namespace Mine
/-- what an iterator at its end does when it is asked -/
noncomputable def Spent (prog : Program) (w : World) (A : Around) (J : Addr) (s : Shared) : Prop :=
  ∀ (s' : Shared) (Q : Value → Shared → Prop) (E : Value → Shared → Prop), s'.heap.get? J = s.heap.get? J → (∀ h' e, Heap.ExtBut J s'.heap h' → (∃ o, h'.get? e = some o ∧ o.cls = .type "StopIteration") → E (.ref e) { s' with heap := h' }) → wpAny (model prog w) A (Builtin.SmallTypes.nextOf (.ref J)) Q E s'
section
variable {prog : Program} {w : World} {A : Around} {E : Value → Shared → Prop} {s : Shared} {J : Addr} {x left step : Int}
theorem spent_range (hh : A.handled = none) (hJ : IsRangeIter s.heap J x left step) (hleft : left ≤ 0) : Spent prog w A J s := by
  intro s' Q E hk hE
  have hit : IsRangeIter s'.heap J x left step := hk.trans hJ
  have hT : s'.TypeIs (.ref J) "range_iterator" := ⟨_, hit, rfl⟩
  unfold Builtin.SmallTypes.nextOf
  refine wpAny_bind (wpAny_callSpecial?_slot (name := Str.ofString "__next__") hT F.slot_range_iterator_next
    (wpAny_call_entry F.slot_range_iterator_next hT F.entry_range_iterator_next ?_ (F.args_range_iterator_next_1 _)))
  show wpAny _ _ (field (.ref J) 0 >>= _) _ _ s'
  refine wpAny_bind (wpAny_field hit rfl (x := rawInt x) rfl ?_)
  show wpAny _ _ (field (.ref J) 1 >>= _) _ _ s'
  refine wpAny_bind (wpAny_field hit rfl (x := rawInt left) rfl ?_)
  show wpAny _ _ (field (.ref J) 2 >>= _) _ _ s'
  refine wpAny_bind (wpAny_field hit rfl (x := rawInt step) rfl ?_)
  show wpAny _ _ (if left ≤ 0 then _ else _) _ _ s'
  rw [if_pos hleft]
  refine wpAny_bind (wpAny_rule ?_)
  refine wpAny_bind ?_
  show wpAny _ _ (newExc (.type "StopIteration") [] >>= _) _ _ _
  refine wpAny_bind ?_
  simp only [newExc, newTuple]
  refine wpAny_bind (wpAny_newObj_type ?_ (by size_fits))
  refine wpAny_bind (m := firstArgMember _ _) (wpAny_of_eq (a := Value.none) (by first | rfl | (simp only [firstArgMember]; rfl)) ?_)
  refine wpAny_newObj_type ?_ (by size_fits)
  simp only [raiseNew]
  refine wpAny_bind (wpAny_handled ?_)
  first | rw [show A.in1.handled = none from hh] | rw [hh]
  refine wpAny_bind (wpAny_pure (wpAny_throw ?_))
  exact hE _ _ (((Heap.ExtBut.refl J s'.heap).push _).push _) ⟨_, Heap.get?_push_size _ rfl, rfl⟩
theorem spent_long (hh : A.handled = none) (hJ : IsLongIter s.heap J x left step) (hleft : left ≤ 0) : Spent prog w A J s := by
  intro s' Q E hk hE
  have hit : IsLongIter s'.heap J x left step := hk.trans hJ
  have hT : s'.TypeIs (.ref J) "longrange_iterator" := ⟨_, hit, rfl⟩
  unfold Builtin.SmallTypes.nextOf
  refine wpAny_bind (wpAny_callSpecial?_slot (name := Str.ofString "__next__") hT F.slot_longrange_iterator_next
    (wpAny_call_entry F.slot_longrange_iterator_next hT F.entry_longrange_iterator_next ?_ (F.args_longrange_iterator_next_1 _)))
  show wpAny _ _ (bound "longrange_iterator.__next__" ⟨[.ref J], []⟩ >>= _) _ _ s'
  rw [bound_longnext]
  refine wpAny_bind (wpAny_pure ?_)
  show wpAny _ _ (Builtin.Iterators_pickling.intField _ (.ref J) 0 >>= _) _ _ s'
  refine wpAny_bind (wpAny_intField hit rfl rfl ?_)
  show wpAny _ _ (Builtin.Iterators_pickling.intField _ (.ref J) 1 >>= _) _ _ s'
  refine wpAny_bind (wpAny_intField hit rfl rfl ?_)
  show wpAny _ _ (Builtin.Iterators_pickling.intField _ (.ref J) 2 >>= _) _ _ s'
  refine wpAny_bind (wpAny_intField hit rfl rfl ?_)
  show wpAny _ _ (if left ≤ 0 then _ else _) _ _ s'
  rw [if_pos hleft]
  refine wpAny_bind (wpAny_rule ?_)
  refine wpAny_bind ?_
  show wpAny _ _ (newExc (.type "StopIteration") [] >>= _) _ _ _
  refine wpAny_bind ?_
  simp only [newExc, newTuple]
  refine wpAny_bind (wpAny_newObj_type ?_ (by size_fits))
  refine wpAny_bind (m := firstArgMember _ _) (wpAny_of_eq (a := Value.none) (by first | rfl | (simp only [firstArgMember]; rfl)) ?_)
  refine wpAny_newObj_type ?_ (by size_fits)
  simp only [raiseNew]
  refine wpAny_pure ?_
  refine wpAny_bind (wpAny_bind (wpAny_handled ?_))
  first | rw [show A.in1.handled = none from hh] | rw [hh]
  first | refine wpAny_throw ?_ | refine wpAny_bind (wpAny_pure (wpAny_throw ?_)) | refine wpAny_bind (wpAny_throw ?_)
  exact hE _ _ (((Heap.ExtBut.refl J s'.heap).push _).push _) ⟨_, Heap.get?_push_size _ rfl, rfl⟩
variable {d I : Addr} {kvs : List (Int × Value)} {k : Int} {v : Value} {ep i : Nat} {rl : List (Addr × Obj)} {io : Obj} {z TI TO : Addr}
theorem next_zip_item {a b : Value} {Q : Option Value → Shared → Prop} (D : ZAp z TI TO J I) (hz : IsZip s.heap z TI TO .none) (hTI : IsPair s.heap TI (.ref J) (.ref I)) (hTO : IsPair s.heap TO a b)
    (hJ : IsRangeIter s.heap J x left (-1)) (hleft : 0 < left) (hI : s.heap.get? I = some io) (S : ItS rl d i kvs.length ep io) (hrl : ∀ p ∈ rl, s.heap.get? p.1 = some p.2 ∧ p.1 ≠ z ∧ p.1 ≠ TO ∧ p.1 ≠ J ∧ p.1 ≠ I)
    (hd : DatAt (PySem.intKind prog w) s.heap d kvs ep) (hdn : d ≠ z ∧ d ≠ TO ∧ d ≠ J ∧ d ≠ I) (hx : kvs[i]? = some (k, v))
    (hQ : ∀ (h' : Heap) (t u : Tok) (io' : Obj) (T E' : Addr), IsZip h' z TI TO (rawInt (T : Nat)) → IsPair h' TO (.int x u) (.ref E') → IsRangeIter h' J (x + -1) (left - 1) (-1) → h'.get? I = some io' → ItS ((E', pairObj (.int k t) v) :: rl) d (i + 1) kvs.length ep io' → h'.get? E' = some (pairObj (.int k t) v) →
      IsPair h' T (.int x u) (.ref E') → E' = s.heap.objs.size → T = s.heap.objs.size + 1 → (∀ c o, c ≠ z → c ≠ TO → c ≠ J → c ≠ I → s.heap.get? c = some o → h'.get? c = some o) → Q (some (.ref T)) { s with heap := h', toks := s.toks + 1 }) :
    wpAny (model prog w) A (pyNext (.ref z)) Q E s := by
  have hT : s.TypeIs (.ref z) "zip" := ⟨_, hz, rfl⟩
  unfold pyNext
  exact wpAny_bind (wpAny_attempt (wpAny_callSpecial?_slot (name := Str.ofString "__next__") hT F.slot_zip_next
    (wpAny_call_entry F.slot_zip_next hT F.entry_zip_next
      (zip_item D hz hTI hTO hJ hleft hI S hrl hd hdn hx fun h' t u io' T E' a1 a2 a3 a4 a5 a6 a7 a8 a9 a10 => wpAny_pure (hQ h' t u io' T E' a1 a2 a3 a4 a5 a6 a7 a8 a9 a10)) (F.args_zip_next_1 _))))
theorem next_zip_over {Q : Option Value → Shared → Prop} (D : ZAp z TI TO J I) (hz : IsZip s.heap z TI TO .none) (hTI : IsPair s.heap TI (.ref J) (.ref I)) (hJ : Spent prog w A.in1 J s)
    (hQ : ∀ h', (∀ c o, c ≠ z → c ≠ J → s.heap.get? c = some o → h'.get? c = some o) → Q none { s with heap := h' }) : wpAny (model prog w) A (pyNext (.ref z)) Q E s := by
  have hT : s.TypeIs (.ref z) "zip" := ⟨_, hz, rfl⟩
  unfold pyNext
  refine wpAny_bind (wpAny_attempt (wpAny_callSpecial?_slot (name := Str.ofString "__next__") hT F.slot_zip_next
    (wpAny_call_entry F.slot_zip_next hT F.entry_zip_next (zip_over D hz hTI hJ fun h' e hk he => ?_) (F.args_zip_next_1 _))))
  obtain ⟨o, ho, hc⟩ := he
  refine wpAny_bind (wpAny_isInstance (T := "StopIteration") (b := true) ⟨o, ho, hc⟩ isSubtype_stop ?_)
  exact wpAny_pure (hQ _ hk)
/-- an iterator over items gives itself -/
theorem iter_self {Q : Value → Shared → Prop} (hI : s.heap.get? I = some io) (hc : io.cls = .type "dict_itemiterator") (h : Q (.ref I) s) : wpAny (model prog w) A (pyIter (.ref I)) Q E s := by
  have hT : s.TypeIs (.ref I) "dict_itemiterator" := ⟨_, hI, hc⟩
  refine wpAny_pyIter_slot hT F.slot_dict_itemiterator_iter (wpAny_call_entry F.slot_dict_itemiterator_iter hT kcp_entry ?_ (F.args_dict_itemiterator_iter_1 _))
  show wpAny _ _ (ret (.ref I)) _ _ s
  exact wpAny_pure ⟨_, rfl, "dict_itemiterator", _, hT, F.slot_dict_itemiterator_next.lookup, h⟩
/-- zip(r, it) where asking r for an iterator makes one new object -/
theorem zip_make {r : Addr} {jo : Obj} {Q : Value → Shared → Prop} (hI : s.heap.get? I = some io) (hc : io.cls = .type "dict_itemiterator")
    (hr : ∀ (A : Around) (E : Value → Shared → Prop) (Q : Value → Shared → Prop), Q (.ref s.heap.objs.size) { s with heap := s.heap.push jo } → wpAny (model prog w) A (pyIter (.ref r)) Q E s) (hjf : jo.isFreed = false)
    (h : ∀ h', h'.get? s.heap.objs.size = some jo → IsPair h' (s.heap.objs.size + 1) (.ref s.heap.objs.size) (.ref I) → IsPair h' (s.heap.objs.size + 2) .none .none → IsZip h' (s.heap.objs.size + 3) (s.heap.objs.size + 1) (s.heap.objs.size + 2) .none →
      h'.objs.size = s.heap.objs.size + 4 → (∀ c o, s.heap.get? c = some o → h'.get? c = some o) → Q (.ref (s.heap.objs.size + 3)) { s with heap := h' }) :
    wpAny (model prog w) A (call (.type "zip") [.ref r, .ref I]) Q E s := by
  refine callType_newIn F.called_zip (by decide) (F.typeCall_zip_2 _ _) (F.newCall_zip_2 _ _) (fun obj => F.args_object_init_3 obj _ _) F.entry_zip_new
    (S := fun A R s' => s' = s ∧ R (.ok (.ret (.ref (s.heap.objs.size + 3)))) { s with heap := (((s.heap.push jo).push { cls := .type "tuple", data := .seq #[.ref s.heap.objs.size, .ref I] }).push { cls := .type "tuple", data := .seq #[.none, .none] }).push { cls := .type "zip", data := .fields #[.none, .bool false, .bool false, .ref (s.heap.objs.size + 1), .ref (s.heap.objs.size + 2)] } })
    (.of_wp fun A R s' hs => ?_) ⟨rfl, ?_⟩
  · obtain ⟨rfl, hR⟩ := hs
    obtain ⟨hp, g, dr, tk, os⟩ := s'
    have hsub := sub_zip
    have hr1 : ∀ (A : Around) (E : Value → Shared → Prop) (Q : Value → Shared → Prop), Q (.ref hp.objs.size) ⟨hp.push jo, g, dr, tk, os⟩ → wpAny (model prog w) A (pyIter (.ref r)) Q E ⟨hp, g, dr, tk, os⟩ := hr
    have hr2 : ∀ (A : Around) (E : Value → Shared → Prop) (Q : Value → Shared → Prop), Q (.ref I) ⟨hp.push jo, g, dr, tk, os⟩ → wpAny (model prog w) A (pyIter (.ref I)) Q E ⟨hp.push jo, g, dr, tk, os⟩ := fun A E Q q => iter_self (s := ⟨hp.push jo, g, dr, tk, os⟩) (Heap.get?_push_of_some _ hI) hc q
    wp_walk using hr1, hr2
    refine ⟨_, rfl, ?_⟩
    simp only [Heap.size_push] at hR ⊢
    exact hR
  · have z1 : (s.heap.push jo).objs.size = s.heap.objs.size + 1 := Heap.size_push ..
    generalize hh1 : s.heap.push jo = h1 at *
    have z2 : (h1.push { cls := .type "tuple", data := .seq #[.ref s.heap.objs.size, .ref I] }).objs.size = s.heap.objs.size + 2 := by rw [Heap.size_push, z1]
    generalize hh2 : h1.push { cls := .type "tuple", data := .seq #[.ref s.heap.objs.size, .ref I] } = h2 at *
    have z3 : (h2.push { cls := .type "tuple", data := .seq #[.none, .none] }).objs.size = s.heap.objs.size + 3 := by rw [Heap.size_push, z2]
    generalize hh3 : h2.push { cls := .type "tuple", data := .seq #[.none, .none] } = h3 at *
    have g4 := Heap.get?_push_size h3 (o := { cls := .type "zip", data := .fields #[.none, .bool false, .bool false, .ref (s.heap.objs.size + 1), .ref (s.heap.objs.size + 2)] }) rfl
    rw [z3] at g4
    have g3 := Heap.get?_push_size h2 (o := { cls := .type "tuple", data := .seq #[.none, .none] }) rfl
    rw [z2, hh3] at g3
    have g2 := Heap.get?_push_size h1 (o := { cls := .type "tuple", data := .seq #[.ref s.heap.objs.size, .ref I] }) rfl
    rw [z1, hh2] at g2
    have g1 := Heap.get?_push_size s.heap (o := jo) hjf
    rw [hh1] at g1
    have u2 : ∀ c o, h1.get? c = some o → h2.get? c = some o := fun c o e => hh2 ▸ Heap.get?_push_of_some _ e
    have u3 : ∀ c o, h2.get? c = some o → h3.get? c = some o := fun c o e => hh3 ▸ Heap.get?_push_of_some _ e
    have u1 : ∀ c o, s.heap.get? c = some o → h1.get? c = some o := fun c o e => hh1 ▸ Heap.get?_push_of_some _ e
    refine ⟨⟨_, g4, rfl⟩, h _ (Heap.get?_push_of_some _ (u3 _ _ (u2 _ _ g1))) (Heap.get?_push_of_some _ (u3 _ _ g2)) (Heap.get?_push_of_some _ g3) g4 (by rw [Heap.size_push, z3]) fun c o e => Heap.get?_push_of_some _ (u3 _ _ (u2 _ _ (u1 _ _ e)))⟩
end
end Mine
end
section
open PySem PySem.W PyProof.Rows PyProof.V PySem.Calls PySem.Spec
set_option compiler.extract_closed false
set_option Elab.async false
set_option maxRecDepth 100000
set_option maxHeartbeats 3000000
namespace Mine
section
variable {prog : Program} {w : World} {A : Around} {E : Value → Shared → Prop} {s : Shared} {h₀ : Heap} {L v d : Addr} {m : Str → Option Value} {news : List (Addr × Obj)} {es : Array DictEntry}
theorem len_view {K : Type} [DecidableEq K] {knd : KeyKind prog w K} {kvs : List (K × Value)} {ep : Nat} {od : Obj} {Q : Value → Shared → Prop} (N : News h₀ L s.heap news) (hv : (v, iview d) ∈ news) (hm : (d, od) ∈ news) (hod : od.data = .dict es ep) (D : DIs knd es kvs) (hn : kvs.length ≤ 1000)
   (h : Q (.int kvs.length (s.toks + 1)) { s with toks := s.toks + 1 + 1 }) : wpAny (model prog w) A (call (.builtin "len") [.ref v]) Q E s := by
  have hv' := (N _ hv).1
  have ho := (N _ hm).1
  have hT : s.TypeIs (.ref v) "dict_items" := ⟨_, hv', rfl⟩
  refine call_len_slot (n := kvs.length) hT F.slot_dict_items_len (fun Q' q => ?_) (by lia) (by lia) h
  refine wpAny_call_entry F.slot_dict_items_len hT F.entry_dict_items_len ?_ (F.args_dict_items_len_1 _)
  obtain ⟨hh, g, dr, t, os⟩ := s
  obtain ⟨oc, od', oda, osl⟩ := od
  dsimp only at hod ho hv'
  subst hod
  unfold Builtin.«dict_items.__len__»
  repeat lk
  rw [D.size]
  exact ⟨_, rfl, q⟩
end
end Mine
end
section
open PySem PySem.W PyProof.Rows PyProof.V PySem.Calls PySem.Spec Builtin Builtin.ObjectAttr
set_option compiler.extract_closed false
set_option Elab.async false
set_option maxRecDepth 100000
set_option maxHeartbeats 3000000
namespace Mine
local macro_rules | `(tactic| walk_at "none0") => `(tactic| skip)
theorem fillZ4 : PySem.Challenge.rw_dn0005_11 = PySem.Challenge.rw_dn0005_11 ∧ Mine.hd11.heap_39 = Mine.hd11.heap_39 := by
  k_fill
  exact ⟨rfl, rfl⟩


local macro_rules | `(tactic| walk_at "call builtin:sorted") => `(tactic| (refine halt ?_))

local macro_rules | `(tactic| walk_at "call builtin:len") => `(tactic| (k_here; refine len_view ‹_› (by k_mem) (by k_mem) rfl ‹_› (by omega) ?_))




local macro_rules | `(tactic| walk_at "exec Try") => `(tactic| (k_here; refine wpAny_Try_except ?_; k_fold))
section
variable {prog : Program} {w : World} {A₀ : Around} {base h₀ : Heap} {outer : List Env} {e0 : Env} {L : Addr} {m mg mb : Str → Option Value} {mean : ExcName → Option Value} {s : Shared} {R : Result → Shared → Prop} {rest : List (Addr × Obj)}
theorem pick_upto {y : Int} (l : List Value) (hy : 0 ≤ y) : kms_pick l none (some y) = l.take y.toNat := by
  obtain ⟨n, rfl⟩ := Int.eq_ofNat_of_zero_le hy
  have e : kms_hi (some (n : Int)) l.length = min n l.length := by
    unfold kms_hi
    exact if_neg (Int.not_lt.mpr (Int.natCast_nonneg n))
  show (l.drop 0).take (kms_hi (some (n : Int)) l.length - 0) = l.take n
  rw [e]
  exact List.take_eq_take_min.symm
/-- nlargest(n, items, key): the sorted road -/
theorem nl_all {n : Int} {tn : Tok} {v x dx g dg t : Addr} {tg : Tok} {es : Array DictEntry} {N0 : Nat} {kvs : List (Int × Value)} {ps : List (Int × Int)} (hD : DIs (PySem.intKind prog w) es kvs) (hi : IntsI kvs ps) (hn : kvs.length < 64) (hn1 : n ≠ 1) (hns : kvs.length ≤ n)
   (hsx : (x == sysModules) = false) (B : Below A₀ base outer h₀) (F : Fr h₀ L s.heap m) (X : (Mine.hd11.heap_39 w.params).In h₀) (N : News h₀ L s.heap ((v, iview x) :: (g, one 867 dg (.ref t)) :: (dg, dictOf [] 0) :: (t, tup1 (.int 1 tg)) :: (x, cnt es N0 dx) :: (dx, dictOf [] 0) :: rest)) (T : Top vw ls mean mg mb h₀)
   (kk : ∀ S h' tk vs l c, TupsJ l vs ps → Fr h₀ L h' m → News h₀ L h' ((S, listOf ((dueV ps vs).take n.toNat).toArray c) :: (l ++ (v, iview x) :: (g, one 867 dg (.ref t)) :: (dg, dictOf [] 0) :: (t, tup1 (.int 1 tg)) :: (x, cnt es N0 dx) :: (dx, dictOf [] 0) :: rest)) → (∀ p ∈ l ++ (v, iview x) :: (g, one 867 dg (.ref t)) :: (dg, dictOf [] 0) :: (t, tup1 (.int 1 tg)) :: (x, cnt es N0 dx) :: (dx, dictOf [] 0) :: rest, p.1 < S) → R (.ok (.ret (.ref S))) { s with heap := h', toks := tk })
   : codeAny (model prog w) (AK 9 (ek e0 L) outer) (.call (.ref 656) ⟨[.int n tn, .ref v], [(Str.ofString "key", .ref g)]⟩) R s := by
  k_enter
  k_steps
  any_goals (exfalso; first | exact hn1 ‹_› | exact absurd hns (Int.not_le.mpr ‹_›) | omega)
  unfold Halt
  rename Fr _ _ _ _ => F2
  rename News _ _ _ _ => N2
  refine sorted_items (by rfl) F2 N2 (by k_mem) (by k_mem) (by exact rfl) hD hi (by rw [← hi.length]; exact hn) (by exact ksk_s2 _ _ _) (fun _ => by exact ksk_l2 _ _ _) (fun _ => by exact ksk_t2 _ _ _) (fun vs l hT => ig_turn (l := 13) (by decide) (by exact rfl) (by exact rfl) (by exact rfl) (by exact rfl) (by exact rfl) (Nat.le_of_ble_eq_true rfl) (Nat.le_of_ble_eq_true rfl) (by k_asm) (by k_asm) (by k_asm) (by k_mem) (by k_mem) (by k_mem) hT) fun S h3 tk3 vs l c hT F3 N3 l3 _ => ?_
  k_steps
  dsimp only
  refine' kms_slice_lit (s := { s with heap := h3, toks := tk3 }) (zs := (dueV ps vs).take n.toNat) ?yF ?yN ?yl ?yp ?yq ?ye ?_ ?ys ?yt ?yz
  case yF => k_asm
  case yN => k_asm
  case yl => kmk_list
  case yp => kmk_part
  case yq => kmk_part
  case ye => exact pick_upto _ (Int.le_trans (Int.natCast_nonneg _) hns)
  case ys => with_unfolding_all rfl
  case yt => kmk_pure
  case yz => rw [List.size_toArray, List.length_map, dueI_len, PySem.sizeLine_eq, ← hi.length]; exact Nat.le_trans (Nat.le_of_lt hn) (Nat.le_of_ble_eq_true rfl)
  intro D h4 F4 N4 l4
  k_steps
  refine kk D _ _ vs l 0 hT ‹_› (news_sub ‹_› fun p hp => ?_) fun p hp => l4 p (.tail _ (mem_skip hp))
  exact (List.mem_cons.mp hp).elim (fun e => e ▸ .head _) fun hp => .tail _ (.tail _ (mem_skip hp))
end
end Mine
end
section
open PySem PySem.W PyProof.Rows PyProof.V PySem.Calls PySem.Spec Builtin Builtin.ObjectAttr LCg
set_option compiler.extract_closed false
set_option Elab.async false
set_option maxRecDepth 100000
set_option maxHeartbeats 3000000
namespace Mine
theorem fillZ5 : PySem.Challenge.rw_dn0005_11 = PySem.Challenge.rw_dn0005_11 ∧ Mine.hd11.heap_39 = Mine.hd11.heap_39 := by
  k_fill
  exact ⟨rfl, rfl⟩
noncomputable abbrev tup3 (x y z : Value) : Obj := { cls := .type "tuple", data := .seq #[x, y, z] }
section
variable {prog : Program} {w : World} {A₀ : Around} {base h₀ : Heap} {outer : List Env} {e0 : Env} {L : Addr} {m mg mb : Str → Option Value} {mean : ExcName → Option Value} {s : Shared} {A : Around} {E : Value → Shared → Prop} {led : List (Addr × Obj)}
/-- key(elem) with an itemgetter of place 1 -/
theorem call_key {env ev : Env} {pos p1 p2 : Pos} {nk ne : Str} {g dg t a : Addr} {tk : Tok} {kk c : Int} {u1 u2 : Tok} {Q : Value → Shared → Prop}
   (hA : A.frames = some (env :: outer)) (hf : env.frame = some L) (hek : env.scope.kind = .function) (hh : A.handled = none) (hg : A.guards = some []) (hd : A.depth ≤ 520) (hu : A.units ≤ 2200)
   (B : Below A₀ base outer h₀) (X : (Mine.hd11.heap_39 w.params).In h₀) (T : Top vw ls mean mg mb h₀) (F : Fr h₀ L s.heap m) (N : News h₀ L s.heap led)
   (h1 : (g, one 867 dg (.ref t)) ∈ led) (h2 : (dg, dictOf [] 0) ∈ led) (h3 : (t, tup1 (.int 1 tk)) ∈ led) (h4 : (a, tup (.int kk u1) (.int c u2)) ∈ led)
   (hk : wpAny (model prog w) A (eval (.Name nk p1) ev) (fun v s' => v = .ref g ∧ s' = s) E s) (he : wpAny (model prog w) A (eval (.Name ne p2) ev) (fun v s' => v = .ref a ∧ s' = s) E s)
   (h : ∀ h' tk' t', Fr h₀ L h' m → News h₀ L h' led → Q (.int c t') { s with heap := h', toks := tk' }) :
   wpAny (model prog w) A (eval (.Call (.Name nk p1) [.Name ne p2] [] pos) ev) Q E s := by
  refine wpAny_Call_Name_kw (wpAny_mono hk (fun v s' e => ?_) fun _ _ x => x)
  obtain ⟨rfl, rfl⟩ := e
  have I : InstAt s'.heap g (one 867 dg (.ref t)) 867 (some (dictOf [] 0)) := by
    have N' := news_sub N (l' := [(g, one 867 dg (.ref t)), (dg, dictOf [] 0)]) (by
      intro q hq
      rcases List.mem_cons.mp hq with rfl | hq
      · exact h1
      · rw [List.mem_singleton.mp hq]; exact h2)
    k_inst
  have XK : (Mine.hd11.heap_39 w.params).In s'.heap := by k_in
  refine kco_callWith (K := Mine.hd11.heap_39 w.params) (C := 867) XK I rfl (f := 849) (by k_is) (wpAny_items_cons (wpAny_mono he (fun v s2 e => wpAny_items_nil ⟨⟨?_, ?_⟩, ?_⟩) fun _ _ x => x))
  · obtain ⟨rfl, rfl⟩ := e; exact XK
  · obtain ⟨rfl, rfl⟩ := e; exact I
  · obtain ⟨rfl, rfl⟩ := e
    have tn := ig_turn (prog := prog) (m := m) (l := 12) (s := s2) (by decide) hA hf hek hh hg ‹_› ‹_› B X T h1 h2 h3 (lt := [(a, tup (.int kk u1) (.int c u2))]) (vs := [.ref a]) (ps := [(kk, c)]) (.cons (.head _) .nil)
    refine wpAny_mono (tn 0 (.ref a) c rfl rfl s2.heap s2.toks led (fun q hq => ?_) F N) (fun v s3 e => ?_) fun _ _ x => x.elim
    · rcases List.mem_append.mp hq with hq | hq
      · rw [List.mem_singleton.mp hq]; exact h4
      · exact hq
    · obtain ⟨h', tk', t', rfl, rfl, F', N'⟩ := e
      exact h h' tk' t' F' N'
end
end Mine
end
section
open PySem PySem.W PyProof.Rows PyProof.V PySem.Calls PySem.Spec LCg
set_option compiler.extract_closed false
set_option Elab.async false
set_option maxRecDepth 100000
set_option maxHeartbeats 3000000
namespace Mine
noncomputable abbrev zipO (TI TO : Addr) (f0 : Value) : Obj := { cls := .type "zip", dict := none, data := .fields #[f0, .bool false, .bool false, .ref TI, .ref TO], slots := #[] }
noncomputable abbrev rngO (x left step : Int) : Obj := { cls := .type "range_iterator", dict := none, data := .fields #[rawInt x, rawInt left, rawInt step], slots := #[] }
/-- the count of item i -/
noncomputable abbrev cnt_ (ps : List (Int × Int)) (i : Nat) : Int := (ps.map (·.2)).getD i 0
/-- the first i triples stand in a list -/
noncomputable def Made (lt : List (Addr × Obj)) (ps : List (Int × Int)) (vs ys : List Value) (i : Nat) : Prop :=
  ys.length = i ∧ ∀ j, j < i → ∃ (a : Addr) (t u : Tok), ys[j]? = some (.ref a) ∧ (a, tup3 (.int (cnt_ ps j) t) (.int (-(j : Int)) u) (vs.getD j .none)) ∈ lt
theorem Made.snoc {lt lt' : List (Addr × Obj)} {ps : List (Int × Int)} {vs ys : List Value} {i : Nat} {a : Addr} {e : Value} {t u : Tok} (h : Made lt ps vs ys i) (hv : vs.length = i) (hs : ∀ p ∈ lt, p ∈ lt') (hm : (a, tup3 (.int (cnt_ ps i) t) (.int (-(i : Int)) u) e) ∈ lt') : Made lt' ps (vs ++ [e]) (ys ++ [.ref a]) (i + 1) := by
  refine ⟨by rw [List.length_append, h.1]; rfl, fun j hj => ?_⟩
  rcases Nat.lt_or_ge j i with hji | hji
  · obtain ⟨b, t', u', e1, e2⟩ := h.2 j hji
    refine ⟨b, t', u', by rw [List.getElem?_append_left (by rw [h.1]; exact hji)]; exact e1, ?_⟩
    have e3 : (vs ++ [e]).getD j Value.none = vs.getD j .none := by
      rw [List.getD_eq_getElem?_getD, List.getD_eq_getElem?_getD, List.getElem?_append_left (show j < vs.length by lia)]
    rw [e3]
    exact hs _ e2
  · obtain rfl : j = i := by lia
    refine ⟨a, t, u, by rw [List.getElem?_append_right (by rw [h.1]; exact Nat.le_refl _), h.1, Nat.sub_self]; rfl, ?_⟩
    have e3 : (vs ++ [e]).getD j Value.none = e := by
      rw [List.getD_eq_getElem?_getD, List.getElem?_append_right (show vs.length ≤ j by lia), hv, Nat.sub_self]; rfl
    rw [e3]
    exact hm
theorem TupsJ.snoc {l : List (Addr × Obj)} {vs : List Value} {cs : List (Int × Int)} {a : Addr} {k c : Int} {t u : Tok} (h : TupsJ l vs cs) (hm : (a, tup (.int k t) (.int c u)) ∈ l) : TupsJ l (vs ++ [.ref a]) (cs ++ [(k, c)]) :=
  h.append (.cons hm .nil)
section
variable {prog : Program} {w : World} {A₀ : Around} {base h₀ : Heap} {outer : List Env} {L : Addr} {m mg mb : Str → Option Value} {mean : ExcName → Option Value} {A : Around} {E : Value → Shared → Prop} {fx : List (Addr × Obj)} {env : Env}
theorem zip_block {iter : Expr} {nk ni ne : Str} {p1 p2 p3 p4 p5 p6 p7 p8 p9 : Pos} {scope : Scope} {cl : List (Str × Addr)} {pos : Pos} {kk0 kk1 : Nat} {s₂ : Shared} {RR : Value → Addr → Result → Shared → Prop}
    {z TI TO J I x g dg t cc : Addr} {tk : Tok} {oj io ocl : Obj} {es : Array DictEntry} {N0 dx n : Nat} {kvs : List (Int × Value)} {ps : List (Int × Int)} {a0 b0 : Value}
    (hA : A.frames = some (env :: outer)) (hf : env.frame = some L) (hek : env.scope.kind = .function) (hh : A.handled = none) (hg : A.guards = some []) (hd : A.depth ≤ 520) (hu : A.units ≤ 2200)
    (B : Below A₀ base outer h₀) (X : (Mine.hd11.heap_39 w.params).In h₀) (T : Top vw ls mean mg mb h₀)
    (hD : DIs (PySem.intKind prog w) es kvs) (hi : IntsI kvs ps) (hn : n ≤ kvs.length) (hsz : kvs.length < 64)
    (ap : ZAp z TI TO J I) (hfx : ∀ q ∈ fx, q.1 ≠ z ∧ q.1 ≠ TI ∧ q.1 ≠ TO ∧ q.1 ≠ J ∧ q.1 ≠ I) (hx : (x, cnt es N0 dx) ∈ fx) (hg1 : (g, one 867 dg (.ref t)) ∈ fx) (hg2 : (dg, dictOf [] 0) ∈ fx) (hg3 : (t, tup1 (.int 1 tk)) ∈ fx) (hcc : (cc, ocl) ∈ fx) (hcd : ocl.data = .cell (some (.ref g)))
    (hcell : ∀ y ∈ scope.names, y.2 ≠ .cell) (hkind : scope.kind = .function) (hxi : scope.names.lookup ni = some .local) (hxe : scope.names.lookup ne = some .local) (hie : ¬ ni = ne)
    (hki : (relabel scope env).names.lookup nk = some .cell) (hcl : cl.lookup nk = some cc) (hdi : (ni == ("__debug__" : Str)) = false) (hde : (ne == ("__debug__" : Str)) = false) (hdk : (nk == ("__debug__" : Str)) = false)
    (F : Fr h₀ L s₂.heap m) (N : News h₀ L s₂.heap ((z, zipO TI TO .none) :: (TI, tup (.ref J) (.ref I)) :: (TO, tup a0 b0) :: (J, oj) :: (I, io) :: fx))
    (hJ : 0 < n → oj = rngO 0 n (-1)) (hsp : n = 0 → ∀ s : Shared, s.heap.get? J = some oj → Spent prog w A.in1 J s) (hio : ItS [] x 0 kvs.length N0 io)
    (hRR : ∀ D C h tk m' io' ys vs lt, Made lt ps vs ys n → TupsJ lt vs (ps.take n) → ItS lt x n kvs.length N0 io' → Fr h₀ L h m → News h₀ L h ((D, lst ys) :: (I, io') :: (lt ++ fx)) → h.Ns C m' → h₀.get? C = none → C ≠ L → C ≠ D → C ≠ I → (∀ q ∈ fx, @LT.lt Nat _ q.1 D) → @LT.lt Nat _ I D → (∀ q ∈ lt, @LT.lt Nat _ D q.1 ∧ @LT.lt Nat _ C q.1) → (∀ q ∈ fx, q.1 ≠ C) → RR (.ref D) C (.ok .next) { s₂ with heap := h, toks := tk }) :
    wpAny (model prog w) A (newList []) (fun acc s₃ => wpAny (model prog w) A (newFunctionEnv scope env.globals cl [] env.qual none .none (some env)) (fun cenv s₄ =>
      codeAny (model prog w) A (.compStart (.ListComp (.Tuple [.Call (.Name nk p1) [.Name ne p2] [] p3, .Name ni p4, .Name ne p5] kk0 p6) [⟨.Tuple [.Name ni p7, .Name ne p8] kk1 p9, iter, [], 0⟩] scope pos) 0 (.ref z) acc { cenv with scope := relabel scope env }) (RR acc cenv.locals) s₄) E s₃) E s₂ := by
  refine comp_begin hcell hkind F fun D C h₁ tk₀ lLD lDC fresh old hns₁ hacc => ?_
  have fD := fresh D lLD
  have fC := fresh C (Nat.lt_trans lLD lDC)
  have n1 := N _ (.head _)
  have n2 := N (TI, _) (.tail _ (.head _))
  have n3 := N (TO, _) (.tail _ (.tail _ (.head _)))
  have n4 := N (J, _) (.tail _ (.tail _ (.tail _ (.head _))))
  have n5 := N (I, _) (.tail _ (.tail _ (.tail _ (.tail _ (.head _)))))
  have NF : News h₀ L s₂.heap fx := fun q hq => N q (.tail _ (.tail _ (.tail _ (.tail _ (.tail _ hq)))))
  clear N
  have o1 := old _ _ n1.1
  have o2 := old _ _ n2.1
  have o3 := old _ _ n3.1
  have o4 := old _ _ n4.1
  have o5 := old _ _ n5.1
  have lfx : ∀ q ∈ fx, @LT.lt Nat _ q.1 D := fun q hq => (old _ _ (NF q hq).1).1
  obtain ⟨ex, hx1, hx2⟩ : ∃ ex : Addr → Prop, (∀ c, ¬ ex c → c ≠ z ∧ c ≠ TO ∧ c ≠ J ∧ c ≠ I ∧ c ≠ C ∧ c ≠ D) ∧ (∀ c, ex c → c = z ∨ c = TO ∨ c = J ∨ c = I ∨ c = C ∨ c = D) := ⟨fun c => c = z ∨ c = TO ∨ c = J ∨ c = I ∨ c = C ∨ c = D, fun c h => by simpa only [not_or] using h, fun _ h => h⟩
  have hex : ∀ c, ex c → c ≠ L ∧ h₀.get? c = none := fun c e => by
    rcases hx2 c e with rfl | rfl | rfl | rfl | rfl | rfl
    · exact n1.2
    · exact n3.2
    · exact n4.2
    · exact n5.2
    · exact fC
    · exact fD
  have offx : ∀ q ∈ fx, ¬ ex q.1 := fun q hq e => by
    have a := hfx q hq
    have l := lfx q hq
    exact (hx2 _ e).elim a.1 fun e => e.elim a.2.2.1 fun e => e.elim a.2.2.2.1 fun e => e.elim a.2.2.2.2 fun e => e.elim (Nat.ne_of_lt (Nat.lt_trans l lDC)) (Nat.ne_of_lt l)
  have offn : ∀ c : Nat, C < c → ¬ ex c := fun c hc e => by
    have hd := Nat.lt_trans lDC hc
    exact (hx2 _ e).elim (Nat.ne_of_gt (Nat.lt_trans o1.1 hd)) fun e => e.elim (Nat.ne_of_gt (Nat.lt_trans o3.1 hd)) fun e => e.elim (Nat.ne_of_gt (Nat.lt_trans o4.1 hd)) fun e => e.elim (Nat.ne_of_gt (Nat.lt_trans o5.1 hd)) fun e => e.elim (Nat.ne_of_gt hc) (Nat.ne_of_gt hd)
  obtain ⟨Inv, hInv⟩ : ∃ Inv : Nat → Shared → Prop, ∀ k s', Inv k s' ↔ ∀ G : Prop, (∀ h tk i a b ojj ob m' ys vs lt, s' = { s₂ with heap := h, toks := tk } → k = n + 1 - i → i ≤ n → Made lt ps vs ys i → TupsJ lt vs (ps.take i) → ItS lt x i kvs.length N0 ob → Fr h₀ L h m → h.Ns C m' →
      h.get? z = some (zipO TI TO .none) → h.get? TI = some (tup (.ref J) (.ref I)) → h.get? TO = some (tup a b) → h.get? J = some ojj → h.get? I = some ob → h.get? D = some (lst ys) → News h₀ L h (lt ++ fx) → (∀ q ∈ lt, @LT.lt Nat _ C q.1) →
      (0 < n → ojj = rngO (-(i : Int)) ((n : Int) - i) (-1)) → (n = 0 → ojj = oj) → G) → G := ⟨_, fun _ _ => Iff.rfl⟩
  have loop : codeAny (model prog w) A (.compLoop (.ListComp (.Tuple [.Call (.Name nk p1) [.Name ne p2] [] p3, .Name ni p4, .Name ne p5] kk0 p6) [⟨.Tuple [.Name ni p7, .Name ne p8] kk1 p9, iter, [], 0⟩] scope pos) 0 (.ref z) (.ref D) (compEnvC scope cl C env)) (RR (.ref D) C) { s₂ with heap := h₁, toks := tk₀ } := by
    refine kcp_loop Inv ?turn (n + 1) ((hInv _ _).mpr fun G g => g h₁ _ 0 a0 b0 oj io _ [] [] [] rfl rfl (Nat.zero_le _) ⟨rfl, fun j hj => absurd hj (Nat.not_lt_zero _)⟩ .nil hio (F.keeps fun b o e => (old b o e).2) hns₁ o1.2 o2.2 o3.2 o4.2 o5.2 hacc (fun q hq => ⟨(old _ _ (NF q hq).1).2, (NF q hq).2⟩) (fun _ h => nomatch h) (fun h0 => by rw [hJ h0]; simp) fun _ => rfl)
    intro k s' hk
    refine (hInv k s').mp hk _ ?_
    clear hk
    rintro h tk' i a b ojj ob m' ys vs lt rfl rfl hin hM hV hS F' hn' zz zTI zTO zJ zI zD NL hlt hoj hoj0
    have hvl : vs.length = i := by rw [hV.length, List.length_take, ← hi.length]; exact Nat.min_eq_left (Nat.le_trans hin hn)
    have zx := (NL _ (List.mem_append_right _ hx)).1
    have off : ∀ q ∈ lt ++ fx, ¬ ex q.1 := fun q hq => (List.mem_append.mp hq).elim (fun hq => offn _ (hlt q hq)) (offx q)
    by_cases hlt' : i < n
    · obtain ⟨⟨kq, v⟩, hq⟩ : ∃ p, kvs[i]? = some p := ⟨kvs[i]'(Nat.lt_of_lt_of_le hlt' hn), List.getElem?_eq_getElem (Nat.lt_of_lt_of_le hlt' hn)⟩
      obtain ⟨k0, c0, t0, e0, hp⟩ := hi.at hq
      obtain ⟨rfl, rfl⟩ := Prod.mk.inj e0
      rw [hoj (Nat.lt_of_le_of_lt (Nat.zero_le _) hlt')] at zJ
      refine next_zip_item (s := { s₂ with heap := h, toks := tk' }) (kvs := kvs) ap zz zTI zTO zJ (Int.sub_pos_of_lt (Int.ofNat_lt.mpr hlt')) zI hS (fun q hq => let e := hx1 _ (offn _ (hlt q hq)); ⟨(NL q (List.mem_append_left _ hq)).1, e.1, e.2.1, e.2.2.1, e.2.2.2.1⟩) ⟨_, es, zx, rfl, hD⟩ ⟨(hfx _ hx).1, (hfx _ hx).2.2⟩ hq ?_
      intro h2 tk2 u2 io2 Tn E' y1 y2 y3 y4 y5 y6 y7 y8 y9 y10
      dsimp only at y10 y8 y9 ⊢
      have hCs : @LT.lt Nat _ C h.objs.size := hn'.lt
      have hEC : @LT.lt Nat _ C E' := by rw [y8]; exact hCs
      have hTC : @LT.lt Nat _ C Tn := by rw [y9]; exact Nat.lt_succ_of_lt hCs
      clear y8 y9
      refine wpAny_letOwnedTupleGo_zip y1 fun h3 zz3 sb3 => ?_
      have nC := hx1 C
      have gC : ∀ {b : Nat}, b < D → C ≠ b := fun hb => Nat.ne_of_gt (Nat.lt_trans hb lDC)
      refine kcp_assign (env := compEnvC scope cl C env) hh (T := Tn) (x := .int (-(i : Int)) u2) (y := .ref E') ⟨_, sb3.extBut _ _ (hx1 _ (offn _ hTC)).1 y7, rfl, _, rfl⟩ (lookup_relabel_local hxi) (lookup_relabel_local hxe) (by simp [compEnvC, relabel, hkind]) (hn'.at' fun o e => sb3.extBut _ _ (gC o1.1) (y10 _ o (gC o1.1) (gC o3.1) (gC o4.1) (gC o5.1) e)) fun h4 tk4 hn4 keep4 => ?_
      have up4 : ∀ c o, ¬ ex c → h.get? c = some o → h4.get? c = some o := fun c o hc e => by
        have q := hx1 c hc
        exact keep4 c o q.2.2.2.2.1 (sb3.extBut _ _ q.1 (y10 c o q.1 q.2.1 q.2.2.1 q.2.2.2.1 e))
      have low4 : ∀ c o, @LT.lt Nat _ c D → c ≠ z → h2.get? c = some o → h4.get? c = some o := fun c o lc hc e => keep4 c o (Nat.ne_of_lt (Nat.lt_trans lc lDC)) (sb3.extBut _ _ hc e)
      obtain ⟨oC4, heC4, hoC4⟩ := ns_obj hn4
      have cE := hx1 _ (offn _ hEC)
      have zD4 : h4.get? D = some (lst ys) := keep4 _ _ (Nat.ne_of_lt lDC) (sb3.extBut _ _ (Nat.ne_of_gt o1.1) (y10 _ _ (Nat.ne_of_gt o1.1) (Nat.ne_of_gt o3.1) (Nat.ne_of_gt o4.1) (Nat.ne_of_gt o5.1) zD))
      have N4 : News h₀ L h4 ((E', tup (.int kq tk2) (.int c0 t0)) :: (z, zipO TI TO .none) :: (TI, tup (.ref J) (.ref I)) :: (TO, tup (.int (-(i : Int)) u2) (.ref E')) :: (J, rngO (-(i : Int) + -1) ((n : Int) - i - 1) (-1)) :: (I, io2) :: (C, oC4) :: (D, lst ys) :: (lt ++ fx)) :=
        news_cons ⟨keep4 _ _ (Nat.ne_of_gt hEC) (sb3.extBut _ _ cE.1 y6), fresh _ (Nat.lt_trans (Nat.lt_trans lLD lDC) hEC)⟩ <| news_cons ⟨keep4 _ _ (Nat.ne_of_lt (Nat.lt_trans o1.1 lDC)) zz3, n1.2⟩ <| news_cons ⟨low4 _ _ o2.1 ap.zTI.symm (y10 _ _ ap.zTI.symm ap.TITO ap.TIJ ap.TII zTI), n2.2⟩ <| news_cons ⟨low4 _ _ o3.1 ap.zTO.symm y2, n3.2⟩ <| news_cons ⟨low4 _ _ o4.1 ap.zJ.symm y3, n4.2⟩ <| news_cons ⟨low4 _ _ o5.1 ap.zI.symm y4, n5.2⟩ <| news_cons ⟨heC4, fC⟩ <| news_cons ⟨zD4, fD⟩ fun q hq => ⟨up4 _ _ (off q hq) (NL q hq).1, (NL q hq).2⟩
      have F4 := fr_up F' up4 hex
      have mfx : ∀ {q}, q ∈ fx → q ∈ ((E', tup (.int kq tk2) (.int c0 t0)) :: (z, zipO TI TO .none) :: (TI, tup (.ref J) (.ref I)) :: (TO, tup (.int (-(i : Int)) u2) (.ref E')) :: (J, rngO (-(i : Int) + -1) ((n : Int) - i - 1) (-1)) :: (I, io2) :: (C, oC4) :: (D, lst ys) :: (lt ++ fx) : List (Addr × Obj)) := fun hq => .tail _ (.tail _ (.tail _ (.tail _ (.tail _ (.tail _ (.tail _ (.tail _ (List.mem_append_right _ hq))))))))
      clear y1 y2 y3 y4 y6 y7 y10 zz3 zD4 low4 up4 F' NL zz zTI zTO zJ zI zD heC4
      refine wpAny_Tuple (wpAny_items_cons (call_key (a := E') (kk := kq) (c := c0) (u1 := tk2) (u2 := t0) hA hf hek hh hg hd hu B X T F4 N4 (mfx hg1) (mfx hg2) (mfx hg3) (.head _) ?hk ?he fun h5 tk5 t5 F5 N5 => ?_))
      case hk =>
        rw [eval_Name _ _ _ hdk]
        exact wpAny_bind (wpAny_standAt (wpAny_loadName_cell (by simp [compEnvC, relabel, hkind]) hki hcl ⟨_, (N4 _ (mfx hcc)).1, hcd⟩ ⟨rfl, rfl⟩))
      case he =>
        rw [eval_Name _ _ _ hde]
        exact wpAny_bind (wpAny_standAt (wpAny_loadName_local (by simp [compEnvC, relabel, hkind]) (lookup_relabel_local hxe) hn4 (by simp) ⟨rfl, rfl⟩))
      clear F4 mfx N4
      have xE := (N5 _ (.head _))
      have xz := (N5 (z, _) (.tail _ (.head _))).1
      have xTI := (N5 (TI, _) (.tail _ (.tail _ (.head _)))).1
      have xTO := (N5 (TO, _) (.tail _ (.tail _ (.tail _ (.head _))))).1
      have xJ := (N5 (J, _) (.tail _ (.tail _ (.tail _ (.tail _ (.head _)))))).1
      have xI := (N5 (I, _) (.tail _ (.tail _ (.tail _ (.tail _ (.tail _ (.head _))))))).1
      have hn5 := hoC4.ns (N5 (C, oC4) (.tail _ (.tail _ (.tail _ (.tail _ (.tail _ (.tail _ (.head _)))))))).1
      have xD := (N5 (D, _) (.tail _ (.tail _ (.tail _ (.tail _ (.tail _ (.tail _ (.tail _ (.head _))))))))).1
      have NL5 : News h₀ L h5 (lt ++ fx) := fun q hq => N5 q (.tail _ (.tail _ (.tail _ (.tail _ (.tail _ (.tail _ (.tail _ (.tail _ hq))))))))
      clear N5
      refine wpAny_items_cons ?_
      rw [eval_Name _ _ _ hdi]
      refine wpAny_bind (wpAny_standAt (wpAny_loadName_local (by simp [compEnvC, relabel, hkind]) (lookup_relabel_local hxi) hn5 (v := .int (-(i : Int)) u2) (by simp [hie]) ?_))
      refine wpAny_items_cons ?_
      rw [eval_Name _ _ _ hde]
      refine wpAny_bind (wpAny_standAt (wpAny_loadName_local (by simp [compEnvC, relabel, hkind]) (lookup_relabel_local hxe) hn5 (v := .ref E') (by simp) ?_))
      refine wpAny_items_nil ⟨by rw [PySem.sizeLine_eq]; exact Nat.le_of_ble_eq_true rfl, ?_⟩
      obtain ⟨h6, T3, hC6, e6, up6, zT6⟩ : ∃ (h6 : Heap) (T3 : Addr), @LT.lt Nat _ C T3 ∧ (h5.push { cls := .type "tuple", data := .seq [Value.int c0 t5, Value.int (-(i : Int)) u2, Value.ref E'].toArray } = h6 ∧ h5.objs.size = T3) ∧ (∀ c o, h5.get? c = some o → h6.get? c = some o) ∧ h6.get? T3 = some (tup3 (.int c0 t5) (.int (-(i : Int)) u2) (.ref E')) := ⟨_, _, hn5.lt, ⟨rfl, rfl⟩, fun c o e => Heap.get?_push_of_some _ e, Heap.get?_push_size _ rfl⟩
      rw [e6.1, e6.2]
      refine append_at (hsz := by show ys.toArray.size ≤ sizeLine; rw [List.size_toArray, hM.1]; exact line_of hlt' (Nat.lt_of_le_of_lt hn hsz)) (up6 _ _ xD) fun h7 hs7 hD7 => ?_
      have up7 : ∀ c o, ¬ c = D → h5.get? c = some o → h7.get? c = some o := fun c o hc e => hs7.extBut c o hc (up6 c o e)
      have lD7 : ∀ c o, @LT.lt Nat _ c D → h5.get? c = some o → h7.get? c = some o := fun c o hc e => up7 c o (Nat.ne_of_lt hc) e
      have hcnt : cnt_ ps i = c0 := by
        unfold cnt_
        rw [List.getD_eq_getElem?_getD, List.getElem?_map, hp]
        rfl
      have htk : ps.take (i + 1) = ps.take i ++ [(kq, c0)] := by rw [List.take_succ, hp]; rfl
      refine ⟨n + 1 - (i + 1), left_lt hlt', (hInv _ _).mpr fun G g => g h7 tk5 (i + 1) (.int (-(i : Int)) u2) (.ref E') (rngO (-(i : Int) + -1) ((n : Int) - i - 1) (-1)) io2 _ (ys ++ [.ref T3]) (vs ++ [.ref E']) ((T3, tup3 (.int c0 t5) (.int (-(i : Int)) u2) (.ref E')) :: (E', tup (.int kq tk2) (.int c0 t0)) :: lt) rfl rfl hlt'
        (hM.snoc (t := t5) (u := u2) hvl (fun q hq => .tail _ (.tail _ hq)) (by rw [hcnt]; exact .head _)) (htk ▸ (hV.sub fun q hq => .tail _ (.tail _ hq)).snoc (.tail _ (.head _))) (y5.sub fun q hq => .tail _ hq) (fr_up F5 up7 fun c q => q ▸ fD) (hn5.at' fun o e => up7 _ _ (Nat.ne_of_gt lDC) e)
        (lD7 _ _ o1.1 xz) (lD7 _ _ o2.1 xTI) (lD7 _ _ o3.1 xTO) (lD7 _ _ o4.1 xJ) (lD7 _ _ o5.1 xI) (hD7.trans (congrArg some (lst_snoc ys _)))
        (news_cons ⟨hs7.extBut _ _ (Nat.ne_of_gt (Nat.lt_trans lDC hC6)) zT6, fresh _ (Nat.lt_trans (Nat.lt_trans lLD lDC) hC6)⟩ <| news_cons ⟨up7 _ _ cE.2.2.2.2.2 xE.1, xE.2⟩ fun q hq => ⟨up7 _ _ (hx1 _ (off q hq)).2.2.2.2.2 (NL5 q hq).1, (NL5 q hq).2⟩)
        (List.forall_mem_cons.mpr ⟨hC6, List.forall_mem_cons.mpr ⟨hEC, hlt⟩⟩) (fun _ => ?m7) fun h => absurd h (by omega)⟩
      case m7 =>
        congr 1
        · exact (Int.neg_add ..).symm
        · exact Int.sub_sub ..
    · have hin' := Nat.le_antisymm hin (Nat.not_lt.mp hlt')
      clear hlt' hin
      subst hin'
      have hst : Spent prog w A.in1 J { s₂ with heap := h, toks := tk' } := by
        rcases Nat.eq_zero_or_pos i with e | e
        · exact hsp e _ (by rw [← hoj0 e]; exact zJ)
        · rw [hoj e] at zJ
          exact spent_range (s := { s₂ with heap := h, toks := tk' }) hh zJ (by omega)
      refine next_zip_over (s := { s₂ with heap := h, toks := tk' }) ap zz zTI hst fun h2 up => ?_
      have up2 : ∀ c o, ¬ ex c → h.get? c = some o → h2.get? c = some o := fun c o hc e => up c o (hx1 c hc).1 (hx1 c hc).2.2.1 e
      refine hRR D C h2 tk' m' ob ys vs lt hM hV hS (fr_up F' up2 hex) (news_cons ⟨up _ _ (Nat.ne_of_gt o1.1) (Nat.ne_of_gt o4.1) zD, fD⟩ <| news_cons ⟨up _ _ ap.zI.symm ap.JI.symm zI, n5.2⟩ fun q hq => ⟨up2 _ _ (off q hq) (NL q hq).1, (NL q hq).2⟩) (hn'.at' fun o e => up _ o (Nat.ne_of_gt (Nat.lt_trans o1.1 lDC)) (Nat.ne_of_gt (Nat.lt_trans o4.1 lDC)) e) fC.2 fC.1 (Nat.ne_of_gt lDC) (Nat.ne_of_gt (Nat.lt_trans o5.1 lDC)) lfx o5.1 (fun q hq => ⟨Nat.lt_trans lDC (hlt q hq), hlt q hq⟩) fun q hq => Nat.ne_of_lt (Nat.lt_trans (lfx q hq) lDC)
  exact codeAny_compStart_list loop (wpAny_pyIter_zip o1.2 loop)
end
end Mine
end
section
open PySem PySem.W PyProof.Rows PyProof.V PySem.Calls PySem.Spec LCg
set_option compiler.extract_closed false
set_option Elab.async false
set_option maxRecDepth 100000
set_option maxHeartbeats 3000000
namespace Mine
section
variable {prog : Program} {w : World} {A₀ : Around} {base h₀ : Heap} {outer : List Env} {L : Addr} {m mg mb : Str → Option Value} {mean : ExcName → Option Value} {A : Around} {E : Value → Shared → Prop} {s : Shared} {fx : List (Addr × Obj)} {env : Env}
/-- a zip of a falling range and an iterator over items, made and not yet asked -/
noncomputable def ZGot (prog : Program) (w : World) (A : Around) (h₀ : Heap) (L : Addr) (m : Str → Option Value) (fx : List (Addr × Obj)) (n : Nat) (I : Addr) (io : Obj) (xv : Value) (s₁ : Shared) : Prop :=
  ∃ z TI TO J oj, xv = .ref z ∧ ZAp z TI TO J I ∧ (∀ q ∈ fx, q.1 ≠ z ∧ q.1 ≠ TI ∧ q.1 ≠ TO ∧ q.1 ≠ J ∧ q.1 ≠ I) ∧ Fr h₀ L s₁.heap m ∧ News h₀ L s₁.heap ((z, zipO TI TO .none) :: (TI, tup (.ref J) (.ref I)) :: (TO, tup .none .none) :: (J, oj) :: (I, io) :: fx) ∧ (0 < n → oj = rngO 0 n (-1)) ∧
    (n = 0 → ∀ s : Shared, s.heap.get? J = some oj → Spent prog w A.in1 J s)
theorem assign_zip {iter : Expr} {zn nk ni ne : Str} {pz p1 p2 p3 p4 p5 p6 p7 p8 p9 : Pos} {scope : Scope} {cl : List (Str × Addr)} {pos spos : Pos} {kk0 kk1 : Nat} {Q : Flow → Shared → Prop}
    {I x g dg t cc : Addr} {tk : Tok} {io ocl : Obj} {es : Array DictEntry} {N0 dx n : Nat} {kvs : List (Int × Value)} {ps : List (Int × Int)}
    (_N : ∃ h : Heap, Fr h₀ L h m ∧ News h₀ L h ((I, io) :: fx)) (hA : A.frames = some (env :: outer)) (hf : env.frame = some L) (hLe : env.locals = L) (hek : env.scope.kind = .function) (hh : A.handled = none) (hg : A.guards = some []) (hd : A.depth ≤ 520) (hu : A.units ≤ 2200)
    (B : Below A₀ base outer h₀) (X : (Mine.hd11.heap_39 w.params).In h₀) (T : Top vw ls mean mg mb h₀)
    (hD : DIs (PySem.intKind prog w) es kvs) (hi : IntsI kvs ps) (hn : n ≤ kvs.length) (hsz : kvs.length < 64)
    (hx : (x, cnt es N0 dx) ∈ fx) (hg1 : (g, one 867 dg (.ref t)) ∈ fx) (hg2 : (dg, dictOf [] 0) ∈ fx) (hg3 : (t, tup1 (.int 1 tk)) ∈ fx) (hcc : (cc, ocl) ∈ fx) (hcd : ocl.data = .cell (some (.ref g)))
    (hsw : swapsWith (.ListComp (.Tuple [.Call (.Name nk p1) [.Name ne p2] [] p3, .Name ni p4, .Name ne p5] kk0 p6) [⟨.Tuple [.Name ni p7, .Name ne p8] kk1 p9, iter, [], 0⟩] scope pos) (some (.Name zn pz)) spos.line env = pure true)
    (hclos : closureFor scope env = pure cl) (hcell : ∀ y ∈ scope.names, y.2 ≠ .cell) (hkind : scope.kind = .function) (hnames : ∀ z ∈ scope.names, z.2 = .local → scope.names.lookup z.1 = some .local) (hxi : scope.names.lookup ni = some .local) (hxe : scope.names.lookup ne = some .local) (hie : ¬ ni = ne)
    (hki : (relabel scope env).names.lookup nk = some .cell) (hcl : cl.lookup nk = some cc) (hdi : (ni == ("__debug__" : Str)) = false) (hde : (ne == ("__debug__" : Str)) = false) (hdk : (nk == ("__debug__" : Str)) = false)
    (hz : env.kindOf zn = some .local) (hp : (env.scope.kind == .class || (env.scope.kind == .module && env.locals != env.globals)) = false)
    (hio : ItS [] x 0 kvs.length N0 io) 
    (h : wpAny (model prog w) A (eval iter env) (fun xv s₁ => Halt (ZGot prog w A h₀ L m fx n I io xv s₁ ∧
      ∀ D h tk io' ys vs lt, Made lt ps vs ys n → TupsJ lt vs (ps.take n) → ItS lt x n kvs.length N0 io' → Fr h₀ L h (fun v => if v = zn then some (.ref D) else m v) → News h₀ L h ((D, lst ys) :: (I, io') :: (lt ++ fx)) → (∀ q ∈ fx, @LT.lt Nat _ q.1 D) → @LT.lt Nat _ I D → (∀ q ∈ lt, @LT.lt Nat _ D q.1) → (∀ q ∈ fx, q.1 ≠ I) → Q .next { s₁ with heap := h, toks := tk })) E s)
    (hs : ∀ x, foldedSetIterable iter env x = pure x := by intro _; rfl) :
    wpAny (model prog w) A (exec (.Assign [.Name zn pz] (.ListComp (.Tuple [.Call (.Name nk p1) [.Name ne p2] [] p3, .Name ni p4, .Name ne p5] kk0 p6) [⟨.Tuple [.Name ni p7, .Name ne p8] kk1 p9, iter, [], 0⟩] scope pos) spos) env) Q E s := by
  subst hLe
  rw [exec_Assign_Name_used _ _ _ _ hsw]
  refine wpAny_bind (wpAny_standAt (wpAny_bind ?_))
  show wpAny _ A (do let _ ← comprehension (.ListComp (.Tuple [.Call (.Name nk p1) [.Name ne p2] [] p3, .Name ni p4, .Name ne p5] kk0 p6) [⟨.Tuple [.Name ni p7, .Name ne p8] kk1 p9, iter, [], 0⟩] scope pos) scope env _ (newList []) false (eval iter env) (some (assign (.Name zn pz) env))) _ _ s
  refine wpAny_bind (wpAny_mono (wpAny_comprehension_free (use := some (assign (.Name zn pz) env)) (Q := fun _ s' => Q .next s') rfl hs hclos hkind hnames
    (wpAny_mono h (fun xv s₁ h₁ => ?_) fun _ _ e => e)) (fun _ s' hq => wpAny_pure (wpAny_pure hq)) fun _ _ e => e)
  obtain ⟨⟨z, TI, TO, J, oj, rfl, ap, hfx, F, N, hJ, hsp⟩, fin⟩ := h₁
  refine wpAny_pyIter_zip (N _ (.head _)).1 ?_
  refine zip_block hA hf hek hh hg hd hu B X T hD hi hn hsz ap hfx hx hg1 hg2 hg3 hcc hcd hcell hkind hxi hxe hie hki hcl hdi hde hdk F N hJ hsp hio ?_
  intro D C h' tk m' io' ys vs lt hM hV hS F' N' hn' hC₀ hCL hCD hCI lfx lI llt offC
  show wpAny _ A (assign (.Name zn pz) env (.ref D)) _ _ _
  refine wpAny_assign_Name (wpAny_storeName_local hz F'.ns (fun h₂ hn₂ hs₂ => ?_) hp)
  have hL₀ : h₀.get? env.locals = none := Heap.get?_none_of_le F'.above
  have F₂ : Fr h₀ env.locals h₂ (fun v => if v = zn then some (.ref D) else m v) := ⟨hn₂, fun b o e => hs₂.extBut b o (fun q => by rw [q, hL₀] at e; cases e) (F'.keep b o e), F'.above⟩
  refine ⟨m', hn'.sameBut hs₂ hCL, fun h'' hs'' => fin D h'' _ io' ys vs lt hM hV hS (F₂.change hs'' hCL hC₀) (fun p hp => ?_) lfx lI (fun q hq => (llt q hq).1) fun q hq => (hfx q hq).2.2.2.2⟩
  have zz : h₂.get? p.1 = some p.2 := hs₂.extBut _ _ (N' p hp).2.1 (N' p hp).1
  refine ⟨hs''.extBut _ _ ?_ zz, (N' p hp).2⟩
  rcases List.mem_cons.mp hp with rfl | hp
  · exact Ne.symm hCD
  rcases List.mem_cons.mp hp with rfl | hp
  · exact Ne.symm hCI
  exact (List.mem_append.mp hp).elim (fun h => Nat.ne_of_gt (llt p h).2) (offC p)
/-- zip(r, it) in a ledger -/
theorem zip_got {r I : Addr} {jo io : Obj} {n : Nat} {K : Shared → Prop} (F : Fr h₀ L s.heap m) (N : News h₀ L s.heap ((I, io) :: fx)) (hI : ∀ q ∈ fx, q.1 ≠ I) (hc : io.cls = .type "dict_itemiterator")
    (hr : ∀ (A : Around) (E : Value → Shared → Prop) (Q : Value → Shared → Prop), Q (.ref s.heap.objs.size) { s with heap := s.heap.push jo } → wpAny (model prog w) A (pyIter (.ref r)) Q E s) (hjf : jo.isFreed = false)
    (hJ : 0 < n → jo = rngO 0 n (-1)) (hsp : n = 0 → ∀ (s : Shared) (J : Addr), s.heap.get? J = some jo → Spent prog w A.in1 J s) {A' : Around}
    (h : ∀ h', K { s with heap := h' }) : wpAny (model prog w) A' (call (.type "zip") [.ref r, .ref I]) (fun xv s₁ => Halt (ZGot prog w A h₀ L m fx n I io xv s₁ ∧ K s₁)) E s := by
  refine zip_make (N _ (.head _)).1 hc hr hjf fun h' e1 e2 e3 e4 e5 keep => show _ ∧ _ from ⟨?_, h h'⟩
  have lt : ∀ q ∈ ((I, io) :: fx : List (Addr × Obj)), @LT.lt Nat _ q.1 s.heap.objs.size := fun q hq => Heap.lt_size (N q hq).1
  have lI := lt (I, io) (.head _)
  have ne : ∀ (b k : Nat), b < s.heap.objs.size → b ≠ s.heap.objs.size + k := fun b k hb => by lia
  have fr : ∀ (k : Nat), s.heap.objs.size + k ≠ L ∧ h₀.get? (s.heap.objs.size + k) = none := fun k => ⟨Ne.symm (ne L k F.ns.lt), Heap.get?_none_of_le (Nat.le_trans F.above (Nat.le_trans (Nat.le_of_lt F.ns.lt) (Nat.le_add_right _ _)))⟩
  refine ⟨s.heap.objs.size + 3, s.heap.objs.size + 1, s.heap.objs.size + 2, s.heap.objs.size, jo, rfl, ?_, fun q hq => ?_, ⟨F.ns.at' fun o e => keep _ o e, fun b o e => keep b o (F.keep b o e), F.above⟩, ?_, hJ, fun h0 s' e => hsp h0 s' _ e⟩
  · have a1 := ne I 0 lI; have a2 := ne I 1 lI; have a3 := ne I 2 lI; have a4 := ne I 3 lI
    constructor <;> (refine neN ?_; omega)
  · have lq := lt q (.tail _ hq)
    exact ⟨ne _ 3 lq, ne _ 1 lq, ne _ 2 lq, ne _ 0 lq, hI q hq⟩
  · intro q hq
    rcases List.mem_cons.mp hq with rfl | hq
    · exact ⟨e4, fr 3⟩
    rcases List.mem_cons.mp hq with rfl | hq
    · exact ⟨e2, fr 1⟩
    rcases List.mem_cons.mp hq with rfl | hq
    · exact ⟨e3, fr 2⟩
    rcases List.mem_cons.mp hq with rfl | hq
    · exact ⟨e1, fr 0⟩
    exact ⟨keep _ _ (N q hq).1, (N q hq).2⟩
end
end Mine
end
section
open PySem PySem.W PyProof.Rows PyProof.V PySem.Calls PySem.Spec LCg
set_option compiler.extract_closed false
set_option Elab.async false
set_option maxRecDepth 100000
set_option maxHeartbeats 3000000
namespace Mine
theorem size_fall (n : Int) : Builtin.Range.rangeSize 0 (-n) (-1) = (n.toNat : Int) := by
  unfold Builtin.Range.rangeSize
  rw [if_neg (by decide)]
  split
  · rw [show -(-1 : Int) = 1 from rfl, Int.ediv_one]; lia
  · lia
section
variable {prog : Program} {w : World} {s : Shared}
theorem wpAny_pyIter_long {A : Around} {E : Value → Shared → Prop} {r : Addr} {a b c : Int} {t u v : Tok} {Q : Value → Shared → Prop} (hr : IsRange s.heap r a b c t u v) (hsmall : Builtin.Range.small a b c = false)
    (hQ : Q (.ref s.heap.objs.size) { s with heap := s.heap.push { cls := .type "longrange_iterator", data := .fields #[rawInt a, rawInt (Builtin.Range.rangeSize a b c), rawInt c] } }) :
    wpAny (model prog w) A (pyIter (.ref r)) Q E s := by
  have hT : s.TypeIs (.ref r) "range" := ⟨_, hr, rfl⟩
  unfold Builtin.Range.small at hsmall
  refine wpAny_pyIter_slot hT F.slot_range_iter (call_meets F.slot_range_iter hT F.entry_range_iter (F.args_range_iter_1 _)
    (AutoRange.range___iter___range_0 r a b c t u v (by rw [hsmall]; rfl)) ⟨hr, ?_⟩)
  simp only [hsmall, Bool.false_eq_true, if_false]
  exact ⟨"longrange_iterator", _, ⟨_, Heap.get?_push_size _ rfl, rfl⟩, F.slot_longrange_iterator_next.lookup, hQ⟩
/-- an iterator over range(0, -n, -1) -/
theorem iter_fall {h : Heap} {r : Addr} {n : Int} {t u v : Tok} (hr : IsRange h r 0 (-n) (-1) t u v) (hn : n < 1000) : ∃ jo : Obj, jo.isFreed = false ∧ (0 < n.toNat → jo = rngO 0 n.toNat (-1)) ∧ (n.toNat = 0 → ∀ (s : Shared) (J : Addr) (A : Around), A.handled = none → s.heap.get? J = some jo → Spent prog w A J s) ∧
    ∀ (s : Shared), s.heap = h → ∀ (A : Around) (E : Value → Shared → Prop) (Q : Value → Shared → Prop), Q (.ref s.heap.objs.size) { s with heap := s.heap.push jo } → wpAny (model prog w) A (pyIter (.ref r)) Q E s := by
  by_cases hs : Builtin.Range.small 0 (-n) (-1) = true
  · refine ⟨rngO 0 n.toNat (-1), rfl, fun _ => rfl, fun h0 s J A hh e => spent_range (x := 0) (left := (n.toNat : Int)) (step := -1) hh e (by lia), fun s es A E Q q => wpAny_pyIter_range (es ▸ hr) hs ?_⟩
    rw [size_fall]
    exact q
  · have hs' : Builtin.Range.small 0 (-n) (-1) = false := by simpa using hs
    refine ⟨{ cls := .type "longrange_iterator", data := .fields #[rawInt 0, rawInt (n.toNat : Int), rawInt (-1)] }, rfl, fun h0 => absurd ?_ hs, fun h0 s J A hh e => spent_long (x := 0) (left := (n.toNat : Int)) (step := -1) hh e (by lia), fun s es A E Q q => wpAny_pyIter_long (es ▸ hr) hs' ?_⟩
    · unfold Builtin.Range.small Builtin.Range.rangeFitsLong
      rw [size_fall]
      simp
      (clear hs' hs hr; lia)
    · rw [size_fall]
      exact q
end
end Mine
end
section
open PySem PySem.W PyProof.Rows PyProof.V PySem.Calls PySem.Spec LCg
set_option compiler.extract_closed false
set_option Elab.async false
set_option maxRecDepth 100000
set_option maxHeartbeats 3000000
namespace Mine
/-- the end of a turn of a loop over items -/
noncomputable def ItEnd (h₀ : Heap) (L : Addr) (s : Shared) (I : Addr) (io : Obj) (fx lt0 : List (Addr × Obj)) (Jn : (Str → Option Value) → List (Addr × Obj) → List (Addr × Obj) → Prop) (f : Flow) (s₃ : Shared) : Prop :=
  f = .next ∧ ∃ h' tk' m' core' lt', s₃ = { s with heap := h', toks := tk' } ∧ Fr h₀ L h' m' ∧ News h₀ L h' ((I, io) :: (core' ++ (lt' ++ fx))) ∧ (∀ q ∈ lt0, q ∈ lt') ∧ (∀ q ∈ core' ++ (lt' ++ fx), q.1 ≠ I) ∧ Jn m' core' lt'
theorem ItEnd.intro {h₀ h' : Heap} {L : Addr} {s : Shared} {I : Addr} {io : Obj} {fx lt0 : List (Addr × Obj)} {Jn : (Str → Option Value) → List (Addr × Obj) → List (Addr × Obj) → Prop} {tk' : Nat} {m' : Str → Option Value} (core' lt' : List (Addr × Obj))
    (F : Fr h₀ L h' m') (N : News h₀ L h' ((I, io) :: (core' ++ (lt' ++ fx)))) (hs : ∀ q ∈ lt0, q ∈ lt') (ho : ∀ q ∈ core' ++ (lt' ++ fx), q.1 ≠ I) (hJ : Jn m' core' lt') : ItEnd h₀ L s I io fx lt0 Jn .next { s with heap := h', toks := tk' } :=
  ⟨rfl, h', tk', m', core', lt', rfl, F, N, hs, ho, hJ⟩
section
variable {prog : Program} {w : World} {h₀ : Heap} {m : Str → Option Value} {A : Around} {E : Value → Shared → Prop} {s : Shared} {fx : List (Addr × Obj)} {env : Env}
theorem for_items {en : Str} {pe : Pos} {body : List Stmt} {iter : Expr} {pos : Pos} {Q : Flow → Shared → Prop} {I x dx : Addr} {es : Array DictEntry} {N0 : Nat} {kvs : List (Int × Value)} {ps : List (Int × Int)}
    (hh : A.handled = none) (hD : DIs (PySem.intKind prog w) es kvs) (hi : IntsI kvs ps) (hx : (x, cnt es N0 dx) ∈ fx)
    (J : Nat → (Str → Option Value) → List (Addr × Obj) → List (Addr × Obj) → List Value → Prop) {i0 : Nat} {core lt : List (Addr × Obj)} {vs : List Value} {io : Obj} (h0 : i0 ≤ kvs.length) (hS : ItS lt x i0 kvs.length N0 io) (hV : TupsJ lt vs (ps.take i0)) (hJ : J i0 m core lt vs)
    (F : Fr h₀ env.locals s.heap m) (N : News h₀ env.locals s.heap ((I, io) :: (core ++ (lt ++ fx)))) (off : ∀ q ∈ core ++ (lt ++ fx), q.1 ≠ I)
    (hE : PassesOwn (model prog w) A env E)
    (hit : ∀ (Q : Value → Shared → Prop) (E : Value → Shared → Prop), Q (.ref I) s → wpAny (model prog w) A (eval iter env) Q E s)
    (step : ∀ i k c t u (a : Addr) core lt vs m₁ h₁ tk₁ io₁, i < kvs.length → ps[i]? = some (k, c) → vs.length = i → J i m₁ core lt vs → TupsJ ((a, tup (.int k t) (.int c u)) :: lt) (vs ++ [.ref a]) (ps.take (i + 1)) → Fr h₀ env.locals h₁ m₁ → News h₀ env.locals h₁ ((I, io₁) :: (core ++ (((a, tup (.int k t) (.int c u)) :: lt) ++ fx))) → (∀ q ∈ (I, io₁) :: (core ++ (lt ++ fx)), @LT.lt Nat _ q.1 a) → (∀ q ∈ core ++ (((a, tup (.int k t) (.int c u)) :: lt) ++ fx), q.1 ≠ I) →
      wpAny (model prog w) A (assign (.Name en pe) env (.ref a)) (fun _ s₂ => wpAny (model prog w) A (execs body env) (ItEnd h₀ env.locals { s with heap := h₁, toks := tk₁ } I io₁ fx ((a, tup (.int k t) (.int c u)) :: lt) (fun m' core' lt' => J (i + 1) m' core' lt' (vs ++ [.ref a]))) E s₂) E { s with heap := h₁, toks := tk₁ })
    (hQ : ∀ h tk m' core' lt' vs', J kvs.length m' core' lt' vs' → TupsJ lt' vs' ps → Fr h₀ env.locals h m' → News h₀ env.locals h (core' ++ (lt' ++ fx)) → Q .next { s with heap := h, toks := tk })
    (hs : ∀ x, foldedSetIterable iter env x = pure x := by intro _; rfl) :
    wpAny (model prog w) A (exec (.For (.Name en pe) iter body [] pos) env) Q E s := by
  refine wpAny_For (hit _ _ (iter_self (io := io) (N _ (.head _)).1 ?hc ?_)) hs
  case hc => rcases hS with ⟨_, _, e⟩ | ⟨_, _, _, _, _, e, _⟩ <;> rw [e]
  have nI := (N _ (.head _)).2
  have hex : ∀ c, c = I → c ≠ env.locals ∧ h₀.get? c = none := fun c e => e ▸ nI
  obtain ⟨Inv, hInv⟩ : ∃ Inv : Nat → Shared → Prop, ∀ k s', Inv k s' ↔ ∀ G : Prop, (∀ h tk i io lt vs core m', s' = { s with heap := h, toks := tk } → k = kvs.length + 1 - i → i ≤ kvs.length → ItS lt x i kvs.length N0 io → TupsJ lt vs (ps.take i) → J i m' core lt vs → Fr h₀ env.locals h m' → h.get? I = some io → News h₀ env.locals h (core ++ (lt ++ fx)) → (∀ q ∈ core ++ (lt ++ fx), q.1 ≠ I) → G) → G := ⟨_, fun _ _ => Iff.rfl⟩
  refine codeAny_forLoop_any Inv ?turn (kvs.length + 1 - i0) ((hInv _ _).mpr fun G g => g s.heap s.toks i0 io lt vs core m rfl rfl h0 hS hV hJ F (N _ (.head _)).1 (fun q hq => N q (.tail _ hq)) off)
  clear hS hV hJ F N off h0
  intro k s' hk
  refine (hInv k s').mp hk _ ?_
  clear hk
  rintro h tk i io lt vs core m' rfl rfl hin hS hV hJ F' zI N' off
  have zx := (N' (x, _) (List.mem_append_right _ (List.mem_append_right _ hx))).1
  have hrl : ∀ q ∈ lt, h.get? q.1 = some q.2 ∧ q.1 ≠ I := fun q hq => ⟨(N' q (List.mem_append_right _ (List.mem_append_left _ hq))).1, off q (List.mem_append_right _ (List.mem_append_left _ hq))⟩
  have hDat : DatAt (PySem.intKind prog w) h x kvs N0 := ⟨_, es, zx, rfl, hD⟩
  by_cases hlt : i < kvs.length
  · have hvl : vs.length = i := by rw [hV.length, List.length_take, ← hi.length]; exact Nat.min_eq_left hin
    obtain ⟨⟨kq, v⟩, hq⟩ : ∃ p, kvs[i]? = some p := ⟨kvs[i], List.getElem?_eq_getElem hlt⟩
    obtain ⟨k0, c0, u0, e0, hp⟩ := hi.at hq
    obtain ⟨rfl, rfl⟩ := Prod.mk.inj e0
    have htk : ps.take (i + 1) = ps.take i ++ [(kq, c0)] := by rw [List.take_succ, hp]; rfl
    have go : ∀ (h' : Heap) (t : Tok) (io' : Obj), h'.get? I = some io' → ItS ((h.objs.size, pairObj (.int kq t) (.int c0 u0)) :: lt) x (i + 1) kvs.length N0 io' → h'.get? h.objs.size = some (pairObj (.int kq t) (.int c0 u0)) → (∀ b o, b ≠ I → h.get? b = some o → h'.get? b = some o) →
        wpAny (model prog w) A (letOwnedTupleGo (.Name en pe) (.ref I) (.ref h.objs.size)) (fun _ s₁' => wpAny (model prog w) A (assign (.Name en pe) env (.ref h.objs.size)) (fun _ s₂ => wpAny (model prog w) A (execs body env) (fun f s₃ => match f with
            | .next | .cont => ∃ m, m < kvs.length + 1 - i ∧ Inv m s₃
            | .brk => Q .next s₃
            | .ret v => Q (.ret v) s₃) (notedBy (model prog w) A env (cameBackBy (model prog w) A env E)) s₂) (notedBy (model prog w) A env (cameBackBy (model prog w) A env E)) s₁') (notedBy (model prog w) A env (cameBackBy (model prog w) A env E)) { s with heap := h', toks := tk } := by
      intro h' t io' eI hS' eT keep
      have lI : @LT.lt Nat _ I h.objs.size := Heap.lt_size zI
      have nT := above_new F'.above F'.ns.lt
      have lows : ∀ q ∈ core ++ (lt ++ fx), @LT.lt Nat _ q.1 h.objs.size := fun q hq => Heap.lt_size (N' q hq).1
      have F2 := fr_up F' keep hex
      have hV' : TupsJ ((h.objs.size, tup (.int kq t) (.int c0 u0)) :: lt) (vs ++ [.ref h.objs.size]) (ps.take (i + 1)) := htk ▸ (hV.sub fun q hq => .tail _ hq).snoc (.head _)
      have old : ∀ q ∈ core ++ (lt ++ fx), h'.get? q.1 = some q.2 ∧ q.1 ≠ env.locals ∧ h₀.get? q.1 = none := fun q hq => ⟨keep _ _ (off q hq) (N' q hq).1, (N' q hq).2⟩
      generalize h.objs.size = T at eT lI nT lows hS' hV' ⊢
      have N2 : News h₀ env.locals h' ((I, io') :: (core ++ (((T, tup (.int kq t) (.int c0 u0)) :: lt) ++ fx))) := news_cons ⟨eI, nI⟩ fun q hq => (List.mem_append.mp hq).elim (fun hq => old q (List.mem_append_left _ hq)) (news_cons ⟨eT, nT⟩ (fun q hq => old q (List.mem_append_right _ hq)) q)
      have off2 : ∀ q ∈ core ++ (((T, tup (.int kq t) (.int c0 u0)) :: lt) ++ fx), q.1 ≠ I := fun q hq => (List.mem_append.mp hq).elim (fun hq => off q (List.mem_append_left _ hq)) fun hq => (List.mem_cons.mp hq).elim (fun e => e ▸ Nat.ne_of_gt lI) fun hq => off q (List.mem_append_right _ hq)
      refine wpAny_pure (wpAny_passesOwn hE (wpAny_mono (step i kq c0 t u0 T core lt vs m' h' tk io' hlt hp hvl hJ hV' F2 N2 (List.forall_mem_cons.mpr ⟨lI, lows⟩) off2) (fun _ s₂ h₂ => wpAny_passesOwn hE (wpAny_mono h₂ (fun f s₃ h₃ => ?_) fun _ _ e => e)) fun _ _ e => e))
      obtain ⟨rfl, h3, tk3, m3, core3, lt3, rfl, F3, N3, hs3, off3, hJ3⟩ := h₃
      exact ⟨kvs.length + 1 - (i + 1), left_lt hlt, (hInv _ _).mpr fun G g => g h3 tk3 (i + 1) io' lt3 (vs ++ [.ref T]) core3 m3 rfl rfl hlt (hS'.sub hs3) (hV'.sub hs3) hJ3 F3 (N3 _ (.head _)).1 (fun q hq => N3 q (.tail _ hq)) off3⟩
    rcases hS with ⟨ok, ov, rfl⟩ | ⟨a, oa, f, ok, ov, rfl, hal, hat⟩
    · refine it_next0 (knd := PySem.intKind prog w) (s := { s with heap := h, toks := tk }) zI hDat hq fun key h' hk e1 e2 e3 e4 => ?_
      obtain ⟨t, rfl⟩ := PySem.Value.isInt_shape hk
      exact go h' t _ e1 (.inr ⟨h.objs.size, _, _, _, _, rfl, .head _, rfl, fun _ _ e => by cases e⟩) e2 e4
    · refine it_next1 (knd := PySem.intKind prog w) (s := { s with heap := h, toks := tk }) zI (hrl _ hal).1 (hrl _ hal).2 hDat hq fun key h' hk e1 e2 e3 e4 => ?_
      obtain ⟨t, rfl⟩ := PySem.Value.isInt_shape hk
      exact go h' t _ e1 (.inr ⟨_, _, _, _, _, rfl, .tail _ hal, hat⟩) e2 e4
  · have hin' : i = kvs.length := Nat.le_antisymm hin (Nat.not_lt.mp hlt)
    clear hlt hin
    subst hin'
    have fin : ∀ h' : Heap, Heap.ExtBut I h h' → wpAny (model prog w) A (execs [] env) (fun f s₃ => Q f s₃) (notedBy (model prog w) A env (cameBackBy (model prog w) A env E)) { s with heap := h', toks := tk } := fun h' he => wpAny_execs_nil (hQ h' tk m' core lt vs hJ (by rw [hi.length, List.take_length] at hV; exact hV) (fr_up F' he hex) fun q hq => ⟨he _ _ (off q hq) (N' q hq).1, (N' q hq).2⟩)
    have none_ := List.getElem?_eq_none (Nat.le_refl kvs.length)
    rcases hS with ⟨ok, ov, rfl⟩ | ⟨a, oa, f, ok, ov, rfl, hal, hat⟩
    · exact it_end (s := { s with heap := h, toks := tk }) hh zI hDat none_ fun h' he => fin h' he
    · exact it_end (s := { s with heap := h, toks := tk }) hh zI hDat none_ fun h' he => fin h' he
end
end Mine
end
section
open PySem PySem.W PyProof.Rows PyProof.V PySem.Calls PySem.Spec LCg
set_option Elab.async false
namespace Mine
theorem callWith_rev {M : Model} {A : Around} {E : Value → Shared → Prop} {s : Shared} {env : Env} {pos p p2 : Pos} {id : String} {first : List Value} {kk : Nat} {Q : Value → Shared → Prop}
   (h : wpAny M A (call (.builtin id) first [(Str.ofString "reverse", .bool true)]) Q E s) :
   wpAny M A (callWith pos (.builtin id) first (backTo pos (starEach [] env)) (backToKw pos (keywordEach [⟨some (Str.ofString "reverse"), .Constant (.bool true) kk p, p2⟩] env))) Q E s := by
  refine callWith_builtin_kwB rfl rfl ?_
  unfold evalArgs
  show wpAny M A (spliced [] >>= _) _ E s
  refine wpAny_bind (wpAny_pure (wpAny_bind (wpAny_pure (wpAny_holding ?_))))
  have hall : (backToKw pos (keywordEach [⟨some (Str.ofString "reverse"), .Constant (.bool true) kk p, p2⟩] env)).all (·.1.isSome) = true := rfl
  rw [if_pos hall]
  refine wpAny_bind (kws_cons (wpAny_Constant_bool (kws_nil ?_)))
  refine wpAny_bind (wpAny_pure (wpAny_pure ?_))
  show wpAny M A (call _ (first ++ []) _) Q E s
  rw [List.append_nil]
  exact h
end Mine
end
section
open PySem PySem.W PyProof.Rows PyProof.V PySem.Calls PySem.Spec LCg
set_option compiler.extract_closed false
set_option Elab.async false
set_option maxRecDepth 100000
set_option maxHeartbeats 3000000
namespace Mine
section
variable {prog : Program} {w : World} {A : Around} {E : Value → Shared → Prop} {s : Shared}
theorem assign3 {env : Env} {a b c : Str} {pa pb pc tp : Pos} {kk : Nat} {T : Addr} {x y z : Value} {m : Str → Option Value} {Q : Unit → Shared → Prop} (hh : A.handled = none) (ht : s.heap.IsTuple T #[x, y, z])
    (ha : env.kindOf a = some .local) (hb : env.kindOf b = some .local) (hc : env.kindOf c = some .local) (hp : (env.scope.kind == .class || (env.scope.kind == .module && env.locals != env.globals)) = false) (hn : s.heap.Ns env.locals m)
    (h : ∀ (h' : Heap) (tk : Nat), h'.Ns env.locals (fun u => if u = c then some z else if u = b then some y else if u = a then some x else m u) → (∀ c o, c ≠ env.locals → s.heap.get? c = some o → h'.get? c = some o) → Q () { s with heap := h', toks := tk }) :
    wpAny (model prog w) A (assign (.Tuple [.Name a pa, .Name b pb, .Name c pc] kk tp) env (.ref T)) Q E s := by
  refine wpAny_assign_Tuple hh ht rfl rfl fun h₁ he₁ => ?_
  have hL : env.locals ≠ s.heap.objs.size := Nat.ne_of_lt hn.lt
  have hn₁ : h₁.Ns env.locals m := hn.at' fun o e => he₁ _ o hL e
  have up₁ : ∀ c o, s.heap.get? c = some o → h₁.get? c = some o := fun c o e => he₁ c o (Nat.ne_of_lt (Heap.lt_size e)) e
  show wpAny _ _ (assignInOrder [assign (.Name a pa) env, assign (.Name b pb) env, assign (.Name c pc) env] [x, y, z]) _ _ _
  refine assignInOrder_cons ?_
  refine wpAny_assign_Name (wpAny_storeName_local ha hn₁ (fun h₂ hn₂ hs₂ => ?_) hp)
  refine assignInOrder_cons ?_
  refine wpAny_assign_Name (wpAny_storeName_local hb hn₂ (fun h₃ hn₃ hs₃ => ?_) hp)
  refine assignInOrder_cons ?_
  refine wpAny_assign_Name (wpAny_storeName_local hc hn₃ (fun h₄ hn₄ hs₄ => ?_) hp)
  refine assignInOrder_nil ?_
  exact h h₄ _ hn₄ fun c o hc e => hs₄.extBut c o hc (hs₃.extBut c o hc (hs₂.extBut c o hc (up₁ c o e)))
end
section
variable {prog : Program} {w : World} {A : Around} {E : Value → Shared → Prop} {s : Shared} {h₀ : Heap} {L : Addr} {m : Str → Option Value} {led : List (Addr × Obj)} {env : Env}
theorem trips_block {iter : Expr} {na nb nc : Str} {p1 p2 p3 p4 p5 : Pos} {kk : Nat} {scope : Scope} {cl : List (Str × Addr)} {pos : Pos} {D It : Addr} {Ls : List Trip} {c : Nat} {s₂ : Shared} {RR : Value → Addr → Result → Shared → Prop}
    (hh : A.handled = none) (hsz : Ls.length < 64) (TL : ∀ t ∈ Ls, ∃ (a : Addr) (u1 u2 : Tok), t.1 = .ref a ∧ (a, tup3 (.int t.2.1 u1) (.int t.2.2.1 u2) t.2.2.2) ∈ led)
    (hcell : ∀ y ∈ scope.names, y.2 ≠ .cell) (hkind : scope.kind = .function)
    (ha : scope.names.lookup na = some .local) (hb : scope.names.lookup nb = some .local) (hc : scope.names.lookup nc = some .local) (hdc : (nc == ("__debug__" : Str)) = false)
    (F : Fr h₀ L s₂.heap m) (N : News h₀ L s₂.heap ((D, listOf (Ls.map (·.1)).toArray c) :: led)) (lowI : ∀ q ∈ (D, listOf (Ls.map (·.1)).toArray c) :: led, @LT.lt Nat _ q.1 It) (hit0 : s₂.heap.IsListIter It D 0) (lLI : @LT.lt Nat _ L It) (fI : h₀.get? It = none)
    (hRR : ∀ S C h tk m', Fr h₀ L h m → News h₀ L h ((S, lst (Ls.map (·.2.2.2))) :: (D, listOf (Ls.map (·.1)).toArray c) :: led) → (∀ p ∈ (D, listOf (Ls.map (·.1)).toArray c) :: led, @LT.lt Nat _ p.1 S) → h.Ns C m' → h₀.get? C = none → C ≠ L → @LT.lt Nat _ S C → RR (.ref S) C (.ok .next) { s₂ with heap := h, toks := tk }) :
    wpAny (model prog w) A (newList []) (fun acc s₃ => wpAny (model prog w) A (newFunctionEnv scope env.globals cl [] env.qual none .none (some env)) (fun cenv s₄ =>
      codeAny (model prog w) A (.compStart (.ListComp (.Name nc p1) [⟨.Tuple [.Name na p2, .Name nb p3, .Name nc p4] kk p5, iter, [], 0⟩] scope pos) 0 (.ref It) acc { cenv with scope := relabel scope env }) (RR acc cenv.locals) s₄) E s₃) E s₂ := by
  refine comp_begin hcell hkind F fun S C h₁ tk₀ lLS lSC fresh old hns₁ hacc => ?_
  have lIS : @LT.lt Nat _ It S := by
    obtain ⟨o, e, _⟩ := hit0
    exact (old _ _ e).1
  have lIC := Nat.lt_trans lIS lSC
  have fS := fresh S lLS
  have fC := fresh C (Nat.lt_trans lLS lSC)
  have hex : ∀ c, (c = It ∨ c = C ∨ c = S) → c ≠ L ∧ h₀.get? c = none := fun c e => e.elim (fun q => q ▸ ⟨Nat.ne_of_gt lLI, fI⟩) fun e => e.elim (fun q => q ▸ fC) fun q => q ▸ fS
  have offI : ∀ q ∈ (D, listOf (Ls.map (·.1)).toArray c) :: led, ¬ (q.1 = It ∨ q.1 = C ∨ q.1 = S) := fun q hq e => e.elim (Nat.ne_of_lt (lowI q hq)) fun e => e.elim (Nat.ne_of_lt (Nat.lt_trans (lowI q hq) lIC)) (Nat.ne_of_lt (Nat.lt_trans (lowI q hq) lIS))
  have W := Walks.list (prog := prog) (w := w) hh It D (Nat.ne_of_lt (lowI (D, listOf (Ls.map (·.1)).toArray c) (.head _))) (Ls.map (·.1)).toArray
  obtain ⟨Inv, hInv⟩ : ∃ Inv : Nat → Shared → Prop, ∀ k s', Inv k s' ↔ ∀ G : Prop, (∀ h tk i m', s' = { s₂ with heap := h, toks := tk } → k = Ls.length + 1 - i → i ≤ Ls.length → h.IsListIter It D i → Fr h₀ L h m → h.Ns C m' → News h₀ L h ((S, lst ((Ls.take i).map (·.2.2.2))) :: (D, listOf (Ls.map (·.1)).toArray c) :: led) → G) → G := ⟨_, fun _ _ => Iff.rfl⟩
  have loop : codeAny (model prog w) A (.compLoop (.ListComp (.Name nc p1) [⟨.Tuple [.Name na p2, .Name nb p3, .Name nc p4] kk p5, iter, [], 0⟩] scope pos) 0 (.ref It) (.ref S) (compEnvC scope cl C env)) (RR (.ref S) C) { s₂ with heap := h₁, toks := tk₀ } := by
    refine kcp_loop Inv ?turn (Ls.length + 1) ((hInv _ _).mpr fun G g => g h₁ _ 0 _ rfl rfl (Nat.zero_le _) (hit0.at fun o e => (old _ o e).2) (F.keeps fun b o e => (old b o e).2) hns₁ (news_cons ⟨hacc, fS⟩ fun p hp => ⟨(old _ _ (N p hp).1).2, (N p hp).2⟩))
    intro k s' hk
    refine (hInv k s').mp hk _ ?_
    clear hk
    rintro h tk i m' rfl rfl hi hit F' hn' N'
    have zS := N' _ (.head _)
    have NL : News h₀ L h ((D, listOf (Ls.map (·.1)).toArray c) :: led) := fun q hq => N' q (.tail _ hq)
    clear N'
    have hlD : h.IsList D (Ls.map (·.1)).toArray := News.isList NL (.head _)
    by_cases hlt : i < Ls.length
    · refine W.item i _ _ _ (by simpa using hlt) ⟨hit, hlD⟩ fun v h2 tk2 hP st2 hk2 => ?_
      obtain ⟨t, ht⟩ : ∃ t, Ls[i]? = some t := ⟨Ls[i], List.getElem?_eq_getElem hlt⟩
      have hv : v = t.1 := by
        simp only [List.getElem?_toArray, List.getElem?_map, ht, Option.map_some, Option.some.injEq] at hP
        exact hP.symm
      obtain ⟨a, u1, u2, ea, hma⟩ := TL t (List.mem_of_getElem? ht)
      refine letGo_listiter st2.1 ?_
      rw [hv, ea]
      have up2 : ∀ b o, b ≠ It → h.get? b = some o → h2.get? b = some o := fun b o hb e => hk2 b o (by simpa using hb) e
      refine assign3 (env := compEnvC scope cl C env) hh ⟨_, up2 _ _ (Nat.ne_of_lt (lowI _ (.tail _ hma))) (NL _ (.tail _ hma)).1, rfl, _, rfl⟩ (lookup_relabel_local ha) (lookup_relabel_local hb) (lookup_relabel_local hc) (by simp [compEnvC, relabel, hkind]) (hn'.at' fun o e => up2 _ o (Nat.ne_of_gt lIC) e) fun h4 tk4 hn4 hs4 => ?_
      rw [eval_Name _ _ _ hdc]
      refine wpAny_bind (wpAny_standAt (wpAny_loadName_local (v := t.2.2.2) (by simp [compEnvC, relabel, hkind]) (lookup_relabel_local hc) hn4 (by simp) ?_))
      refine append_at (hsz := by show (List.map _ _).toArray.size ≤ sizeLine; rw [List.size_toArray, List.length_map, List.length_take]; exact Nat.le_trans (Nat.min_le_left _ _) (line_of hlt hsz)) (hs4 _ _ (Nat.ne_of_lt lSC) (up2 _ _ (Nat.ne_of_gt lIS) zS.1)) fun h5 hs5 hD5 => ?_
      have up5 : ∀ c o, ¬ (c = It ∨ c = C ∨ c = S) → h.get? c = some o → h5.get? c = some o := fun c o hc e => hs5.extBut c o (fun q => hc (.inr (.inr q))) (hs4 c o (fun q => hc (.inr (.inl q))) (up2 c o (fun q => hc (.inl q)) e))
      refine ⟨Ls.length + 1 - (i + 1), left_lt hlt, (hInv _ _).mpr fun G g => g h5 _ (i + 1) _ rfl rfl hlt (st2.1.at fun o e => hs5.extBut _ o (Nat.ne_of_lt lIS) (hs4 _ o (Nat.ne_of_lt lIC) e)) (fr_up F' up5 hex) (hn4.sameBut hs5 (Nat.ne_of_gt lSC)) (news_cons ⟨hD5.trans ?_, zS.2⟩ fun q hq => ⟨up5 _ _ (offI q hq) (NL q hq).1, (NL q hq).2⟩)⟩
      rw [List.take_succ, ht, List.map_append]
      exact congrArg some (lst_snoc _ _)
    · have hin := Nat.le_antisymm hi (Nat.not_lt.mp hlt)
      clear hlt hi
      subst hin
      rw [List.take_length] at zS
      refine W.done _ _ _ (by simpa using ⟨hit, hlD⟩) fun h2 tk2 hk2 => ?_
      have up2 : ∀ b o, ¬ (b = It ∨ b = C ∨ b = S) → h.get? b = some o → h2.get? b = some o := fun b o hb e => hk2 b o (by simpa using fun q => hb (.inl q)) e
      exact hRR S C h2 tk2 m' (fr_up F' up2 hex) (news_cons ⟨hk2 _ _ (by simpa using Nat.ne_of_gt lIS) zS.1, zS.2⟩ fun q hq => ⟨up2 _ _ (offI q hq) (NL q hq).1, (NL q hq).2⟩) (fun q hq => Nat.lt_trans (lowI q hq) lIS) (hn'.at' fun o e => hk2 _ o (by simpa using Nat.ne_of_gt lIC) e) fC.2 fC.1 lSC
  exact codeAny_compStart_list loop (wpAny_pyIter_listiter (hit0.at fun o e => (old _ o e).2) loop)
/-- [c for a, b, c in triples] -/
theorem trips_comp {iter : Expr} {na nb nc : Str} {p1 p2 p3 p4 p5 : Pos} {kk : Nat} {scope : Scope} {cl : List (Str × Addr)} {pos : Pos} {Q : Value → Shared → Prop} {D : Addr} {Ls : List Trip} {c : Nat}
    (_F : ∃ h : Heap, Fr h₀ L h m) (hh : A.handled = none) (hsz : Ls.length < 64) (TL : ∀ t ∈ Ls, ∃ (a : Addr) (u1 u2 : Tok), t.1 = .ref a ∧ (a, tup3 (.int t.2.1 u1) (.int t.2.2.1 u2) t.2.2.2) ∈ led)
    (hclos : closureFor scope env = pure cl) (hcell : ∀ y ∈ scope.names, y.2 ≠ .cell) (hkind : scope.kind = .function) (hnames : ∀ z ∈ scope.names, z.2 = .local → scope.names.lookup z.1 = some .local)
    (ha : scope.names.lookup na = some .local) (hb : scope.names.lookup nb = some .local) (hc : scope.names.lookup nc = some .local) (hdc : (nc == ("__debug__" : Str)) = false)
    (h : wpAny (model prog w) A (eval iter env) (fun xv s₁ => Halt (xv = .ref D ∧ Fr h₀ L s₁.heap m ∧ News h₀ L s₁.heap ((D, listOf (Ls.map (·.1)).toArray c) :: led) ∧
      ∀ S h tk, Fr h₀ L h m → News h₀ L h ((S, lst (Ls.map (·.2.2.2))) :: (D, listOf (Ls.map (·.1)).toArray c) :: led) → (∀ p ∈ (D, listOf (Ls.map (·.1)).toArray c) :: led, @LT.lt Nat _ p.1 S) → Q (.ref S) { s₁ with heap := h, toks := tk })) E s)
    (hs : ∀ x, foldedSetIterable iter env x = pure x := by intro _; rfl) :
    wpAny (model prog w) A (eval (.ListComp (.Name nc p1) [⟨.Tuple [.Name na p2, .Name nb p3, .Name nc p4] kk p5, iter, [], 0⟩] scope pos) env) Q E s := by
  rw [eval_ListComp]
  refine wpAny_comprehension_free (use := none) rfl hs hclos hkind hnames (wpAny_mono h (fun xv s₁ h₁ => ?_) fun _ _ e => e)
  obtain ⟨rfl, F, N, fin⟩ := h₁
  have hl : s₁.heap.IsList D (Ls.map (·.1)).toArray := News.isList N (.head _)
  refine wpAny_pyIter_list hl ?_
  refine trips_block (Ls := Ls) hh hsz TL hcell hkind ha hb hc hdc (F.push _) (fun q hq => ⟨Heap.get?_push_of_some _ (N q hq).1, (N q hq).2⟩) (fun q hq => Heap.lt_size (N q hq).1) ⟨_, Heap.get?_push_size _ rfl, rfl, rfl⟩ F.ns.lt (Heap.get?_none_of_le (Nat.le_trans F.above (Nat.le_of_lt F.ns.lt))) ?_
  intro S C h2 tk2 m' F' N' lS hn' fC hCL lSC
  refine ⟨m', hn', fun h'' hs'' => fin S h'' tk2 (F'.change hs'' hCL fC) (fun q hq => ?_) lS⟩
  refine ⟨hs''.extBut _ _ ?_ (N' q hq).1, (N' q hq).2⟩
  rcases List.mem_cons.mp hq with rfl | hq
  · exact Nat.ne_of_lt lSC
  · exact Nat.ne_of_lt (Nat.lt_trans (lS q hq) lSC)
end
end Mine
end
section
open PySem PySem.W PyProof.Rows PyProof.V PySem.Calls PySem.Spec Builtin Builtin.ObjectAttr LCg
set_option compiler.extract_closed false
set_option Elab.async false
set_option maxRecDepth 100000
set_option maxHeartbeats 3000000
namespace Mine
theorem fillZ9 : PySem.Challenge.rw_dn0005_11 = PySem.Challenge.rw_dn0005_11 ∧ Mine.hd11.heap_39 = Mine.hd11.heap_39 := by
  k_fill
  exact ⟨rfl, rfl⟩








local macro_rules | `(tactic| walk_at "eval ListComp") => `(tactic| (refine halt ?_))

local macro_rules | `(tactic| walk_at "call builtin:_heapq.heapify") => `(tactic| (refine halt ?_))
local macro_rules | `(tactic| walk_at "subscriptTail") => `(tactic| (refine halt ?_))
local macro_rules | `(tactic| walk_at "exec For") => `(tactic| (refine halt ?_))


local macro_rules | `(tactic| walk_at "eval Call") => `(tactic| ((with_reducible show wpAny _ _ (PySem.eval (PySem.Expr.Call (PySem.Expr.Name (Str.ofString "key") _) _ _ _) _) _ _ _); refine halt ?_))
local macro_rules | `(tactic| walk_at "call builtin:_heapq.heapreplace") => `(tactic| (refine halt ?_))


noncomputable abbrev dueP (ps : List (Int × Int)) : List (Int × Int) := (dueI (cnt_ ps) ps.length).map fun i => ps.getD i (0, 0)
/-- the names of nlargest after its list is made -/
noncomputable abbrev mP (n : Int) (tn : Tok) (D I : Addr) (mX : Str → Option Value) : Str → Option Value := fun z => if z = Str.ofString "result" then some (.ref D) else if z = Str.ofString "n" then some (.int n tn) else if z = Str.ofString "it" then some (.ref I) else mX z
noncomputable abbrev mL (n : Int) (tn : Tok) (D I : Addr) (mX : Str → Option Value) (top ord : Value) (xe xk xo x2 : Option Value) : Str → Option Value := fun z => if z = Str.ofString "elem" then xe else if z = Str.ofString "k" then xk else if z = Str.ofString "_order" then xo else if z = Str.ofString "_elem" then x2 else if z = Str.ofString "top" then some top else if z = Str.ofString "order" then some ord else
  if z = Str.ofString "_heapreplace" then some (.builtin "_heapq.heapreplace") else mP n tn D I mX z
theorem mL_keep {n : Int} {tn : Tok} {D I : Addr} {mX : Str → Option Value} {top ord : Value} {xe xk xo x2 A B : Option Value} (z : Str) : (if z = Str.ofString "k" then A else if z = Str.ofString "elem" then B else mL n tn D I mX top ord xe xk xo x2 z) = mL n tn D I mX top ord B A xo x2 z := by
  by_cases h1 : z = Str.ofString "elem"
  · subst h1; rfl
  by_cases h2 : z = Str.ofString "k"
  · subst h2; rfl
  simp only [mL, if_neg h1, if_neg h2]
theorem mL_put {n : Int} {tn : Tok} {D I : Addr} {mX : Str → Option Value} {top ord vt vo : Value} {xe xk xo x2 A B C E : Option Value} (z : Str) : (if z = Str.ofString "order" then some vo else if z = Str.ofString "_elem" then E else if z = Str.ofString "_order" then C else if z = Str.ofString "top" then some vt else if z = Str.ofString "k" then A else if z = Str.ofString "elem" then B else mL n tn D I mX top ord xe xk xo x2 z) = mL n tn D I mX vt vo B A C E z := by
  by_cases h1 : z = Str.ofString "elem"
  · subst h1; rfl
  by_cases h2 : z = Str.ofString "k"
  · subst h2; rfl
  by_cases h3 : z = Str.ofString "_order"
  · subst h3; rfl
  by_cases h4 : z = Str.ofString "_elem"
  · subst h4; rfl
  by_cases h5 : z = Str.ofString "top"
  · subst h5; rfl
  by_cases h6 : z = Str.ofString "order"
  · subst h6; rfl
  simp only [mL, if_neg h1, if_neg h2, if_neg h3, if_neg h4, if_neg h5, if_neg h6]
theorem mL_new {n : Int} {tn : Tok} {D I : Addr} {mX : Str → Option Value} {vt vo : Value} (z : Str) : (if z = Str.ofString "_heapreplace" then some (.builtin "_heapq.heapreplace") else if z = Str.ofString "order" then some vo else if z = Str.ofString "top" then some vt else mP n tn D I mX z) = mL n tn D I mX vt vo (mX (Str.ofString "elem")) (mX (Str.ofString "k")) (mX (Str.ofString "_order")) (mX (Str.ofString "_elem")) z := by
  by_cases h1 : z = Str.ofString "elem"
  · subst h1; rfl
  by_cases h2 : z = Str.ofString "k"
  · subst h2; rfl
  by_cases h3 : z = Str.ofString "_order"
  · subst h3; rfl
  by_cases h4 : z = Str.ofString "_elem"
  · subst h4; rfl
  by_cases h5 : z = Str.ofString "top"
  · subst h5; rfl
  by_cases h6 : z = Str.ofString "order"
  · subst h6; rfl
  simp only [mL, if_neg h1, if_neg h2, if_neg h3, if_neg h4, if_neg h5, if_neg h6]
theorem HeapInv.congr {c : Nat → Int} {ev ev' : Nat → Value} {n m : Nat} {o : Int} {T : Array Trip} (h : HeapInv c ev n m o T) (he : ∀ j, j < m → ev j = ev' j) : HeapInv c ev' n m o T := by
  obtain ⟨L, p, pw, e, ho⟩ := h
  refine ⟨L, p, pw, e.trans (List.map_congr_left fun i hi => ?_), ho⟩
  rw [he i (dueI_mem.mp (List.mem_of_mem_take hi))]
/-- the triples stand in a ledger -/
noncomputable def TripsL (led : List (Addr × Obj)) (T : Array Trip) : Prop := ∀ t ∈ T.toList, ∃ (a : Addr) (u1 u2 : Tok), t.1 = .ref a ∧ (a, tup3 (.int t.2.1 u1) (.int t.2.2.1 u2) t.2.2.2) ∈ led
theorem TripsL.trips {h₀ h : Heap} {L : Addr} {led : List (Addr × Obj)} {T : Array Trip} (H : TripsL led T) (N : News h₀ L h led) : Trips h T := fun t ht => by
  obtain ⟨a, u1, u2, e, hm⟩ := H t ht
  exact ⟨a, _, 0, u1, u2, e, (N _ hm).1, rfl, rfl⟩
theorem TripsL.perm {led : List (Addr × Obj)} {T T' : Array Trip} (H : TripsL led T) (p : T'.toList.Perm T.toList) : TripsL led T' := fun t ht => H t (p.mem_iff.mp ht)
theorem TripsL.sub {led led' : List (Addr × Obj)} {T : Array Trip} (H : TripsL led T) (hs : ∀ p ∈ led, p ∈ led') : TripsL led' T := fun t ht => by
  obtain ⟨a, u1, u2, e, hm⟩ := H t ht
  exact ⟨a, u1, u2, e, hs _ hm⟩
theorem Made.trips {lt : List (Addr × Obj)} {ps : List (Int × Int)} {vs ys : List Value} {n : Nat} (h : Made lt ps vs ys n) : TripsL lt (startT (cnt_ ps) (fun i => ys.getD i .none) (fun i => vs.getD i .none) n) := fun t ht => by
  unfold startT at ht
  rw [List.toList_toArray] at ht
  obtain ⟨j, hj, rfl⟩ := List.mem_map.mp ht
  obtain ⟨a, u1, u2, e, hm⟩ := h.2 j (List.mem_range.mp hj)
  exact ⟨a, u1, u2, by dsimp only; rw [List.getD_eq_getElem?_getD, e]; rfl, hm⟩
theorem startT_map {c : Nat → Int} {ev : Nat → Value} {ys : List Value} : (startT c (fun i => ys.getD i .none) ev ys.length).map (·.1) = ys.toArray := by
  unfold startT
  rw [List.map_toArray, List.map_map]
  congr 1
  exact range_map ys .none
theorem TupsJ.getD {l : List (Addr × Obj)} {vs : List Value} {cs : List (Int × Int)} (h : TupsJ l vs cs) {i : Nat} (hi : i < cs.length) : ∃ (a : Addr) (t u : Tok), vs.getD i .none = .ref a ∧ (a, tup (.int (cs.getD i (0, 0)).1 t) (.int (cs.getD i (0, 0)).2 u)) ∈ l := by
  have hl : i < vs.length := by rw [h.length]; exact hi
  obtain ⟨a, k, c, t, u, e, e2, hm⟩ := h.at (List.getElem?_eq_getElem hl)
  refine ⟨a, t, u, by rw [List.getD_eq_getElem?_getD, List.getElem?_eq_getElem hl]; exact e, ?_⟩
  rw [List.getD_eq_getElem?_getD, e2]
  exact hm
theorem TupsJ.pick {l : List (Addr × Obj)} {vs : List Value} {cs : List (Int × Int)} (h : TupsJ l vs cs) : ∀ {is : List Nat}, (∀ i ∈ is, i < cs.length) → TupsJ l (is.map fun i => vs.getD i .none) (is.map fun i => cs.getD i (0, 0))
  | [], _ => .nil
  | i :: r, hr => by
    obtain ⟨a, t, u, e, hm⟩ := h.getD (hr i (.head _))
    rw [List.map_cons, List.map_cons, e]
    exact .cons hm (h.pick fun j hj => hr j (.tail _ hj))
theorem sorted_same {T : Array Trip} {c : Nat → Int} {ev : Nat → Value} {n m : Nat} {o : Int} {Ls : List Trip} (h : HeapInv c ev n m o T) (p : T.toList.Perm Ls) (pw : Ls.Pairwise (fun x y => tlt y x = true)) : Ls.map (·.2.2.2) = ((dueI c m).take n).map ev := by
  obtain ⟨L, p2, pw2, e, _⟩ := h
  have : Ls = L := List.Perm.eq_of_pairwise (fun x y _ _ h1 h2 => by unfold tlt at h1 h2; rw [decide_eq_true_eq] at h1 h2; lia) pw pw2 (p.symm.trans p2)
  subst this
  have e2 := congrArg (List.map Prod.snd) e
  rw [List.map_map, List.map_map] at e2
  exact e2
theorem heap_refs {T : Array Trip} {lt : List (Addr × Obj)} {ps : List (Int × Int)} {vs : List Value} {n : Nat} {o : Int} (h : HeapInv (cnt_ ps) (fun j => vs.getD j .none) n ps.length o T) (hV : TupsJ lt vs ps) : ∀ t ∈ T.toList, ∃ a, t.2.2.2 = .ref a := fun t ht => by
  obtain ⟨L, p2, _, e, _⟩ := h
  have hm : (t.2.1, t.2.2.2) ∈ L.map fun t : Trip => (t.2.1, t.2.2.2) := List.mem_map.mpr ⟨t, p2.mem_iff.mp ht, rfl⟩
  rw [e] at hm
  obtain ⟨i, hi, e3⟩ := List.mem_map.mp hm
  obtain ⟨a, _, _, ea, _⟩ := hV.getD (dueI_mem.mp (List.mem_of_mem_take hi))
  exact ⟨a, (Prod.mk.inj e3).2.symm.trans ea⟩
theorem put_trips {lt : List (Addr × Obj)} {T T' : Array Trip} {v : Addr} {k o : Int} {e : Value} (p : T'.toList.Perm ((.ref v, k, o, e) :: T.toList.tail)) (h : TripsL lt T) (u1 u2 : Tok) : TripsL ((v, tup3 (.int k u1) (.int o u2) e) :: lt) T' := fun t ht => by
  rcases List.mem_cons.mp (p.mem_iff.mp ht) with rfl | ht
  · exact ⟨v, u1, u2, rfl, .head _⟩
  · exact h.sub (fun q hq => .tail _ hq) t (List.mem_of_mem_tail ht)
theorem put_dist {T T' : Array Trip} {x : Trip} (p : T'.toList.Perm (x :: T.toList.tail)) (h : Dist T) (hx : ∀ t ∈ T.toList, t.2.2.1 ≠ x.2.2.1) : Dist T' := by
  unfold Dist at *
  rw [(p.map _).nodup_iff, List.map_cons, List.nodup_cons]
  refine ⟨fun hm => ?_, ?_⟩
  · obtain ⟨t, ht, e⟩ := List.mem_map.mp hm
    exact hx t (List.mem_of_mem_tail ht) e
  · rw [List.map_tail]
    exact h.sublist (List.tail_sublist _)
/-- the state of the heap after i items -/
noncomputable def HeapJ (ps : List (Int × Int)) (D I : Addr) (n : Nat) (tn : Tok) (mX : Str → Option Value) (i : Nat) (m₁ : Str → Option Value) (core lt : List (Addr × Obj)) (vs : List Value) : Prop :=
  ∀ G : Prop, (∀ T c ord u1 u2 xe xk xo x2, core = [(D, listOf (T.map (·.1)) c)] → HeapInv (cnt_ ps) (fun j => vs.getD j .none) n i ord T → Heaped 0 T → Dist T → TripsL lt T → m₁ = mL n tn D I mX (.int (T.getD 0 t0).2.1 u1) (.int ord u2) xe xk xo x2 → n ≤ i → (∀ q ∈ lt, @LT.lt Nat _ D q.1) → G) → G
section
variable {prog : Program} {w : World} {A : Around} {E : Value → Shared → Prop} {s : Shared} {h₀ : Heap} {L : Addr} {m : Str → Option Value} {led : List (Addr × Obj)} {D : Addr} {T : Array Trip} {c : Nat}
theorem heap_fr {h h' : Heap} {T' : Array Trip} (F : Fr h₀ L h m) (N : News h₀ L h ((D, listOf (T.map (·.1)) c) :: led)) (H : HAt h h' D c T') (off : ∀ q ∈ led, q.1 ≠ D) : Fr h₀ L h' m ∧ News h₀ L h' ((D, listOf (T'.map (·.1)) c) :: led) := by
  have nD := (N _ (.head _)).2
  refine ⟨⟨F.ns.at' fun o e => (H.same.2 _ nD.1.symm).trans e, fun b o e => (H.same.2 _ (fun q => by rw [q, nD.2] at e; cases e)).trans (F.keep b o e), F.above⟩, fun q hq => ?_⟩
  rcases List.mem_cons.mp hq with rfl | hq
  · exact ⟨H.lst, nD⟩
  · have := N q (.tail _ hq)
    exact ⟨(H.same.2 _ (off q hq)).trans this.1, this.2⟩
theorem heapify_led {Q : Value → Shared → Prop} (hu : A.in1.units < cLine) (F : Fr h₀ L s.heap m) (N : News h₀ L s.heap ((D, listOf (T.map (·.1)) c) :: led)) (off : ∀ q ∈ led, q.1 ≠ D) (hT : TripsL led T) (hD : Dist T) (hz : T.size ≤ 1000)
   (h : ∀ h' T', T'.toList.Perm T.toList → Heaped 0 T' → Fr h₀ L h' m → News h₀ L h' ((D, listOf (T'.map (·.1)) c) :: led) → Q .none { s with heap := h' }) : wpAny (model prog w) A (call (.builtin "_heapq.heapify") [.ref D]) Q E s :=
  call_heapify hu (N _ (.head _)).1 (hT.trips fun q hq => N q (.tail _ hq)) hD hz fun h' T' H p hh => by
    obtain ⟨F', N'⟩ := heap_fr F N H off
    exact h h' T' p hh F' N'
theorem heapreplace_led {v : Addr} {k o : Int} {e : Value} {u1 u2 : Tok} {Q : Value → Shared → Prop} (hu : A.in1.units < cLine) (F : Fr h₀ L s.heap m) (N : News h₀ L s.heap ((D, listOf (T.map (·.1)) c) :: led)) (off : ∀ q ∈ led, q.1 ≠ D) (hT : TripsL led T) (hv : (v, tup3 (.int k u1) (.int o u2) e) ∈ led) (hD : Dist T) (ho : ∀ t ∈ T.toList, t.2.2.1 ≠ o) (hz : T.size ≤ 1000) (hp : 0 < T.size) (hh : Heaped 0 T)
   (h : ∀ h' T', T'.toList.Perm ((.ref v, k, o, e) :: T.toList.tail) → Heaped 0 T' → Fr h₀ L h' m → News h₀ L h' ((D, listOf (T'.map (·.1)) c) :: led) → Q (T.getD 0 t0).1 { s with heap := h' }) : wpAny (model prog w) A (call (.builtin "_heapq.heapreplace") [.ref D, .ref v]) Q E s :=
  call_heapreplace hu (N _ (.head _)).1 (hT.trips fun q hq => N q (.tail _ hq)) ⟨v, _, 0, u1, u2, rfl, (N _ (.tail _ hv)).1, rfl, rfl⟩ hD ho hz hp hh fun h' T' H p hh => by
    obtain ⟨F', N'⟩ := heap_fr F N H off
    exact h h' T' p hh F' N'
theorem top_item {value slice : PySem.Expr} {u : Tok} {Q : Value → Shared → Prop} (N : News h₀ L s.heap ((D, listOf (T.map (·.1)) c) :: led)) (hz : 0 < T.size) (h : Q (T.getD 0 t0).1 s)
    (hs : subscripted slice false (.ref D) (.int 0 u) = operate [.ref D, .int 0 u] (getItem (.ref D) (.int 0 u)) := by with_unfolding_all rfl) (hg : ∀ r, letTemporaryGo value (.ref D) r = pure () := by intro _; with_unfolding_all rfl) : wpAny (model prog w) A (subscriptTail value slice (.ref D) (.int 0 u)) Q E s :=
  item_list (News.isList N (.head _)) (by decide) (by decide) (items_at hz) h hs hg
end
section
variable {prog : Program} {w : World} {A₀ : Around} {base g1 : Heap} {outer : List Env} {e0 : Env} {L L1 : Addr} {m0 mg mb : Str → Option Value} {mean : ExcName → Option Value} {s : Shared} {E : Value → Shared → Prop} {Q : Flow → Shared → Prop} {fx : List (Addr × Obj)}
theorem nl_tail {name qual : Str} {params : Arguments} {body : List Stmt} {scope : Scope} {dV kV doc pm cdv ct oc : Value} {an od : Option Addr} {osl : Array (Option Value)}
    (ho : (Mine.hd11.heap_39 w.params).lookup 656 = some ⟨oc, od, .func (fnOf name qual params body scope dV kV doc pm an cdv ct), osl⟩)
    {n : Nat} {tn : Tok} {x dx g dg t I D : Addr} {tg : Tok} {es : Array DictEntry} {N0 : Nat} {kvs : List (Int × Value)} {ps : List (Int × Int)} {io ocl : Obj} {ys vs : List Value} {lt : List (Addr × Obj)} (hD : DIs (PySem.intKind prog w) es kvs) (hi : IntsI kvs ps) (hn : kvs.length < 64) (hn2 : 1 < n) (hns : n < kvs.length)
    (hx : (x, cnt es N0 dx) ∈ fx) (hg1 : (g, one 867 dg (.ref t)) ∈ fx) (hg2 : (dg, dictOf [] 0) ∈ fx) (hg3 : (t, tup1 (.int 1 tg)) ∈ fx) (hcc : (L1 + 1, ocl) ∈ fx) (hcd : ocl.data = .cell (some (.ref g)))
    (hM : Made lt ps vs ys n) (hV : TupsJ lt vs (ps.take n)) (hS : ItS lt x n kvs.length N0 io)
    (B1 : Below A₀ base (ek e0 L :: outer) g1) (X1 : (Mine.hd11.heap_39 w.params).In g1) (T1 : Top vw ls mean mg mb g1)
    (F1 : Fr g1 L1 s.heap (mP n tn D I m0)) (N1 : News g1 L1 s.heap ((D, lst ys) :: (I, io) :: (lt ++ fx))) (lfx : ∀ q ∈ fx, @LT.lt Nat _ q.1 D) (lI : @LT.lt Nat _ I D) (llt : ∀ q ∈ lt, @LT.lt Nat _ D q.1) (hfI : ∀ q ∈ fx, q.1 ≠ I)
    (hE : PassesOwn (model prog w) ((AK 9 (ek e0 L) outer).deeper (envOfC qual scope L1 656 cdv)) (envOfC qual scope L1 656 cdv) E)
    (k : ∀ S h' tk us l c, TupsJ l us ((dueP ps).take n) → (∃ m', Fr g1 L1 h' m') → News g1 L1 h' ((S, listOf us.toArray c) :: (l ++ fx)) → (∀ q ∈ l ++ fx, @LT.lt Nat _ q.1 S) → Q (.ret (.ref S)) { s with heap := h', toks := tk }) :
    wpAny (model prog w) ((AK 9 (ek e0 L) outer).deeper (envOfC qual scope L1 656 cdv)) (execs (body.drop 6) (envOfC qual scope L1 656 cdv)) Q E s := by
  have e := ho.symm.trans (by k_is : (Mine.hd11.heap_39 w.params).lookup 656 = some _)
  cases e
  dsimp only [List.drop]
  k_steps
  unfold Halt
  have hyl : ys.length = n := hM.1
  subst hyl
  have hn1 : 0 < ys.length := Nat.lt_trans Nat.zero_lt_one hn2
  have hy64 : ys.length < 64 := Nat.lt_trans hns hn
  have hy1k : ys.length ≤ 1000 := Nat.le_trans (Nat.le_of_lt hy64) (Nat.le_of_ble_eq_true rfl)
  have N2 : News g1 L1 s.heap ((D, listOf ((startT (cnt_ ps) (fun i => ys.getD i .none) (fun i => vs.getD i .none) ys.length).map (·.1)) ys.length) :: (I, io) :: (lt ++ fx)) := by rw [startT_map]; exact N1
  have off : ∀ q ∈ (I, io) :: (lt ++ fx), q.1 ≠ D := List.forall_mem_cons.mpr ⟨Nat.ne_of_lt lI, fun q hq => (List.mem_append.mp hq).elim (fun h => Nat.ne_of_gt (llt q h)) (fun h => Nat.ne_of_lt (lfx q h))⟩
  refine heapify_led (Nat.lt_of_succ_le (Nat.le_of_ble_eq_true rfl)) ‹_› N2 off (hM.trips.sub fun q hq => .tail _ (List.mem_append_left _ hq)) startT_dist (by rw [startT_size]; exact hy1k) fun h3 T3 p3 hh3 F3 N3 => ?_
  have hz3 : T3.size = ys.length := by
    have := p3.length_eq
    rw [Array.length_toList, Array.length_toList, startT_size] at this
    exact this
  have HI := heap_start p3
  have TL3 : TripsL ((I, io) :: (lt ++ fx)) T3 := (hM.trips.sub fun q hq => .tail _ (List.mem_append_left _ hq)).perm p3
  clear N1 F1 N2
  k_steps
  unfold Halt
  have h03 : 0 < T3.size := by rw [hz3]; exact hn1
  refine top_item N3 h03 ?_
  obtain ⟨a3, u3, w3, e3, q3⟩ := TL3 (T3.getD 0 t0) (tmem h03)
  rw [e3]
  k_steps
  unfold Halt
  refine item_tupleT (l := [.int (T3.getD 0 t0).2.1 u3, .int (T3.getD 0 t0).2.2.1 w3, (T3.getD 0 t0).2.2.2]) ⟨_, (N3 _ (.tail _ q3)).1, rfl, _, rfl⟩ (by decide) (by decide) rfl rfl ?_
  k_steps
  unfold Halt
  rename Fr _ _ _ _ => F4
  rename News _ _ _ _ => N4
  refine for_items (env := envOfC _ _ L1 656 _) (fx := fx) (I := I) (core := [(D, listOf (T3.map (·.1)) ys.length)]) (lt := lt) (vs := vs) (io := io) rfl hD hi hx (HeapJ ps D I ys.length tn m0) (i0 := ys.length) (by exact Nat.le_of_lt ‹_›) hS hV ?j0 F4 ?n0 ?o0 (by passes_own) (fun Q E q => ?it) ?st fun h9 tk9 m9 core9 lt9 vs9 hJ9 hV9 F9 N9 => ?_
  case j0 =>
    exact fun G g => g T3 ys.length _ _ _ _ _ _ _ (rfl) (HI) (hh3) (startT_dist.perm p3) ((hM.trips).perm p3) (funext mL_new) (Nat.le_refl _) (llt)
  case n0 =>
    refine news_sub N4 ?_
    (try simp only [List.cons_append, List.nil_append])
    kqd_sub
  case o0 => exact List.forall_mem_cons.mpr ⟨Nat.ne_of_gt lI, fun q hq => (List.mem_append.mp (show q ∈ lt ++ fx from hq)).elim (fun h => Nat.ne_of_gt (Nat.lt_trans lI (llt q h))) (hfI q)⟩
  case it =>
    k_steps
    exact q
  case st =>
    intro i kq c t5 u5 a core1 lt1 vs1 m1 h1 tk1 io1 hin hp hvl hJ hV1 F1 N1 lows offI
    refine hJ _ ?_
    clear hJ
    rintro T c1 ord w1 w2 xe xk xo x2 rfl HI1 HH1 HD1 HT1 rfl hni hlow
    k_steps
    unfold Halt
    rename Fr _ _ _ _ => F5
    rename News _ _ _ _ => N5
    refine call_key (g := g) (dg := dg) (t := t) (tk := tg) (a := a) (kk := kq) (c := c) (u1 := t5) (u2 := u5) (env := envOfC _ _ L1 656 _) rfl rfl rfl rfl rfl (Nat.le_of_ble_eq_true rfl) (Nat.le_of_ble_eq_true rfl) B1 X1 T1 F5 N5 ?g1 ?g2 ?g3 (.tail _ (.tail _ (.head _))) ?hk ?he fun h6 tk6 t6 F6 N6 => ?_
    case g1 => exact .tail _ (.tail _ (.tail _ (List.mem_append_right _ hg1)))
    case g2 => exact .tail _ (.tail _ (.tail _ (List.mem_append_right _ hg2)))
    case g3 => exact .tail _ (.tail _ (.tail _ (List.mem_append_right _ hg3)))
    case hk =>
      rw [eval_Name _ _ _ (by decide)]
      exact wpAny_bind (wpAny_standAt (wpAny_loadName_cell rfl (by rfl) (by rfl) ⟨_, (N5 _ (.tail _ (.tail _ (.tail _ (List.mem_append_right _ hcc))))).1, hcd⟩ ⟨rfl, rfl⟩))
    case he =>
      k_steps
    clear N5 F5
    have hcn : cnt_ ps i = c := by
      unfold cnt_
      rw [List.getD_eq_getElem?_getD, List.getElem?_map, hp]
      rfl
    have hev : ∀ j, j < i → vs1.getD j Value.none = (vs1 ++ [Value.ref a]).getD j .none := fun j hj => getD_left hvl hj
    have hei := getD_last (x := .ref a) hvl
    have HI2 := HI1.congr hev
    have lDa : @LT.lt Nat _ D a := lows (D, listOf (T.map (·.1)) c1) (.tail _ (.head _))
    have hts : T.size = ys.length := HI1.size hni
    k_steps
    · unfold Halt
      rename Fr _ _ _ _ => F7
      rename News _ _ _ _ => N7
      rename (T.getD 0 t0).2.1 < c => hlt
      rename @LT.lt Nat _ I _ ∧ AllLt _ _ => l8
      have lDn : @LT.lt Nat _ D _ := (show @LT.lt Nat _ D _ ∧ _ from l8.2).1
      refine heapreplace_led (T := T) (c := c1) (k := c) (o := ord) (e := .ref a) (led := (_, tup3 (.int c t6) (.int ord w2) (.ref a)) :: (I, io1) :: (((a, tup (.int kq t5) (.int c u5)) :: lt1) ++ fx)) (Nat.lt_of_succ_le (Nat.le_of_ble_eq_true rfl)) F7 ?n8 ?o8 (HT1.sub fun q hq => .tail _ (.tail _ (.tail _ (List.mem_append_left _ hq)))) (.head _) HD1 HI1.dist (by rw [hts]; exact hy1k) (by rw [hts]; exact hn1) HH1 fun h8 T8 p8 hh8 F8 N8 => ?_
      case n8 =>
        refine news_sub N7 ?_
        (try simp only [List.cons_append, List.nil_append])
        kqd_sub
      case o8 => exact List.forall_mem_cons.mpr ⟨Nat.ne_of_gt lDn, List.forall_mem_cons.mpr ⟨Nat.ne_of_lt lI, List.forall_mem_cons.mpr ⟨Nat.ne_of_gt lDa, fun q hq => (List.mem_append.mp hq).elim (fun h => Nat.ne_of_gt (hlow q h)) (fun h => Nat.ne_of_lt (lfx q h))⟩⟩⟩
      clear F7 N7
      have TL8 := put_trips p8 (HT1.sub fun q hq => .tail (a, tup (.int kq t5) (.int c u5)) hq) t6 w2
      have hz8 : T8.size = ys.length := by
        have := p8.length_eq
        rw [List.length_cons, List.length_tail, Array.length_toList, Array.length_toList] at this
        lia
      k_steps
      unfold Halt
      have h08 : 0 < T8.size := by rw [hz8]; exact hn1
      refine top_item N8 h08 ?_
      obtain ⟨a8, u8, v8, e8, q8⟩ := TL8 (T8.getD 0 t0) (tmem h08)
      rw [e8]
      have N9 : News g1 L1 h8 ((a8, tup3 (.int (T8.getD 0 t0).2.1 u8) (.int (T8.getD 0 t0).2.2.1 v8) (T8.getD 0 t0).2.2.2) :: (D, listOf (T8.map (·.1)) c1) :: (_, tup3 (.int c t6) (.int ord w2) (.ref a)) :: (I, io1) :: (((a, tup (.int kq t5) (.int c u5)) :: lt1) ++ fx)) := news_cons (N8 _ (.tail _ ((List.mem_cons.mp q8).elim (fun h => h ▸ .head _) fun h => .tail _ (.tail _ (List.mem_append_left _ h))))) N8
      clear N8
      k_steps
      rename Fr _ _ _ _ => F10
      rename News _ _ _ _ => N10
      refine ItEnd.intro [(D, listOf (T8.map fun x : Trip => x.1) c1)] ((_, tup3 (.int c t6) (.int ord w2) (.ref a)) :: (a, tup (.int kq t5) (.int c u5)) :: lt1) (fr_fun F10 mL_put) ?n11 (fun q hq => .tail _ hq) ?o11 fun G g => g T8 c1 (ord - 1) _ _ _ _ _ _ rfl (HI2.put HH1 hn1 hni (by rw [hcn]; assumption) hcn.symm rfl hei.symm p8) hh8 (put_dist p8 HD1 HI1.dist) TL8 rfl (by exact Nat.le_succ_of_le ‹_›) (fun q hq => ?_)
      case n11 =>
        refine news_sub N10 ?_
        (try simp only [List.cons_append, List.nil_append])
        kqd_sub
      case o11 => exact List.forall_mem_cons.mpr ⟨offI (D, listOf (T.map (·.1)) c1) (.head _), List.forall_mem_cons.mpr ⟨Nat.ne_of_gt l8.1, fun q hq => offI q (.tail _ hq)⟩⟩
      exact (List.mem_cons.mp hq).elim (fun e => e ▸ lDn) fun hq => (List.mem_cons.mp hq).elim (fun e => e ▸ lDa) (hlow q)
    · rename Fr _ _ _ _ => F7
      rename News _ _ _ _ => N7
      refine ItEnd.intro [(D, listOf (T.map fun x : Trip => x.1) c1)] ((a, tup (.int kq t5) (.int c u5)) :: lt1) F7 N7 (fun q hq => hq) offI fun G g => g T c1 ord w1 w2 _ _ _ _ rfl (HI2.keep HH1 hn1 hni (by rw [hcn]; assumption)) HH1 HD1 (HT1.sub (fun q hq => .tail _ hq)) (funext mL_keep) (by exact Nat.le_succ_of_le ‹_›) (fun q hq => ?_)
      exact (List.mem_cons.mp hq).elim (fun e => e ▸ lDa) (hlow q)
  refine hJ9 _ ?_
  clear hJ9
  rintro T9 c9 ord9 v1 v2 xe xk xo x2 rfl HI9 hh9 HD9 HT9 rfl _ low9
  clear F4 N4
  k_steps
  refine callWith_rev ?_
  refine lsort_rev F9 (news := lt9 ++ fx) N9 ?a1 (HT9.trips fun q hq => N9 q (.tail _ (show q ∈ lt9 ++ fx from List.mem_append_left _ hq))) HD9 ?a2 ?a3 ?a4 fun h12 c12 Ls p12 pw12 F12 N12 => ?_
  case a1 =>
    intro q hq
    exact (List.mem_append.mp hq).elim (fun h => Nat.ne_of_gt (low9 q h)) (fun h => Nat.ne_of_lt (lfx q h))
  case a2 =>
    rw [hi.length] at HI9
    exact heap_refs HI9 hV9
  case a3 => rw [HI9.size ‹_›]; assumption
  case a4 => rw [HI9.size ‹_›]; exact hy64
  clear N9 F9
  k_steps
  unfold Halt
  have hLl : Ls.length = ys.length := by
    rw [← p12.length_eq, Array.length_toList]
    exact HI9.size ‹_›
  refine trips_comp (led := lt9 ++ fx) (Ls := Ls) (D := D) (c := c12) ⟨_, F12⟩ rfl (by rw [hLl]; exact hy64) (fun t ht => (HT9.sub fun q hq => List.mem_append_left _ hq) t (p12.mem_iff.mpr ht)) (by with_unfolding_all rfl) (by decide) (by rfl) (by decide) (by rfl) (by rfl) (by rfl) (by rfl) ?_
  k_steps
  unfold Halt
  refine ⟨rfl, by assumption, by assumption, fun S h15 tk15 F15 N15 lS => ?_⟩
  k_steps
  refine k S h15 tk15 (Ls.map fun t : Trip => t.2.2.2) lt9 (Ls.map fun t : Trip => t.2.2.2).length ?t1 ⟨_, F15⟩ (news_sub N15 fun q hq => ?_) fun q hq => lS q (.tail _ hq)
  case t1 =>
    rw [sorted_same HI9 p12 pw12]
    unfold dueP
    rw [← List.map_take, hi.length]
    exact hV9.pick fun i hi => dueI_mem.mp (List.mem_of_mem_take hi)
  exact (List.mem_cons.mp hq).elim (fun e => e ▸ .head _) fun hq => .tail _ (.tail _ hq)
end
end Mine
end
section
open PySem PySem.W PyProof.Rows PyProof.V PySem.Calls PySem.Spec Builtin Builtin.ObjectAttr LCg
set_option compiler.extract_closed false
set_option Elab.async false
set_option maxRecDepth 100000
set_option maxHeartbeats 3000000
namespace Mine
local macro_rules | `(tactic| walk_at "none0") => `(tactic| skip)
theorem fillZ8 : PySem.Challenge.rw_dn0005_11 = PySem.Challenge.rw_dn0005_11 ∧ Mine.hd11.heap_39 = Mine.hd11.heap_39 := by
  k_fill
  exact ⟨rfl, rfl⟩




local macro_rules | `(tactic| walk_at "call builtin:len") => `(tactic| (k_here; refine len_view ‹_› (by k_mem) (by k_mem) rfl ‹_› (by omega) ?_))
local macro_rules | `(tactic| walk_at "call builtin:iter") => `(tactic| (k_here; (refine iter_view (knd := PySem.intKind _ _) ‹_› ‹_› (by k_mem) (by k_mem) rfl ‹_› ?_; intro I' h' F' N' l1; (try k_lt l1))))

local macro_rules | `(tactic| walk_at "exec Assign cons ListComp") => `(tactic| (refine halt ?_))

local macro_rules | `(tactic| walk_at "truthy ref") => `(tactic| (refine halt ?_))

local macro_rules | `(tactic| walk_at "execs cons") => `(tactic| ((with_reducible show wpAny _ _ (execs [_, _, _, _, _, _, _] _) _ _ _); refine halt ?_))
local macro_rules | `(tactic| walk_at "exec Try") => `(tactic| (k_here; refine wpAny_Try_except ?_; k_fold))
section
variable {prog : Program} {w : World} {A₀ : Around} {base h₀ : Heap} {outer : List Env} {e0 : Env} {L : Addr} {m mg mb : Str → Option Value} {mean : ExcName → Option Value} {s : Shared} {R : Result → Shared → Prop} {rest : List (Addr × Obj)}
theorem mP_of {h₀ h : Heap} {L : Addr} {m : Str → Option Value} {n : Int} {tn : Tok} {D I : Addr} (F : Fr h₀ L h m) (h1 : m (Str.ofString "result") = some (.ref D)) (h2 : m (Str.ofString "n") = some (.int n tn)) (h3 : m (Str.ofString "it") = some (.ref I)) : Fr h₀ L h (mP n tn D I m) := fr_fun F fun z => by
  by_cases c1 : z = Str.ofString "result"
  · subst c1; exact h1
  by_cases c2 : z = Str.ofString "n"
  · subst c2; exact h2
  by_cases c3 : z = Str.ofString "it"
  · subst c3; exact h3
  simp only [mP, if_neg c1, if_neg c2, if_neg c3]
/-- nlargest(n, items, key): the road over a heap -/
theorem nl_some {n : Int} {tn : Tok} {v x dx g dg t : Addr} {tg : Tok} {es : Array DictEntry} {N0 : Nat} {kvs : List (Int × Value)} {ps : List (Int × Int)} (hD : DIs (PySem.intKind prog w) es kvs) (hi : IntsI kvs ps) (hn : kvs.length < 64) (hn1 : n ≠ 1) (hns : n < kvs.length)
   (hsx : (x == sysModules) = false) (B : Below A₀ base outer h₀) (F : Fr h₀ L s.heap m) (X : (Mine.hd11.heap_39 w.params).In h₀) (N : News h₀ L s.heap ((v, iview x) :: (g, one 867 dg (.ref t)) :: (dg, dictOf [] 0) :: (t, tup1 (.int 1 tg)) :: (x, cnt es N0 dx) :: (dx, dictOf [] 0) :: rest)) (T : Top vw ls mean mg mb h₀)
   (kk : ∀ S h' tk us l c, TupsJ l us ((dueP ps).take n.toNat) → Fr h₀ L h' m → News h₀ L h' ((S, listOf us.toArray c) :: (l ++ (v, iview x) :: (g, one 867 dg (.ref t)) :: (dg, dictOf [] 0) :: (t, tup1 (.int 1 tg)) :: (x, cnt es N0 dx) :: (dx, dictOf [] 0) :: rest)) → (∀ p ∈ l ++ (v, iview x) :: (g, one 867 dg (.ref t)) :: (dg, dictOf [] 0) :: (t, tup1 (.int 1 tg)) :: (x, cnt es N0 dx) :: (dx, dictOf [] 0) :: rest, p.1 < S) → R (.ok (.ret (.ref S))) { s with heap := h', toks := tk })
   : codeAny (model prog w) (AK 9 (ek e0 L) outer) (.call (.ref 656) ⟨[.int n tn, .ref v], [(Str.ofString "key", .ref g)]⟩) R s := by
  k_enter
  k_steps
  any_goals (exfalso; first | exact hn1 ‹_› | exact absurd hns (Int.not_lt.mpr ‹_›) | omega)
  unfold Halt
  rename News _ _ _ _ => N2
  rename Fr _ _ _ _ => F2
  refine assign_zip (n := n.toNat) ⟨_, F2, N2⟩ rfl rfl rfl rfl rfl rfl (Nat.le_of_ble_eq_true rfl) (Nat.le_of_ble_eq_true rfl) (by assumption) (by k_asm) (by k_asm) hD hi (Int.toNat_le.mpr (Int.le_of_lt hns)) hn (x := x) (g := g) (t := t) (by k_mem) (by k_mem) (by k_mem) (by k_mem) (by k_mem) (by assumption) (by with_unfolding_all rfl) (by with_unfolding_all rfl) (by decide) (by rfl) (by decide) (by rfl) (by rfl) (by decide) (by rfl) (by rfl) (by rfl) (by rfl) (by rfl) (by rfl) (by rfl) (.inl ⟨_, _, rfl⟩) ?_
  k_steps
  unfold Halt
  rename IsRange _ _ _ _ _ _ _ _ => hR
  obtain ⟨jo, j1, j2, j3, j4⟩ := iter_fall (prog := prog) (w := w) hR (Int.lt_of_lt_of_le hns (Int.le_trans (Int.ofNat_le.mpr (Nat.le_of_lt hn)) (by decide)))
  refine zip_got (by assumption) (by assumption) (all_ne (by assumption) (Nat.le_refl _)) rfl (fun A E Q q => j4 _ rfl A E Q q) j1 j2 (fun h0 s J e => j3 h0 s J _ rfl e) fun h' => ?_
  intro D h7 tk7 io' ys vs lt hM hV hS F7 N7 lfx lI llt hfI
  k_steps
  unfold Halt
  have hyl : ys.length = n.toNat := hM.1
  have hy64 : ys.length < 64 := hyl ▸ Nat.lt_of_le_of_lt (Int.toNat_le.mpr (Int.le_of_lt hns)) hn
  refine wpAny_truthy_list (items := ys.toArray) (News.isList (by assumption) (.head _)) (by rw [List.size_toArray]; exact Int.lt_of_lt_of_le (Int.ofNat_lt.mpr hy64) (by decide)) ?_
  by_cases h0 : n.toNat = 0
  · have hy0 : ys = [] := List.eq_nil_of_length_eq_zero (hyl.trans h0)
    subst hy0
    simp only [List.isEmpty_toArray, List.isEmpty_nil, Bool.not_true]
    k_steps
    rename Fr _ _ _ _ => F8
    refine kk D _ _ [] [] 0 (by rw [h0]; exact .nil) (by assumption) (news_sub (by assumption) fun p hp => ?_) fun p hp => lfx p (.tail _ hp)
    rcases List.mem_cons.mp hp with rfl | hp
    · exact .head _
    · exact .tail _ (.tail _ (List.mem_append_right _ (.tail _ hp)))
  · have hy0 : ys.toArray.isEmpty = false := by
      cases ys with
      | nil => exact absurd hyl.symm h0
      | cons a r => rfl
    rw [hy0]
    have ho := (by k_is : (Mine.hd11.heap_39 w.params).lookup 656 = some ⟨_, _, .func (fnOf _ _ _ _ _ _ _ _ _ _ _ _), _⟩)
    k_steps
    unfold Halt
    have hn0 : 0 ≤ n := by
      rcases Int.lt_or_le n 0 with q | q
      · exact absurd (Int.toNat_of_nonpos (Int.le_of_lt q)) h0
      · exact q
    refine nl_tail ho (n := n.toNat) (tn := tn) (D := D) (I := _) hD hi hn (Nat.lt_of_le_of_ne (Nat.pos_of_ne_zero h0) fun e => hn1 ((Int.toNat_of_nonneg hn0).symm.trans (congrArg Nat.cast e.symm))) ((Int.toNat_lt hn0).mpr hns) (by k_mem) (by k_mem) (by k_mem) (by k_mem) (by k_mem) (by assumption) hM hV hS (by assumption) (by k_asm) (by k_asm) (mP_of F7 (by rfl) ?h2 (by rfl)) N7 lfx lI llt hfI (by passes_own) fun S h9 tk9 us l c hT hF N9 l9 => ?_
    case h2 =>
      show some (Value.int n tn) = _
      rw [Int.toNat_of_nonneg hn0]
    · obtain ⟨m9, F9⟩ := hF
      k_steps
      have sub : ∀ q ∈ l ++ (v, iview x) :: (g, one 867 dg (.ref t)) :: (dg, dictOf [] 0) :: (t, tup1 (.int 1 tg)) :: (x, cnt es N0 dx) :: (dx, dictOf [] 0) :: rest, ∀ (b : Addr × Obj), q ∈ l ++ b :: (v, iview x) :: (g, one 867 dg (.ref t)) :: (dg, dictOf [] 0) :: (t, tup1 (.int 1 tg)) :: (x, cnt es N0 dx) :: (dx, dictOf [] 0) :: rest := fun q hq b =>
        (List.mem_append.mp hq).elim (List.mem_append_left _) fun h => List.mem_append_right _ (.tail _ h)
      refine kk S h9 tk9 us l c hT (by assumption) (news_sub (by assumption) fun p hp => ?_) fun p hp => l9 p (sub p hp _)
      rcases List.mem_cons.mp hp with rfl | hp
      · exact .head _
      · exact .tail _ (sub p hp _)
end
end Mine
end
section
open PySem PySem.W PyProof.Rows PyProof.V PySem.Calls PySem.Spec LCg
set_option compiler.extract_closed false
set_option Elab.async false
set_option maxRecDepth 100000
set_option maxHeartbeats 3000000
namespace Mine
/-- the first of the greatest among the first i -/
noncomputable def Best (c : Nat → Int) (i b : Nat) : Prop := b < i ∧ ∀ j, j < i → c b ≥ c j ∧ (j < b → c b > c j)
theorem Best.head {c : Nat → Int} {n b : Nat} (h : Best c n b) : (dueI c n).take 1 = [b] := by
  have hl := dueI_len c n
  have hb := h.1
  cases e : dueI c n with
  | nil => rw [e] at hl; simp at hl; lia
  | cons x r =>
    have hx : x < n := dueI_mem.mp (by rw [e]; exact .head _)
    have hm : b ∈ x :: r := by rw [← e]; exact dueI_mem.mpr hb
    rcases List.mem_cons.mp hm with rfl | hm
    · rfl
    · have pw := dueI_pw c n
      rw [e] at pw
      have h1 := (List.pairwise_cons.mp pw).1 b hm
      have h2 := h.2 x hx
      unfold before at h1
      exfalso
      rcases h1 with h1 | h1
      · lia
      · have := h2.2 h1.2
        lia
section
variable {prog : Program} {w : World} {A : Around} {E : Value → Shared → Prop} {s : Shared} {h₀ : Heap} {L : Addr} {m : Str → Option Value} {fx : List (Addr × Obj)}
theorem its_end {I x : Addr} {io : Obj} {lt : List (Addr × Obj)} {N0 i : Nat} {kvs : List (Int × Value)} {Q : Option Value → Shared → Prop} (hh : A.handled = none) (hI : s.heap.get? I = some io) (hS : ItS lt x i kvs.length N0 io) (hD : DatAt (PySem.intKind prog w) s.heap x kvs N0) (hi : kvs.length ≤ i)
   (h : ∀ h', Heap.ExtBut I s.heap h' → Q none { s with heap := h' }) : wpAny (model prog w) A (pyNext (.ref I)) Q E s := by
  rcases hS with ⟨ok, ov, rfl⟩ | ⟨a, oa, f, ok, ov, rfl, hal, hat⟩
  · exact it_end hh hI hD (List.getElem?_eq_none hi) h
  · exact it_end hh hI hD (List.getElem?_eq_none hi) h
theorem its_next {I x : Addr} {io : Obj} {lt : List (Addr × Obj)} {N0 i : Nat} {kvs : List (Int × Value)} {k : Int} {v : Value} {Q : Option Value → Shared → Prop} (hI : s.heap.get? I = some io) (hS : ItS lt x i kvs.length N0 io) (hrl : ∀ q ∈ lt, s.heap.get? q.1 = some q.2 ∧ q.1 ≠ I) (hD : DatAt (PySem.intKind prog w) s.heap x kvs N0) (hx : kvs[i]? = some (k, v))
   (h : ∀ h' t io', h'.get? I = some io' → ItS ((s.heap.objs.size, tup (.int k t) v) :: lt) x (i + 1) kvs.length N0 io' → h'.get? s.heap.objs.size = some (tup (.int k t) v) → (∀ b o, b ≠ I → s.heap.get? b = some o → h'.get? b = some o) → Q (some (.ref s.heap.objs.size)) { s with heap := h' }) : wpAny (model prog w) A (pyNext (.ref I)) Q E s := by
  rcases hS with ⟨ok, ov, rfl⟩ | ⟨a, oa, f, ok, ov, rfl, hal, hat⟩
  · refine it_next0 (knd := PySem.intKind prog w) hI hD hx fun key h' hk e1 e2 e3 e4 => ?_
    obtain ⟨t, rfl⟩ := PySem.Value.isInt_shape hk
    exact h h' t _ e1 (.inr ⟨_, _, _, _, _, rfl, .head _, rfl, fun _ _ e => by cases e⟩) e2 e4
  · refine it_next1 (knd := PySem.intKind prog w) hI (hrl _ hal).1 (hrl _ hal).2 hD hx fun key h' hk e1 e2 e3 e4 => ?_
    obtain ⟨t, rfl⟩ := PySem.Value.isInt_shape hk
    exact h h' t _ e1 (.inr ⟨_, _, _, _, _, rfl, .tail _ hal, hat⟩) e2 e4
theorem max_loop {R : Result → Shared → Prop} {I g S x dx : Addr} {dv : Value} {es : Array DictEntry} {N0 : Nat} {kvs : List (Int × Value)} {ps : List (Int × Int)} (hh : A.handled = none) (hD : DIs (PySem.intKind prog w) es kvs) (hi : IntsI kvs ps) (hx : (x, cnt es N0 dx) ∈ fx)
    (hSI : S ≠ I) (hfS : ∀ q ∈ fx, q.1 ≠ S) (hfI : ∀ q ∈ fx, q.1 ≠ I)
    (turn : ∀ (a : Addr) k c t u h tk led, (a, tup (.int k t) (.int c u)) ∈ led → (∀ q ∈ fx, q ∈ led) → Fr h₀ L h m → News h₀ L h led → wpAny (model prog w) A.in1 (call (.ref g) [.ref a]) (KskEnd h₀ L m led c { s with heap := h, toks := tk }) (fun _ _ => False) { s with heap := h, toks := tk })
    (hR0 : kvs.length = 0 → ∀ h tk, Fr h₀ L h m → News h₀ L h fx → R (.ok (.ret dv)) { s with heap := h, toks := tk })
    (hR1 : ∀ b h tk vs lt, Best (cnt_ ps) kvs.length b → TupsJ lt vs ps → Fr h₀ L h m → News h₀ L h (lt ++ fx) → R (.ok (.ret (vs.getD b .none))) { s with heap := h, toks := tk }) :
    ∀ (r i : Nat) (h : Heap) (tk c : Nat) (its : Array Value) (io : Obj) (vs : List Value) (lt : List (Addr × Obj)), kvs.length - i = r → i ≤ kvs.length → ItS lt x i kvs.length N0 io → TupsJ lt vs (ps.take i) → ((i = 0 ∧ its = #[]) ∨ ∃ b tb, Best (cnt_ ps) i b ∧ its = #[vs.getD b .none, .int (cnt_ ps b) tb]) →
      Fr h₀ L h m → News h₀ L h ((S, seqObj "list" its c) :: (I, io) :: (lt ++ fx)) → (∀ q ∈ lt, q.1 ≠ S ∧ q.1 ≠ I) →
      codeAny (model prog w) A (.builtin "max.loop" ⟨[.ref I, .ref g, .ref S], [("default", dv)]⟩) R { s with heap := h, toks := tk } := by
  have hname : (toString "max" ++ toString ".loop" : String) = "max.loop" := by decide
  intro r
  induction r with
  | zero =>
    intro i h tk c its io vs lt hr hin hS hV hB F N off
    have hie : i = kvs.length := Nat.le_antisymm hin (Nat.le_of_sub_eq_zero hr)
    subst hie
    have nS := N _ (.head _)
    have nI := N (I, io) (.tail _ (.head _))
    have zx := (N (x, _) (.tail _ (.tail _ (List.mem_append_right _ hx)))).1
    have offa : ∀ q ∈ lt ++ fx, q.1 ≠ S ∧ q.1 ≠ I := fun q hq => (List.mem_append.mp hq).elim (off q) fun hq => ⟨hfS q hq, hfI q hq⟩
    refine codeAny_builtin PySem.F.entry_max_loop ?_
    rw [Around.under_plainId PySem.F.plain_max_loop _]
    show wpAny _ A.in1 (seqItems? (.ref S) >>= _) _ _ _
    refine wpAny_bind (wpAny_seqItems nS.1 rfl ?_)
    show wpAny _ A.in1 (tryCatch (pyNext (.ref I)) _ >>= _) _ _ _
    refine wpAny_bind (wpAny_tryCatch (its_end (s := { s with heap := h, toks := tk }) hh nI.1 hS ⟨_, es, zx, rfl, hD⟩ (Nat.le_refl _) fun h' he => ?_))
    have F1 := fr_up (ex := fun c => c = I) F he (fun c e => e ▸ nI.2)
    have N1 : News h₀ L h' (lt ++ fx) := fun q hq => ⟨he _ _ (offa q hq).2 (N q (.tail _ (.tail _ hq))).1, (N q (.tail _ (.tail _ hq))).2⟩
    rw [hi.length, List.take_length] at hV
    rcases hB with ⟨h0, rfl⟩ | ⟨b, tb, hb, rfl⟩
    · show wpAny _ A.in1 (rule _ >>= _) _ _ _
      exact wpAny_bind (wpAny_rule (wpAny_pure (hR0 h0 h' tk F1 fun q hq => N1 q (List.mem_append_right _ hq))))
    · have hS' := he S _ hSI nS.1
      have s1 := Heap.SameBut.update h' S (Obj.mapSeq fun _ => (#[] : Array Value))
      show wpAny _ A.in1 (updateSeq S (fun _ => #[]) >>= _) _ _ _
      refine wpAny_bind ?_
      refine wpAny_updateSeq hS' rfl (wpAny_bind (wpAny_letGo (wpAny_pure ?_)))
      exact hR1 b _ tk vs lt hb hV (ksk_fr F1 s1 nS.2.1 nS.2.2) (ksk_news N1 s1 fun q hq => (offa q hq).1)
  | succ r ih =>
    intro i h tk c its io vs lt hr hin hS hV hB F N off
    have hlt : i < kvs.length := Nat.lt_of_sub_pos (hr ▸ Nat.succ_pos r)
    have nS := N _ (.head _)
    have nI := N (I, io) (.tail _ (.head _))
    have zx := (N (x, _) (.tail _ (.tail _ (List.mem_append_right _ hx)))).1
    have offa : ∀ q ∈ lt ++ fx, q.1 ≠ S ∧ q.1 ≠ I := fun q hq => (List.mem_append.mp hq).elim (off q) fun hq => ⟨hfS q hq, hfI q hq⟩
    have hvl : vs.length = i := by rw [hV.length, List.length_take, ← hi.length]; exact Nat.min_eq_left hin
    have hr' : kvs.length - (i + 1) = r := by rw [Nat.sub_succ, hr]; rfl
    obtain ⟨⟨kq, v⟩, hq⟩ : ∃ p, kvs[i]? = some p := ⟨kvs[i], List.getElem?_eq_getElem hlt⟩
    obtain ⟨k0, c0, u0, e0, hp⟩ := hi.at hq
    obtain ⟨rfl, rfl⟩ := Prod.mk.inj e0
    have hcn : cnt_ ps i = c0 := by
      unfold cnt_
      rw [List.getD_eq_getElem?_getD, List.getElem?_map, hp]
      rfl
    have htk : ps.take (i + 1) = ps.take i ++ [(kq, c0)] := by rw [List.take_succ, hp]; rfl
    refine codeAny_builtin PySem.F.entry_max_loop ?_
    rw [Around.under_plainId PySem.F.plain_max_loop _]
    show wpAny _ A.in1 (seqItems? (.ref S) >>= _) _ _ _
    refine wpAny_bind (wpAny_seqItems nS.1 rfl ?_)
    show wpAny _ A.in1 (tryCatch (pyNext (.ref I)) _ >>= _) _ _ _
    refine wpAny_bind (wpAny_tryCatch (its_next (s := { s with heap := h, toks := tk }) nI.1 hS (fun q hq => ⟨(N q (.tail _ (.tail _ (List.mem_append_left _ hq)))).1, (off q hq).2⟩) ⟨_, es, zx, rfl, hD⟩ hq fun h1 t1 io1 e1 hS1 eT keep => ?_))
    dsimp only at eT keep hS1 ⊢
    have lowS : @LT.lt Nat _ S h.objs.size := Heap.lt_size nS.1
    have lowI : @LT.lt Nat _ I h.objs.size := Heap.lt_size nI.1
    have nT : h.objs.size ≠ L ∧ h₀.get? h.objs.size = none := ⟨Nat.ne_of_gt F.ns.lt, Heap.get?_none_of_le (Nat.le_trans F.above (Nat.le_of_lt F.ns.lt))⟩
    generalize h.objs.size = T at eT lowS lowI nT hS1 ⊢
    have F1 := fr_up (ex := fun c => c = I) F keep (fun c e => e ▸ nI.2)
    have N1 : News h₀ L h1 ((S, seqObj "list" its c) :: (I, io1) :: (((T, tup (.int kq t1) (.int c0 u0)) :: lt) ++ fx)) := news_cons ⟨keep _ _ hSI nS.1, nS.2⟩ <| news_cons ⟨e1, nI.2⟩ <| news_cons ⟨eT, nT⟩ fun q hq => ⟨keep _ _ (offa q hq).2 (N q (.tail _ (.tail _ hq))).1, (N q (.tail _ (.tail _ hq))).2⟩
    have hV1 : TupsJ ((T, tup (.int kq t1) (.int c0 u0)) :: lt) (vs ++ [.ref T]) (ps.take (i + 1)) := by
      rw [htk]
      exact (hV.sub fun q hq => .tail _ hq).snoc (.head _)
    have off1 : ∀ q ∈ (T, tup (.int kq t1) (.int c0 u0)) :: lt, q.1 ≠ S ∧ q.1 ≠ I := List.forall_mem_cons.mpr ⟨⟨Nat.ne_of_gt lowS, Nat.ne_of_gt lowI⟩, off⟩
    have hei := getD_last (x := .ref T) hvl
    have hev : ∀ j, j < i → vs.getD j Value.none = (vs ++ [Value.ref T]).getD j .none := fun j hj => getD_left hvl hj
    show wpAny _ A.in1 (tryCatch (holding [.ref T] (call (.ref g) [.ref T])) _ >>= _) _ _ _
    refine wpAny_bind (wpAny_tryCatch (wpAny_holding (wpAny_mono (turn T kq c0 t1 u0 h1 tk _ (.tail _ (.tail _ (.head _))) (fun q hq => .tail _ (.tail _ (.tail _ (List.mem_append_right _ hq)))) F1 N1) (fun y s'' he => ?_) fun _ _ hF => hF.elim)))
    obtain ⟨h2, tk2, t2, rfl, rfl, F2, N2⟩ := he
    have nS2 := N2 _ (.head _)
    have put : ∀ b0, Best (cnt_ ps) (i + 1) i → codeAny (model prog w) A (.builtin "max.loop" ⟨[.ref I, .ref g, .ref S], [("default", dv)]⟩) R { s with heap := h2.update S (Obj.mapSeq fun _ => #[.ref T, .int c0 t2]), toks := b0 } := fun b0 hb => by
      have s1 := Heap.SameBut.update h2 S (Obj.mapSeq fun _ => #[Value.ref T, .int c0 t2])
      obtain ⟨c2, hc2⟩ : ∃ c2, (h2.update S (Obj.mapSeq fun _ => #[.ref T, .int c0 t2])).get? S = some (seqObj "list" #[.ref T, .int c0 t2] c2) := ⟨_, get?_update_seq nS2.1 fun _ => #[.ref T, .int c0 t2]⟩
      refine ih (i + 1) _ b0 c2 #[.ref T, .int c0 t2] io1 (vs ++ [.ref T]) ((T, tup (.int kq t1) (.int c0 u0)) :: lt) hr' hlt hS1 hV1 (.inr ⟨i, t2, hb, by rw [hei, hcn]⟩) (ksk_fr F2 s1 nS2.2.1 nS2.2.2) (news_cons ⟨hc2, nS2.2⟩ (ksk_news (fun q hq => N2 q (.tail _ hq)) s1 (List.forall_mem_cons.mpr ⟨hSI.symm, fun q hq => (List.mem_append.mp hq).elim (fun h => (off1 q h).1) (hfS q)⟩))) off1
    rcases hB with ⟨rfl, rfl⟩ | ⟨b, tb, hb, rfl⟩
    · show wpAny _ A.in1 (updateSeq S (fun _ => #[.ref T, .int c0 t2]) >>= _) _ _ _
      refine wpAny_bind ?_
      refine wpAny_updateSeq nS2.1 rfl ?_
      rw [hname]
      refine wpAny_pure ⟨plainId_quiet PySem.F.plain_max_loop _, put _ ⟨by exact Nat.lt_succ_self _, fun j hj => ?_⟩⟩
      obtain rfl : j = 0 := Nat.eq_zero_of_le_zero (Nat.le_of_lt_succ hj)
      exact ⟨Int.le_refl _, fun h => absurd h (Nat.lt_irrefl _)⟩
    · show wpAny _ A.in1 (tryCatch (holding [.ref T, .int c0 t2] (richCompare .Gt (.int c0 t2) (.int (cnt_ ps b) tb) >>= _)) _ >>= _) _ _ _
      refine wpAny_bind (wpAny_tryCatch (wpAny_holding (wpAny_bind (CmpOf.ints_gt (prog := prog) (w := w) (A := A.in1) (P := fun i v => ∃ t, v = .int (cnt_ ps i) t) (cnt_ ps) (fun i v h => h) i b _ _ _ _ _ ⟨t2, by rw [hcn]⟩ ⟨tb, rfl⟩ ?_))))
      refine wpAny_bind (wpAny_holding (wpAny_truthy_bool ?_))
      refine wpAny_bind (wpAny_letGo (wpAny_pure ?_))
      have hb1 := hb.2
      by_cases hb' : cnt_ ps i > cnt_ ps b
      · simp only [hb', decide_true, if_true]
        refine wpAny_bind ?_
        refine wpAny_updateSeq nS2.1 rfl (wpAny_bind (wpAny_letGo ?_))
        rw [hname]
        refine wpAny_pure ⟨plainId_quiet PySem.F.plain_max_loop _, put _ ⟨by exact Nat.lt_succ_self _, fun j hj => ?_⟩⟩
        by_cases e : j = i
        · subst e; exact ⟨Int.le_refl _, fun h => absurd h (Nat.lt_irrefl _)⟩
        · have := (hb1 j (Nat.lt_of_le_of_ne (Nat.le_of_lt_succ hj) e)).1
          exact ⟨Int.le_trans this (Int.le_of_lt hb'), fun _ => Int.lt_of_le_of_lt this hb'⟩
      · simp only [hb', decide_false, Bool.false_eq_true, if_false]
        refine wpAny_bind (wpAny_letGo ?_)
        rw [hname]
        refine wpAny_pure ⟨plainId_quiet PySem.F.plain_max_loop _, ih (i + 1) h2 _ c _ io1 (vs ++ [.ref T]) ((T, tup (.int kq t1) (.int c0 u0)) :: lt) hr' hlt hS1 hV1 (.inr ⟨b, tb, ⟨by have := hb.1; exact Nat.lt_succ_of_lt ‹_›, fun j hj => ?_⟩, by rw [hev b hb.1]⟩) F2 N2 off1⟩
        by_cases e : j = i
        · subst e; exact ⟨Int.not_lt.mp hb', fun h => absurd h (Nat.lt_asymm hb.1)⟩
        · exact hb1 j (Nat.lt_of_le_of_ne (Nat.le_of_lt_succ hj) e)
end
end Mine
end
section
open PySem PySem.W PyProof.Rows PyProof.V PySem.Calls PySem.Spec LCg
set_option Elab.async false
set_option maxRecDepth 100000
set_option maxHeartbeats 3000000
namespace Mine
theorem mro_object : mroOf (.type "object") = pure [.type "object"] := by rw [mroOf_type]; kernel_rfl
theorem lookup_object_new : typeLookup (.type "object") "__new__" = pure (some (.builtin "object.__new__")) := by rw [typeLookup_type, builtinLookup_eq_fast]; kernel_rfl
theorem made_object : Bind.madeBy (.type "object") = pure (some "object.__new__") := madeBy_type mro_object lookup_object_new (by decide +kernel)
theorem called_object : TypeCalled "object" "object.__new__" "object.__init__" :=
  ⟨by decide +kernel, by decide +kernel, ⟨_, _, mro_object⟩, made_object, by decide +kernel, F.sub_object_object, F.slot_object_init⟩
theorem typeCall_object_0 : checkTypeCall "object" ⟨[], []⟩ = pure () := by kernel_rfl
theorem newCall_object_0 : checkBuiltinCall "object.__new__" ⟨[.type "object"], []⟩ = pure () := by kernel_rfl
theorem static_object_eq : Bind.staticBase (.type "object") = pure (.type "object") := by
  unfold Bind.staticBase
  rw [mro_object]
  simp only [pure_bind, List.forIn_cons, made_object, Option.isSome_some, if_true]
theorem here_object : Bind.madeHere "object.__new__" (.type "object") = pure () := by
  unfold Bind.madeHere
  rw [static_object_eq]
  simp only [pure_bind, made_object]
  rw [if_neg (by decide +kernel)]
theorem no_refuse : ((Manifest.find? "object").elim false fun x => x.mro.any fun t => (Manifest.find? t).elim false (·.noNew)) = false := by decide +kernel
theorem no_del : diesByItsTypesDel "object" = false := by decide +kernel
theorem no_dict : typeHasDict (.type "object") = false := by decide +kernel
section
variable {prog : Program} {w : World} {A : Around} {E : Value → Shared → Prop} {s : Shared}
noncomputable abbrev objO : Obj := { cls := .type "object", data := .plain }
theorem call_object {h₀ : Heap} {L : Addr} {m : Str → Option Value} {news : List (Addr × Obj)} {Q : Value → Shared → Prop} (Fm : Fr h₀ L s.heap m) (N : News h₀ L s.heap news)
   (h : ∀ I h', Fr h₀ L h' m → News h₀ L h' ((I, objO) :: news) → (∀ p ∈ news, p.1 < I) → Q (.ref I) { s with heap := h' }) : wpAny (model prog w) A (call (.type "object") []) Q E s := by
  refine callType_meetsIn called_object typeCall_object_0 newCall_object_0 PySem.F.entry_object_new PySem.F.entry_object_init
    (S := fun A R s' => s' = s ∧ R (.ok (.ret (.ref s.heap.objs.size))) { s with heap := s.heap.push objO }) (.of_wp fun A R s' hs => ?_) (Q₁ := fun v s₁ => v = .ref s.heap.objs.size ∧ s₁ = { s with heap := s.heap.push objO }) ⟨rfl, rfl, rfl⟩ fun obj s₁ hq => ?_
  · obtain ⟨rfl, hR⟩ := hs
    unfold Builtin.«object.__new__»
    show wpAny _ _ (isType (.type "object") >>= _) _ _ _
    refine wpAny_bind (wpAny_of_eq (a := true) (by rfl) ?_)
    simp only [Bool.not_true, Bool.false_eq_true, if_false]
    rw [no_refuse, if_neg (by decide)]
    refine wpAny_bind (wpAny_of_eq here_object ?_)
    simp only [List.isEmpty_nil, Bool.not_true, Bool.or_self, Bool.false_eq_true, if_false, no_dict]
    refine wpAny_bind (wpAny_pure ?_)
    refine wpAny_bind (wpAny_newObj_type ?_ (by size_fits))
    rw [no_del, if_neg (by decide)]
    exact wpAny_pure ⟨_, rfl, hR⟩
  · obtain ⟨rfl, rfl⟩ := hq
    refine ⟨⟨_, Heap.get?_push_size _ rfl, rfl⟩, PySem.F.args_object_init_1 _, fun A R s' => R (.ok (.ret .none)) s', .of_wp fun prog w A R s' hs => ?_, rfl, h _ _ (Fm.push _) (News.push Fm N _ rfl) fun q hq => Heap.lt_size (N q hq).1⟩
    show wpAny _ _ (ret .none) _ _ _
    exact wpAny_pure ⟨_, rfl, hs⟩
end
end Mine
end
section
open PySem PySem.W PyProof.Rows PyProof.V PySem.Calls PySem.Spec LCg
set_option Elab.async false
set_option maxRecDepth 100000
set_option maxHeartbeats 3000000
namespace Mine
theorem max_args (a d v : Value) : argsOk "max" ⟨[a], [(Str.ofString "default", d), (Str.ofString "key", v)]⟩ := by unfold argsOk; kernel_rfl
section
variable {prog : Program} {w : World} {A : Around} {E : Value → Shared → Prop} {s : Shared} {h₀ : Heap} {L : Addr} {m : Str → Option Value} {fx : List (Addr × Obj)}
theorem max_items {Q : Value → Shared → Prop} {I g x dx : Addr} {dv : Value} {es : Array DictEntry} {N0 : Nat} {kvs : List (Int × Value)} {ps : List (Int × Int)} (hh : A.handled = none) (hD : DIs (PySem.intKind prog w) es kvs) (hi : IntsI kvs ps) (hx : (x, cnt es N0 dx) ∈ fx)
    (F : Fr h₀ L s.heap m) (N : News h₀ L s.heap ((I, itm x 0 kvs.length N0 .none false .none .none) :: fx)) (hfI : ∀ q ∈ fx, q.1 ≠ I)
    (turn : ∀ (a : Addr) k c t u h tk led, (a, tup (.int k t) (.int c u)) ∈ led → (∀ q ∈ fx, q ∈ led) → Fr h₀ L h m → News h₀ L h led → wpAny (model prog w) A.in1 (call (.ref g) [.ref a]) (KskEnd h₀ L m led c { s with heap := h, toks := tk }) (fun _ _ => False) { s with heap := h, toks := tk })
    (hQ0 : kvs.length = 0 → ∀ h tk, Fr h₀ L h m → News h₀ L h fx → Q dv { s with heap := h, toks := tk })
    (hQ1 : ∀ b h tk vs lt, Best (cnt_ ps) kvs.length b → TupsJ lt vs ps → Fr h₀ L h m → News h₀ L h (lt ++ fx) → Q (vs.getD b .none) { s with heap := h, toks := tk }) :
    wpAny (model prog w) A (call (.builtin "max") [.ref I] [(Str.ofString "default", dv), (Str.ofString "key", .ref g)]) Q E s := by
  have hname : (toString "max" ++ toString ".loop" : String) = "max.loop" := by decide
  refine kmk_tree PySem.F.kind_max PySem.F.plain_max PySem.F.entry_max (max_args _ _ _) ?_
  show wpAny _ A.in1 (Builtin.Builtins.bindParams "max" ["key", "default"] 0 ⟨[], [(Str.ofString "default", dv), (Str.ofString "key", .ref g)]⟩ >>= _) _ _ s
  refine wpAny_bind (wpAny_of_eq (show Builtin.Builtins.bindParams "max" ["key", "default"] 0 ⟨[], [(Str.ofString "default", dv), (Str.ofString "key", .ref g)]⟩ = pure [some (.ref g), some dv] from rfl) ?_)
  refine wpAny_bind (wpAny_pure ?_)
  refine wpAny_bind (iter_self (N _ (.head _)).1 rfl ?_)
  refine wpAny_bind (wpAny_newList ?_ (Nat.zero_le _))
  rw [hname]
  refine wpAny_pure ⟨plainId_quiet PySem.F.plain_max_loop _, ?_⟩
  have nI := N _ (.head _)
  have lo : ∀ q ∈ (I, itm x 0 kvs.length N0 .none false .none .none) :: fx, q.1 ≠ s.heap.objs.size := fun q hq => Nat.ne_of_lt (Heap.lt_size (N q hq).1)
  refine max_loop hh hD hi hx (S := s.heap.objs.size) (lo (I, itm x 0 kvs.length N0 .none false .none .none) (.head _)).symm (fun q hq => lo q (.tail _ hq)) hfI turn hQ0 hQ1 _ 0 _ _ 0 #[] (itm x 0 kvs.length N0 .none false .none .none) [] [] rfl (Nat.zero_le _) (.inl ⟨_, _, rfl⟩) .nil (.inl ⟨rfl, rfl⟩) (F.push _) (fun q hq => ?_) fun _ hq => nomatch hq
  rcases List.mem_cons.mp hq with rfl | hq
  · exact ⟨Heap.get?_push_size _ rfl, Nat.ne_of_gt F.ns.lt, Heap.get?_none_of_le (Nat.le_trans F.above (Nat.le_of_lt F.ns.lt))⟩
  · exact ⟨Heap.get?_push_of_some _ (N q hq).1, (N q hq).2⟩
end
end Mine
end
section
open PySem PySem.W PyProof.Rows PyProof.V PySem.Calls PySem.Spec Builtin Builtin.ObjectAttr LCg
set_option compiler.extract_closed false
set_option Elab.async false
set_option maxRecDepth 100000
set_option maxHeartbeats 3000000
namespace Mine
theorem fillZ13 : PySem.Challenge.rw_dn0005_11 = PySem.Challenge.rw_dn0005_11 ∧ Mine.hd11.heap_39 = Mine.hd11.heap_39 := by
  k_fill
  exact ⟨rfl, rfl⟩



local macro_rules | `(tactic| walk_at "call builtin:max") => `(tactic| (refine halt ?_))

local macro_rules | `(tactic| walk_at "call builtin:iter") => `(tactic| (k_here; (refine iter_view (knd := PySem.intKind _ _) ‹_› ‹_› (by k_mem) (by k_mem) rfl ‹_› ?_; intro I' h' F' N' l1; (try k_lt l1))))
local macro_rules | `(tactic| walk_at "call type:object") => `(tactic| (k_here; (refine call_object ‹_› ‹_› ?_; intro I' h' F' N' l1; (try k_lt l1))))


local macro_rules | `(tactic| walk_at "compareOp Is") => `(tactic| (refine halt ?_))

theorem all_lt {l : List (Addr × Obj)} {d : Nat} (h : AllLt d l) : ∀ p ∈ l, @LT.lt Nat _ p.1 d := by
  induction l with
  | nil => intro p hp; cases hp
  | cons q r ih =>
    intro p hp
    rcases List.mem_cons.mp hp with rfl | hp
    · exact h.1
    · exact ih h.2 p hp
theorem all_lt2 {l : List (Addr × Obj)} {a b d : Nat} (h : a < d ∧ b < d ∧ AllLt d l) : ∀ p ∈ l, @LT.lt Nat _ p.1 d := all_lt h.2.2
theorem news_swap {h₀ h : Heap} {L : Addr} {a b : Addr × Obj} {r : List (Addr × Obj)} (N : News h₀ L h (a :: b :: r)) : News h₀ L h (b :: a :: r) := fun q hq => by
  rcases List.mem_cons.mp hq with rfl | hq
  · exact N _ (.tail _ (.head _))
  rcases List.mem_cons.mp hq with rfl | hq
  · exact N _ (.head _)
  · exact N _ (.tail _ (.tail _ hq))
theorem is_not_object {M : Model} {A : Around} {E : Value → Shared → Prop} {s : Shared} {x y : Addr} {a b : Value} {Q : Value → Shared → Prop} (hxy : x ≠ y) (hx : s.heap.get? x = some (tup a b)) (hy : s.heap.get? y = some objO) (h : Q (.bool false) s) : wpAny M A (compareOp .Is (.ref x) (.ref y)) Q E s := by
  show wpAny M A (isSame (.ref x) (.ref y) >>= fun b => pure (.bool b)) Q E s
  refine wpAny_bind ?_
  show wpAny M A (if (x == y) = true then pure true else _) _ E s
  rw [if_neg (by simpa using hxy)]
  exact wpAny_bind (wpAny_load hx (wpAny_bind (wpAny_load hy (wpAny_pure (wpAny_pure h)))))
section
variable {prog : Program} {w : World} {A₀ : Around} {base h₀ : Heap} {outer : List Env} {e0 : Env} {L : Addr} {m mg mb : Str → Option Value} {mean : ExcName → Option Value} {s : Shared} {R : Result → Shared → Prop} {rest : List (Addr × Obj)}
/-- nlargest(1, items, key): the road over max -/
theorem nl_one {tn : Tok} {v x dx g dg t : Addr} {tg : Tok} {es : Array DictEntry} {N0 : Nat} {kvs : List (Int × Value)} {ps : List (Int × Int)} (hD : DIs (PySem.intKind prog w) es kvs) (hi : IntsI kvs ps) (hn : kvs.length < 64)
   (hsx : (x == sysModules) = false) (B : Below A₀ base outer h₀) (F : Fr h₀ L s.heap m) (X : (Mine.hd11.heap_39 w.params).In h₀) (N : News h₀ L s.heap ((v, iview x) :: (g, one 867 dg (.ref t)) :: (dg, dictOf [] 0) :: (t, tup1 (.int 1 tg)) :: (x, cnt es N0 dx) :: (dx, dictOf [] 0) :: rest)) (T : Top vw ls mean mg mb h₀)
   (kk : ∀ S h' tk us l c, TupsJ l us ((dueP ps).take 1) → Fr h₀ L h' m → News h₀ L h' ((S, listOf us.toArray c) :: (l ++ (v, iview x) :: (g, one 867 dg (.ref t)) :: (dg, dictOf [] 0) :: (t, tup1 (.int 1 tg)) :: (x, cnt es N0 dx) :: (dx, dictOf [] 0) :: rest)) → (∀ p ∈ l ++ (v, iview x) :: (g, one 867 dg (.ref t)) :: (dg, dictOf [] 0) :: (t, tup1 (.int 1 tg)) :: (x, cnt es N0 dx) :: (dx, dictOf [] 0) :: rest, p.1 < S) → R (.ok (.ret (.ref S))) { s with heap := h', toks := tk })
   : codeAny (model prog w) (AK 9 (ek e0 L) outer) (.call (.ref 656) ⟨[.int 1 tn, .ref v], [(Str.ofString "key", .ref g)]⟩) R s := by
  k_enter
  k_steps
  unfold Halt
  rename Fr _ _ _ _ => F2
  rename News _ _ _ _ => N2
  refine max_items (x := x) (dx := dx) (es := es) (N0 := N0) (kvs := kvs) (ps := ps) rfl hD hi ?hx F2 (news_swap N2) ?hfI ?turn (fun h0 h5 tk5 F5 N5 => ?_) (fun b h5 tk5 vs lt hb hV F5 N5 => ?_)
  case hx => k_mem
  case hfI => exact List.forall_mem_cons.mpr ⟨Nat.ne_of_gt (by omega), all_ne ‹_› (Nat.le_refl _)⟩
  case turn =>
    intro a k c t1 u1 h5 tk5 led hm hs F5 N5
    refine (ig_turn (prog := prog) (l := 13) (s := s) (lt := [(a, tup (.int k t1) (.int c u1))]) (vs := [.ref a]) (ps := [(k, c)]) (g := g) (dg := dg) (t := t) (tk := tg) (news := led) (by decide) (by exact rfl) (by exact rfl) (by exact rfl) (by exact rfl) (by exact rfl) (Nat.le_of_ble_eq_true rfl) (Nat.le_of_ble_eq_true rfl) ‹_› (by k_asm) (by k_asm) ?_ ?_ ?_ (.cons (.head _) .nil)) 0 (.ref a) c rfl rfl h5 tk5 led (fun q hq => ?_) F5 N5
    · exact hs _ (by k_mem)
    · exact hs _ (by k_mem)
    · exact hs _ (by k_mem)
    · rcases List.mem_append.mp hq with hq | hq
      · rw [List.mem_singleton.mp hq]; exact hm
      · exact hq
  · clear N2 F2
    k_steps
    have p0 : ps = [] := List.eq_nil_of_length_eq_zero (by rw [← hi.length]; exact h0)
    refine kk _ _ _ [] [] 0 (by rw [p0]; exact .nil) ‹_› (news_sub ‹_› fun p hp => ?_) fun p hp => ?_
    · rcases List.mem_cons.mp hp with rfl | hp
      · exact .head _
      · exact .tail _ (.tail _ (.tail _ hp))
    · exact all_lt2 ‹_› p hp
  · clear N2 F2
    obtain ⟨a, t1, u1, ea, hma⟩ := hV.getD (i := b) (by rw [← hi.length]; exact hb.1)
    rw [ea]
    have hmS := (N5 _ (List.mem_append_left _ hma))
    have hoS := N5 (_, objO) (List.mem_append_right _ (.head _))
    have hne : a ≠ _ := fun q => by
      rw [q] at hmS
      exact (show Value.type "tuple" ≠ Value.type "object" by decide) (congrArg Obj.cls (Option.some.inj (hmS.1.symm.trans hoS.1)))
    k_steps
    unfold Halt
    rename News _ _ _ _ => N6
    refine is_not_object hne (N6 _ (List.mem_append_left _ hma)).1 (N6 (_, objO) (List.mem_append_right _ (.head _))).1 ?_
    k_steps
    rw [hi.length] at hb
    refine kk _ _ _ [.ref a] lt 0 ?_ ‹_› (news_sub ‹_› fun p hp => ?_) fun p hp => ?_
    · unfold dueP
      rw [← List.map_take, hb.head]
      exact .cons hma .nil
    · rcases List.mem_cons.mp hp with rfl | hp
      · exact .head _
      · refine .tail _ ((List.mem_append.mp hp).elim (List.mem_append_left _) fun h => List.mem_append_right _ (.tail _ (.tail _ h)))
    · rename (∀ p, p ∈ lt ++ _ → _) => hl
      exact hl p ((List.mem_append.mp hp).elim (List.mem_append_left _) fun h => List.mem_append_right _ (.tail _ (.tail _ h)))
end
end Mine
end
section
open PySem PySem.W PyProof.Rows PyProof.V PySem.Calls PySem.Spec Builtin Builtin.ObjectAttr
set_option compiler.extract_closed false
set_option Elab.async false
set_option maxRecDepth 100000
set_option maxHeartbeats 3000000
namespace Mine
theorem fillZ14 : PySem.Challenge.rw_dn0005_11 = PySem.Challenge.rw_dn0005_11 ∧ Mine.hd11.heap_39 = Mine.hd11.heap_39 := by
  k_fill
  exact ⟨rfl, rfl⟩
section
variable {prog : Program} {w : World} {A₀ : Around} {base h₀ : Heap} {outer : List Env} {e0 : Env} {L : Addr} {m mg mb : Str → Option Value} {mean : ExcName → Option Value} {s : Shared} {R : Result → Shared → Prop} {rest : List (Addr × Obj)}
theorem TupsJ.due {l : List (Addr × Obj)} {vs : List Value} {ps : List (Int × Int)} (h : TupsJ l vs ps) (k : Nat) : TupsJ l ((dueV ps vs).take k) ((dueP ps).take k) := by
  unfold dueV dueP
  rw [← List.map_take, ← List.map_take]
  exact h.pick fun i hi => dueI_mem.mp (List.mem_of_mem_take hi)
theorem nl_spec {n : Int} {tn : Tok} {v x dx g dg t : Addr} {tg : Tok} {es : Array DictEntry} {N0 : Nat} {kvs : List (Int × Value)} {ps : List (Int × Int)} (hD : DIs (PySem.intKind prog w) es kvs) (hi : IntsI kvs ps) (hn : kvs.length < 64)
   (hsx : (x == sysModules) = false) (B : Below A₀ base outer h₀) (F : Fr h₀ L s.heap m) (X : (Mine.hd11.heap_39 w.params).In h₀) (N : News h₀ L s.heap ((v, iview x) :: (g, one 867 dg (.ref t)) :: (dg, dictOf [] 0) :: (t, tup1 (.int 1 tg)) :: (x, cnt es N0 dx) :: (dx, dictOf [] 0) :: rest)) (T : Top vw ls mean mg mb h₀)
   (kk : ∀ S h' tk us l c, TupsJ l us ((dueP ps).take n.toNat) → Fr h₀ L h' m → News h₀ L h' ((S, listOf us.toArray c) :: (l ++ (v, iview x) :: (g, one 867 dg (.ref t)) :: (dg, dictOf [] 0) :: (t, tup1 (.int 1 tg)) :: (x, cnt es N0 dx) :: (dx, dictOf [] 0) :: rest)) → (∀ p ∈ l ++ (v, iview x) :: (g, one 867 dg (.ref t)) :: (dg, dictOf [] 0) :: (t, tup1 (.int 1 tg)) :: (x, cnt es N0 dx) :: (dx, dictOf [] 0) :: rest, p.1 < S) → R (.ok (.ret (.ref S))) { s with heap := h', toks := tk })
   : codeAny (model prog w) (AK 9 (ek e0 L) outer) (.call (.ref 656) ⟨[.int n tn, .ref v], [(Str.ofString "key", .ref g)]⟩) R s := by
  by_cases h1 : n = 1
  · subst h1
    exact nl_one hD hi hn hsx B F X N T kk
  · rcases Int.lt_or_le n kvs.length with h2 | h2
    · exact nl_some hD hi hn h1 h2 hsx B F X N T kk
    · exact nl_all hD hi hn h1 h2 hsx B F X N T fun S h' tk vs l c hT F' N' l' => kk S h' tk _ l c (hT.due _) F' N' l'
theorem led4 {h₀ h : Heap} {L : Addr} {a e b c d : Addr × Obj} {r : List (Addr × Obj)} (N : News h₀ L h (a :: e :: b :: c :: d :: r)) : News h₀ L h (d :: b :: c :: a :: r) := news_sub N (by kqd_sub)
local macro_rules | `(tactic| k_all) => `(tactic| (((repeat (rename And _ _ => hx; cases hx)); (exact all_ne ‹_› (by omega)))))
local macro_rules | `(tactic| walk_at "getMethod ref") => `(tactic| (k_here; refine cnt_items_meth (by k_asm) (by k_asm) (by k_asm) (by k_mem) (by k_mem) ?_))
local macro_rules | `(tactic| walk_at "call builtin:dict.items") => `(tactic| (k_here; (refine cnt_items_K (by k_asm) (by k_asm) (by k_asm) (by k_mem) (by k_mem) ‹_› ?_; intro v' h' F' N' l1)))
local macro_rules | `(tactic| walk_at "call ref") => `(tactic| ((with_reducible show wpAny _ _ (call (Value.ref 656) _ _) _ _ _); refine halt ?_))
theorem most_n {n : Int} {tn : Tok} {x dx : Addr} {es : Array DictEntry} {N0 : Nat} {kvs : List (Int × Value)} {ps : List (Int × Int)} (hD : DIs (PySem.intKind prog w) es kvs) (hi : IntsI kvs ps) (hn : kvs.length < 64) (hsx : (x == sysModules) = false) (B : Below A₀ base outer h₀) (F : Fr h₀ L s.heap m) (X : (Mine.hd11.heap_39 w.params).In h₀) (N : News h₀ L s.heap ((x, cnt es N0 dx) :: (dx, dictOf [] 0) :: rest)) (T : Top vw ls mean mg mb h₀)
   (kk : ∀ S h' tk us l c, TupsJ l us ((dueP ps).take n.toNat) → Fr h₀ L h' m → News h₀ L h' ((S, listOf us.toArray c) :: (l ++ (x, cnt es N0 dx) :: (dx, dictOf [] 0) :: rest)) → (∀ p ∈ l ++ (x, cnt es N0 dx) :: (dx, dictOf [] 0) :: rest, p.1 < S) → R (.ok (.ret (.ref S))) { s with heap := h', toks := tk })
   : codeAny (model prog w) (AK 8 (ek e0 L) outer) (.call (.ref 909) ⟨[.ref x, .int n tn], []⟩) R s := by
  k_enter
  k_steps
  unfold Halt
  rename Fr _ _ _ _ => F2
  rename News _ _ _ _ => N2
  refine use_at 9 rfl rfl rfl rfl rfl (Nat.le_of_ble_eq_true rfl) (Nat.le_of_ble_eq_true rfl) (nl_spec hD hi hn hsx ‹_› F2 (by k_asm) (led4 N2) (by k_asm) fun S h3 tk3 us l c hT F3 N3 l3 => ?_)
  dsimp only
  clear F2 N2
  k_steps
  refine kk S _ _ us l c hT ‹_› (news_sub ‹_› fun p hp => ?_) fun p hp => l3 p ?_
  · rcases List.mem_cons.mp hp with rfl | hp
    · exact .head _
    · exact .tail _ ((List.mem_append.mp hp).elim (List.mem_append_left _) fun h => List.mem_append_right _ (.tail _ (.tail _ (.tail _ (.tail _ h)))))
  · exact (List.mem_append.mp hp).elim (List.mem_append_left _) fun h => List.mem_append_right _ (.tail _ (.tail _ (.tail _ (.tail _ h))))
end
end Mine
end
section
open PySem PySem.W PyProof.Rows PyProof.V PySem.Calls PySem.Spec Builtin Builtin.ObjectAttr
set_option compiler.extract_closed false
set_option Elab.async false
set_option maxRecDepth 100000
set_option maxHeartbeats 3000000
namespace Mine
local macro_rules | `(tactic| walk_at "none0") => `(tactic| skip)
theorem fillQ1 : PySem.Challenge.rw_dn0005_11 = PySem.Challenge.rw_dn0005_11 ∧ Mine.hd11.heap_39 = Mine.hd11.heap_39 := by
  k_fill
  exact ⟨rfl, rfl⟩
theorem nine {l : List Int} (hn : l.Nodup) (h : ∀ a ∈ l, 0 ≤ a ∧ a < 9) : l.length ≤ 9 := by
  have := len_sub (S := (List.range 9).map fun k : Nat => (k : Int)) hn fun a ha => by
    obtain ⟨n, rfl⟩ := Int.eq_ofNat_of_zero_le (h a ha).1
    exact List.mem_map_of_mem (List.mem_range.mpr (Int.ofNat_lt.mp (h _ ha).2))
  rwa [List.length_map, List.length_range] at this
noncomputable abbrev mA (y d : Addr) (xv : Option Value) : Str → Option Value := fun z => if z = Str.ofString "x" then xv else if z = Str.ofString "counts" then some (Value.ref d) else if z = Str.ofString "script" then some (Value.ref y) else none
theorem mA_set {y d : Addr} {xv : Option Value} {v : Value} (z : Str) : (if z = Str.ofString "x" then some v else mA y d xv z) = mA y d (some v) z := by
  unfold mA
  by_cases h1 : z = Str.ofString "x"
  · rw [if_pos h1, if_pos h1]
  · rw [if_neg h1, if_neg h1, if_neg h1]
theorem mA_new {y d : Addr} (z : Str) : (if z = Str.ofString "counts" then some (Value.ref d) else if z = Str.ofString "script" then some (Value.ref y) else none) = mA y d none z := by
  unfold mA
  by_cases h1 : z = Str.ofString "x"
  · subst h1; rfl
  · rw [if_neg h1]
/-- the cells and the script -/
noncomputable abbrev nA (L1 y : Addr) (o1 o2 o3 oy : Obj) : List (Addr × Obj) := [(L1 + 1 + 1 + 1, o3), (L1 + 1 + 1, o2), (L1 + 1, o1), (y, oy)]
local macro_rules | `(tactic| walk_at "UnrPostW") => `(tactic| (refine halt ?_))

local macro_rules | `(tactic| walk_at "pyIter ref") => `(tactic| (refine halt ?_))
local macro_rules | `(tactic| walk_at "exec For Name Name cons nil") => `(tactic| (refine halt ?_))


section
variable {prog : Program} {w : World} {A₀ : Around} {base g1 : Heap} {outer : List Env} {e0 : Env} {L L1 : Addr} {mg mb : Str → Option Value} {mean : ExcName → Option Value} {s : Shared} {Q : Flow → Shared → Prop} {E : Value → Shared → Prop}
theorem law_head {name qual : Str} {params : Arguments} {body : List Stmt} {scope : Scope} {dV kV doc pm cdv ct oc : Value} {an od : Option Addr} {osl : Array (Option Value)}
    (ho : (Mine.hd11.heap_39 w.params).lookup 1102 = some ⟨oc, od, .func (fnOf name qual params body scope dV kV doc pm an cdv ct), osl⟩)
    {y : Addr} {oy o1 o2 o3 : Obj} {vs : List Value} {ns : List Int} {n : Nat} (hv : IntsAre vs ns) (hl : vs.length ≤ 63) (hoc : oy.cls = .type "list") (hod : oy.data = .seq vs.toArray n) (l1 : y < L1)
    (d1' : o1.data = .cell none) (d2' : o2.data = .cell none) (d3' : o3.data = .cell none)
    (B1 : Below callerA base [] g1) (X1 : (Mine.hd11.heap_39 w.params).In g1) (T1 : Top vw ls mean mg mb g1)
    (F1 : Fr g1 L1 s.heap (fun z => if z = Str.ofString "script" then some (Value.ref y) else none)) (N1 : News g1 L1 s.heap [(L1 + 1 + 1 + 1, o3), (L1 + 1 + 1, o2), (L1 + 1, o1), (y, oy)])
    (hE : PassesOwn (model prog w) (callerA.deeper (envOfC qual scope L1 1102 cdv)) (envOfC qual scope L1 1102 cdv) E)
    (rest_ok : ∀ d od kvs ps xv h' tk, od.IsDictOf (PySem.intKind prog w) kvs → IntsI kvs ps → ps.length ≤ 9 → (d == sysModules) = false → L1 + 1 + 1 + 1 < d ∧ L1 + 1 + 1 < d ∧ L1 + 1 < d ∧ y < d → Fr g1 L1 h' (mA y d xv) → News g1 L1 h' ((d, od) :: nA L1 y o1 o2 o3 oy) →
      wpAny (model prog w) (callerA.deeper (envOfC qual scope L1 1102 cdv)) (execs (body.drop 2) (envOfC qual scope L1 1102 cdv)) Q E { s with heap := h', toks := tk }) :
    wpAny (model prog w) (callerA.deeper (envOfC qual scope L1 1102 cdv)) (execs body (envOfC qual scope L1 1102 cdv)) Q E s := by
  have e := ho.symm.trans (by k_is : (Mine.hd11.heap_39 w.params).lookup 1102 = some _)
  cases e
  replace l1 : @LT.lt Nat _ y L1 := l1
  k_steps
  unfold Halt
  rename Fr _ _ _ _ => F2
  rename_i d hh1 od hds _ _ hdi _ ld hh2 N2
  refine For_turns F2 ?_ (hE := hE)
  k_steps
  unfold Halt
  rename News _ _ _ _ => N3
  rename Fr _ _ _ _ => F3
  refine iter_listTurns (lo := oy) (vs := vs) rfl F3 N3 (by k_mem) hoc hod ?_
  intro I hI
  have hId : @LT.lt Nat _ d I := hI (d, od) (by k_mem)
  have ld1 : @LT.lt Nat _ (L1 + 1 + 1 + 1) d := ld.1
  have ld2 : @LT.lt Nat _ (L1 + 1 + 1) d := ld.2.1
  have ld3 : @LT.lt Nat _ (L1 + 1) d := ld.2.2.1
  have ld4 : @LT.lt Nat _ y d := ld.2.2.2
  obtain ⟨Jn, hJn⟩ : ∃ Jn : Nat → (Str → Option Value) → List (Addr × Obj) → Prop, ∀ i m' news', Jn i m' news' ↔ ∀ G : Prop, (∀ od kvs cs xv, od.IsDictOf (PySem.intKind prog w) kvs → IntsI kvs cs → cs.length ≤ i → (∀ q ∈ cs, 0 ≤ q.1 ∧ q.1 < 9) → m' = mA y d xv → news' = (d, od) :: nA L1 y o1 o2 o3 oy → G) → G := ⟨_, fun _ _ _ => Iff.rfl⟩
  refine ints_fold Jn vs.length ?_ hv 0 _ _ (Nat.le_of_eq (Nat.zero_add _)) ?_ ?_
  · intro i x t m' news' hlt hJ h tk hF
    refine (hJn _ _ _).mp hJ _ ?_
    clear hJ
    rintro od1 kvs1 cs1 xv hd1 hi1 hlen hc1 rfl rfl
    intro oI hoI hN
    have hsz1 : kvs1.length ≤ sizeLine := by
      rw [hi1.length, PySem.sizeLine_eq]
      have h1 : cs1.length ≤ i := hlen
      have h2 : i < vs.length := hlt
      lia
    k_steps
    all_goals (
      rename News _ _ _ _ => N4
      rename Fr _ _ _ _ => F4
      dsimp only
      refine kda_set (knd := PySem.intKind prog w) (d := d) (o := od1) (kvs := kvs1) (k := Int.fmod x 9) F4 N4 (by k_updF) hd1 (intKind_is _ _ _ _) hsz1 fun h5 od2 F5 N5 hd2 => ?_
      dsimp only at N5
      obtain ⟨c, t2, hd3⟩ : ∃ c t2, od2.IsDictOf (PySem.intKind prog w) (stored kvs1 (Int.fmod x 9) (.int c t2)) := ⟨_, _, hd2⟩
      obtain ⟨cs2, hi2, hl2, hb2⟩ := hi1.put (k := Int.fmod x 9) (c := c) (t := t2)
      k_steps
      unfold Halt
      exact ⟨h5, _, _, (d, od2) :: nA L1 y o1 o2 o3 oy, rfl, F5, news_sub N5 (by kqd_sub), fun p hp q hq => List.mem_singleton.mp hq ▸ ne_map (p := (· ≠ I)) (l := (d, od) :: nA L1 y o1 o2 o3 oy) (l' := (d, od2) :: nA L1 y o1 o2 o3 oy) rfl (fun q hq => Nat.ne_of_lt (hI q hq)) p hp, subL_of (fun p hp => List.mem_singleton.mp hp ▸ (by k_mem)), (hJn _ _ _).mpr fun G g => g od2 _ cs2 (some (.int x t)) hd3 hi2 (Nat.le_trans hl2 (Nat.succ_le_succ hlen)) (fun q hq => (hb2 q hq).elim (hc1 q) fun h => h ▸ ⟨Int.fmod_nonneg_of_pos x (show (0 : Int) < 9 by decide), Int.fmod_lt_of_pos x (show (0 : Int) < 9 by decide)⟩) (funext fun z => mA_set z) rfl⟩)
  · exact (hJn _ _ _).mpr fun G g => g od [] [] none hdi .nil (Nat.le_refl _) (fun _ h => nomatch h) (funext fun z => mA_new z) rfl
  · intro m' news' hJ h8 tk8 F8 N8
    refine (hJn _ _ _).mp hJ _ ?_
    rintro od1 kvs1 cs1 xv hd1 hi1 hlen hc1 rfl rfl
    dsimp only
    have hnd1 : (cs1.map (·.1)).Nodup := hi1.keys ▸ (let ⟨_, _, _, _, _, _, h⟩ := hd1; h)
    exact rest_ok d od1 kvs1 cs1 xv h8 tk8 hd1 hi1 (by have := nine hnd1 (fun a ha => by obtain ⟨q, hq, rfl⟩ := List.mem_map.mp ha; exact hc1 q hq); rwa [List.length_map] at this) hds ld F8 N8
end
end Mine
end
section
open PySem PySem.W PyProof.Rows PyProof.V PySem.Calls PySem.Spec Builtin Builtin.ObjectAttr
set_option compiler.extract_closed false
set_option Elab.async false
set_option maxRecDepth 100000
set_option maxHeartbeats 3000000
namespace Mine
theorem fillQ2 : PySem.Challenge.rw_dn0005_11 = PySem.Challenge.rw_dn0005_11 ∧ Mine.hd11.heap_39 = Mine.hd11.heap_39 := by
  k_fill
  exact ⟨rfl, rfl⟩






section
variable {prog : Program} {w : World} {A₀ : Around} {base g1 : Heap} {outer : List Env} {e0 : Env} {L L1 : Addr} {mg mb : Str → Option Value} {mean : ExcName → Option Value} {s : Shared} {Q : Flow → Shared → Prop} {E : Value → Shared → Prop}
theorem cell_set {prog : Program} {w : World} {A : Around} {E : Value → Shared → Prop} {s : Shared} {h₀ : Heap} {L c : Addr} {m : Str → Option Value} {led : List (Addr × Obj)} {o : Obj} {v0 : Option Value} {v : Value} {env : Env} {name : Str} {Q : Unit → Shared → Prop}
    (F : Fr h₀ L s.heap m) (N : News h₀ L s.heap ((c, o) :: led)) (hd : o.data = .cell v0) (off : ∀ q ∈ led, q.1 ≠ c) (hk : env.scope.kind = .function) (hl : env.kindOf name = some .cell) (hc : env.cells.lookup name = some c)
    (h : ∀ o' h', o'.data = .cell (some v) → Fr h₀ L h' m → News h₀ L h' ((c, o') :: led) → Q () { s with heap := h' }) : wpAny (model prog w) A (storeName env name v) Q E s := by
  have nc := N _ (.head _)
  refine wpAny_storeName_cell hk hl hc ⟨o, nc.1, hd⟩ fun h' hv hs => ?_
  obtain ⟨o', ho', hd'⟩ := hv
  refine h o' h' hd' (ksk_fr F hs nc.2.1 nc.2.2) fun q hq => ?_
  rcases List.mem_cons.mp hq with rfl | hq
  · exact ⟨ho', nc.2⟩
  · exact ksk_news (fun q hq => N q (.tail _ hq)) hs off q hq
local macro_rules | `(tactic| walk_at "call type:list") => `(tactic| (refine halt ?_))

theorem law_pairs {name qual : Str} {params : Arguments} {body : List Stmt} {scope : Scope} {dV kV doc pm cdv ct oc : Value} {an od' : Option Addr} {osl : Array (Option Value)}
    (ho : (Mine.hd11.heap_39 w.params).lookup 1102 = some ⟨oc, od', .func (fnOf name qual params body scope dV kV doc pm an cdv ct), osl⟩)
    {y d : Addr} {oy o1 o2 o3 od : Obj} {kvs : List (Int × Value)} {ps : List (Int × Int)} {xv : Option Value}
    (hd : od.IsDictOf (PySem.intKind prog w) kvs) (hi : IntsI kvs ps) (hl : ps.length ≤ 9) (hds : (d == sysModules) = false) (ld : L1 + 1 + 1 + 1 < d ∧ L1 + 1 + 1 < d ∧ L1 + 1 < d ∧ y < d)
    (d1' : o1.data = .cell none) (d2' : o2.data = .cell none) (d3' : o3.data = .cell none)
    (B1 : Below callerA base [] g1) (X1 : (Mine.hd11.heap_39 w.params).In g1) (T1 : Top vw ls mean mg mb g1)
    (F1 : Fr g1 L1 s.heap (mA y d xv)) (N1 : News g1 L1 s.heap ((d, od) :: nA L1 y o1 o2 o3 oy))
    (hE : PassesOwn (model prog w) (callerA.deeper (envOfC qual scope L1 1102 cdv)) (envOfC qual scope L1 1102 cdv) E) (l1 : @LT.lt Nat _ y L1)
    (rest_ok : ∀ P n vs lt o1' h' tk, TupsJ lt vs ps → o1'.data = .cell (some (.ref P)) → Fr g1 L1 h' (mA y d xv) → News g1 L1 h' ((P, listOf vs.toArray n) :: (d, od) :: (L1 + 1 + 1 + 1, o3) :: (L1 + 1 + 1, o2) :: (L1 + 1, o1') :: (y, oy) :: lt) →
      (@LT.lt Nat _ (L1 + 1 + 1 + 1) P ∧ @LT.lt Nat _ (L1 + 1 + 1) P ∧ @LT.lt Nat _ (L1 + 1) P ∧ @LT.lt Nat _ y P ∧ @LT.lt Nat _ d P) → (∀ q ∈ lt, @LE.le Nat _ P q.1) →
      wpAny (model prog w) (callerA.deeper (envOfC qual scope L1 1102 cdv)) (execs (body.drop 3) (envOfC qual scope L1 1102 cdv)) Q E { s with heap := h', toks := tk }) :
    wpAny (model prog w) (callerA.deeper (envOfC qual scope L1 1102 cdv)) (execs (body.drop 2) (envOfC qual scope L1 1102 cdv)) Q E s := by
  have e := ho.symm.trans (by k_is : (Mine.hd11.heap_39 w.params).lookup 1102 = some _)
  cases e
  dsimp only [List.drop]
  k_steps
  unfold Halt
  rename News _ _ _ _ => N2
  rename Fr _ _ _ _ => F2
  obtain ⟨es9, ep9, hex9, hdat9, hk9, hp9, hnd9⟩ := id hd
  refine list_items_I rfl F2 N2 (by k_mem) (oo := od) (y := d) (by k_mem) hdat9 ⟨hk9, hp9, hnd9⟩ hi (by rw [hi.length, PySem.sizeLine_eq]; exact Nat.le_trans ‹_› (by decide)) fun P h8 tk8 vs8 l8 n8 hT8 F8 N8 lP m8 => ?_
  clear N2 F2
  have N9 : News g1 L1 h8 ((P, listOf vs8.toArray n8) :: (d, od) :: (L1 + 1 + 1 + 1, o3) :: (L1 + 1 + 1, o2) :: (L1 + 1, o1) :: (y, oy) :: l8) := news_sub N8 fun q hq => by
    simp only [List.mem_cons] at hq
    rcases hq with h | h | h | h | h | h | h
    · exact h ▸ .head _
    · exact .tail _ (List.mem_append_right _ (h ▸ (by k_mem)))
    · exact .tail _ (List.mem_append_right _ (h ▸ (by k_mem)))
    · exact .tail _ (List.mem_append_right _ (h ▸ (by k_mem)))
    · exact .tail _ (List.mem_append_right _ (h ▸ (by k_mem)))
    · exact .tail _ (List.mem_append_right _ (h ▸ (by k_mem)))
    · exact .tail _ (List.mem_append_left _ h)
  have p1 : @LT.lt Nat _ (L1 + 1 + 1 + 1) P := lP (L1 + 1 + 1 + 1, o3) (by k_mem)
  have p2 : @LT.lt Nat _ (L1 + 1 + 1) P := lP (L1 + 1 + 1, o2) (by k_mem)
  have p3 : @LT.lt Nat _ (L1 + 1) P := lP (L1 + 1, o1) (by k_mem)
  have p4 : @LT.lt Nat _ y P := lP (y, oy) (by k_mem)
  have p5 : @LT.lt Nat _ d P := lP (d, od) (by k_mem)
  clear N8
  have N10 : News g1 L1 h8 ((L1 + 1, o1) :: (P, listOf vs8.toArray n8) :: (d, od) :: (L1 + 1 + 1 + 1, o3) :: (L1 + 1 + 1, o2) :: (y, oy) :: l8) := news_sub N9 (by kqd_sub)
  clear N9
  k_steps
  refine cell_set (c := L1 + 1) (o := o1) F8 N10 d1' (fun q hq => ?_) rfl (by rfl) (by rfl) fun o1' h9 e1 F9 N9 => ?_
  · simp only [List.mem_cons] at hq
    rcases hq with rfl | rfl | rfl | rfl | rfl | hq
    · exact Nat.ne_of_gt p3
    · exact Nat.ne_of_gt (show @LT.lt Nat _ (L1 + 1) d from ld.2.2.1)
    · exact Nat.ne_of_gt (by dsimp only; lia)
    · exact Nat.ne_of_gt (by dsimp only; exact Nat.lt_succ_self _)
    · exact Nat.ne_of_lt (show @LT.lt Nat _ y (L1 + 1) by exact Nat.lt_succ_of_lt ‹_›)
    · exact Nat.ne_of_gt (Nat.lt_of_lt_of_le p3 (m8 q hq))
  · refine rest_ok P n8 vs8 l8 o1' h9 _ hT8 e1 F9 (news_sub N9 (by kqd_sub)) ⟨p1, p2, p3, p4, p5⟩ m8
end
end Mine
end
section
open PySem PySem.W PyProof.Rows PyProof.V PySem.Calls PySem.Spec LCg
set_option compiler.extract_closed false
set_option Elab.async false
set_option maxRecDepth 100000
set_option maxHeartbeats 3000000
namespace Mine
section
variable {prog : Program} {w : World} {A : Around} {E : Value → Shared → Prop} {s : Shared} {h₀ : Heap} {L : Addr} {m : Str → Option Value} {led : List (Addr × Obj)} {env : Env}
theorem const_block {iter : Expr} {np : Str} {elts : List Expr} {p1 pe : Pos} {kk : Nat} {scope : Scope} {cl : List (Str × Addr)} {pos : Pos} {P It : Addr} {vs : List Value} {a b : Int} {s₂ : Shared} {RR : Value → Addr → Result → Shared → Prop}
    (hh : A.handled = none) (hsz : vs.length < 64) (hl : ∀ h, News h₀ L h led → h.IsList P vs.toArray) (hP : ∃ o, (P, o) ∈ led)
    (helt : ∀ (C : Addr) (s' : Shared) (Q' : List Value → Shared → Prop) (E' : Value → Shared → Prop), (∀ t u tk, Q' [.int a t, .int b u] { s' with toks := tk }) → wpAny (model prog w) A (spliced (backTo pe (starEach elts (compEnvC scope cl C env)))) Q' E' s')
    (hcell : ∀ y ∈ scope.names, y.2 ≠ .cell) (hkind : scope.kind = .function) (ha : scope.names.lookup np = some .local)
    (F : Fr h₀ L s₂.heap m) (N : News h₀ L s₂.heap led) (lowI : ∀ q ∈ led, @LT.lt Nat _ q.1 It) (hit0 : s₂.heap.IsListIter It P 0) (lLI : @LT.lt Nat _ L It)
    (hRR : ∀ S C h tk m' ys lt, TupsJ lt ys (List.replicate vs.length (a, b)) → Fr h₀ L h m → News h₀ L h ((S, lst ys) :: (lt ++ led)) → (∀ p ∈ led, @LT.lt Nat _ p.1 S) → (∀ p ∈ lt, @LT.lt Nat _ C p.1) → h.Ns C m' → h₀.get? C = none → C ≠ L → @LT.lt Nat _ S C → RR (.ref S) C (.ok .next) { s₂ with heap := h, toks := tk }) :
    wpAny (model prog w) A (newList []) (fun acc s₃ => wpAny (model prog w) A (newFunctionEnv scope env.globals cl [] env.qual none .none (some env)) (fun cenv s₄ =>
      codeAny (model prog w) A (.compStart (.ListComp (.Tuple elts kk pe) [⟨.Name np p1, iter, [], 0⟩] scope pos) 0 (.ref It) acc { cenv with scope := relabel scope env }) (RR acc cenv.locals) s₄) E s₃) E s₂ := by
  refine comp_begin hcell hkind F fun S C h₁ tk₀ lLS lSC fresh old hns₁ hacc => ?_
  have lIS : @LT.lt Nat _ It S := by
    obtain ⟨o, e, _⟩ := hit0
    exact (old _ _ e).1
  have lIC := Nat.lt_trans lIS lSC
  have fS := fresh S lLS
  have fC := fresh C (Nat.lt_trans lLS lSC)
  have hex : ∀ c, (c = It ∨ c = C ∨ c = S) → c ≠ L ∧ h₀.get? c = none := fun c e => e.elim (fun q => q ▸ fresh It lLI) fun e => e.elim (fun q => q ▸ fC) fun q => q ▸ fS
  have offI : ∀ c : Nat, c < It → ¬ (c = It ∨ c = C ∨ c = S) := fun c hc e => e.elim (Nat.ne_of_lt hc) fun e => e.elim (Nat.ne_of_lt (Nat.lt_trans hc lIC)) (Nat.ne_of_lt (Nat.lt_trans hc lIS))
  have offC : ∀ c : Nat, C < c → ¬ (c = It ∨ c = C ∨ c = S) := fun c hc e => e.elim (Nat.ne_of_gt (Nat.lt_trans lIC hc)) fun e => e.elim (Nat.ne_of_gt hc) (Nat.ne_of_gt (Nat.lt_trans lSC hc))
  obtain ⟨oP, hoP⟩ := hP
  have W := Walks.list (prog := prog) (w := w) hh It P (Nat.ne_of_lt (lowI (P, oP) hoP)) vs.toArray
  obtain ⟨Inv, hInv⟩ : ∃ Inv : Nat → Shared → Prop, ∀ k s', Inv k s' ↔ ∀ G : Prop, (∀ h tk i m' ys lt, s' = { s₂ with heap := h, toks := tk } → k = vs.length + 1 - i → i ≤ vs.length → h.IsListIter It P i → TupsJ lt ys (List.replicate i (a, b)) → Fr h₀ L h m → h.Ns C m' → News h₀ L h ((S, lst ys) :: (lt ++ led)) → (∀ p ∈ lt, @LT.lt Nat _ C p.1) → G) → G := ⟨_, fun _ _ => Iff.rfl⟩
  have loop : codeAny (model prog w) A (.compLoop (.ListComp (.Tuple elts kk pe) [⟨.Name np p1, iter, [], 0⟩] scope pos) 0 (.ref It) (.ref S) (compEnvC scope cl C env)) (RR (.ref S) C) { s₂ with heap := h₁, toks := tk₀ } := by
    refine kcp_loop Inv ?turn (vs.length + 1) ((hInv _ _).mpr fun G g => g h₁ _ 0 _ [] [] rfl rfl (Nat.zero_le _) (hit0.at fun o e => (old _ o e).2) .nil (F.keeps fun b o e => (old b o e).2) hns₁ (news_cons ⟨hacc, fS⟩ fun p hp => ⟨(old _ _ (N p hp).1).2, (N p hp).2⟩) (fun _ h => nomatch h))
    intro k s' hk
    refine (hInv k s').mp hk _ ?_
    clear hk
    rintro h tk i m' ys lt rfl rfl hi hit hT F' hn' N' low
    have zS := N' _ (.head _)
    have NL : News h₀ L h (lt ++ led) := fun q hq => N' q (.tail _ hq)
    clear N'
    have hlP := hl h fun q hq => NL q (List.mem_append_right _ hq)
    have off : ∀ q ∈ lt ++ led, ¬ (q.1 = It ∨ q.1 = C ∨ q.1 = S) := fun q hq => (List.mem_append.mp hq).elim (fun hq => offC _ (low q hq)) fun hq => offI _ (lowI q hq)
    have hyl : ys.length = i := by rw [hT.length, List.length_replicate]
    by_cases hlt : i < vs.length
    · refine W.item i _ _ _ (by simpa using hlt) ⟨hit, hlP⟩ fun v h2 tk2 hP st2 hk2 => ?_
      refine letGo_listiter st2.1 ?_
      have up2 : ∀ b o, b ≠ It → h.get? b = some o → h2.get? b = some o := fun b o hb e => hk2 b o (by simpa using hb) e
      refine wpAny_assign_Name (wpAny_storeName_local (lookup_relabel_local ha) (hn'.at' fun o e => up2 _ o (Nat.ne_of_gt lIC) e) (fun h4 hn4 hs4 => ?_) (by simp [compEnvC, relabel, hkind]))
      refine wpAny_Tuple (helt C _ _ _ fun t u tk5 => ⟨by rw [PySem.sizeLine_eq]; exact Nat.le_of_ble_eq_true rfl, ?_⟩)
      have zS4 := hs4.extBut _ _ (Nat.ne_of_lt lSC) (up2 _ _ (Nat.ne_of_gt lIS) zS.1)
      have hC4 : @LT.lt Nat _ C h4.objs.size := hn4.lt
      obtain ⟨h5, T, hC5, e5, upT, zT⟩ : ∃ (h5 : Heap) (T : Addr), @LT.lt Nat _ C T ∧ (h4.push { cls := .type "tuple", data := .seq [Value.int a t, Value.int b u].toArray } = h5 ∧ h4.objs.size = T) ∧ (∀ c o, h4.get? c = some o → h5.get? c = some o) ∧ h5.get? T = some (tup (.int a t) (.int b u)) := ⟨_, _, hC4, ⟨rfl, rfl⟩, fun c o e => Heap.get?_push_of_some _ e, Heap.get?_push_size _ rfl⟩
      dsimp only
      rw [e5.1, e5.2]
      refine append_at (hsz := by show ys.toArray.size ≤ sizeLine; rw [List.size_toArray, hyl]; exact line_of hlt hsz) (upT _ _ zS4) fun h6 hs6 hD6 => ?_
      have up6 : ∀ c o, ¬ (c = It ∨ c = C ∨ c = S) → h.get? c = some o → h6.get? c = some o := fun c o hc e => hs6.extBut c o (fun q => hc (.inr (.inr q))) (upT c o (hs4.extBut c o (fun q => hc (.inr (.inl q))) (up2 c o (fun q => hc (.inl q)) e)))
      refine ⟨vs.length + 1 - (i + 1), left_lt hlt, (hInv _ _).mpr fun G g => g h6 _ (i + 1) _ (ys ++ [.ref T]) ((T, tup (.int a t) (.int b u)) :: lt) rfl rfl hlt (st2.1.at fun o e => hs6.extBut _ o (Nat.ne_of_lt lIS) (upT _ _ (hs4.extBut _ o (Nat.ne_of_lt lIC) e))) ?_ (fr_up F' up6 hex) (hn4.at' fun o e => hs6.extBut _ o (Nat.ne_of_gt lSC) (upT _ _ e)) (news_cons ⟨hD6.trans (congrArg some (lst_snoc _ _)), zS.2⟩ (news_cons ⟨hs6.extBut _ _ (Nat.ne_of_gt (Nat.lt_trans lSC hC5)) zT, fresh T (Nat.lt_trans lLS (Nat.lt_trans lSC hC5))⟩ fun q hq => ⟨up6 _ _ (off q hq) (NL q hq).1, (NL q hq).2⟩)) (List.forall_mem_cons.mpr ⟨hC5, low⟩)⟩
      rw [List.replicate_succ']
      exact (hT.sub fun q hq => .tail _ hq).snoc (.head _)
    · have hin := Nat.le_antisymm hi (Nat.not_lt.mp hlt)
      clear hlt hi
      subst hin
      refine W.done _ _ _ (by simpa using ⟨hit, hlP⟩) fun h2 tk2 hk2 => ?_
      have up2 : ∀ b o, ¬ (b = It ∨ b = C ∨ b = S) → h.get? b = some o → h2.get? b = some o := fun b o hb e => hk2 b o (by simpa using fun q => hb (.inl q)) e
      exact hRR S C h2 tk2 m' ys lt hT (fr_up F' up2 hex) (news_cons ⟨hk2 _ _ (by simpa using Nat.ne_of_gt lIS) zS.1, zS.2⟩ fun q hq => ⟨up2 _ _ (off q hq) (NL q hq).1, (NL q hq).2⟩) (fun q hq => Nat.lt_trans (lowI q hq) lIS) low (hn'.at' fun o e => hk2 _ o (by simpa using Nat.ne_of_gt lIC) e) fC.2 fC.1 lSC
  exact codeAny_compStart_list loop (wpAny_pyIter_listiter (hit0.at fun o e => (old _ o e).2) loop)
theorem assign_const {iter : Expr} {zn np : Str} {elts : List Expr} {pz p1 pe : Pos} {kk : Nat} {scope : Scope} {cl : List (Str × Addr)} {pos spos : Pos} {Q : Flow → Shared → Prop} {P : Addr} {vs : List Value} {a b : Int}
    (_F : ∃ h : Heap, Fr h₀ L h m ∧ News h₀ L h led) (hLe : env.locals = L) (hh : A.handled = none) (hsz : vs.length < 64) (hl : ∀ h, News h₀ L h led → h.IsList P vs.toArray) (hP : ∃ o, (P, o) ∈ led)
    (helt : ∀ (C : Addr) (s' : Shared) (Q' : List Value → Shared → Prop) (E' : Value → Shared → Prop), (∀ t u tk, Q' [.int a t, .int b u] { s' with toks := tk }) → wpAny (model prog w) A (spliced (backTo pe (starEach elts (compEnvC scope cl C env)))) Q' E' s')
    (hsw : swapsWith (.ListComp (.Tuple elts kk pe) [⟨.Name np p1, iter, [], 0⟩] scope pos) (some (.Name zn pz)) spos.line env = pure true)
    (hclos : closureFor scope env = pure cl) (hcell : ∀ y ∈ scope.names, y.2 ≠ .cell) (hkind : scope.kind = .function) (hnames : ∀ z ∈ scope.names, z.2 = .local → scope.names.lookup z.1 = some .local) (ha : scope.names.lookup np = some .local)
    (hz : env.kindOf zn = some .local) (hp : (env.scope.kind == .class || (env.scope.kind == .module && env.locals != env.globals)) = false)
    (h : wpAny (model prog w) A (eval iter env) (fun xv s₁ => Halt (xv = .ref P ∧ Fr h₀ L s₁.heap m ∧ News h₀ L s₁.heap led ∧
      ∀ S h tk ys lt, TupsJ lt ys (List.replicate vs.length (a, b)) → Fr h₀ L h (fun v => if v = zn then some (.ref S) else m v) → News h₀ L h ((S, lst ys) :: (lt ++ led)) → (∀ p ∈ led, @LT.lt Nat _ p.1 S) → (∀ p ∈ lt, @LT.lt Nat _ S p.1) → Q .next { s₁ with heap := h, toks := tk })) E s)
    (hs : ∀ x, foldedSetIterable iter env x = pure x := by intro _; rfl) :
    wpAny (model prog w) A (exec (.Assign [.Name zn pz] (.ListComp (.Tuple elts kk pe) [⟨.Name np p1, iter, [], 0⟩] scope pos) spos) env) Q E s := by
  subst hLe
  rw [exec_Assign_Name_used _ _ _ _ hsw]
  refine wpAny_bind (wpAny_standAt (wpAny_bind ?_))
  show wpAny _ A (do let _ ← comprehension (.ListComp (.Tuple elts kk pe) [⟨.Name np p1, iter, [], 0⟩] scope pos) scope env _ (newList []) false (eval iter env) (some (assign (.Name zn pz) env))) _ _ s
  refine wpAny_bind (wpAny_mono (wpAny_comprehension_free (use := some (assign (.Name zn pz) env)) (Q := fun _ s' => Q .next s') rfl hs hclos hkind hnames
    (wpAny_mono h (fun xv s₁ h₁ => ?_) fun _ _ e => e)) (fun _ s' hq => wpAny_pure (wpAny_pure hq)) fun _ _ e => e)
  obtain ⟨rfl, F, N, fin⟩ := h₁
  refine wpAny_pyIter_list (hl _ N) ?_
  refine const_block hh hsz hl hP helt hcell hkind ha (F.push _) (N.grown fun b o e => Heap.get?_push_of_some _ e) (fun q hq => Heap.lt_size (N q hq).1) ⟨_, Heap.get?_push_size _ rfl, rfl, rfl⟩ F.ns.lt ?_
  intro S C h' tk m' ys lt hT F' N' lS low hn' hC₀ hCL lSC
  show wpAny _ A (assign (.Name zn pz) env (.ref S)) _ _ _
  refine wpAny_assign_Name (wpAny_storeName_local hz F'.ns (fun h₂ hn₂ hs₂ => ?_) hp)
  have hL₀ : h₀.get? env.locals = none := Heap.get?_none_of_le F'.above
  have F₂ : Fr h₀ env.locals h₂ (fun v => if v = zn then some (.ref S) else m v) := ⟨hn₂, fun b o e => hs₂.extBut b o (fun q => by rw [q, hL₀] at e; cases e) (F'.keep b o e), F'.above⟩
  refine ⟨m', hn'.sameBut hs₂ hCL, fun h'' hs'' => fin S h'' _ ys lt hT (F₂.change hs'' hCL hC₀) (fun p hp => ?_) lS fun p hp => Nat.lt_trans lSC (low p hp)⟩
  have zz : h₂.get? p.1 = some p.2 := hs₂.extBut _ _ (N' p hp).2.1 (N' p hp).1
  refine ⟨hs''.extBut _ _ ?_ zz, (N' p hp).2⟩
  rcases List.mem_cons.mp hp with rfl | hp
  · exact Nat.ne_of_lt lSC
  · exact (List.mem_append.mp hp).elim (fun h => Nat.ne_of_gt (low p h)) fun h => Nat.ne_of_lt (Nat.lt_trans (lS p h) lSC)
end
end Mine
end
section
open PySem PySem.W PyProof.Rows PyProof.V PySem.Calls PySem.Spec Builtin Builtin.ObjectAttr LCg
set_option compiler.extract_closed false
set_option Elab.async false
set_option maxRecDepth 100000
set_option maxHeartbeats 3000000
namespace Mine
theorem fillQ4 : PySem.Challenge.rw_dn0005_11 = PySem.Challenge.rw_dn0005_11 ∧ Mine.hd11.heap_39 = Mine.hd11.heap_39 := by
  k_fill
  exact ⟨rfl, rfl⟩






local macro_rules | `(tactic| walk_at "exec Assign cons ListComp") => `(tactic| (refine halt ?_))

local macro_rules | `(tactic| walk_at "execs cons") => `(tactic| ((with_reducible show wpAny _ _ (execs [_, _, _, _, _] _) _ _ _); refine halt ?_))
section
variable {prog : Program} {w : World} {A₀ : Around} {base g1 : Heap} {outer : List Env} {e0 : Env} {L L1 : Addr} {mg mb : Str → Option Value} {mean : ExcName → Option Value} {s : Shared} {Q : Flow → Shared → Prop} {E : Value → Shared → Prop}
noncomputable abbrev mB (y d D : Addr) (xv : Option Value) : Str → Option Value := fun z => if z = Str.ofString "due" then some (.ref D) else mA y d xv z
noncomputable abbrev nP (L1 y d P : Addr) (vs : List Value) (n : Nat) (o1 o2 o3 oy od : Obj) (lt : List (Addr × Obj)) : List (Addr × Obj) := (P, listOf vs.toArray n) :: (d, od) :: (L1 + 1 + 1 + 1, o3) :: (L1 + 1 + 1, o2) :: (L1 + 1, o1) :: (y, oy) :: lt
theorem law_due {name qual : Str} {params : Arguments} {body : List Stmt} {scope : Scope} {dV kV doc pm cdv ct oc : Value} {an od' : Option Addr} {osl : Array (Option Value)}
    (ho : (Mine.hd11.heap_39 w.params).lookup 1102 = some ⟨oc, od', .func (fnOf name qual params body scope dV kV doc pm an cdv ct), osl⟩)
    {y d P : Addr} {n : Nat} {vs : List Value} {lt : List (Addr × Obj)} {oy o1 o2 o3 od : Obj} {ps : List (Int × Int)} {xv : Option Value}
    (hT : TupsJ lt vs ps) (hl : ps.length ≤ 9) (d1 : o1.data = .cell (some (.ref P)))
    (B1 : Below callerA base [] g1) (X1 : (Mine.hd11.heap_39 w.params).In g1) (T1 : Top vw ls mean mg mb g1)
    (F1 : Fr g1 L1 s.heap (mA y d xv)) (N1 : News g1 L1 s.heap (nP L1 y d P vs n o1 o2 o3 oy od lt))
    (hE : PassesOwn (model prog w) (callerA.deeper (envOfC qual scope L1 1102 cdv)) (envOfC qual scope L1 1102 cdv) E)
    (rest_ok : ∀ D h' tk ys lu, TupsJ lu ys (List.replicate ps.length (-1, 0)) → Fr g1 L1 h' (mB y d D xv) → News g1 L1 h' ((D, lst ys) :: (lu ++ nP L1 y d P vs n o1 o2 o3 oy od lt)) → (∀ q ∈ nP L1 y d P vs n o1 o2 o3 oy od lt, @LT.lt Nat _ q.1 D) → (∀ q ∈ lu, @LT.lt Nat _ D q.1) →
      wpAny (model prog w) (callerA.deeper (envOfC qual scope L1 1102 cdv)) (execs (body.drop 4) (envOfC qual scope L1 1102 cdv)) Q E { s with heap := h', toks := tk }) :
    wpAny (model prog w) (callerA.deeper (envOfC qual scope L1 1102 cdv)) (execs (body.drop 3) (envOfC qual scope L1 1102 cdv)) Q E s := by
  have e := ho.symm.trans (by k_is : (Mine.hd11.heap_39 w.params).lookup 1102 = some _)
  cases e
  dsimp only [List.drop]
  k_steps
  unfold Halt
  rename News _ _ _ _ => N2
  rename Fr _ _ _ _ => F2
  have hvl : vs.length = ps.length := hT.length
  refine assign_const (P := P) (vs := vs) (a := -1) (b := 0) ⟨_, F2, N2⟩ rfl rfl (by lia) (fun h N => News.isList N (.head _)) ⟨_, .head _⟩ (fun C s' Q' E' h => ?el) (by with_unfolding_all rfl) (by with_unfolding_all rfl) (by decide) (by rfl) (by decide) (by rfl) (by rfl) (by rfl) ?_
  case el =>
    k_steps
    exact h _ _ _
  k_steps
  unfold Halt
  refine ⟨rfl, by assumption, by assumption, fun D h5 tk5 ys lu hT5 F5 N5 l5 low5 => ?_⟩
  rw [hvl] at hT5
  k_steps
  unfold Halt
  exact rest_ok D h5 tk5 ys lu hT5 F5 N5 l5 low5
end
end Mine
end
section
open PySem PySem.W PyProof.Rows PyProof.V PySem.Calls PySem.Spec LCg
set_option compiler.extract_closed false
set_option Elab.async false
set_option maxRecDepth 100000
set_option maxHeartbeats 3000000
namespace Mine
section
variable {prog : Program} {w : World} {A : Around} {E : Value → Shared → Prop} {s : Shared} {h₀ : Heap} {L : Addr} {m : Str → Option Value} {led : List (Addr × Obj)} {env : Env}
/-- [x for x in range(n) if test]: how many pass -/
theorem filter_block {iter test : Expr} {xn : Str} {p1 p2 : Pos} {scope : Scope} {cl : List (Str × Addr)} {pos : Pos} {It : Addr} {n : Nat} {p : Nat → Bool} {s₂ : Shared} {RR : Value → Addr → Result → Shared → Prop}
    (hh : A.handled = none) (hsz : n < 64)
    (htest : ∀ (C : Addr) (j : Nat) (t : Tok) (h : Heap) (tk : Nat) (m₂ : Str → Option Value) (Q' : Bool → Shared → Prop) (E' : Value → Shared → Prop), j < n → Fr h₀ L h m → News h₀ L h led → h.Ns C m₂ → m₂ xn = some (.int (j : Int) t) →
      (∀ tk', Q' (p j) { s₂ with heap := h, toks := tk' }) → wpAny (model prog w) A (isTrue test (compEnvC scope cl C env) (eval test (compEnvC scope cl C env))) Q' E' { s₂ with heap := h, toks := tk })
    (hcell : ∀ y ∈ scope.names, y.2 ≠ .cell) (hkind : scope.kind = .function) (ha : scope.names.lookup xn = some .local) (hdx : (xn == ("__debug__" : Str)) = false)
    (F : Fr h₀ L s₂.heap m) (N : News h₀ L s₂.heap led) (lowI : ∀ q ∈ led, @LT.lt Nat _ q.1 It) (hit0 : IsRangeIter s₂.heap It 0 n 1) (lLI : @LT.lt Nat _ L It)
    (hRR : ∀ S C h tk m' ys, ys.length = (List.range n).countP p → Fr h₀ L h m → News h₀ L h ((S, lst ys) :: led) → (∀ q ∈ led, @LT.lt Nat _ q.1 S) → h.Ns C m' → h₀.get? C = none → C ≠ L → @LT.lt Nat _ S C → RR (.ref S) C (.ok .next) { s₂ with heap := h, toks := tk }) :
    wpAny (model prog w) A (newList []) (fun acc s₃ => wpAny (model prog w) A (newFunctionEnv scope env.globals cl [] env.qual none .none (some env)) (fun cenv s₄ =>
      codeAny (model prog w) A (.compStart (.ListComp (.Name xn p1) [⟨.Name xn p2, iter, [test], 0⟩] scope pos) 0 (.ref It) acc { cenv with scope := relabel scope env }) (RR acc cenv.locals) s₄) E s₃) E s₂ := by
  refine comp_begin hcell hkind F fun S C h₁ tk₀ lLS lSC fresh old hns₁ hacc => ?_
  have lIS : @LT.lt Nat _ It S := (old _ _ hit0).1
  have lIC := Nat.lt_trans lIS lSC
  have fS := fresh S lLS
  have fC := fresh C (Nat.lt_trans lLS lSC)
  have hex : ∀ c, (c = It ∨ c = C) → c ≠ L ∧ h₀.get? c = none := fun c e => e.elim (fun q => q ▸ fresh It lLI) fun q => q ▸ fC
  have offI : ∀ q ∈ led, ¬ (q.1 = It ∨ q.1 = C) := fun q hq e => e.elim (Nat.ne_of_lt (lowI q hq)) (Nat.ne_of_lt (Nat.lt_trans (lowI q hq) lIC))
  have W := range_walks (prog := prog) (w := w) (A := A) (I := It) hh 0 n
  obtain ⟨Inv, hInv⟩ : ∃ Inv : Nat → Shared → Prop, ∀ k s', Inv k s' ↔ ∀ G : Prop, (∀ h tk i m' ys, s' = { s₂ with heap := h, toks := tk } → k = n + 1 - i → i ≤ n → IsRangeIter h It (0 + (i : Nat) * 1) ((n : Int) - (i : Nat)) 1 → ys.length = (List.range i).countP p → Fr h₀ L h m → h.Ns C m' → News h₀ L h ((S, lst ys) :: led) → G) → G := ⟨_, fun _ _ => Iff.rfl⟩
  have loop : codeAny (model prog w) A (.compLoop (.ListComp (.Name xn p1) [⟨.Name xn p2, iter, [test], 0⟩] scope pos) 0 (.ref It) (.ref S) (compEnvC scope cl C env)) (RR (.ref S) C) { s₂ with heap := h₁, toks := tk₀ } := by
    refine codeAny_compLoop_tests Inv ?turn (n + 1) ((hInv _ _).mpr fun G g => g h₁ _ 0 _ [] rfl rfl (Nat.zero_le _) (old _ _ (by simpa using hit0)).2 rfl (F.keeps fun b o e => (old b o e).2) hns₁ (news_cons ⟨hacc, fS⟩ fun q hq => ⟨(old _ _ (N q hq).1).2, (N q hq).2⟩))
    intro k s' hk
    refine (hInv k s').mp hk _ ?_
    clear hk
    rintro h tk i m' ys rfl rfl hi hit hyl F' hn' N'
    have zS := N' _ (.head _)
    have NL : News h₀ L h led := fun q hq => N' q (.tail _ hq)
    clear N'
    by_cases hlt : i < n
    · refine W.item i _ _ _ hlt hit fun v h2 tk2 hP st2 hk2 => ?_
      obtain ⟨t, rfl⟩ := hP
      have up2 : ∀ b o, b ≠ It → h.get? b = some o → h2.get? b = some o := fun b o hb e => hk2 b o (by simpa using hb) e
      refine wpAny_assign_Name (wpAny_storeName_local (lookup_relabel_local ha) (hn'.at' fun o e => up2 _ o (Nat.ne_of_gt lIC) e) (fun h4 hn4 hs4 => ?_) (by simp [compEnvC, relabel, hkind]))
      have up4 : ∀ b o, ¬ (b = It ∨ b = C) → h.get? b = some o → h4.get? b = some o := fun b o hb e => hs4.extBut b o (fun q => hb (.inr q)) (up2 b o (fun q => hb (.inl q)) e)
      have F4 := fr_up F' up4 hex
      have zS4 := hs4.extBut _ _ (Nat.ne_of_lt lSC) (up2 _ _ (Nat.ne_of_gt lIS) zS.1)
      have NL4 : News h₀ L h4 led := fun q hq => ⟨up4 _ _ (offI q hq) (NL q hq).1, (NL q hq).2⟩
      have hit4 : IsRangeIter h4 It (0 + ((i + 1 : Nat) : Int) * 1) ((n : Int) - ((i + 1 : Nat) : Int)) 1 := hs4.extBut _ _ (Nat.ne_of_lt lIC) st2
      refine wpAny_tests_one (htest C i t h4 _ _ _ _ hlt F4 NL4 hn4 (by simp) fun tk5 => ?_)
      have hcs : (List.range (i + 1)).countP p = (List.range i).countP p + if p i then 1 else 0 := by
        rw [List.range_succ, List.countP_append]
        simp [List.countP_cons]
      cases hpi : p i with
      | false =>
        simp only [Bool.false_eq_true, if_false]
        exact ⟨n + 1 - (i + 1), left_lt hlt, (hInv _ _).mpr fun G g => g h4 tk5 (i + 1) _ ys rfl rfl hlt hit4 (by rw [hcs, hpi]; exact hyl) F4 hn4 (news_cons ⟨zS4, zS.2⟩ NL4)⟩
      | true =>
        have hcnt : (List.range i).countP p ≤ i := Nat.le_trans List.countP_le_length (Nat.le_of_eq List.length_range)
        simp only [if_true]
        rw [eval_Name _ _ _ hdx]
        refine wpAny_bind (wpAny_standAt (wpAny_loadName_local (v := .int (i : Int) t) (by simp [compEnvC, relabel, hkind]) (lookup_relabel_local ha) hn4 (by simp) ?_))
        refine append_at (hsz := by show ys.toArray.size ≤ sizeLine; rw [List.size_toArray, hyl]; exact Nat.le_trans hcnt (line_of hlt hsz)) zS4 fun h6 hs6 hD6 => ?_
        exact ⟨n + 1 - (i + 1), left_lt hlt, (hInv _ _).mpr fun G g => g h6 _ (i + 1) _ (ys ++ [.int (i : Int) t]) rfl rfl hlt (hs6.extBut _ _ (Nat.ne_of_lt lIS) hit4) (by rw [hcs, hpi, List.length_append, hyl]; rfl) (F4.change hs6 fS.1 fS.2) (hn4.sameBut hs6 (Nat.ne_of_gt lSC)) (news_cons ⟨hD6.trans (congrArg some (lst_snoc _ _)), zS.2⟩ fun q hq => ⟨hs6.extBut _ _ (Nat.ne_of_lt (Nat.lt_trans (lowI q hq) lIS)) (NL4 q hq).1, (NL4 q hq).2⟩)⟩
    · have hin := Nat.le_antisymm hi (Nat.not_lt.mp hlt)
      clear hlt hi
      subst hin
      refine W.done _ _ _ hit fun h2 tk2 hk2 => ?_
      have up2 : ∀ b o, ¬ (b = It ∨ b = C) → h.get? b = some o → h2.get? b = some o := fun b o hb e => hk2 b o (by simpa using fun q => hb (.inl q)) e
      exact hRR S C h2 tk2 m' ys hyl (fr_up F' up2 hex) (news_cons ⟨hk2 _ _ (by simpa using Nat.ne_of_gt lIS) zS.1, zS.2⟩ fun q hq => ⟨up2 _ _ (offI q hq) (NL q hq).1, (NL q hq).2⟩) (fun q hq => Nat.lt_trans (lowI q hq) lIS) (hn'.at' fun o e => hk2 _ o (by simpa using Nat.ne_of_gt lIC) e) fC.2 fC.1 lSC
  exact codeAny_compStart_list loop (wpAny_pyIter_rangeiter (old _ _ hit0).2 loop)
theorem range_up {n : Nat} (hn : n < 64) : Builtin.Range.small 0 (n : Int) 1 = true ∧ Builtin.Range.rangeSize 0 (n : Int) 1 = (n : Int) := by
  have e : Builtin.Range.rangeSize 0 (n : Int) 1 = (n : Int) := by
    unfold Builtin.Range.rangeSize
    rw [if_pos (by decide)]
    split
    · rw [Int.ediv_one]; lia
    · lia
  refine ⟨?_, e⟩
  unfold Builtin.Range.small Builtin.Range.rangeFitsLong
  rw [e]
  simp
  lia
theorem assign_filter {iter test : Expr} {zn xn : Str} {pz p1 p2 : Pos} {scope : Scope} {cl : List (Str × Addr)} {pos spos : Pos} {Q : Flow → Shared → Prop} {n : Nat} {p : Nat → Bool}
    (_F : ∃ h : Heap, Fr h₀ L h m ∧ News h₀ L h led) (hLe : env.locals = L) (hh : A.handled = none) (hsz : n < 64)
    (htest : ∀ (g : Shared) (C : Addr) (j : Nat) (t : Tok) (h : Heap) (tk : Nat) (m₂ : Str → Option Value) (Q' : Bool → Shared → Prop) (E' : Value → Shared → Prop), j < n → Fr h₀ L h m → News h₀ L h led → h.Ns C m₂ → m₂ xn = some (.int (j : Int) t) →
      (∀ tk', Q' (p j) { g with heap := h, toks := tk' }) → wpAny (model prog w) A (isTrue test (compEnvC scope cl C env) (eval test (compEnvC scope cl C env))) Q' E' { g with heap := h, toks := tk })
    (hsw : swapsWith (.ListComp (.Name xn p1) [⟨.Name xn p2, iter, [test], 0⟩] scope pos) (some (.Name zn pz)) spos.line env = pure true)
    (hclos : closureFor scope env = pure cl) (hcell : ∀ y ∈ scope.names, y.2 ≠ .cell) (hkind : scope.kind = .function) (hnames : ∀ z ∈ scope.names, z.2 = .local → scope.names.lookup z.1 = some .local) (ha : scope.names.lookup xn = some .local) (hdx : (xn == ("__debug__" : Str)) = false)
    (hz : env.kindOf zn = some .local) (hp : (env.scope.kind == .class || (env.scope.kind == .module && env.locals != env.globals)) = false)
    (h : wpAny (model prog w) A (eval iter env) (fun xv s₁ => Halt ((∃ (r : Addr) (t u v : Tok), xv = .ref r ∧ IsRange s₁.heap r 0 n 1 t u v) ∧ Fr h₀ L s₁.heap m ∧ News h₀ L s₁.heap led ∧
      ∀ S h tk ys, ys.length = (List.range n).countP p → Fr h₀ L h (fun v => if v = zn then some (.ref S) else m v) → News h₀ L h ((S, lst ys) :: led) → (∀ p ∈ led, @LT.lt Nat _ p.1 S) → Q .next { s₁ with heap := h, toks := tk })) E s)
    (hs : ∀ x, foldedSetIterable iter env x = pure x := by intro _; rfl) :
    wpAny (model prog w) A (exec (.Assign [.Name zn pz] (.ListComp (.Name xn p1) [⟨.Name xn p2, iter, [test], 0⟩] scope pos) spos) env) Q E s := by
  subst hLe
  rw [exec_Assign_Name_used _ _ _ _ hsw]
  refine wpAny_bind (wpAny_standAt (wpAny_bind ?_))
  show wpAny _ A (do let _ ← comprehension (.ListComp (.Name xn p1) [⟨.Name xn p2, iter, [test], 0⟩] scope pos) scope env _ (newList []) false (eval iter env) (some (assign (.Name zn pz) env))) _ _ s
  refine wpAny_bind (wpAny_mono (wpAny_comprehension_free (use := some (assign (.Name zn pz) env)) (Q := fun _ s' => Q .next s') rfl hs hclos hkind hnames
    (wpAny_mono h (fun xv s₁ h₁ => ?_) fun _ _ e => e)) (fun _ s' hq => wpAny_pure (wpAny_pure hq)) fun _ _ e => e)
  obtain ⟨⟨r, t, u, v, rfl, hr⟩, F, N, fin⟩ := h₁
  obtain ⟨hsm, hsize⟩ := range_up hsz
  refine wpAny_pyIter_range hr hsm ?_
  rw [hsize]
  refine filter_block (p := p) hh hsz (fun C j t h tk m₂ Q' E' a1 a2 a3 a4 a5 a6 => htest _ C j t h tk m₂ Q' E' a1 a2 a3 a4 a5 a6) hcell hkind ha hdx (F.push _) (N.grown fun b o e => Heap.get?_push_of_some _ e) (fun q hq => Heap.lt_size (N q hq).1) (Heap.get?_push_size _ rfl) F.ns.lt ?_
  intro S C h' tk m' ys hyl F' N' lS hn' hC₀ hCL lSC
  show wpAny _ A (assign (.Name zn pz) env (.ref S)) _ _ _
  refine wpAny_assign_Name (wpAny_storeName_local hz F'.ns (fun h₂ hn₂ hs₂ => ?_) hp)
  have hL₀ : h₀.get? env.locals = none := Heap.get?_none_of_le F'.above
  have F₂ : Fr h₀ env.locals h₂ (fun v => if v = zn then some (.ref S) else m v) := ⟨hn₂, fun b o e => hs₂.extBut b o (fun q => by rw [q, hL₀] at e; cases e) (F'.keep b o e), F'.above⟩
  refine ⟨m', hn'.sameBut hs₂ hCL, fun h'' hs'' => fin S h'' _ ys hyl (F₂.change hs'' hCL hC₀) (fun p hp => ?_) lS⟩
  have zz : h₂.get? p.1 = some p.2 := hs₂.extBut _ _ (N' p hp).2.1 (N' p hp).1
  refine ⟨hs''.extBut _ _ ?_ zz, (N' p hp).2⟩
  rcases List.mem_cons.mp hp with rfl | hp
  · exact Nat.ne_of_lt lSC
  · exact Nat.ne_of_lt (Nat.lt_trans (lS p hp) lSC)
end
end Mine
end
section
open PySem PySem.W PyProof.Rows PyProof.V PySem.Calls PySem.Spec LCg
set_option Elab.async false
set_option maxRecDepth 100000
set_option maxHeartbeats 3000000
namespace Mine
/-- the end of a turn of a loop over a range -/
noncomputable def RgEnd (h₀ : Heap) (L : Addr) (s : Shared) (It : Addr) (oI : Obj) (Jn : (Str → Option Value) → List (Addr × Obj) → Prop) (f : Flow) (s₄ : Shared) : Prop :=
  f = .next ∧ ∃ h' tk' m₂ news₂, s₄ = { s with heap := h', toks := tk' } ∧ Fr h₀ L h' m₂ ∧ News h₀ L h' ((It, oI) :: news₂) ∧ (∀ p ∈ news₂, p.1 ≠ It) ∧ Jn m₂ news₂
section
variable {prog : Program} {w : World} {A : Around} {E : Value → Shared → Prop} {s : Shared} {h₀ : Heap} {m : Str → Option Value} {news : List (Addr × Obj)} {env : Env}
/-- a loop over range(n), by its invariant -/
theorem range_turns {xn : Str} {px : Pos} {body : List Stmt} {Q : Flow → Shared → Prop} {r : Addr} {n : Nat} {t u v : Tok} (hh : A.handled = none) (F : Fr h₀ env.locals s.heap m) (N : News h₀ env.locals s.heap news) (hR : IsRange s.heap r 0 n 1 t u v) (hn : n < 64)
    (J : Nat → (Str → Option Value) → List (Addr × Obj) → Prop) (h0 : J 0 m news)
    (step : ∀ (It : Addr) i t m₁ news₁ h₁ tk₁ oI, i < n → J i m₁ news₁ → Fr h₀ env.locals h₁ m₁ → News h₀ env.locals h₁ ((It, oI) :: news₁) → (∀ p ∈ news₁, p.1 ≠ It) → (∀ p ∈ news, @LT.lt Nat _ p.1 It) →
      wpAny (model prog w) A (assign (.Name xn px) env (.int (i : Int) t)) (fun _ s₃ => wpAny (model prog w) A (execs body env) (RgEnd h₀ env.locals { s with heap := h₁, toks := tk₁ } It oI (J (i + 1))) E s₃) E { s with heap := h₁, toks := tk₁ })
    (fin : ∀ h' tk m' news', Fr h₀ env.locals h' m' → News h₀ env.locals h' news' → J n m' news' → Q .next { s with heap := h', toks := tk }) :
    wpAny (model prog w) A (pyIter (.ref r)) (fun it s₂ => TurnsAt prog w A h₀ env (.Name xn px) body Q E it s₂) E s := by
  obtain ⟨hsm, hsz⟩ := range_up hn
  refine wpAny_pyIter_range hR hsm ?_
  rw [hsz]
  have lows : ∀ q ∈ news, q.1 < s.heap.objs.size := fun q hq => Heap.lt_size (N q hq).1
  have hg := Heap.get?_push_size s.heap (o := { cls := .type "range_iterator", data := .fields #[rawInt 0, rawInt (n : Int), rawInt 1] }) rfl
  have F3 := F.push { cls := .type "range_iterator", data := .fields #[rawInt 0, rawInt (n : Int), rawInt 1] }
  have N3 : News h₀ env.locals _ news := N.grown fun b o e => Heap.get?_push_of_some { cls := .type "range_iterator", data := .fields #[rawInt 0, rawInt (n : Int), rawInt 1] } e
  have hL : env.locals ≠ s.heap.objs.size := Nat.ne_of_lt F.ns.lt
  have h00 : h₀.get? s.heap.objs.size = none := Heap.get?_none_of_le (Nat.le_trans F.above (Nat.le_of_lt F.ns.lt))
  generalize s.heap.objs.size = It at *
  generalize s.heap.push { cls := .type "range_iterator", data := .fields #[rawInt 0, rawInt (n : Int), rawInt 1] } = hp at *
  refine ⟨It, [It], [It], n, _, _, _, m, news, J, rfl, KTurns.ofWalks (range_walks hh 0 n) (fun i v s Q E st q => wpAny_pure q), (by simpa using hL), (fun b hb => by rw [List.mem_singleton.mp hb]; exact h00), (fun q hq h => absurd (List.mem_singleton.mp h) (Nat.ne_of_lt (lows q hq))), by simpa using hg, F3, N3, h0, ?_, fun h' tk m' news' F' N' _ hJ => fin h' tk m' news' F' N' hJ⟩
  intro i v m₁ news₁ h₁ tk₁ own hi hP hJ hoff hown hget hall hst F₁ N₁
  obtain ⟨t, rfl⟩ := hP
  obtain ⟨oI, hoI⟩ : ∃ oI, h₁.get? It = some oI := ⟨_, hst⟩
  have hmI : (It, oI) ∈ own := hall It (.head _) h00 oI hoI
  rw [Int.zero_add]
  refine wpAny_mono (step It i t m₁ news₁ h₁ tk₁ oI hi hJ F₁ (fun q hq => ?_) (fun q hq h => hoff q hq (h ▸ .head _)) lows) (fun _ s₃ h₃ => wpAny_mono h₃ (fun f s₄ h₄ => ?_) fun _ _ e => e) fun _ _ e => e
  · rcases List.mem_cons.mp hq with rfl | hq
    · exact N₁ _ (List.mem_append_left _ hmI)
    · exact N₁ q (List.mem_append_right _ hq)
  · obtain ⟨rfl, h', tk', m₂, news₂, rfl, F₂, N₂, off₂, hJ₂⟩ := h₄
    refine LoopStepV.next (LoopStepU.intro F₂ (fun q hq => ?_) (fun q hq h => off₂ q hq (List.mem_singleton.mp h)) hJ₂)
    rcases List.mem_append.mp hq with hq | hq
    · have e1 := List.mem_singleton.mp (hown q hq)
      have e2 := hget q hq
      rw [e1, hoI] at e2
      have e3 : q = (It, oI) := Prod.ext e1 (Option.some.inj e2).symm
      rw [e3]
      exact N₂ _ (.head _)
    · exact N₂ q (.tail _ hq)
end
end Mine
end
section
open PySem PySem.W PyProof.Rows PyProof.V PySem.Calls PySem.Spec Builtin Builtin.ObjectAttr LCg
set_option compiler.extract_closed false
set_option Elab.async false
set_option maxRecDepth 100000
set_option maxHeartbeats 3000000
namespace Mine
theorem fillQ6 : PySem.Challenge.rw_dn0005_11 = PySem.Challenge.rw_dn0005_11 ∧ Mine.hd11.heap_39 = Mine.hd11.heap_39 := by
  k_fill
  exact ⟨rfl, rfl⟩






local macro_rules | `(tactic| walk_at "exec Assign cons ListComp") => `(tactic| (refine halt ?_))
local macro_rules | `(tactic| walk_at "call builtin:len") => `(tactic| (k_here; refine Calls.call_len_list (News.isList ‹_› (by k_mem)) (by rw [List.size_toArray]; omega) ?_))
local macro_rules | `(tactic| walk_at "subscriptTail") => `(tactic| (refine halt ?_))
local macro_rules | `(tactic| walk_at "storeName") => `(tactic| (refine halt ?_))

local macro_rules | `(tactic| walk_at "execs cons") => `(tactic| ((with_reducible show wpAny _ _ (execs [_, _, _, _] _) _ _ _); refine halt ?_))
section
variable {prog : Program} {w : World} {A₀ : Around} {base g1 : Heap} {outer : List Env} {e0 : Env} {L L1 : Addr} {mg mb : Str → Option Value} {mean : ExcName → Option Value} {s : Shared} {Q : Flow → Shared → Prop} {E : Value → Shared → Prop}
local macro_rules | `(tactic| walk_at "exec For") => `(tactic| (refine halt ?_))
local macro_rules | `(tactic| walk_at "exec For Name Name") => `(tactic| (refine halt ?_))

local macro_rules | `(tactic| walk_at "pyIter ref") => `(tactic| (refine halt ?_))
noncomputable abbrev mC (y d D : Addr) (xv av : Option Value) : Str → Option Value := fun z => if z = Str.ofString "ahead" then av else mB y d D xv z
theorem mC_set {y d D : Addr} {xv av : Option Value} {v : Value} (z : Str) : (if z = Str.ofString "ahead" then some v else mC y d D xv av z) = mC y d D xv (some v) z := by
  unfold mC
  by_cases h1 : z = Str.ofString "ahead"
  · rw [if_pos h1, if_pos h1]
  · rw [if_neg h1, if_neg h1, if_neg h1]
theorem mC_new {y d D : Addr} {xv : Option Value} (z : Str) : mB y d D xv z = mC y d D xv none z := by
  unfold mC
  by_cases h1 : z = Str.ofString "ahead"
  · subst h1; rfl
  · rw [if_neg h1]
theorem law_loop {name qual : Str} {params : Arguments} {body : List Stmt} {scope : Scope} {dV kV doc pm cdv ct oc : Value} {an od' : Option Addr} {osl : Array (Option Value)}
    (ho : (Mine.hd11.heap_39 w.params).lookup 1102 = some ⟨oc, od', .func (fnOf name qual params body scope dV kV doc pm an cdv ct), osl⟩)
    {y d P D : Addr} {n : Nat} {vs ys : List Value} {lt : List (Addr × Obj)} {oy o1 o2 o3 od : Obj} {ps : List (Int × Int)} {xv : Option Value}
    (hT : TupsJ lt vs ps) (hl : ps.length ≤ 9) (hyl : ys.length = ps.length) (d1 : o1.data = .cell (some (.ref P))) (d2 : o2.data = .cell none) (d3 : o3.data = .cell none)
    (ly : @LT.lt Nat _ y L1) (ld : @LT.lt Nat _ (L1 + 1 + 1 + 1) d) (lP : @LT.lt Nat _ (L1 + 1 + 1 + 1) P) (lDP : @LT.lt Nat _ P D) (llt : ∀ q ∈ lt, @LE.le Nat _ P q.1) (lowD : ∀ q ∈ nP L1 y d P vs n o1 o2 o3 oy od lt, @LT.lt Nat _ q.1 D)
    (B1 : Below callerA base [] g1) (X1 : (Mine.hd11.heap_39 w.params).In g1) (T1 : Top vw ls mean mg mb g1)
    (F1 : Fr g1 L1 s.heap (mB y d D xv)) (N1 : News g1 L1 s.heap ((D, lst ys) :: nP L1 y d P vs n o1 o2 o3 oy od lt))
    (hE : PassesOwn (model prog w) (callerA.deeper (envOfC qual scope L1 1102 cdv)) (envOfC qual scope L1 1102 cdv) E)
    (rest_ok : ∀ oD cD o2' o3' c2 c3 av h' tk, oD.cls = .type "list" → oD.data = .seq (dueV ps vs).toArray cD → o2'.data = .cell c2 → o3'.data = .cell c3 → Fr g1 L1 h' (mC y d D xv av) → News g1 L1 h' ((D, oD) :: nP L1 y d P vs n o1 o2' o3' oy od lt) →
      wpAny (model prog w) (callerA.deeper (envOfC qual scope L1 1102 cdv)) (execs (body.drop 5) (envOfC qual scope L1 1102 cdv)) Q E { s with heap := h', toks := tk }) :
    wpAny (model prog w) (callerA.deeper (envOfC qual scope L1 1102 cdv)) (execs (body.drop 4) (envOfC qual scope L1 1102 cdv)) Q E s := by
  have e := ho.symm.trans (by k_is : (Mine.hd11.heap_39 w.params).lookup 1102 = some _)
  cases e
  dsimp only [List.drop]
  have hvl : vs.length = ps.length := hT.length
  k_steps
  unfold Halt
  rename Fr _ _ _ _ => F2
  refine For_turns F2 ?_ (hE := hE)
  k_steps
  unfold Halt
  rename IsRange _ _ _ _ _ _ _ _ => hR
  rename Fr _ _ _ _ => F3
  rename News _ _ _ _ => N3
  have hsv : vs.toArray.size = ps.length := by rw [List.size_toArray, hvl]
  rw [hsv] at hR
  obtain ⟨Jn, hJn⟩ : ∃ Jn : Nat → (Str → Option Value) → List (Addr × Obj) → Prop, ∀ k m' news', Jn k m' news' ↔ ∀ G : Prop, (∀ (dl : List Value) (oD : Obj) (cD : Nat) (o2 o3 : Obj) (c2 c3 av : Option Value), oD.cls = .type "list" → oD.data = .seq dl.toArray cD → m' = mC y d D xv av → news' = (D, oD) :: nP L1 y d P vs n o1 o2 o3 oy od lt → o2.data = .cell c2 → o3.data = .cell c3 → dl.length = ps.length → (∀ j, j < k → dl[rank (cnt_ ps) ps.length j]? = some (vs.getD j .none)) → G) → G := ⟨_, fun _ _ _ => Iff.rfl⟩
  refine range_turns rfl F3 N3 hR (Nat.lt_of_le_of_lt hl (by decide)) Jn ?j0 (fun It i t m₁ news₁ h₁ tk₁ oI hin hJ F5 N5 off5 low5 => ?step) (fun h7 tk7 m7 news7 F7 N7 hJ => ?fin)
  case j0 => exact (hJn _ _ _).mpr fun G g => g ys (lst ys) _ o2 o3 _ _ none rfl rfl (funext mC_new) rfl d2 d3 hyl fun j hj => absurd hj (Nat.not_lt_zero _)
  case fin =>
    refine (hJn _ _ _).mp hJ _ ?_
    rintro dl oD cD o2' o3' c2 c3 av hc1 hc2 rfl rfl e2 e3 hdl hpl
    have hdue : dl = dueV ps vs := placed_all hdl hpl
    subst hdue
    k_steps
    unfold Halt
    exact rest_ok oD cD o2' o3' c2 c3 av h7 tk7 hc1 hc2 e2 e3 F7 N7
  case step =>
    refine (hJn _ _ _).mp hJ _ ?_
    clear hJ
    rintro dl oD cD o2' o3' c2 c3 av hc1 hc2 rfl rfl e2 e3 hdl hpl
    replace F5 : Fr g1 L1 h₁ (mC y d D xv av) := F5
    replace N5 : News g1 L1 h₁ ((It, oI) :: (D, oD) :: nP L1 y d P vs n o1 o2' o3' oy od lt) := N5
    k_steps
    unfold Halt
    have N6 : News g1 L1 h₁ ((L1 + 1 + 1, o2') :: (It, oI) :: (D, oD) :: (P, listOf vs.toArray n) :: (d, od) :: (L1 + 1 + 1 + 1, o3') :: (L1 + 1, o1) :: (y, oy) :: lt) := news_sub N5 (by kqd_sub)
    clear N5
    have big : ∀ c : Nat, @LE.le Nat _ c (L1 + 1 + 1 + 1) → @LT.lt Nat _ L1 c → It ≠ c ∧ D ≠ c ∧ P ≠ c ∧ d ≠ c ∧ y ≠ c ∧ ∀ q ∈ lt, q.1 ≠ c := fun c h1 h2 => by
      have l0 := low5 (P, listOf vs.toArray n) (by k_mem)
      replace l0 : @LT.lt Nat _ P It := l0
      have cP := Nat.lt_of_le_of_lt h1 lP
      exact ⟨Nat.ne_of_gt (Nat.lt_trans cP l0), Nat.ne_of_gt (Nat.lt_of_le_of_lt h1 (Nat.lt_trans ld (lowD (d, od) (by k_mem)))), Nat.ne_of_gt cP, Nat.ne_of_gt (Nat.lt_of_le_of_lt h1 ld), Nat.ne_of_lt (Nat.lt_trans ly h2), fun q hq => Nat.ne_of_gt (Nat.lt_of_lt_of_le cP (llt q hq))⟩
    have offi : ∀ q ∈ (It, oI) :: (D, oD) :: (P, listOf vs.toArray n) :: (d, od) :: (L1 + 1 + 1 + 1, o3') :: (L1 + 1, o1) :: (y, oy) :: lt, q.1 ≠ L1 + 1 + 1 := by
      obtain ⟨b1, b2, b3, b4, b5, b6⟩ := big (L1 + 1 + 1) (Nat.le_succ _) (Nat.lt_succ_of_lt (Nat.lt_succ_self _))
      exact List.forall_mem_cons.mpr ⟨b1, List.forall_mem_cons.mpr ⟨b2, List.forall_mem_cons.mpr ⟨b3, List.forall_mem_cons.mpr ⟨b4, List.forall_mem_cons.mpr ⟨Nat.ne_of_gt (Nat.lt_succ_self _), List.forall_mem_cons.mpr ⟨Nat.ne_of_lt (Nat.lt_succ_self _), List.forall_mem_cons.mpr ⟨b5, b6⟩⟩⟩⟩⟩⟩⟩
    refine cell_set (c := L1 + 1 + 1) (o := o2') F5 N6 e2 offi rfl (by rfl) (by rfl) fun oi h9 e1 F9 N9 => ?_
    clear F5 N6
    k_steps
    unfold Halt
    obtain ⟨a, ta, ua, ea, hma⟩ := hT.getD hin
    have hvi : vs[i]? = some (.ref a) := by
      rw [List.getD_eq_getElem?_getD] at ea
      cases hq : vs[i]? with
      | none => rw [hq] at ea; cases ea
      | some z => rw [hq] at ea; exact congrArg some ea
    refine item_list (News.isList N9 (a := P) (by k_mem)) (Int.natCast_nonneg _) (fit9 hin hl) (x := .ref a) (by simpa using hvi) ?_
    k_steps
    unfold Halt
    have hma9 : (a, tup (.int (ps.getD i (0, 0)).1 ta) (.int (ps.getD i (0, 0)).2 ua)) ∈ (L1 + 1 + 1, oi) :: (It, oI) :: (D, oD) :: (P, listOf vs.toArray n) :: (d, od) :: (L1 + 1 + 1 + 1, o3') :: (L1 + 1, o1) :: (y, oy) :: lt := .tail _ (.tail _ (.tail _ (.tail _ (.tail _ (.tail _ (.tail _ (.tail _ hma)))))))
    refine item_tupleT (l := [.int (ps.getD i (0, 0)).1 ta, .int (ps.getD i (0, 0)).2 ua]) (j := 1) ⟨_, (N9 _ hma9).1, rfl, _, rfl⟩ (by decide) (by decide) rfl rfl ?_
    k_steps
    unfold Halt
    have N10 : News g1 L1 h9 ((L1 + 1 + 1 + 1, o3') :: (It, oI) :: (D, oD) :: (P, listOf vs.toArray n) :: (d, od) :: (L1 + 1 + 1, oi) :: (L1 + 1, o1) :: (y, oy) :: lt) := news_sub N9 (by kqd_sub)
    have offc : ∀ q ∈ (It, oI) :: (D, oD) :: (P, listOf vs.toArray n) :: (d, od) :: (L1 + 1 + 1, oi) :: (L1 + 1, o1) :: (y, oy) :: lt, q.1 ≠ L1 + 1 + 1 + 1 := by
      obtain ⟨b1, b2, b3, b4, b5, b6⟩ := big (L1 + 1 + 1 + 1) (Nat.le_refl _) (Nat.lt_succ_of_lt (Nat.lt_succ_of_lt (Nat.lt_succ_self _)))
      exact List.forall_mem_cons.mpr ⟨b1, List.forall_mem_cons.mpr ⟨b2, List.forall_mem_cons.mpr ⟨b3, List.forall_mem_cons.mpr ⟨b4, List.forall_mem_cons.mpr ⟨Nat.ne_of_lt (Nat.lt_succ_self _), List.forall_mem_cons.mpr ⟨Nat.ne_of_lt (Nat.lt_succ_of_lt (Nat.lt_succ_self _)), List.forall_mem_cons.mpr ⟨b5, b6⟩⟩⟩⟩⟩⟩⟩
    refine cell_set (c := L1 + 1 + 1 + 1) (o := o3') F9 N10 e3 offc rfl (by rfl) (by rfl) fun oc h11 ec F11 N11 => ?_
    clear F9 N9 N10
    k_steps
    unfold Halt
    rename Fr _ _ _ _ => F12
    rename News _ _ _ _ => N12
    refine assign_filter (n := ps.length) (p := fun j => beforeB (cnt_ ps) j i) ⟨_, F12, N12⟩ rfl rfl (by exact Nat.lt_of_le_of_lt ‹_› (by decide)) ?htest (by with_unfolding_all rfl) (by with_unfolding_all rfl) (by decide) (by rfl) (by decide) (by rfl) (by rfl) (by rfl) (by rfl) ?_
    case htest =>
      intro gs C j tj hj tkj m₂ Q' E' hjn Fj Nj hnj hmj hQ
      have cnt_eq : ∀ k, cnt_ ps k = (ps.getD k (0, 0)).2 := fun k => by
        unfold cnt_
        rw [List.getD_eq_getElem?_getD, List.getD_eq_getElem?_getD, List.getElem?_map]
        cases ps[k]? <;> rfl
      have yes : ((ps.getD i (0, 0)).2 < (ps.getD j (0, 0)).2 ∨ ((ps.getD j (0, 0)).2 = (ps.getD i (0, 0)).2 ∧ j < i)) → ∀ tk', Q' true { gs with heap := hj, toks := tk' } := fun hc tk' => by
        have hb : beforeB (cnt_ ps) j i = true := beforeB_iff.mpr (by unfold before; rw [cnt_eq, cnt_eq]; exact hc)
        have q := hQ tk'
        rw [hb] at q
        exact q
      have no : ¬ ((ps.getD i (0, 0)).2 < (ps.getD j (0, 0)).2 ∨ ((ps.getD j (0, 0)).2 = (ps.getD i (0, 0)).2 ∧ j < i)) → ∀ tk', Q' false { gs with heap := hj, toks := tk' } := fun hc tk' => by
        have hb : beforeB (cnt_ ps) j i = false := by
          rw [← Bool.not_eq_true, beforeB_iff]
          unfold before
          rw [cnt_eq, cnt_eq]
          exact hc
        have q := hQ tk'
        rw [hb] at q
        exact q
      obtain ⟨aj, tj1, uj, eaj, hmj2⟩ := hT.getD hjn
      have hvj : vs[j]? = some (.ref aj) := by
        rw [List.getD_eq_getElem?_getD] at eaj
        cases hq : vs[j]? with
        | none => rw [hq] at eaj; cases eaj
        | some z => rw [hq] at eaj; exact congrArg some eaj
      have hmaj : (aj, tup (.int (ps.getD j (0, 0)).1 tj1) (.int (ps.getD j (0, 0)).2 uj)) ∈ (L1 + 1 + 1 + 1, oc) :: (It, oI) :: (D, oD) :: (P, listOf vs.toArray n) :: (d, od) :: (L1 + 1 + 1, oi) :: (L1 + 1, o1) :: (y, oy) :: lt := .tail _ (.tail _ (.tail _ (.tail _ (.tail _ (.tail _ (.tail _ (.tail _ hmj2)))))))
      k_steps
      unfold Halt
      refine item_list (News.isList Nj (a := P) (by k_mem)) (Int.natCast_nonneg _) (fit9 hjn hl) (x := .ref aj) (by simpa using hvj) ?_
      k_steps
      unfold Halt
      refine item_tupleT (l := [.int (ps.getD j (0, 0)).1 tj1, .int (ps.getD j (0, 0)).2 uj]) (j := 1) ⟨_, (Nj _ hmaj).1, rfl, _, rfl⟩ (by decide) (by decide) rfl rfl ?_
      k_steps
      · exact yes (.inl (by assumption)) _
      · unfold Halt
        refine item_list (News.isList Nj (a := P) (by k_mem)) (Int.natCast_nonneg _) (fit9 hjn hl) (x := .ref aj) (by simpa using hvj) ?_
        k_steps
        unfold Halt
        refine item_tupleT (l := [.int (ps.getD j (0, 0)).1 tj1, .int (ps.getD j (0, 0)).2 uj]) (j := 1) ⟨_, (Nj _ hmaj).1, rfl, _, rfl⟩ (by decide) (by decide) rfl rfl ?_
        k_steps
        all_goals first | exact yes (.inr ⟨by assumption, Int.ofNat_lt.mp (by assumption)⟩) _ | exact no (fun e => e.elim (by assumption) fun e => absurd (Int.ofNat_lt.mpr e.2) (by assumption)) _ | exact no (fun e => e.elim (by assumption) fun e => absurd e.1 (by assumption)) _ | exact yes (by lia) _ | exact no (by omega) _
    k_steps
    unfold Halt
    rename IsRange _ _ _ _ _ _ _ _ => hR2
    refine ⟨⟨_, _, _, _, rfl, hR2⟩, by assumption, by assumption, fun S h15 tk15 zs hz F15 N15 lS => ?_⟩
    k_steps
    unfold Halt
    refine item_list (News.isList N15 (a := P) (by k_mem)) (Int.natCast_nonneg _) (fit9 hin hl) (x := .ref a) (by simpa using hvi) ?_
    k_steps
    have hrk : zs.length = rank (cnt_ ps) ps.length i := hz
    have hrl := rank_lt (c := cnt_ ps) hin
    have hzl : zs.length < ps.length := hrk ▸ hrl
    refine Calls.call_len_list (News.isList N15 (.head _)) (by rw [List.size_toArray]; exact fit9 hzl hl) ?_
    rw [List.size_toArray]
    refine wpAny_setItem_list (l := D) (items := dl.toArray) ⟨oD, (N15 (D, oD) (by k_mem)).1, hc1, _, hc2⟩ (Int.natCast_nonneg _) (fit9 hzl hl) (by rw [List.size_toArray, hdl]; exact Int.ofNat_lt.mpr hzl) fun h16 hl16 hs16 => ?_
    obtain ⟨oD2, g2, cc2, n2, dd2⟩ := hl16
    have nD := N15 (D, oD) (by k_mem)
    refine wpAny_execs_nil ⟨rfl, h16, _, _, (D, oD2) :: nP L1 y d P vs n o1 oi oc oy od lt, rfl, fr_fun (ksk_fr F15 hs16 nD.2.1 nD.2.2) mC_set, ?nn, ne_map (p := (· ≠ It)) (l := (D, lst ys) :: nP L1 y d P vs n o1 o2 o3 oy od lt) rfl fun q hq => Nat.ne_of_lt (low5 q hq), (hJn _ _ _).mpr fun G g => g (dl.set zs.length (.ref a)) oD2 n2 oi oc _ _ _ cc2 (by rw [dd2]; simp) rfl rfl e1 ec (by rw [List.length_set]; exact hdl) fun j hj => ?_⟩
    case nn =>
      have N16 : News g1 L1 h15 ((It, oI) :: nP L1 y d P vs n o1 oi oc oy od lt) := news_sub N15 (by kqd_sub)
      have N17 := ksk_news N16 hs16 (List.forall_mem_cons.mpr ⟨Nat.ne_of_gt (low5 (D, lst ys) (.head _)), ne_map (p := (· ≠ D)) (l := nP L1 y d P vs n o1 o2 o3 oy od lt) rfl fun q hq => Nat.ne_of_lt (lowD q hq)⟩)
      exact news_cons (N17 _ (.head _)) (news_cons ⟨g2, nD.2⟩ fun q hq => N17 q (.tail _ hq))
    rcases Nat.lt_or_ge j i with hji | hji
    · rw [List.getElem?_set_ne (fun q => absurd (rank_inj hin (Nat.lt_trans hji hin) (hrk.symm.trans q)) (Nat.ne_of_gt hji))]
      exact hpl j hji
    · obtain rfl : j = i := Nat.le_antisymm (Nat.le_of_lt_succ hj) hji
      rw [hrk, List.getElem?_set_self (by rw [hdl]; exact hrl), ea]
end
end Mine
end
section
open PySem PySem.W PyProof.Rows PyProof.V PySem.Calls PySem.Spec Builtin Builtin.ObjectAttr
set_option compiler.extract_closed false
set_option Elab.async false
set_option maxRecDepth 100000
set_option maxHeartbeats 3000000
namespace Mine
theorem fillQ7 : PySem.Challenge.rw_dn0005_11 = PySem.Challenge.rw_dn0005_11 ∧ Mine.hd11.heap_39 = Mine.hd11.heap_39 := by
  k_fill
  exact ⟨rfl, rfl⟩
local macro_rules | `(tactic| walk_at "call ref") => `(tactic| (refine halt ?_))
local macro_rules | `(tactic| walk_at "execs cons") => `(tactic| ((with_reducible show wpAny _ _ (execs [_, _, _] _) _ _ _); refine halt ?_))
section
variable {prog : Program} {w : World} {A₀ : Around} {base g1 : Heap} {outer : List Env} {e0 : Env} {L L1 : Addr} {mg mb : Str → Option Value} {mean : ExcName → Option Value} {s : Shared} {Q : Flow → Shared → Prop} {E : Value → Shared → Prop}
noncomputable abbrev mD (y d D x : Addr) (xv av : Option Value) : Str → Option Value := fun z => if z = Str.ofString "bag" then some (.ref x) else mC y d D xv av z
noncomputable abbrev nC (L1 y d P D x dx : Addr) (vs : List Value) (n n2 : Nat) (es : Array DictEntry) (o1 o2 o3 oy od oD : Obj) (lt : List (Addr × Obj)) : List (Addr × Obj) := (x, cnt es n2 dx) :: (dx, dictOf [] 0) :: (D, oD) :: nP L1 y d P vs n o1 o2 o3 oy od lt
theorem law_bag {name qual : Str} {params : Arguments} {body : List Stmt} {scope : Scope} {dV kV doc pm cdv ct oc : Value} {an od' : Option Addr} {osl : Array (Option Value)}
    (ho : (Mine.hd11.heap_39 w.params).lookup 1102 = some ⟨oc, od', .func (fnOf name qual params body scope dV kV doc pm an cdv ct), osl⟩)
    (hfile : ((prog.main.file : Str) == Str.ofString "/claim/cut.py") = true) (htop : (prog.main.scope.names.lookup (Str.ofString "super")).isSome = false)
    {y d P D : Addr} {n : Nat} {vs : List Value} {lt : List (Addr × Obj)} {oy o1 o2 o3 od oD : Obj} {kvs : List (Int × Value)} {ps : List (Int × Int)} {xv av : Option Value}
    (hd : od.IsDictOf (PySem.intKind prog w) kvs) (hi : IntsI kvs ps) (hl : ps.length ≤ 9) (hds : (d == sysModules) = false)
    (B1 : Below callerA base [] g1) (X1 : (Mine.hd11.heap_39 w.params).In g1) (T1 : Top vw ls mean mg mb g1)
    (F1 : Fr g1 L1 s.heap (mC y d D xv av)) (N1 : News g1 L1 s.heap ((D, oD) :: nP L1 y d P vs n o1 o2 o3 oy od lt))
    (rest_ok : ∀ x dx es n2 h' tk, DIs (PySem.intKind prog w) es kvs → (x == sysModules) = false → Fr g1 L1 h' (mD y d D x xv av) → News g1 L1 h' (nC L1 y d P D x dx vs n n2 es o1 o2 o3 oy od oD lt) →
      wpAny (model prog w) (callerA.deeper (envOfC qual scope L1 1102 cdv)) (execs (body.drop 6) (envOfC qual scope L1 1102 cdv)) Q E { s with heap := h', toks := tk }) :
    wpAny (model prog w) (callerA.deeper (envOfC qual scope L1 1102 cdv)) (execs (body.drop 5) (envOfC qual scope L1 1102 cdv)) Q E s := by
  have e := ho.symm.trans (by k_is : (Mine.hd11.heap_39 w.params).lookup 1102 = some _)
  cases e
  dsimp only [List.drop]
  obtain ⟨es2, ep2, hex, hdat, hk2, hp2, hnd2⟩ := id hd
  have hcl : od.cls = .type "dict" := hex.1
  have D2 : DIs (PySem.intKind prog w) es2 kvs := ⟨hk2, hp2, hnd2⟩
  k_steps
  unfold Halt
  refine make_map (y := d) (oy := od) (es2 := es2) (n2 := ep2) (more := kvs) (by exact rfl) (by exact rfl) (by exact rfl) (by exact rfl) (by exact rfl) (Nat.le_of_ble_eq_true rfl) (Nat.le_of_ble_eq_true rfl) hfile htop (by k_mem) hcl hdat D2 (by rw [hi.length, PySem.sizeLine_eq]; exact Nat.le_trans ‹_› (by decide)) hds B1 F1 X1 N1 T1 fun x dx h2 tk2 es n2 D2' F2 N2 l2 hdx hsx => ?_
  k_steps
  unfold Halt
  exact rest_ok x dx es n2 _ _ D2' hsx (by k_asm) ‹_›
end
end Mine
end
section
open PySem PySem.W PyProof.Rows PyProof.V PySem.Calls PySem.Spec Builtin Builtin.ObjectAttr
set_option compiler.extract_closed false
set_option Elab.async false
set_option maxRecDepth 100000
set_option maxHeartbeats 3000000
namespace Mine
theorem fillQ8 : PySem.Challenge.rw_dn0005_11 = PySem.Challenge.rw_dn0005_11 ∧ Mine.hd11.heap_39 = Mine.hd11.heap_39 := by
  k_fill
  exact ⟨rfl, rfl⟩
noncomputable def pdI (p : Int × Int) : PySem.W.Dat := .tuple [.int p.1, .int p.2]
theorem TupsJ.dat {l : List (Addr × Obj)} {vs : List Value} {cs : List (Int × Int)} (h : TupsJ l vs cs) : PySem.W.DatAll l vs (cs.map pdI) := by
  induction h with
  | nil => exact .nil
  | @cons a k c t u r r' h hr ih => exact .cons (.tuple (n := 0) h (.cons (.int k t) (.cons (.int c u) .nil))) ih
theorem pdI_ok {p : Int × Int} : PySem.W.kqdOk 8 (pdI p) = true := by
  unfold pdI
  simp [PySem.W.kqdOk]
theorem pdI_oks {ps : List (Int × Int)} : ∀ q ∈ ps.map pdI, PySem.W.kqdOk 8 q = true := by
  intro q hq
  obtain ⟨z, _, rfl⟩ := List.mem_map.mp hq
  exact pdI_ok
theorem TupsJ.all {l : List (Addr × Obj)} {vs : List Value} {ps : List (Int × Int)} (h : TupsJ l vs ps) : TupsJ l (dueV ps vs) (dueP ps) := by
  unfold dueV dueP
  exact h.pick fun i hi => dueI_mem.mp hi
section
variable {P : Params}
theorem c_most : findIn (Mine.hd11.heap_39 P) (.ref 1093) (Str.ofString "most_common") = some (some (.ref 909)) := by k_is
theorem t_most : typeIn (Mine.hd11.heap_39 P) (.ref 909) = some (.type "function") := by k_is
end
theorem cnt_fn_meth {prog : Program} {w : World} {A : Around} {E : Value → Shared → Prop} {s : Shared} {h₀ : Heap} {L x dx : Addr} {m : Str → Option Value} {news : List (Addr × Obj)} {es : Array DictEntry} {n : Nat} {name : Str} {f : Value}
   {pl : Sem Bool} {Q : Value × List Value → Shared → Prop} (F : Fr h₀ L s.heap m) (X₀ : (Mine.hd11.heap_39 w.params).In h₀) (N : News h₀ L s.heap news) (hm : (x, cnt es n dx) ∈ news) (hdx : (dx, dictOf [] 0) ∈ news)
   (hf : findIn (Mine.hd11.heap_39 w.params) (.ref 1093) name = some (some f)) (ht : typeIn (Mine.hd11.heap_39 w.params) f = some (.type "function"))
   (h : Q (f, [.ref x]) s) : wpAny (model prog w) A (getMethod (.ref x) name pl) Q E s :=
  sub_method (tn := "function") (X₀.keeps F.keep) (inst_cnt N hm hdx) (c_ga _) (c_gt _) hf ht (by decide) (by show (lookIn name (dictOf [] 0)).map _ = _; rw [lookIn_dict]; rfl) h
local macro_rules | `(tactic| walk_at "getMethod ref") => `(tactic| (k_here; (refine cnt_fn_meth (by k_asm) (by k_asm) (by k_asm) (by k_mem) (by k_mem) c_most t_most ?_)))
local macro_rules | `(tactic| walk_at "call ref") => `(tactic| (refine halt ?_))
local macro_rules | `(tactic| walk_at "compareOp NotEq ref ref") => `(tactic| (refine halt ?_))
local macro_rules | `(tactic| walk_at "execs cons") => `(tactic| ((with_reducible show wpAny _ _ (execs [_, _] _) _ _ _); refine halt ?_))
section
variable {prog : Program} {w : World} {A₀ : Around} {base g1 : Heap} {outer : List Env} {e0 : Env} {L L1 : Addr} {mg mb : Str → Option Value} {mean : ExcName → Option Value} {s : Shared} {Q : Flow → Shared → Prop} {E : Value → Shared → Prop}
theorem law_all {name qual : Str} {params : Arguments} {body : List Stmt} {scope : Scope} {dV kV doc pm cdv ct oc : Value} {an od' : Option Addr} {osl : Array (Option Value)}
    (ho : (Mine.hd11.heap_39 w.params).lookup 1102 = some ⟨oc, od', .func (fnOf name qual params body scope dV kV doc pm an cdv ct), osl⟩)
    {y d P D x dx : Addr} {n n2 cD : Nat} {vs : List Value} {lt : List (Addr × Obj)} {oy o1 o2 o3 od oD : Obj} {kvs : List (Int × Value)} {ps : List (Int × Int)} {es : Array DictEntry} {xv av : Option Value}
    (hD : DIs (PySem.intKind prog w) es kvs) (hi : IntsI kvs ps) (hl : ps.length ≤ 9) (hsx : (x == sysModules) = false) (hT : TupsJ lt vs ps) (c1 : oD.cls = .type "list") (c2 : oD.data = .seq (dueV ps vs).toArray cD)
    (B1 : Below callerA g1 [] g1) (X1 : (Mine.hd11.heap_39 w.params).In g1) (T1 : Top vw ls mean mg mb g1)
    (F1 : Fr g1 L1 s.heap (mD y d D x xv av)) (N1 : News g1 L1 s.heap (nC L1 y d P D x dx vs n n2 es o1 o2 o3 oy od oD lt))
    (rest_ok : ∀ h' tk, Fr g1 L1 h' (mD y d D x xv av) → News g1 L1 h' (nC L1 y d P D x dx vs n n2 es o1 o2 o3 oy od oD lt) →
      wpAny (model prog w) (callerA.deeper (envOfC qual scope L1 1102 cdv)) (execs (body.drop 7) (envOfC qual scope L1 1102 cdv)) Q E { s with heap := h', toks := tk }) :
    wpAny (model prog w) (callerA.deeper (envOfC qual scope L1 1102 cdv)) (execs (body.drop 6) (envOfC qual scope L1 1102 cdv)) Q E s := by
  have e := ho.symm.trans (by k_is : (Mine.hd11.heap_39 w.params).lookup 1102 = some _)
  cases e
  dsimp only [List.drop]
  k_steps
  unfold Halt
  refine use_at 8 rfl rfl rfl rfl rfl (Nat.le_of_ble_eq_true rfl) (Nat.le_of_ble_eq_true rfl) (most_none (x := x) (dx := dx) (es := es) (n := n2) (rest := (D, oD) :: nP L1 y d P vs n o1 o2 o3 oy od lt) (.inl rfl) hD hi (by exact Nat.lt_of_le_of_lt ‹_› (by decide)) hsx B1 F1 X1 N1 T1 fun S2 h2 tk2 vs2 l2 k2 hT2 F2 N2 lo2 => ?_)
  dsimp only
  k_steps
  unfold Halt
  refine kqd_ne N2 (a := S2) (b := D) (oa := listOf (dueV ps vs2).toArray k2) (ob := oD) (.head _) rfl rfl hT2.all.dat (fun q hq => .tail _ (List.mem_append_left _ hq)) (.tail _ (List.mem_append_right _ (.tail _ (.tail _ (.head _))))) c1 c2 hT.all.dat (fun q hq => .tail _ (List.mem_append_right _ (.tail _ (.tail _ (.tail _ (.tail _ (.tail _ (.tail _ (.tail _ (.tail _ (.tail _ hq)))))))))) ) pdI_oks pdI_oks (Nat.le_of_ble_eq_true rfl) ?_
  simp only [decide_true, Bool.not_true]
  have N3 : News g1 L1 h2 (nC L1 y d P D x dx vs n n2 es o1 o2 o3 oy od oD lt) := news_sub N2 fun q hq => .tail _ (List.mem_append_right _ hq)
  clear N2 F1 N1 lo2 hT2
  k_steps
  unfold Halt
  refine use_at 8 rfl rfl rfl rfl rfl (Nat.le_of_ble_eq_true rfl) (Nat.le_of_ble_eq_true rfl) (most_none (x := x) (dx := dx) (es := es) (n := n2) (rest := (D, oD) :: nP L1 y d P vs n o1 o2 o3 oy od lt) (.inr rfl) hD hi (by exact Nat.lt_of_le_of_lt ‹_› (by decide)) hsx B1 F2 X1 N3 T1 fun S4 h4 tk4 vs4 l4 k4 hT4 F4 N4 lo4 => ?_)
  dsimp only
  k_steps
  unfold Halt
  refine kqd_ne N4 (a := S4) (b := D) (oa := listOf (dueV ps vs4).toArray k4) (ob := oD) (.head _) rfl rfl hT4.all.dat (fun q hq => .tail _ (List.mem_append_left _ hq)) (.tail _ (List.mem_append_right _ (.tail _ (.tail _ (.head _))))) c1 c2 hT.all.dat (fun q hq => .tail _ (List.mem_append_right _ (.tail _ (.tail _ (.tail _ (.tail _ (.tail _ (.tail _ (.tail _ (.tail _ (.tail _ hq)))))))))) ) pdI_oks pdI_oks (Nat.le_of_ble_eq_true rfl) ?_
  simp only [decide_true, Bool.not_true]
  have N5 : News g1 L1 h4 (nC L1 y d P D x dx vs n n2 es o1 o2 o3 oy od oD lt) := news_sub N4 fun q hq => .tail _ (List.mem_append_right _ hq)
  clear N4 F2 N3 lo4 hT4
  k_steps
  unfold Halt
  exact rest_ok h4 _ F4 N5
end
end Mine
end
section
open PySem PySem.W PyProof.Rows PyProof.V PySem.Calls PySem.Spec Builtin Builtin.ObjectAttr
set_option compiler.extract_closed false
set_option Elab.async false
set_option maxRecDepth 100000
set_option maxHeartbeats 3000000
namespace Mine
theorem fillQ9 : PySem.Challenge.rw_dn0005_11 = PySem.Challenge.rw_dn0005_11 ∧ Mine.hd11.heap_39 = Mine.hd11.heap_39 := by
  k_fill
  exact ⟨rfl, rfl⟩
local macro_rules | `(tactic| walk_at "UnrPostW") => `(tactic| (refine halt ?_))
local macro_rules | `(tactic| walk_at "pyIter ref") => `(tactic| (refine halt ?_))
local macro_rules | `(tactic| walk_at "exec For Name Name cons nil") => `(tactic| (refine halt ?_))
local macro_rules | `(tactic| walk_at "exec For Name Name") => `(tactic| (refine halt ?_))
local macro_rules | `(tactic| walk_at "exec For Name BinOp") => `(tactic| (refine halt ?_))
local macro_rules | `(tactic| walk_at "exec For") => `(tactic| (refine halt ?_))
local macro_rules | `(tactic| walk_at "call type:list") => `(tactic| (refine halt ?_))
local macro_rules | `(tactic| walk_at "call builtin:len") => `(tactic| (k_here; refine Calls.call_len_list (News.isList ‹_› (by k_mem)) ‹_› ?_))
local macro_rules | `(tactic| walk_at "getMethod ref") => `(tactic| (k_here; (refine cnt_fn_meth (by k_asm) (by k_asm) (by k_asm) (by k_mem) (by k_mem) c_most t_most ?_)))
local macro_rules | `(tactic| walk_at "call ref") => `(tactic| (refine halt ?_))
local macro_rules | `(tactic| walk_at "compareOp NotEq ref ref") => `(tactic| (refine halt ?_))
local macro_rules | `(tactic| walk_at "call builtin:sum") => `(tactic| (refine halt ?_))
local macro_rules | `(tactic| walk_at "subscriptTail Name Slice ref ref") => `(tactic| (refine halt ?_))
local macro_rules | `(tactic| walk_at "binaryOp Add ref ref") => `(tactic| (refine halt ?_))
local macro_rules | `(tactic| walk_at "execs cons") => `(tactic| ((with_reducible show wpAny _ _ (execs [Stmt.Return _ _] _) _ _ _); refine halt ?_))
section
variable {prog : Program} {w : World} {A₀ : Around} {base g1 : Heap} {outer : List Env} {e0 : Env} {L L1 : Addr} {mg mb : Str → Option Value} {mean : ExcName → Option Value} {s : Shared} {Q : Flow → Shared → Prop} {E : Value → Shared → Prop}
theorem sum_any {A : Around} {E : Value → Shared → Prop} {h₀ : Heap} {l : Addr} {m : Str → Option Value} {news : List (Addr × Obj)} {us : List Value} {ms : List Int} {c : Nat} {Q : Value → Shared → Prop} (hh : A.handled = none) (F : Fr h₀ L s.heap m) (N : News h₀ L s.heap news) (hm : (l, listOf us.toArray c) ∈ news) (hi : IntsAre us ms)
    (h : ∀ k t h' tk, Fr h₀ L h' m → News h₀ L h' news → Q (.int k t) { s with heap := h', toks := tk }) : wpAny (model prog w) A (call (.builtin "sum") [.ref l]) Q E s := by
  obtain ⟨xs, hx⟩ := hi.allInts.items
  refine sum_intListG (xs := xs) hh (hx ▸ News.isList N hm) fun h' tk t' hk => h _ _ h' tk (F.grownK hk) (N.grown hk)
noncomputable abbrev mE (y d D x : Addr) (xv av nv : Option Value) : Str → Option Value := fun z => if z = Str.ofString "n" then nv else mD y d D x xv av z
theorem mE_set {y d D x : Addr} {xv av nv : Option Value} {v : Value} (z : Str) : (if z = Str.ofString "n" then some v else mE y d D x xv av nv z) = mE y d D x xv av (some v) z := by
  unfold mE
  by_cases h1 : z = Str.ofString "n"
  · rw [if_pos h1, if_pos h1]
  · rw [if_neg h1, if_neg h1, if_neg h1]
theorem mE_new {y d D x : Addr} {xv av : Option Value} (z : Str) : mD y d D x xv av z = mE y d D x xv av none z := by
  unfold mE
  by_cases h1 : z = Str.ofString "n"
  · subst h1; rfl
  · rw [if_neg h1]
theorem law_each {name qual : Str} {params : Arguments} {body : List Stmt} {scope : Scope} {dV kV doc pm cdv ct oc : Value} {an od' : Option Addr} {osl : Array (Option Value)}
    (ho : (Mine.hd11.heap_39 w.params).lookup 1102 = some ⟨oc, od', .func (fnOf name qual params body scope dV kV doc pm an cdv ct), osl⟩)
    {y d P D x dx : Addr} {n n2 cD cy : Nat} {vs zs : List Value} {ns : List Int} {lt : List (Addr × Obj)} {oy o1 o2 o3 od oD : Obj} {kvs : List (Int × Value)} {ps : List (Int × Int)} {es : Array DictEntry} {xv av : Option Value}
    (hv : IntsAre zs ns) (hzl : zs.length ≤ 63) (hoc : oy.cls = .type "list") (hoy : oy.data = .seq zs.toArray cy)
    (d1 : o1.data = .cell (some (.ref P)))
    (hD : DIs (PySem.intKind prog w) es kvs) (hi : IntsI kvs ps) (hl : ps.length ≤ 9) (hsx : (x == sysModules) = false) (hT : TupsJ lt vs ps) (c1 : oD.cls = .type "list") (c2 : oD.data = .seq (dueV ps vs).toArray cD)
    (B1 : Below callerA g1 [] g1) (X1 : (Mine.hd11.heap_39 w.params).In g1) (T1 : Top vw ls mean mg mb g1)
    (F1 : Fr g1 L1 s.heap (mD y d D x xv av)) (N1 : News g1 L1 s.heap (nC L1 y d P D x dx vs n n2 es o1 o2 o3 oy od oD lt))
    (hE : PassesOwn (model prog w) (callerA.deeper (envOfC qual scope L1 1102 cdv)) (envOfC qual scope L1 1102 cdv) E)
    (rest_ok : ∀ h' tk nv, Fr g1 L1 h' (mE y d D x xv av nv) → News g1 L1 h' (nC L1 y d P D x dx vs n n2 es o1 o2 o3 oy od oD lt) →
      wpAny (model prog w) (callerA.deeper (envOfC qual scope L1 1102 cdv)) (execs (body.drop 8) (envOfC qual scope L1 1102 cdv)) Q E { s with heap := h', toks := tk }) :
    wpAny (model prog w) (callerA.deeper (envOfC qual scope L1 1102 cdv)) (execs (body.drop 7) (envOfC qual scope L1 1102 cdv)) Q E s := by
  have e := ho.symm.trans (by k_is : (Mine.hd11.heap_39 w.params).lookup 1102 = some _)
  cases e
  have hv9 : vs.length ≤ 9 := Nat.le_trans (Nat.le_of_eq hT.length) hl
  have hfit : (vs.toArray.size : Int) < 2 ^ 63 := Int.lt_of_le_of_lt (Int.ofNat_le.mpr hv9) (by decide)
  dsimp only [List.drop]
  k_steps
  unfold Halt
  refine For_turns F1 ?_ (hE := hE)
  k_steps
  unfold Halt
  refine' kms_slice_lit (zs := zs.take 1) F1 N1 (l := y) (its := zs.toArray) ?yl ?yp ?yq ?ye ?_ ?ys ?yt ?yz
  case yl => exact ⟨oy, (N1 (y, oy) (by k_mem)).1, hoc, _, hoy⟩
  case yp => kmk_part
  case yq => kmk_part
  case ye => exact pick_upto _ (by decide)
  case ys => with_unfolding_all rfl
  case yt => kmk_pure
  case yz => rw [List.size_toArray, PySem.sizeLine_eq]; exact Nat.le_trans hzl (Nat.le_of_ble_eq_true rfl)
  intro S1 h1 F2 N2 l1
  have hv1 : IntsAre (zs.take 1) (ns.take 1) := by
    cases hv with
    | nil => exact .nil
    | cons k t _ => exact .cons k t .nil
  k_steps
  unfold Halt
  refine sum_any (by rfl) F2 N2 (.head _) hv1 fun k1 t1 h3 tk3 F3 N3 => ?_
  replace N3 : News g1 L1 h3 (nC L1 y d P D x dx vs n n2 es o1 o2 o3 oy od oD lt) := fun q hq => N3 q (.tail _ hq)
  clear F2 N2 F1 N1 l1
  k_steps
  unfold Halt
  rename IsRange _ _ _ _ _ _ _ _ => hR
  rename Fr _ _ _ _ => F4
  rename News _ _ _ _ => N4
  obtain ⟨r1, r2⟩ := range_from (n := vs.length) (Nat.lt_of_le_of_lt hv9 (by decide))
  refine kll_range (by rfl) F4 N4 hR r1 r2 (Nat.le_trans (Nat.add_le_add_right hv9 3) (Nat.le_of_ble_eq_true rfl)) fun S5 us5 c5 h5 tk5 F5 N5 l5 hI5 => ?_
  k_steps
  unfold Halt
  refine kmk_add_ints F5 N5 (News.isList N5 (.tail _ (.head _))) (News.isList N5 (.head _)) (vs := [_]) (ws := us5) (.cons _ _ .nil) hI5 (fun S6 us6 h6 F6 N6 l6 hI6 => ?_) ?room
  case room => rw [rangeKs_length, PySem.sizeLine_eq]; exact Nat.le_trans (Nat.add_le_add_left (Nat.add_le_add_right hv9 3) 1) (Nat.le_of_ble_eq_true rfl)
  generalize ([k1] ++ rangeKs (-1) (vs.length + 3)) = ms at hI6
  clear N5 F5 l5 hI5 r1 r2 hR
  replace N6 : News g1 L1 h6 ((S6, listOf us6.toArray 0) :: nC L1 y d P D x dx vs n n2 es o1 o2 o3 oy od oD lt) := news_cons (N6 _ (.head _)) fun q hq => N6 q (.tail _ (.tail _ (.tail _ hq)))
  k_steps
  unfold Halt
  clear F4 N4
  refine iter_listTurns (lo := listOf us6.toArray 0) (vs := us6) rfl F6 N6 (.head _) rfl rfl ?_
  intro I hI
  obtain ⟨Jn, hJn⟩ : ∃ Jn : Nat → (Str → Option Value) → List (Addr × Obj) → Prop, ∀ i m' news', Jn i m' news' ↔ ∀ G : Prop, (∀ nv, m' = mE y d D x xv av nv → news' = (S6, listOf us6.toArray 0) :: nC L1 y d P D x dx vs n n2 es o1 o2 o3 oy od oD lt → G) → G := ⟨_, fun _ _ _ => Iff.rfl⟩
  refine ints_fold Jn us6.length ?_ hI6 0 _ _ (Nat.le_of_eq (Nat.zero_add _)) ((hJn _ _ _).mpr fun G g => g none (funext fun z => mE_new z) rfl) ?_
  · intro i q t m' news' hlt hJ h tk hF
    refine (hJn _ _ _).mp hJ _ ?_
    clear hJ hlt
    rintro nv rfl rfl
    intro oI hoI hN
    k_steps
    unfold Halt
    rename Fr _ _ _ _ => F7
    rename News _ _ _ _ => N7
    have N8 : News g1 L1 _ ((x, cnt es n2 dx) :: (dx, dictOf [] 0) :: (I, oI) :: (S6, listOf us6.toArray 0) :: (D, oD) :: nP L1 y d P vs n o1 o2 o3 oy od lt) := news_sub N7 (by kqd_sub)
    clear N7 hN hF
    refine use_at 8 rfl rfl rfl rfl rfl (Nat.le_of_ble_eq_true rfl) (Nat.le_of_ble_eq_true rfl) (most_n (n := q) (x := x) (dx := dx) (es := es) (N0 := n2) (rest := (I, oI) :: (S6, listOf us6.toArray 0) :: (D, oD) :: nP L1 y d P vs n o1 o2 o3 oy od lt) hD hi (hi.length ▸ Nat.lt_of_le_of_lt hl (by decide)) hsx B1 F7 X1 N8 T1 fun S9 h9 tk9 us9 l9 c9 hT9 F9 N9 lo9 => ?_)
    dsimp only
    k_steps
    unfold Halt
    clear F9
    rename Fr _ _ _ _ => F10
    rename News _ _ _ _ => N10
    have mD0 : (D, oD) ∈ (S9, listOf us9.toArray c9) :: (l9 ++ (x, cnt es n2 dx) :: (dx, dictOf [] 0) :: (I, oI) :: (S6, listOf us6.toArray 0) :: (D, oD) :: nP L1 y d P vs n o1 o2 o3 oy od lt) := .tail _ (List.mem_append_right _ (.tail _ (.tail _ (.tail _ (.tail _ (.head _))))))
    refine' kms_slice_lit (zs := (dueV ps vs).take q.toNat) F10 N10 (l := D) (its := (dueV ps vs).toArray) ?tl ?tp ?tq ?te ?_ ?ts ?tt ?tz
    case tl => exact ⟨oD, (N10 (D, oD) mD0).1, c1, _, c2⟩
    case tp => kmk_part
    case tq => kmk_part
    case te => exact (pick_upto _ cut_pos).trans (congrArg (fun k => List.take k (dueV ps vs)) cut_nat)
    case ts => with_unfolding_all rfl
    case tt => kmk_pure
    case tz => rw [List.size_toArray, List.length_map, dueI_len, PySem.sizeLine_eq]; exact Nat.le_trans hl (Nat.le_of_ble_eq_true rfl)
    intro S11 h11 F11 N11 l11
    k_steps
    unfold Halt
    refine kqd_ne N11 (a := S9) (b := S11) (oa := listOf us9.toArray c9) (ob := listOf ((dueV ps vs).take q.toNat).toArray 0) (.tail _ (.head _)) rfl rfl hT9.dat (fun p hp => .tail _ (.tail _ (List.mem_append_left _ hp))) (.head _) rfl rfl (hT.due q.toNat).dat (fun p hp => .tail _ (.tail _ (List.mem_append_right _ ?mlt))) pdI_oks pdI_oks (Nat.le_of_ble_eq_true rfl) ?_
    case mlt => exact .tail _ (.tail _ (.tail _ (.tail _ (.tail _ (.tail _ (.tail _ (.tail _ (.tail _ (.tail _ (.tail _ hp))))))))))
    simp only [decide_true, Bool.not_true]
    k_steps
    unfold Halt
    have N12 : News g1 L1 h11 ((x, cnt es n2 dx) :: (dx, dictOf [] 0) :: (I, oI) :: (S6, listOf us6.toArray 0) :: (D, oD) :: nP L1 y d P vs n o1 o2 o3 oy od lt) := fun q hq => N11 q (.tail _ (.tail _ (List.mem_append_right _ hq)))
    exact ⟨h11, _, _, (S6, listOf us6.toArray 0) :: nC L1 y d P D x dx vs n n2 es o1 o2 o3 oy od oD lt, rfl, F11, news_sub N12 (by kqd_sub), fun p hp q hq => List.mem_singleton.mp hq ▸ Nat.ne_of_lt (hI p hp), subL_of (fun p hp => List.mem_singleton.mp hp ▸ .head _), (hJn _ _ _).mpr fun G g => g (some (.int q t)) (funext fun z => mE_set z) rfl⟩
  · intro m' news' hJ h8 tk8 F8 N8
    refine (hJn _ _ _).mp hJ _ ?_
    rintro nv rfl rfl
    exact rest_ok h8 tk8 nv F8 fun q hq => N8 q (.tail _ hq)
end
end Mine
end
section
open PySem PySem.W PyProof.Rows PyProof.V PySem.Calls PySem.Spec Builtin Builtin.ObjectAttr
set_option compiler.extract_closed false
set_option Elab.async false
set_option maxRecDepth 100000
set_option maxHeartbeats 3000000
namespace Mine
theorem fillQ10 : PySem.Challenge.rw_dn0005_11 = PySem.Challenge.rw_dn0005_11 ∧ Mine.hd11.heap_39 = Mine.hd11.heap_39 := by
  k_fill
  exact ⟨rfl, rfl⟩
local macro_rules | `(tactic| walk_at "getMethod ref") => `(tactic| (k_here; refine cnt_items_meth (by k_asm) (by k_asm) (by k_asm) (by k_mem) (by k_mem) ?_))
local macro_rules | `(tactic| walk_at "call builtin:dict.items") => `(tactic| (refine halt ?_))
local macro_rules | `(tactic| walk_at "call type:list") => `(tactic| (refine halt ?_))
local macro_rules | `(tactic| walk_at "compareOp Eq ref ref") => `(tactic| (refine halt ?_))
section
variable {prog : Program} {w : World} {A₀ : Around} {base g1 : Heap} {outer : List Env} {e0 : Env} {L L1 : Addr} {mg mb : Str → Option Value} {mean : ExcName → Option Value} {s : Shared} {Q : Flow → Shared → Prop} {E : Value → Shared → Prop}
theorem law_last {name qual : Str} {params : Arguments} {body : List Stmt} {scope : Scope} {dV kV doc pm cdv ct oc : Value} {an od' : Option Addr} {osl : Array (Option Value)}
    (ho : (Mine.hd11.heap_39 w.params).lookup 1102 = some ⟨oc, od', .func (fnOf name qual params body scope dV kV doc pm an cdv ct), osl⟩)
    {y d P D x dx : Addr} {n n2 : Nat} {vs : List Value} {lt : List (Addr × Obj)} {oy o1 o2 o3 od oD : Obj} {kvs : List (Int × Value)} {ps : List (Int × Int)} {es : Array DictEntry} {xv av nv : Option Value}
    (d1 : o1.data = .cell (some (.ref P)))
    (hD : DIs (PySem.intKind prog w) es kvs) (hi : IntsI kvs ps) (hl : ps.length ≤ 9) (hsx : (x == sysModules) = false) (hT : TupsJ lt vs ps)
    (B1 : Below callerA g1 [] g1) (X1 : (Mine.hd11.heap_39 w.params).In g1) (T1 : Top vw ls mean mg mb g1)
    (F1 : Fr g1 L1 s.heap (mE y d D x xv av nv)) (N1 : News g1 L1 s.heap (nC L1 y d P D x dx vs n n2 es o1 o2 o3 oy od oD lt))
    (k : ∀ h' tk m', Fr g1 L1 h' m' → h'.get? y = some oy → Q (.ret (.bool true)) { s with heap := h', toks := tk }) :
    wpAny (model prog w) (callerA.deeper (envOfC qual scope L1 1102 cdv)) (execs (body.drop 8) (envOfC qual scope L1 1102 cdv)) Q E s := by
  have e := ho.symm.trans (by k_is : (Mine.hd11.heap_39 w.params).lookup 1102 = some _)
  cases e
  dsimp only [List.drop]
  k_steps
  unfold Halt
  refine cnt_items_K F1 X1 N1 (.head _) (.tail _ (.head _)) hsx ?_
  intro v4 h4 F4 N4 l4
  k_steps
  unfold Halt
  refine list_items_I rfl F4 N4 (.head _) (oo := cnt es n2 dx) (y := x) (.tail _ (.head _)) rfl hD hi (by rw [hi.length, PySem.sizeLine_eq]; exact Nat.le_trans ‹_› (by decide)) fun S5 h5 tk5 vs5 tl5 n5 hT5 F5 N5 l5 m5 => ?_
  have N6 : News g1 L1 h5 ((L1 + 1, o1) :: (S5, listOf vs5.toArray n5) :: (P, listOf vs.toArray n) :: (y, oy) :: (tl5 ++ lt)) := fun q hq => by
    simp only [List.mem_cons, List.mem_append] at hq
    refine N5 q ?_
    rcases hq with h | h | h | h | h | h
    · exact .tail _ (List.mem_append_right _ (h ▸ (by k_mem)))
    · exact h ▸ .head _
    · exact .tail _ (List.mem_append_right _ (h ▸ (by k_mem)))
    · exact .tail _ (List.mem_append_right _ (h ▸ (by k_mem)))
    · exact .tail _ (List.mem_append_left _ h)
    · exact .tail _ (List.mem_append_right _ (.tail _ (.tail _ (.tail _ (.tail _ (.tail _ (.tail _ (.tail _ (.tail _ (.tail _ (.tail _ h)))))))))))
  clear N5 N4 F4 N1 F1 l4 l5 m5
  k_steps
  unfold Halt
  refine kqd_eq N6 (a := S5) (b := P) (oa := listOf vs5.toArray n5) (ob := listOf vs.toArray n) (.tail _ (.head _)) rfl rfl hT5.dat (fun q hq => .tail _ (.tail _ (.tail _ (.tail _ (List.mem_append_left _ hq))))) (.tail _ (.tail _ (.head _))) rfl rfl hT.dat (fun q hq => .tail _ (.tail _ (.tail _ (.tail _ (List.mem_append_right _ hq))))) pdI_oks pdI_oks (Nat.le_of_ble_eq_true rfl) ?_
  simp only [decide_true]
  exact k h5 _ _ F5 (N6 (y, oy) (.tail _ (.tail _ (.tail _ (.head _))))).1
end
end Mine
end
section
open PySem PySem.W PyProof.Rows PyProof.V PySem.Calls PySem.Spec LCg
set_option Elab.async false
set_option maxRecDepth 100000
set_option maxHeartbeats 3000000
namespace Mine
section
variable {prog : Program} {w : World} {g1 : Heap} {L1 : Addr} {mg mb : Str → Option Value} {mean : ExcName → Option Value} {s : Shared} {Q : Flow → Shared → Prop} {E : Value → Shared → Prop}
theorem law_body {name qual : Str} {params : Arguments} {body : List Stmt} {scope : Scope} {dV kV doc pm cdv ct oc : Value} {an od : Option Addr} {osl : Array (Option Value)}
    (ho : (Mine.hd11.heap_39 w.params).lookup 1102 = some ⟨oc, od, .func (fnOf name qual params body scope dV kV doc pm an cdv ct), osl⟩)
    (hfile : ((prog.main.file : Str) == Str.ofString "/claim/cut.py") = true) (htop : (prog.main.scope.names.lookup (Str.ofString "super")).isSome = false)
    {y : Addr} {oy o1 o2 o3 : Obj} {zs : List Value} {ns : List Int} {n : Nat} (hv : IntsAre zs ns) (hl : zs.length ≤ 63) (hoc : oy.cls = .type "list") (hod : oy.data = .seq zs.toArray n) (l1 : y < L1)
    (d1' : o1.data = .cell none) (d2' : o2.data = .cell none) (d3' : o3.data = .cell none)
    (B1 : Below callerA g1 [] g1) (X1 : (Mine.hd11.heap_39 w.params).In g1) (T1 : Top vw ls mean mg mb g1)
    (F1 : Fr g1 L1 s.heap (fun z => if z = Str.ofString "script" then some (Value.ref y) else none)) (N1 : News g1 L1 s.heap [(L1 + 1 + 1 + 1, o3), (L1 + 1 + 1, o2), (L1 + 1, o1), (y, oy)])
    (hE : PassesOwn (model prog w) (callerA.deeper (envOfC qual scope L1 1102 cdv)) (envOfC qual scope L1 1102 cdv) E)
    (k : ∀ h' tk m', Fr g1 L1 h' m' → h'.get? y = some oy → Q (.ret (.bool true)) { s with heap := h', toks := tk }) :
    wpAny (model prog w) (callerA.deeper (envOfC qual scope L1 1102 cdv)) (execs body (envOfC qual scope L1 1102 cdv)) Q E s := by
  refine law_head ho hv hl hoc hod l1 d1' d2' d3' B1 X1 T1 F1 N1 hE ?_
  intro d od1 kvs ps xv h2 tk2 hd hi hlen hds ld F2 N2
  refine law_pairs (s := { s with heap := h2, toks := tk2 }) ho hd hi hlen hds ld d1' d2' d3' B1 X1 T1 F2 N2 hE l1 ?_
  intro P c vs lt o1' h3 tk3 hT d1 F3 N3 lP llt
  refine law_due (s := { s with heap := h3, toks := tk3 }) ho hT hlen d1 B1 X1 T1 F3 N3 hE ?_
  intro D h4 tk4 ys lu hTu F4 N4 lowD _
  have hys : ys.length = ps.length := hTu.length.trans (List.length_replicate ..)
  have N5 : News g1 L1 h4 ((D, lst ys) :: nP L1 y d P vs c o1' o2 o3 oy od1 lt) := fun q hq => by
    rcases List.mem_cons.mp hq with rfl | hq
    · exact N4 _ (.head _)
    · exact N4 q (.tail _ (List.mem_append_right _ hq))
  refine law_loop (s := { s with heap := h4, toks := tk4 }) ho hT hlen hys d1 d2' d3' l1 ld.1 lP.1 (lowD (P, listOf vs.toArray c) (.head _)) llt lowD B1 X1 T1 F4 N5 hE ?_
  intro oD cD o2' o3' c2 c3 av h6 tk6 e1 e2 e3 e4 F6 N6
  refine law_bag (s := { s with heap := h6, toks := tk6 }) ho hfile htop hd hi hlen hds B1 X1 T1 F6 N6 ?_
  intro x dx es n2 h7 tk7 hD hsx F7 N7
  refine law_all (s := { s with heap := h7, toks := tk7 }) ho hD hi hlen hsx hT e1 e2 B1 X1 T1 F7 N7 ?_
  intro h8 tk8 F8 N8
  refine law_each (s := { s with heap := h8, toks := tk8 }) ho hv hl hoc hod d1 hD hi hlen hsx hT e1 e2 B1 X1 T1 F8 N8 hE ?_
  intro h9 tk9 nv F9 N9
  refine law_last (s := { s with heap := h9, toks := tk9 }) ho d1 hD hi hlen hsx hT B1 X1 T1 F9 N9 ?_
  exact k
end
end Mine
end
section
open PySem PySem.W PyProof.Rows PyProof.V PySem.Calls PySem.Spec
set_option Elab.async false
set_option maxRecDepth 100000
set_option maxHeartbeats 3000000
namespace Mine
noncomputable def noList (K : Frag) : Bool := K.all fun p => match p.2.cls with
  | .type s => s != "list"
  | _ => true
theorem c_nolist (P : Params) : noList (Mine.hd11.heap_39 P) = true := by kernel_rfl
section
variable {h h' : Heap} {y L : Addr} {its : Array Value} {m mg mb : Str → Option Value} {K : Frag} {p : Program} {loose : List Str} {mean : ExcName → Option Value}
theorem hide_get {b : Addr} {o : Obj} (hy : h.IsList y its) (e : h.get? b = some o) (hn : o.cls ≠ .type "list") : (hideAll h [y]).get? b = some o :=
  hideAll_get _ e fun q => by
    obtain ⟨oy, e1, e2, _⟩ := hy
    rw [List.mem_singleton.mp q, e1] at e
    cases e
    exact hn e2
theorem hide_getD {b : Addr} {o : Obj} (hy : h.IsList y its) (e : h.get? b = some o) (hn : ∀ a n, o.data ≠ .seq a n) : (hideAll h [y]).get? b = some o :=
  hideAll_get _ e fun q => by
    obtain ⟨oy, e1, _, n, e2⟩ := hy
    rw [List.mem_singleton.mp q, e1] at e
    cases e
    exact hn _ _ e2
theorem hide_ns {a : Addr} {mm : Str → Option Value} (hy : h.IsList y its) (x : h.Ns a mm) : (hideAll h [y]).Ns a mm :=
  let ⟨o, es, ep, e, hd, r⟩ := x; ⟨o, es, ep, hide_getD hy e (fun _ _ q => by rw [q] at hd; cases hd), hd, r⟩
theorem hide_K (hy : h.IsList y its) (X : K.In h) (hK : noList K = true) : K.In (hideAll h [y]) := fun a o e => by
  refine hide_get hy (X a o e) fun q => ?_
  have h2 := List.all_eq_true.mp hK (a, o) (mem_of_lookupK e)
  dsimp only at h2
  rw [q] at h2
  exact absurd h2 (by decide)
theorem hide_top (hy : h.IsList y its) (T : Top p loose mean mg mb h) :
    Top topProg (loose ++ (recsOf p).map (·.name) ++ (litsOf p).map (·.1) ++ (clssOf p loose).map (·.name)) mean mg mb (hideAll h [y]) where
  g := hide_ns hy T.g
  b := hide_ns hy T.b
  nolimit := let ⟨mc, a, r⟩ := T.nolimit; ⟨mc, hide_ns hy a, r⟩
  nodigits := let ⟨mc, a, r⟩ := T.nodigits; ⟨mc, hide_ns hy a, r⟩
  fn := fun d hd => absurd (show d ∈ ([] : List DefRec) from hd) List.not_mem_nil
  own := fun o ho => absurd (show o ∈ ([] : List OwnSpec) from ho) List.not_mem_nil
  const := fun x d e => by cases (show (none : Option PyData) = some d from e)
  free := fun x h1 h2 _ _ _ => T.free x h1 (fun q => h2 (List.mem_append_left _ (List.mem_append_left _ (List.mem_append_left _ q))))
    (fun q => h2 (List.mem_append_left _ (List.mem_append_left _ (List.mem_append_right _ q)))) (fun q => h2 (List.mem_append_left _ (List.mem_append_right _ q))) fun q => h2 (List.mem_append_right _ q)
  builtins := T.builtins
  tab := fun d hd => absurd (show d ∈ ([] : List DefRec) from hd) List.not_mem_nil
  bmain := let ⟨bm, ob, a1, a2, a3, a4, r⟩ := T.bmain; ⟨bm, ob, a1, a2, hide_get hy a3 (fun q => by rw [q] at a4; exact absurd a4 (by decide)), a4, r⟩
  seer := fun e => absurd (show false = true from e) Bool.false_ne_true
theorem hide_fr (F : Fr h L h' m) : Fr (hideAll h [y]) L h' m := ⟨F.ns, fun b o e => F.keep b o (of_hideAll _ e), Nat.le_trans (Nat.le_of_eq (hideAll_size _ _)) F.above⟩
theorem fr_back {o : Obj} (hy : h.get? y = some o) (hy' : h'.get? y = some o) (F : Fr (hideAll h [y]) L h' m) : Fr h L h' m := by
  refine ⟨F.ns, fun b x e => ?_, Nat.le_trans (Nat.le_of_eq (hideAll_size _ _).symm) F.above⟩
  by_cases q : b = y
  · rw [q] at e ⊢
    rw [hy] at e
    rw [hy', e]
  · exact F.keep b x (hideAll_get _ e fun z => q (List.mem_singleton.mp z))
end
end Mine
end
section
open PySem PySem.W PyProof.Rows PyProof.V PySem.Calls PySem.Spec
set_option compiler.extract_closed false
set_option Elab.async false
set_option maxRecDepth 100000
set_option maxHeartbeats 8000000
namespace Mine
theorem join11 : PySem.Challenge.rw_dn0005_11.Holds := Mine.hd11 (by
  k_fill
  intro w s₀ s₁ mg mb G Y fa o pm cd doc dV kV ho hd hcd hD hmg hg args vals as hpre hlay hrd hwl hlo
  have KX := kIn_of Y
  refine Ground.open G ?_
  intro T B D TE TW
  try (refine guard_noD D (by decide +kernel) ?_; clear D)
  have hfa := hmg.symm.trans (mg_of KX (Top.g T) (n := Str.ofString "law") (v := .ref 1102) (by k_is))
  obtain rfl : fa = 1102 := by
    injection hfa with e
    injection e
  have hl1102 := (by k_is : (Mine.hd11.heap_39 w.params).lookup 1102 = some _)
  have hob := KX 1102 _ hl1102
  have hoo := Option.some.inj (ho.symm.trans hob)
  obtain rfl : cd = .ref 1101 := by
    have := congrArg (fun d : Data => match d with | .func fd => fd.code | _ => Value.none) (hd.symm.trans (congrArg Obj.data hoo))
    exact this
  clear hob hoo hfa
  wrow_args hpre hlay hrd hwl hlo
  all_goals (
    rename_i ns hs hlay0 hL1 hr1 hl2 wa wb y vs wc hL ra w1 r0 hI hr hc1 hc2
    refine enter_call ?_
    w_top on
    w_call any ho hd hcd hD T F
    rename_i h1 tk1 o3 o2 o1 d3 d2 d1 N0 X0
    have hl63 : vs.length ≤ 63 := by rw [hI.length]; lia
    obtain ⟨oy, hy1, hoc, ny, hod⟩ := id hL
    have hyL : y < s₁.heap.objs.size := Heap.lt_size hy1
    have N' : News (hideAll s₁.heap [y]) s₁.heap.objs.size h1 [(s₁.heap.objs.size + 1 + 1 + 1, o3), (s₁.heap.objs.size + 1 + 1, o2), (s₁.heap.objs.size + 1, o1), (y, oy)] := by
      intro p hp
      have low : s₁.heap.get? p.1 = none → (hideAll s₁.heap [y]).get? p.1 = none := fun e => by
        cases q : (hideAll s₁.heap [y]).get? p.1 with
        | none => rfl
        | some x => rw [of_hideAll _ q] at e; cases e
      simp only [List.mem_cons, List.not_mem_nil, or_false] at hp
      rcases hp with rfl | rfl | rfl | rfl
      · have z := N0 _ (.head _)
        exact ⟨z.1, z.2.1, low z.2.2⟩
      · have z := N0 _ (.tail _ (.head _))
        exact ⟨z.1, z.2.1, low z.2.2⟩
      · have z := N0 _ (.tail _ (.tail _ (.head _)))
        exact ⟨z.1, z.2.1, low z.2.2⟩
      · exact ⟨F.keep _ _ hy1, Nat.ne_of_lt hyL, hideAll_none _ (.head _)⟩
    refine law_body hl1102 (by kernel_rfl) (by kernel_rfl) hI hl63 hoc hod hyL d1 d2 d3 (below_caller _) (hide_K hL KX (c_nolist _)) (hide_top hL T) (fr_fun (hide_fr F) fun z => rfl) N' (by passes_own) ?_
    intro h9 tk9 m9 F9 hy9
    have F10 := fr_back hy1 hy9 F9
    clear F9 N' N0 F
    dsimp only
    refine ⟨.inl ⟨.bool true, _, _, rfl, raisesW_false (by wrow_none_raised), (by w_reads), (postW_of (by wrow_shape) (by wtm_val) (by str_meet; first | done | w_fin)), (by exact unshared_nil)⟩, .of_keep F10.keep, rfl, (by row_bare)⟩))
end Mine
end
theorem PySem.Challenge.cw_dn0005_11_holds : PySem.Challenge.rw_dn0005_11.Holds := by
  exact Mine.join11
