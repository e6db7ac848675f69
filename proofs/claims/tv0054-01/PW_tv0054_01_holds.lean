import PyProof.Rows.All
import Wide.All
import OpenK.AllK
import Wide.FinOn
import PySem.Challenge.RW_tv0054_01
open PySem PySem.W PyProof.Rows PySem.Calls PyProof.V PySem.Spec
set_option Elab.async false
set_option compiler.extract_closed false
set_option maxRecDepth 100000
set_option maxHeartbeats 8000000
set_option linter.all false
namespace Mine
def hd0.tw2872812170981058569 : Nat := 0
def hd0.tw2788084877741506761 : Nat := 0
def hd0.tw13209727718768804796 : Nat := 0
def hd0.tw12805207464963118493 : Nat := 0
def hd0.tw18232621011535782799 : Nat := 0
def hd0.tw3873771098192455846 : Nat := 0
def hd0.tw16408510505809933179 : Nat := 0
def hd0.tw17344640237846363095 : Nat := 0
def hd0.tw17496181070154571847 : Nat := 0
def hd0.tw13906137355324554554 : Nat := 0
def hd0.tw2093440984422149139 : Nat := 0
def hd0.tw5145303074121384310 : Nat := 0
def hd0.tw13407135678810255579 : Nat := 0
def hd0.tw11296317026604976579 : Nat := 0
def hd0.tw4373546571844417716 : Nat := 0
def hd0.tw15231096910501823895 : Nat := 0
def hd0.tw4837166207565515596 : Nat := 0
def hd0.tw7288751869163876638 : Nat := 0
def hd0.tw18173235499607337090 : Nat := 0
def hd0.tw14487139744964632365 : Nat := 0
def hd0.tw8980591889485315963 : Nat := 0
def hd0.tw2611855371027192026 : Nat := 0
def hd0.tw16945641315097055003 : Nat := 0
def hd0.tw7647748658271166302 : Nat := 0
def hd0.tw13198788859858803882 : Nat := 0
def hd0.tw447684426723917565 : Nat := 0
def hd0.tw16112012934339231772 : Nat := 0
def hd0.tw14694669036159307144 : Nat := 0
def hd0.tw2510589942101626497 : Nat := 0
def hd0.tw11342738394816991558 : Nat := 0
def hd0.tw8077860469154291183 : Nat := 0
def hd0.tw12014350970595483805 : Nat := 0
def hd0.tw17705790862779081903 : Nat := 0
def hd0.tw3093808528041796494 : Nat := 0
def hd0.tw16463593755247147200 : Nat := 0
def hd0.tw8446322832418629212 : Nat := 0
def hd0.tw12784123285358203314 : Nat := 0
def hd0.tw9115860346242966872 : Nat := 0
def hd0.tw4798040755957998673 : Nat := 0
def hd0.tw10046214379172474726 : Nat := 0
def hd0.tw3186808078206046059 : Nat := 0
def hd0.tw12786491423460641670 : Nat := 0
def hd0.tw14502001302391087502 : Nat := 0
def hd0.tw18430945745249023057 : Nat := 0
def hd0.tw309277354587492579 : Nat := 0
def hd0.tw15783581761236437582 : Nat := 0
def hd0.tw8284464484006228044 : Nat := 0
def hd0.tw5992386861721816697 : Nat := 0
def hd0.tw10260036693505685281 : Nat := 0
def hd0.tw14397348241044380734 : Nat := 0
def hd0.tw18372316644610329012 : Nat := 0
def hd0.tw5244145174254350547 : Nat := 0
def hd0.tw17763732069537761205 : Nat := 0
def hd0.tw17998732546299578792 : Nat := 0
def hd0.tw1347409029562170106 : Nat := 0
def hd0.tw1191622958437496830 : Nat := 0
def hd0.tw1405133032699174042 : Nat := 0
def hd0.tw6302951332473218875 : Nat := 0
def hd0.tw17356708106332492362 : Nat := 0
def hd0.tw109082221543053423 : Nat := 0
def hd0.tw6414887533649200790 : Nat := 0
def hd0.tw15200775214083542848 : Nat := 0
def hd0.tw7026590804218146370 : Nat := 0
def hd0.tw444321031296666723 : Nat := 0
def hd0.tw1562688426800042800 : Nat := 0
def hd0.tw13728930200626439758 : Nat := 0
def hd0.tw17529906274252830889 : Nat := 0
def hd0.tw7493280530175958909 : Nat := 0
def hd0.tw3465554795787012971 : Nat := 0
def hd0.tw13012256603424907846 : Nat := 0
def hd0.tw18132021507681513943 : Nat := 0
def hd0.tw1248103358546188252 : Nat := 0
def hd0.tw1690223966290365743 : Nat := 0
def hd0.tw1033364844809730243 : Nat := 0
def hd0.tw17020303828985201908 : Nat := 0
def hd0.tw5461055050941286108 : Nat := 0
def hd0.tw43554979256357654 : Nat := 0
def hd0.tw2128425038151221735 : Nat := 0
def hd0.tw1673108226327096836 : Nat := 0
def hd0.tw4958161400511572651 : Nat := 0
def hd0.tw6675033689688884099 : Nat := 0
def hd0.tw876251100685909870 : Nat := 0
def hd0.tw6839121083959268948 : Nat := 0
def hd0.tw10950015098503667 : Nat := 0
def hd0.tw7692641201406191224 : Nat := 0
def hd0.tw11017282251955597146 : Nat := 0
def hd0.tw4835004971785622705 : Nat := 0
def hd0.tw13105775301183761922 : Nat := 0
def hd0.tw15726108546692610502 : Nat := 0
def hd0.tw3968613266054771741 : Nat := 0
def hd0.tw12003068471920674386 : Nat := 0
def hd0.tw10834066803405267298 : Nat := 0
def hd0.tw3198289665323921157 : Nat := 0
def hd0.tw14861641958691549802 : Nat := 0
def hd0.tw2808911380250203912 : Nat := 0
def hd0.tw3361144743427637995 : Nat := 0
def hd0.tw16356745440860276358 : Nat := 0
def hd0.tw15129630465062437422 : Nat := 0
def hd0.tw906593335335552129 : Nat := 0
def hd0.tw17444978098136114977 : Nat := 0
def hd0.tw11618779779337073695 : Nat := 0
def hd0.tw4691257246625332865 : Nat := 0
def hd0.tw18134629352650391119 : Nat := 0
def hd0.tw1155942757759416036 : Nat := 0
def hd0.tw7579484373256523769 : Nat := 0
def hd0.tw11497454159474323877 : Nat := 0
def hd0.tw15617416376691679683 : Nat := 0
def hd0.tw179991387133551241 : Nat := 0
def hd0.tw13774004877433310113 : Nat := 0
def hd0.tw8575195297261919627 : Nat := 0
def hd0.tw17524989057665669244 : Nat := 0
def hd0.tw9632985906301461538 : Nat := 0
def hd0.tw1904828551985836751 : Nat := 0
def hd0.tw3352384854717104398 : Nat := 0
def hd0.tw4449064183696094736 : Nat := 0
def hd0.tw3801730876566874525 : Nat := 0
def hd0.tw2008372144067494435 : Nat := 0
def hd0.tw13545224959385804456 : Nat := 0
def hd0.tw13008693350213662659 : Nat := 0
def hd0.tw2404129781330519401 : Nat := 0
def hd0.tw3687058039446345037 : Nat := 0
def hd0.tw5583339228994031707 : Nat := 0
def hd0.tw16871336801076393977 : Nat := 0
def hd0.tw16912591420726631485 : Nat := 0
def hd0.tw1500556042865797202 : Nat := 0
def hd0.tw12457655390460550545 : Nat := 0
def hd0.tw14341870401148061235 : Nat := 0
def hd0.tw15764005096722370900 : Nat := 0
def hd0.tw961968547571948100 : Nat := 0
def hd0.tw5447685084907291095 : Nat := 0
def hd0.tw17043531303389682065 : Nat := 0
def hd0.tw3404567561779638057 : Nat := 0
def hd0.tw10131604004383188290 : Nat := 0
def hd0.tw1601430817000102872 : Nat := 0
def hd0.tw5250565193884996367 : Nat := 0
def hd0.tw12933712334415985070 : Nat := 0
def hd0.tw2202114373748815983 : Nat := 0
def hd0.tw14069131116232622754 : Nat := 0
def hd0.tw3801753739915242578 : Nat := 0
def hd0.tw12274314036958901727 : Nat := 0
def hd0.tw16057218211864961754 : Nat := 0
def hd0.tw5487660210450000937 : Nat := 0
def hd0.tw15134839469752433495 : Nat := 0
def hd0.tw13451678851320754741 : Nat := 0
def hd0.tw1700567991170962110 : Nat := 0
def hd0.tw4539016668912386218 : Nat := 0
def hd0.tw17965875459906211518 : Nat := 0
def hd0.tw7826759426205029736 : Nat := 0
def hd0.tw17087212701041150630 : Nat := 0
def hd0.tw208745692366851961 : Nat := 0
def hd0.tw18353199073579788961 : Nat := 0
def hd0.tw12603551123371624798 : Nat := 0
def hd0.tw10938155337808927905 : Nat := 0
def hd0.tw5354866172724995518 : Nat := 0
def hd0.tw8004278105448739639 : Nat := 0
def hd0.tw13448176657100887490 : Nat := 0
def hd0.tw11636710957646498814 : Nat := 0
def hd0.tw15082650240143370117 : Nat := 0
def hd0.tw1047158555221178310 : Nat := 0
def hd0.tw17260666893635610334 : Nat := 0
def hd0.tw5476550517563732157 : Nat := 0
def hd0.tw6865537962405302380 : Nat := 0
def hd0.tw3466419429004618768 : Nat := 0
def hd0.tw5851460317537991607 : Nat := 0
def hd0.tw7548088299822677513 : Nat := 0
def hd0.tw12267492742709321793 : Nat := 0
def hd0.tw18310740603297040469 : Nat := 0
def hd0.tw4863585562482331352 : Nat := 0
def hd0.tw7592970102811533889 : Nat := 0
def hd0.tw17781076316100833504 : Nat := 0
def hd0.tw9699008465174831797 : Nat := 0
def hd0.tw12281760368372384568 : Nat := 0
def hd0.tw9016927219191481385 : Nat := 0
def hd0.tw6269040581006461771 : Nat := 0
def hd0.tw12158446373679332284 : Nat := 0
def hd0.tw113680085351987624 : Nat := 0
def hd0.tw4550181199752876123 : Nat := 0
def hd0.tw2846630024949705071 : Nat := 0
def hd0.tw2860899101727606338 : Nat := 0
def hd0.tw5795620790108031851 : Nat := 0
def hd0.tw1280484567907817961 : Nat := 0
def hd0.tw16690107442442495926 : Nat := 0
def hd0.tw545614883460498859 : Nat := 0
def hd0.tw2732253915798935635 : Nat := 0
def hd0.tw14693713190999327560 : Nat := 0
def hd0.tw7731734453053413589 : Nat := 0
def hd0.tw10297934492154968163 : Nat := 0
def hd0.tw1237551924186500246 : Nat := 0
def hd0.tw8021989280010895897 : Nat := 0
def hd0.tw4320476126873396096 : Nat := 0
def hd0.tw5770661581888061647 : Nat := 0
def hd0.tw12846747447118687680 : Nat := 0
def hd0.tw4964845553990846222 : Nat := 0
def hd0.tw2493177000767575471 : Nat := 0
def hd0.tw12056577157831287533 : Nat := 0
def hd0.tw5428070130070536091 : Nat := 0
def hd0.tw15429971745270200749 : Nat := 0
def hd0.tw11837375871785574032 : Nat := 0
def hd0.tw8016032594811649588 : Nat := 0
def hd0.tw7660253145568457420 : Nat := 0
def hd0.tw3525650266765315696 : Nat := 0
def hd0.tw11614672710775262937 : Nat := 0
def hd0.tw6900330739380434607 : Nat := 0
def hd0.tw7421650667855571232 : Nat := 0
def hd0.tw4909664616505572318 : Nat := 0
def hd0.tw5721069425725921740 : Nat := 0
def hd0.tw13130983519766148356 : Nat := 0
def hd0.tw5099789754451425677 : Nat := 0
def hd0.tw5057337168837947518 : Nat := 0
def hd0.tw12095853167564722803 : Nat := 0
def hd0.tw12245222262104480702 : Nat := 0
def hd0.tw4116054870980984685 : Nat := 0
def hd0.tw5021738059777395277 : Nat := 0
def hd0.tw12949994812025541312 : Nat := 0
def hd0.tw17605128147998923189 : Nat := 0
def hd0.tw17623544462552871726 : Nat := 0
def hd0.tw8989800094379352571 : Nat := 0
def hd0.tw2089478843488583011 : Nat := 0
def hd0.tw14770051269562955072 : Nat := 0
def hd0.tw17185274593951198820 : Nat := 0
def hd0.tw11520006908099386746 : Nat := 0
def hd0.tw3179202085876152303 : Nat := 0
def hd0.tw14815348448972091128 : Nat := 0
def hd0.tw2329996539569397640 : Nat := 0
def hd0.tw2431039718480141022 : Nat := 0
def hd0.tw6643238626148955698 : Nat := 0
def hd0.tw12322794258418571040 : Nat := 0
def hd0.tw5555227914462491178 : Nat := 0
def hd0.tw4632445285567490079 : Nat := 0
def hd0.tw2863537065255238847 : Nat := 0
def hd0.tw15499897975847195668 : Nat := 0
def hd0.tw4505414625599408467 : Nat := 0
def hd0.tw8860506098235749104 : Nat := 0
def hd0.tw16526914962771135690 : Nat := 0
def hd0.tw14198383729236097778 : Nat := 0
def hd0.tw9846644877726163059 : Nat := 0
def hd0.tw6175420903726235015 : Nat := 0
def hd0.tw12665113834384165610 : Nat := 0
def hd0.tw6998471644465347158 : Nat := 0
def hd0.tw5597981571746525636 : Nat := 0
def hd0.tw10992540420993761691 : Nat := 0
def hd0.tw7937780131228529215 : Nat := 0
def hd0.tw4061320783067801059 : Nat := 0
def hd0.tw15478791486184338690 : Nat := 0
def hd0.tw18416291653570748741 : Nat := 0
def hd0.tw10990117588895114390 : Nat := 0
def hd0.tw14891386369280825845 : Nat := 0
def hd0.tw8472709252117196360 : Nat := 0
def hd0.tw15419091035143141216 : Nat := 0
def hd0.tw18098247460298835536 : Nat := 0
def hd0.tw10069731379804114837 : Nat := 0
def hd0.tw8708807820475274586 : Nat := 0
def hd0.tw8428931017558521197 : Nat := 0
def hd0.tw7079748053240274874 : Nat := 0
def hd0.tw9563851893216371074 : Nat := 0
def hd0.tw13155985672576599351 : Nat := 0
def hd0.tw7237386881181516464 : Nat := 0
def hd0.tw16538306262251643217 : Nat := 0
def hd0.tw14530719843544073062 : Nat := 0
def hd0.tw10121685255857489051 : Nat := 0
def hd0.tw18122743868552750832 : Nat := 0
def hd0.tw12782592981888142045 : Nat := 0
def hd0.tw11510660921149772417 : Nat := 0
def hd0.tw14727694407236729852 : Nat := 0
def hd0.tw3771890792122485445 : Nat := 0
def hd0.tw2827288076518157466 : Nat := 0
def hd0.tw12407471169438301300 : Nat := 0
def hd0.tw15598781321256940172 : Nat := 0
def hd0.tw11237116216057311745 : Nat := 0
def hd0.tw1087435185961119440 : Nat := 0
def hd0.tw17132104802792603634 : Nat := 0
def hd0.tw16136509226700455639 : Nat := 0
def hd0.tw2514418997314332413 : Nat := 0
def hd0.tw15960652031959596643 : Nat := 0
def hd0.tw15883065056585263411 : Nat := 0
def hd0.tw16799398214865156367 : Nat := 0
def hd0.tw2834553128231939821 : Nat := 0
def hd0.tw10831172887324590962 : Nat := 0
def hd0.tw7970355855660570498 : Nat := 0
def hd0.tw6595308224653121280 : Nat := 0
def hd0.tw15675528710725479212 : Nat := 0
def hd0.tw901327545473398541 : Nat := 0
def hd0.tw8239782323564299538 : Nat := 0
def hd0.tw14364967241312749879 : Nat := 0
def hd0.tw14392666273103455515 : Nat := 0
def hd0.tw10712882426781019964 : Nat := 0
def hd0.tw16426948963021806353 : Nat := 0
def hd0.tw14708056100453182282 : Nat := 0
def hd0.tw5366906053448781924 : Nat := 0
def hd0.tw8052174542758884176 : Nat := 0
def hd0.tw3233326631691786436 : Nat := 0
def hd0.tw8753875272357604297 : Nat := 0
def hd0.tw9454721371543059285 : Nat := 0
def hd0.tw16427158468746511654 : Nat := 0
def hd0.tw4504473542979724961 : Nat := 0
def hd0.tw3687841886611527418 : Nat := 0
def hd0.tw3153493263474777528 : Nat := 0
def hd0.tw11856145978303915523 : Nat := 0
def hd0.tw3149825195295114616 : Nat := 0
def hd0.tw1817164187568313849 : Nat := 0
def hd0.tw5009392681941405746 : Nat := 0
def hd0.tw3949515639412079851 : Nat := 0
def hd0.tw8437564595239901655 : Nat := 0
def hd0.tw16594580601805772844 : Nat := 0
def hd0.tw15621366761432239028 : Nat := 0
def hd0.tw9056650140919055547 : Nat := 0
def hd0.tw17828249871568911703 : Nat := 0
def hd0.tw13143500989680652158 : Nat := 0
def hd0.tw3178646243906574223 : Nat := 0
def hd0.tw3563376653281826072 : Nat := 0
def hd0.tw14876873880408228765 : Nat := 0
def hd0.tw13555123127346715575 : Nat := 0
def hd0.tw994453967162580088 : Nat := 0
def hd0.tw4597174426631724057 : Nat := 0
def hd0.tw8445946584241079207 : Nat := 0
def hd0.tw1277909223561221377 : Nat := 0
def hd0.tw17788234752527007362 : Nat := 0
def hd0.tw17327177587765197472 : Nat := 0
def hd0.tw7746724291664459861 : Nat := 0
def hd0.tw6070584094110415979 : Nat := 0
def hd0.tw4864754268065981865 : Nat := 0
def hd0.tw4582842965409387306 : Nat := 0
def hd0.tw8785302206795578915 : Nat := 0
def hd0.tw3406311059433270224 : Nat := 0
def hd0.tw17312371794062739880 : Nat := 0
def hd0.tw3640104315449746964 : Nat := 0
def hd0.tw8503028519756171898 : Nat := 0
def hd0.tw11759931035086368862 : Nat := 0
def hd0.tw839443794188527141 : Nat := 0
def hd0.tw1779554380871787090 : Nat := 0
def hd0.tw15728283652489511788 : Nat := 0
def hd0.tw9636976457204810352 : Nat := 0
def hd0.tw15005460686244068168 : Nat := 0
def hd0.tw11249123509674406191 : Nat := 0
def hd0.tw9385747698160950831 : Nat := 0
def hd0.tw16178185886527317852 : Nat := 0
def hd0.tw16269486087580614188 : Nat := 0
def hd0.tw2919583234286436895 : Nat := 0
def hd0.tw7359261033328424013 : Nat := 0
def hd0.tw9802666196054454208 : Nat := 0
def hd0.tw48920468559051274 : Nat := 0
def hd0.tw1967676767884184963 : Nat := 0
def hd0.tw12042970921518469988 : Nat := 0
def hd0.tw1301209152814809411 : Nat := 0
def hd0.tw6134885170197741980 : Nat := 0
def hd0.tw1958745321591857818 : Nat := 0
def hd0.tw9188398823286509360 : Nat := 0
def hd0.tw7754451475289968488 : Nat := 0
def hd0.tw3794367142867343539 : Nat := 0
def hd0.tw159360540141897952 : Nat := 0
def hd0.tw7835483635374872829 : Nat := 0
def hd0.tw7895234915340226546 : Nat := 0
def hd0.tw3614440592705372375 : Nat := 0
def hd0.tw2080979622161356455 : Nat := 0
def hd0.tw5271022457499508285 : Nat := 0
def hd0.tw14133583787211923317 : Nat := 0
def hd0.tw1189054894648436682 : Nat := 0
def hd0.tw16664977806865809019 : Nat := 0
def hd0.tw8907265306392417265 : Nat := 0
def hd0.tw15248397019474160181 : Nat := 0
def hd0.tw10566386253777865092 : Nat := 0
def hd0.tw14469414521783600489 : Nat := 0
def hd0.tw1825929278167054478 : Nat := 0
def hd0.tw6610721040928539861 : Nat := 0
def hd0.tw9458562405092480593 : Nat := 0
def hd0.tw5103694622764338702 : Nat := 0
def hd0.tw744657077029961169 : Nat := 0
def hd0.tw15549164469732841750 : Nat := 0
def hd0.tw13893897624538738667 : Nat := 0
def hd0.tw7609028302745033977 : Nat := 0
def hd0.tw10783142842391291914 : Nat := 0
def hd0.tw2738655298557570645 : Nat := 0
def hd0.tw17557899024913747603 : Nat := 0
def hd0.tw18078784917974338621 : Nat := 0
def hd0.tw10176971302787931466 : Nat := 0
def hd0.tw201601121702685456 : Nat := 0
def hd0.tw16844770772499615110 : Nat := 0
def hd0.tw12408544009092005060 : Nat := 0
def hd0.tw12151319272224551882 : Nat := 0
def hd0.tw13742105315037027404 : Nat := 0
def hd0.tw1963438426913184167 : Nat := 0
def hd0.tw15233396900245208191 : Nat := 0
def hd0.tw7252911797259916394 : Nat := 0
def hd0.tw16866877141584463672 : Nat := 0
def hd0.tw4983706646000405154 : Nat := 0
def hd0.tw5223386943819690705 : Nat := 0
def hd0.tw6518245875282815045 : Nat := 0
def hd0.tw12753557443971426460 : Nat := 0
def hd0.tw15490979449997167053 : Nat := 0
def hd0.tw14707159364453948219 : Nat := 0
def hd0.tw8407046076752184140 : Nat := 0
def hd0.tw2510654449352665463 : Nat := 0
def hd0.tw10893015288667660014 : Nat := 0
def hd0.tw12482913051474129847 : Nat := 0
def hd0.tw8053029068741257462 : Nat := 0
def hd0.tw5814328120849822248 : Nat := 0
def hd0.tw12171479601555845635 : Nat := 0
def hd0.tw14574581053450234351 : Nat := 0
def hd0.tw14210159926740337751 : Nat := 0
def hd0.tw463379757040502600 : Nat := 0
def hd0.tw13860332498241106628 : Nat := 0
def hd0.tw539940733940218950 : Nat := 0
def hd0.tw9777354187630944624 : Nat := 0
def hd0.tw5341192815897622196 : Nat := 0
def hd0.tw241197298611353260 : Nat := 0
def hd0.tw12933303735471307315 : Nat := 0
def hd0.tw5677135109947497480 : Nat := 0
def hd0.tw6326191274288118561 : Nat := 0
def hd0.tw1078058097833363317 : Nat := 0
def hd0.tw16577491470658047865 : Nat := 0
def hd0.tw4747281084397564757 : Nat := 0
def hd0.tw12276703297741760479 : Nat := 0
def hd0.tw16255563409837272293 : Nat := 0
def hd0.tw17984987178924691041 : Nat := 0
def hd0.tw4301605040222552612 : Nat := 0
def hd0.tw1450596053491749582 : Nat := 0
def hd0.tw7614193382627860833 : Nat := 0
def hd0.tw14943190808241422403 : Nat := 0
def hd0.tw2920931838809075660 : Nat := 0
def hd0.tw17310554660023955137 : Nat := 0
def hd0.tw14997161635575945179 : Nat := 0
def hd0.tw1830908064365640755 : Nat := 0
def hd0.tw4509526690794525690 : Nat := 0
def hd0.tw5173078720295292078 : Nat := 0
def hd0.tw9059920523635683277 : Nat := 0
def hd0.tw9001251600818444179 : Nat := 0
def hd0.tw10542246809792872130 : Nat := 0
def hd0.tw18135268618719461282 : Nat := 0
def hd0.tw5364393782896679965 : Nat := 0
def hd0.tw11573459230172034977 : Nat := 0
def hd0.tw14905831658627392255 : Nat := 0
def hd0.tw1359104647744391194 : Nat := 0
def hd0.tw6304940225609730636 : Nat := 0
def hd0.tw10299701338536963064 : Nat := 0
def hd0.tw2735401655943086511 : Nat := 0
def hd0.tw11623040055089417287 : Nat := 0
def hd0.tw8464541185895156213 : Nat := 0
def hd0.tw13800483763300068865 : Nat := 0
def hd0.tw5677194259293420247 : Nat := 0
def hd0.tw1824040809486260883 : Nat := 0
def hd0.tw6538509518478292348 : Nat := 0
def hd0.tw7236157760442490695 : Nat := 0
def hd0.tw6663726501131112074 : Nat := 0
def hd0.tw17011805984709885637 : Nat := 0
def hd0.tw13396925332426190305 : Nat := 0
def hd0.tw5484117130419629514 : Nat := 0
def hd0.tw13398391709312642032 : Nat := 0
def hd0.tw11064160589316715639 : Nat := 0
def hd0.tw3832096840286635077 : Nat := 0
def hd0.tw891186494875849158 : Nat := 0
def hd0.tw12607126878928665686 : Nat := 0
def hd0.tw15389241651499710389 : Nat := 0
def hd0.tw18186319125245921542 : Nat := 0
def hd0.tw17564057355376757762 : Nat := 0
def hd0.tw13969635912206726010 : Nat := 0
def hd0.tw10702419455615826468 : Nat := 0
def hd0.tw4345986799964169788 : Nat := 0
def hd0.tw13333579491729134397 : Nat := 0
def hd0.tw11119462899506271795 : Nat := 0
def hd0.tw13253873054810628565 : Nat := 0
def hd0.tw1693041884927832177 : Nat := 0
def hd0.tw3960374259282078579 : Nat := 0
def hd0.tw11268334314345259802 : Nat := 0
def hd0.tw12076167835796173172 : Nat := 0
def hd0.tw18115389002588741679 : Nat := 0
def hd0.tw17678402359407811144 : Nat := 0
def hd0.tw9589788102987637898 : Nat := 0
theorem keep_it {T : Prop} (t : T) (_ : t = t) : T := t
set_option Elab.async true in
theorem hd0 : True := by
  refine (?f : PySem.Challenge.rw_tv0054_01.Holds → True) ?X
  case f => exact fun _ => True.intro
  case X =>
    refine (?A : PySem.Challenge.rw_tv0054_01.row.Holds → PySem.Challenge.rw_tv0054_01.Holds) ?B
    case A =>
      as_aux_lemma =>
      intro k0
      w_on
      o_law
      exact k0
    case B =>
      as_aux_lemma =>
      w_on
      k_head
      (case hw => w_witness2)
      apply_rules (newGoals := .nonDependentOnly) (maxDepth := 1) [keep_it]
      rfl
theorem hd_there : hd0.heap_1_41 = hd0.heap_1_41 := rfl
end Mine
namespace Mine
/-- a def's contract, where its caller stands at most dp deep and un units up: called with vs over a ledger news, it hands back what post says, with the ledger then -/
def Con (prog : Program) (w : World) (K : Frag) (f : Addr) (dp un : Nat) (vs : List Value) (news : List (Addr × Obj)) (post : Value → List (Addr × Obj) → Prop) : Prop :=
  ∀ (p : Program) (loose : List Str) (mean : ExcName → Option Value) (mg mb : Str → Option Value) (gd : Option (List Code)) (cn : Str) (cs : Scope) (a : Addr) (ccd : Value) (cl : List (Str × Addr)) (outer : List Env) (A₀ : Around) (base h₀ : Heap) (L : Addr) (m : Str → Option Value) (s : Shared) (Q E : Value → Shared → Prop),
    Below A₀ base outer h₀ → Fr h₀ L s.heap m → K.In h₀ → News h₀ L s.heap news → Top p loose mean mg mb h₀ → cs.kind = .function →
    (∀ v news' h' tk', post v news' → Fr h₀ L h' m → News h₀ L h' news' → Q v { s with heap := h', toks := tk' }) →
    wpAny (model prog w) (ktrTop dp un gd cn cs L a ccd cl outer) (call (.ref f) vs) Q E s
theorem around_mono {α : Type} {M : Model} {A A' : Around} {t : Sem α} {Q : α → Shared → Prop} {E : Value → Shared → Prop} {s : Shared} (h : wpAny M A' t Q E s)
    (h1 : A.handled = A'.handled) (h2 : A.depth ≤ A'.depth) (h3 : A.frames = A'.frames) (h4 : A.guards = A'.guards) (h5 : A.units ≤ A'.units) : wpAny M A t Q E s :=
  fun Γ p hΓ => h Γ p ⟨h1 ▸ hΓ.1, Nat.le_trans hΓ.2.1 h2, h3 ▸ hΓ.2.2.1, h4 ▸ hΓ.2.2.2.1, Nat.le_trans hΓ.2.2.2.2 h5⟩
theorem Con.use {prog : Program} {w : World} {K : Frag} {f : Addr} {dp un dp' un' : Nat} {vs : List Value} {news : List (Addr × Obj)} {post : Value → List (Addr × Obj) → Prop} (C : Con prog w K f dp un vs news post) (hd : dp' ≤ dp) (hu : un' ≤ un)
    {p : Program} {loose : List Str} {mean : ExcName → Option Value} {mg mb : Str → Option Value} {gd : Option (List Code)} {cn : Str} {cs : Scope} {a : Addr} {ccd : Value} {cl : List (Str × Addr)} {outer : List Env} {A₀ : Around} {base h₀ : Heap} {L : Addr} {m : Str → Option Value} {s : Shared} {Q E : Value → Shared → Prop}
    (B : Below A₀ base outer h₀) (F : Fr h₀ L s.heap m) (X : K.In h₀) (N : News h₀ L s.heap news) (T : Top p loose mean mg mb h₀) (hk : cs.kind = .function)
    (ret : ∀ v news' h' tk', post v news' → Fr h₀ L h' m → News h₀ L h' news' → Q v { s with heap := h', toks := tk' }) :
    wpAny (model prog w) (ktrTop dp' un' gd cn cs L a ccd cl outer) (call (.ref f) vs) Q E s :=
  around_mono (C p loose mean mg mb gd cn cs a ccd cl outer A₀ base h₀ L m s Q E B F X N T hk ret) rfl hd rfl rfl hu
theorem ne_of_allLt {l : List (Addr × Obj)} {d : Addr} (h : ∀ p ∈ l, p.1 < d) : ∀ p ∈ l, p.1 ≠ d := fun p hp => Nat.ne_of_lt (h p hp)
theorem Con.useT {prog : Program} {w : World} {K : Frag} {f : Addr} {dp un dp' un' : Nat} {vs : List Value} {news news' : List (Addr × Obj)} {r : Tok → Value} (C : Con prog w K f dp un vs news (fun v n => (∃ t, v = r t) ∧ n = news')) (hd : dp' ≤ dp) (hu : un' ≤ un)
    {p : Program} {loose : List Str} {mean : ExcName → Option Value} {mg mb : Str → Option Value} {gd : Option (List Code)} {cn : Str} {cs : Scope} {a : Addr} {ccd : Value} {cl : List (Str × Addr)} {outer : List Env} {A₀ : Around} {base h₀ : Heap} {L : Addr} {m : Str → Option Value} {s : Shared} {Q E : Value → Shared → Prop}
    (B : Below A₀ base outer h₀) (F : Fr h₀ L s.heap m) (X : K.In h₀) (N : News h₀ L s.heap news) (T : Top p loose mean mg mb h₀) (hk : cs.kind = .function)
    (ret : ∀ t h' tk', Fr h₀ L h' m → News h₀ L h' news' → Q (r t) { s with heap := h', toks := tk' }) :
    wpAny (model prog w) (ktrTop dp' un' gd cn cs L a ccd cl outer) (call (.ref f) vs) Q E s :=
  C.use hd hu B F X N T hk fun v n h' tk' hp F' N' => by
    obtain ⟨⟨t, rfl⟩, rfl⟩ := hp
    exact ret t h' tk' F' N'
theorem kstB_of {x : Str} : ∀ {binds : List (Str × Value)}, (binds.map (·.1)).Nodup → binds.reverse.lookup x = kstB (fun _ => none) binds x
  | [], _ => rfl
  | (y, v) :: r, hn => by
    have ih := kstB_of (x := x) (binds := r) (List.nodup_cons.mp hn).2
    have hy : y ∉ r.map (·.1) := (List.nodup_cons.mp hn).1
    show ((y, v) :: r).reverse.lookup x = if x = y then some v else kstB (fun _ => none) r x
    rw [List.reverse_cons, List.lookup_append, ih]
    by_cases h : x = y
    · subst h
      rw [if_pos rfl]
      have h0 : kstB (fun _ => none) r x = none := by
        clear ih hn
        induction r with
        | nil => rfl
        | cons p r ih =>
          simp only [List.map_cons, List.mem_cons, not_or] at hy
          show (if x = p.1 then some p.2 else kstB (fun _ => none) r x) = none
          rw [if_neg hy.1]
          exact ih hy.2
      rw [h0]
      simp
    · rw [if_neg h]
      have hb : (x == y) = false := beq_eq_false_iff_ne.mpr h
      simp [List.lookup, hb]
/-- what a body's end must show -/
def Out (g : Heap) (s₀ : Shared) (post : Value → List (Addr × Obj) → Prop) (v : Value) (s' : Shared) : Prop :=
  ∃ (h' : Heap) (tk' : Nat) (L' : Addr) (m' : Str → Option Value) (more news' : List (Addr × Obj)), s' = { s₀ with heap := h', toks := tk' } ∧ Fr g L' h' m' ∧ News g L' h' more ∧ (∀ p ∈ news', p ∈ more) ∧ post v news'
theorem Con.of {prog : Program} {w : World} {K : Frag} {f : Addr} {dp un : Nat} {vs : List Value} {news : List (Addr × Obj)} {post : Value → List (Addr × Obj) → Prop}
    {name qual : Str} {params : Arguments} {body : List Stmt} {scope : Scope} {dV kV doc pm cdv ct oc : Value} {an od : Option Addr} {osl : Array (Option Value)} {binds : List (Str × Value)}
    (ho : K.lookup f = some ⟨oc, od, .func (fnOf name qual params body scope dV kV doc pm an cdv ct), osl⟩) (hcd : codeIn K cdv qual = true) (hroom : dp < recursionLimit)
    (hbind : ∀ s : Shared, K.In s.heap → BindsTo s (fnOf name qual params body scope dV kV doc pm an cdv ct) ⟨vs, []⟩ binds) (hloc : ∀ y ∈ binds, scope.names.lookup y.1 = some .local) (hnd : (binds.map (·.1)).Nodup)
    (hco : scope.isCoroutine = false) (hgen : scope.isGenerator = false) (hk : scope.kind = .function) (hcell : ∀ x ∈ scope.names, x.2 ≠ .cell)
    (h : ∀ (p : Program) (loose : List Str) (mean : ExcName → Option Value) (mg mb : Str → Option Value) (gd : Option (List Code)) (cn : Str) (cs : Scope) (a : Addr) (ccd : Value) (cl : List (Str × Addr)) (outer : List Env) (base g h₁ : Heap) (L' L₀ : Addr) (s : Shared) (tk : Nat) (R : Value → Shared → Prop),
      Fr g L' h₁ (kstB (fun _ => none) binds) → News g L' h₁ news → Below (ktrTop dp un gd cn cs L₀ a ccd cl outer) base (envX cn cs L₀ a ccd cl :: outer) g → K.In g → Top p loose mean mg mb g →
      wpAny (model prog w) ((ktrTop dp un gd cn cs L₀ a ccd cl outer).deeper (envOf qual scope L' f cdv)) (execs body (envOf qual scope L' f cdv))
        (fun fl s' => Out g s post (match fl with | .ret v => v | _ => .none) s')
        (fun e s' => wpAny (model prog w) ((ktrTop dp un gd cn cs L₀ a ccd cl outer).deeper (envOf qual scope L' f cdv)) (leaving (envOf qual scope L' f cdv) e) (fun _ s'' => R e s'') (fun e' s'' => R e' s'') s')
        { s with heap := h₁, toks := tk }) : Con prog w K f dp un vs news post := by
  intro p loose mean mg mb gd cn cs a ccd cl outer A₀ base h₀ L m s Q E B F X N T hkc ret
  refine wpAny_call ?_
  refine code_def B F X N T rfl rfl hkc ho hcd hroom (hbind s (X.keeps F.keep)) hloc (fun g L' h₁ FG F' N' B' X' T' => ?_) hco hgen hk hcell
  have F2 : Fr g L' h₁ (kstB (fun _ => none) binds) := by
    have e : (fun y => binds.reverse.lookup y) = kstB (fun _ => none) binds := funext fun y => kstB_of hnd
    rw [← e]; exact F'
  refine wpAny_mono (h p loose mean mg mb gd cn cs a ccd cl outer base g h₁ L' L s (s.toks + binds.length) E F2 N' B' X' T') (fun fl s' hO => ?_) fun _ _ x => x
  obtain ⟨h', tk', L'', m', more, news', rfl, F'', N'', hs, hp⟩ := hO
  exact leaveK_ F'' N'' fun kF kN => ret _ news' h' tk' hp kF fun q hq => kN q (hs q hq)
end Mine
namespace Mine
theorem ite_yes {c : Prop} [Decidable c] {P Q : Prop} (h : c) (p : P) : if c then P else Q := by rw [if_pos h]; exact p
theorem ite_no {c : Prop} [Decidable c] {P Q : Prop} (h : ¬ c) (q : Q) : if c then P else Q := by rw [if_neg h]; exact q
theorem toks_gen {α : Type} {M : Model} {A : Around} {t : Sem α} {Q : α → Shared → Prop} {E : Value → Shared → Prop} {h : Heap} {g : Array GenState} {d : Drawn} {T : Nat} {o : OsState} (H : ∀ tk, wpAny M A t Q E ⟨h, g, d, tk, o⟩) : wpAny M A t Q E ⟨h, g, d, T, o⟩ := H T
theorem ne_of_out {l : List (Addr × Obj)} {lo hi d : Addr} (h : ∀ p ∈ l, @LT.lt Nat _ p.1 lo ∨ @LT.lt Nat _ hi p.1) (h1 : @LE.le Nat _ lo d) (h2 : @LE.le Nat _ d hi) : ∀ p ∈ l, p.1 ≠ d := fun p hp e => by
  have := h p hp
  have e' : @Eq Nat p.1 d := e
  omega
theorem ne_of_out3 {l : List (Addr × Obj)} {lo hi m1 m2 d : Addr} (h : ∀ p ∈ l, @LT.lt Nat _ p.1 lo ∨ @LT.lt Nat _ hi p.1 ∨ (@LT.lt Nat _ m1 p.1 ∧ @LT.lt Nat _ p.1 m2)) (h1 : @LE.le Nat _ lo d) (h2 : @LE.le Nat _ d hi) (h3 : @LE.le Nat _ d m1 ∨ @LE.le Nat _ m2 d) : ∀ p ∈ l, p.1 ≠ d := fun p hp e => by
  have := h p hp
  have e' : @Eq Nat p.1 d := e
  omega
def Stop (P : Prop) : Prop := P
theorem stop_in {P : Prop} (h : Stop P) : P := h
theorem stop_out {P : Prop} (h : P) : Stop P := h
/-- a fact kept out of the arithmetic's sight -/
def Hid (P : Prop) : Prop := P
theorem hid_in {P : Prop} (h : P) : Hid P := h
theorem hid_out {P : Prop} (h : Hid P) : P := h
def Ends {σ : Type} (h₀ : Heap) (L : Addr) (s : Shared) (Led : σ → List (Addr × Obj)) (ps : σ → List (Str × Value)) (R : σ → Prop) (more : List (Addr × Obj)) (s₂ : Shared) : Prop :=
  ∃ (c : σ) (h' : Heap) (tk : Nat) (m' : Str → Option Value) (news' : List (Addr × Obj)), s₂ = { s with heap := h', toks := tk } ∧ Fr h₀ L h' m' ∧ News h₀ L h' news' ∧ (∀ p ∈ Led c, p ∈ news') ∧ (∀ p ∈ more, p ∈ news') ∧ (∀ p ∈ ps c, m' p.1 = some p.2) ∧ R c
def WPost {σ : Type} (h₀ : Heap) (L : Addr) (s : Shared) (Led : σ → List (Addr × Obj)) (ps : σ → List (Str × Value)) (P X : σ → Prop) (μ : σ → Nat) (n : Nat) (Q : Flow → Shared → Prop) (f : Flow) (s₂ : Shared) : Prop :=
  match f with
  | .ret v => Q (.ret v) s₂
  | .brk => Ends h₀ L s Led ps X [] s₂
  | _ => Ends h₀ L s Led ps (fun c => P c ∧ μ c < n) [] s₂
theorem kstB_self {m : Str → Option Value} {ps : List (Str × Value)} (h : ∀ p ∈ ps, m p.1 = some p.2) : kstB m ps = m := by
  funext z
  exact kstB_eq h fun _ => rfl
section
variable {prog : Program} {w : World} {A : Around} {E : Value → Shared → Prop} {s : Shared} {env : Env} {h₀ : Heap} {L : Addr} {Q : Flow → Shared → Prop}
theorem whileR {σ : Type} {test : PySem.Expr} {body : List Stmt} {pos : Pos} {m₀ : Str → Option Value} (Led : σ → List (Addr × Obj)) (ps : σ → List (Str × Value)) (P X : σ → Prop) (μ : σ → Nat) (c₀ : σ)
    (F : Fr h₀ L s.heap m₀) (N : News h₀ L s.heap (Led c₀)) (hk : ∀ p ∈ ps c₀, m₀ p.1 = some p.2) (hp : P c₀)
    (turn : ∀ (c : σ) (u : Str → Option Value) h tk, P c → Fr h₀ L h (kstB u (ps c)) → News h₀ L h (Led c) →
      wpAny (model prog w) A (isTrue test env (eval test env)) (fun b s₂ =>
        if b = true then wpAny (model prog w) A (execs body env) (WPost h₀ L s Led ps P X μ (μ c) Q) E s₂ else Ends h₀ L s Led ps X [] s₂) E { s with heap := h, toks := tk })
    (done : ∀ (c : σ) (u : Str → Option Value) h tk, X c → Fr h₀ L h (kstB u (ps c)) → News h₀ L h (Led c) → Q .next { s with heap := h, toks := tk })
    (hE : PassesOwn (model prog w) A env E := by passes_own) :
    wpAny (model prog w) A (exec (.While test body [] pos) env) Q E s := by
  have out : ∀ s₂, Ends h₀ L s Led ps X [] s₂ → Q .next s₂ := by
    rintro s₂ ⟨c, h', tk, m', news', rfl, F', N', hl, -, hk', hX⟩
    exact done c m' h' tk hX (by rw [kstB_self hk']; exact F') fun p hp => N' p (hl p hp)
  refine While_inv2 (fun n m nx => ∃ c : σ, nx = Led c ∧ μ c = n ∧ (∀ p ∈ ps c, m p.1 = some p.2) ∧ P c) F N ⟨c₀, rfl, rfl, hk, hp⟩ ?_ hE
  rintro n m₁ nx h tk F₁ N₁ ⟨c, rfl, rfl, h1, hp'⟩
  refine wpAny_mono (turn c m₁ h tk hp' (by rw [kstB_self h1]; exact F₁) N₁) (fun b s₂ p => ?_) fun _ _ x => x
  cases b with
  | false => simp only [Bool.false_eq_true, if_false] at p ⊢; exact out _ p
  | true =>
    simp only [if_true] at p ⊢
    refine wpAny_mono p (fun f s₃ q => ?_) fun _ _ x => x
    cases f with
    | ret v => exact q
    | brk => exact out _ q
    | next =>
      obtain ⟨c', h', tk', m', news', rfl, F', N', hl, -, hk', hp9, hm9⟩ := q
      exact ⟨h', tk', m', Led c', μ c', rfl, F', fun p hp => N' p (hl p hp), hm9, c', rfl, rfl, hk', hp9⟩
    | cont =>
      obtain ⟨c', h', tk', m', news', rfl, F', N', hl, -, hk', hp9, hm9⟩ := q
      exact ⟨h', tk', m', Led c', μ c', rfl, F', fun p hp => N' p (hl p hp), hm9, c', rfl, rfl, hk', hp9⟩
/-- a cut ahead of a statement's rest: the state, its ledger and its names -/
theorem cutR {σ : Type} {st : Stmt} {m₀ : Str → Option Value} (_F : Fr h₀ L s.heap m₀) (Led : σ → List (Addr × Obj)) (ps : σ → List (Str × Value)) (X : σ → Prop)
    (h : wpAny (model prog w) A (exec st env) (fun f s₂ => match f with | .next => Ends h₀ L s Led ps X [] s₂ | f => Q f s₂) E s)
    (done : ∀ (c : σ) (u : Str → Option Value) h tk, X c → Fr h₀ L h (kstB u (ps c)) → News h₀ L h (Led c) → Q .next { s with heap := h, toks := tk }) :
    wpAny (model prog w) A (exec st env) Q E s := by
  refine wpAny_mono h (fun f s₂ p => ?_) fun _ _ x => x
  cases f with
  | next =>
    obtain ⟨c, h', tk, m', news', rfl, F', N', hl, -, hk', hX⟩ := p
    exact done c m' h' tk hX (by rw [kstB_self hk']; exact F') fun p hp => N' p (hl p hp)
  | brk => exact p
  | cont => exact p
  | ret v => exact p
end
section
variable {prog : Program} {w : World} {A : Around} {E : Value → Shared → Prop} {s : Shared} {env : Env} {h₀ : Heap} {x : Str} {body : List Stmt} {Q : Flow → Shared → Prop}
def FPost {σ : Type} (h₀ : Heap) (L : Addr) (s : Shared) (Led : σ → List (Addr × Obj)) (ps : σ → List (Str × Value)) (R X : σ → Prop) (own : List (Addr × Obj)) (old : List Addr) (cl : String) (Q : Flow → Shared → Prop) (f : Flow) (s₂ : Shared) : Prop :=
  match f with
  | .ret v => Q (.ret v) s₂
  | .brk => Ends h₀ L s Led ps X [] s₂
  | _ => Ends h₀ L s Led ps (fun c => R c ∧ ∀ p ∈ Led c, p.1 ∈ old ∨ p.2.cls ≠ .type cl) own s₂
theorem same_old {l : List (Addr × Obj)} {old : List Addr} {cl : String} (h : l.map (·.1) = old) : ∀ p ∈ l, p.1 ∈ old ∨ p.2.cls ≠ .type cl :=
  fun p hp => .inl (h ▸ List.mem_map_of_mem hp)
/-- for over a walk whose state lies in one iterator object of a class that the ledger has not -/
theorem forW {σ : Type} {I : Addr} {fp : List Addr} {n : Nat} {xs : Nat → Value → Prop} {St : Nat → Heap → Prop} {m₀ : Str → Option Value} (cl : String) (Led : σ → List (Addr × Obj)) (ps : σ → List (Str × Value)) (P : Nat → σ → Prop) (X : σ → Prop) (c₀ : σ)
    (W : Walks prog w A I fp [I] n xs St) (hLf : env.locals ∉ fp) (hI₀ : h₀.get? I = none) (hIc : ∀ i h, St i h → ∃ o, h.get? I = some o ∧ o.cls = .type cl) (hfp : ∀ b ∈ fp, h₀.get? b = none → b = I ∨ ∃ o, ∀ c, (b, o) ∈ Led c)
    (hnI : ∀ p ∈ Led c₀, p.1 ≠ I)
    (hst : St 0 s.heap) (F : Fr h₀ env.locals s.heap m₀) (N : News h₀ env.locals s.heap (Led c₀)) (hk : ∀ p ∈ ps c₀, m₀ p.1 = some p.2) (hp : P 0 c₀)
    (turn : ∀ i v (c : σ) (u : Str → Option Value) h tk own, i < n → xs i v → OwnOff own ((Led c).map (·.1)) → P i c →
      Fr h₀ env.locals h (fun y => if y = x then some v else kstB u (ps c) y) → News h₀ env.locals h (Led c ++ own) →
      wpAny (model prog w) A (execs body env) (FPost h₀ env.locals { s with heap := h, toks := tk } Led ps (P (i + 1)) X own ((Led c).map (·.1)) cl Q) E { s with heap := h, toks := tk })
    (done : ∀ (c : σ) (u : Str → Option Value) h tk, X c → Fr h₀ env.locals h (kstB u (ps c)) → News h₀ env.locals h (Led c) → Q .next { s with heap := h, toks := tk })
    (last : ∀ c, P n c → X c) :
    LoopAtV prog w A h₀ env x body Q E (.ref I) s := by
  have hIf : I ∈ fp := W.sub I (List.mem_singleton.mpr rfl)
  let J : Nat → (Str → Option Value) → List (Addr × Obj) → Prop := fun i m nx => ∃ c : σ, nx = Led c ∧ (∀ p ∈ ps c, m p.1 = some p.2) ∧ P i c
  refine ⟨I, fp, [I], n, xs, St, m₀, Led c₀, J, rfl, W, hLf, ?_, ?_, hst, F, N, ⟨c₀, rfl, hk, hp⟩, ?_, ?_⟩
  · intro b hb
    rw [List.mem_singleton.mp hb]
    exact hI₀
  · intro p hp hI
    exact hnI p hp (List.mem_singleton.mp hI)
  · rintro i v m₁ news₁ s₁ own ⟨h, tk, rfl⟩ hin hv ⟨c, rfl, h1, hP⟩ hnw hofp hoget hall hst' F₁ N₁
    obtain ⟨oI, heI, hcI⟩ := hIc _ _ hst'
    have hmem := hall I hIf hI₀ oI heI
    have hoff : OwnOff [(I, oI)] ((Led c).map (·.1)) := by
      intro p hp b hb e
      obtain ⟨q, hq, rfl⟩ := List.mem_map.mp hb
      rw [List.mem_singleton.mp hp] at e
      exact hnw q hq (List.mem_singleton.mpr e.symm)
    have N₂ : News h₀ env.locals h (Led c ++ [(I, oI)]) := fun p hp => by
      rcases List.mem_append.mp hp with hp | hp
      · exact N₁ _ (List.mem_append_right _ hp)
      · rw [List.mem_singleton.mp hp]
        exact N₁ _ (List.mem_append_left _ hmem)
    have F₂ : Fr h₀ env.locals h (fun y => if y = x then some v else kstB m₁ (ps c) y) := by
      rw [kstB_self h1]; exact F₁
    refine wpAny_mono (turn i v c m₁ h tk [(I, oI)] hin hv hoff hP F₂ N₂) (fun f s₂ p => ?_) fun _ _ e => e
    have fin : Ends h₀ env.locals { s with heap := h, toks := tk } Led ps (fun c' => P (i + 1) c' ∧ ∀ p ∈ Led c', p.1 ∈ (Led c).map (·.1) ∨ p.2.cls ≠ .type cl) [(I, oI)] s₂ → LoopStepU h₀ env.locals [I] own (J (i + 1)) { s with heap := h, toks := tk } .next s₂ := by
      rintro ⟨c', h', tk', m', news', rfl, F', N', hl, ho, hk', hP', hcl⟩
      have nI : ∀ p ∈ Led c', p.1 ≠ I := fun p hp e => by
        rcases hcl p hp with hold | hcl
        · obtain ⟨q, hq, hqe⟩ := List.mem_map.mp hold
          exact hnw q hq (List.mem_singleton.mpr (hqe.trans e))
        have h2 := (N' p (hl p hp)).1
        have h3 := (N' (I, oI) (ho _ (List.mem_singleton.mpr rfl))).1
        rw [e, h3] at h2
        exact hcl (by rw [← Option.some.inj h2]; exact hcI)
      refine ⟨rfl, h', tk', m', Led c', rfl, F', fun p hp => ?_, fun p hp hI => nI p hp (List.mem_singleton.mp hI), c', rfl, hk', hP'⟩
      rcases List.mem_append.mp hp with hp | hp
      · have h2 := hoget p hp
        rcases hfp p.1 (hofp p hp) (N₁ p (List.mem_append_left _ hp)).2.2 with e | ⟨o', hm'⟩
        · have h3 : p = (I, oI) := by
            rw [e] at h2
            have h4 : h.get? I = some oI := heI
            have h5 : some p.2 = some oI := by rw [← h4]; exact h2.symm
            exact Prod.ext e (Option.some.inj h5)
          rw [h3]
          exact N' _ (ho _ (List.mem_singleton.mpr rfl))
        · have h4 : h.get? p.1 = some o' := (N₂ (p.1, o') (List.mem_append_left _ (hm' c))).1
          have h5 : some p.2 = some o' := by rw [← h4]; exact h2.symm
          have h6 : p = (p.1, o') := Prod.ext rfl (Option.some.inj h5)
          rw [h6]
          exact N' _ (hl _ (hm' c'))
      · exact N' p (hl p hp)
    cases f with
    | ret v => exact .ret p
    | brk =>
      obtain ⟨c', h', tk', m', news', rfl, F', N', hl, -, hk', hX⟩ := p
      exact .brk (done c' m' h' tk' hX (by rw [kstB_self hk']; exact F') fun p hp => N' p (hl p hp))
    | next => exact .next (fin p)
    | cont => exact .cont (fin p)
  · rintro h' tk m' news' F' N' _ ⟨c, rfl, hk', hP⟩
    exact done c m' h' tk (last c hP) (by rw [kstB_self hk']; exact F') N'
theorem forListR {σ : Type} {l : Addr} {vs : List Value} {nn : Nat} {m₀ : Str → Option Value} (Led : σ → List (Addr × Obj)) (ps : σ → List (Str × Value)) (P : Nat → σ → Prop) (X : σ → Prop) (c₀ : σ)
    (hh : A.handled = none) (hl : ∀ c, (l, listOf vs.toArray nn) ∈ Led c)
    (F : Fr h₀ env.locals s.heap m₀) (N : News h₀ env.locals s.heap (Led c₀)) (hk : ∀ p ∈ ps c₀, m₀ p.1 = some p.2) (hp : P 0 c₀)
    (turn : ∀ i v (c : σ) (u : Str → Option Value) h tk own, vs[i]? = some v → OwnOff own ((Led c).map (·.1)) → P i c →
      Fr h₀ env.locals h (fun y => if y = x then some v else kstB u (ps c) y) → News h₀ env.locals h (Led c ++ own) →
      wpAny (model prog w) A (execs body env) (FPost h₀ env.locals { s with heap := h, toks := tk } Led ps (P (i + 1)) X own ((Led c).map (·.1)) "list_iterator" Q) E { s with heap := h, toks := tk })
    (done : ∀ (c : σ) (u : Str → Option Value) h tk, X c → Fr h₀ env.locals h (kstB u (ps c)) → News h₀ env.locals h (Led c) → Q .next { s with heap := h, toks := tk })
    (last : ∀ c, P vs.length c → X c) :
    wpAny (model prog w) A (pyIter (.ref l)) (fun it s₂ => LoopAtV prog w A h₀ env x body Q E it s₂) E s := by
  have hol : s.heap.get? l = some (listOf vs.toArray nn) := (N _ (hl c₀)).1
  have hls : s.heap.IsList l vs.toArray := ⟨_, hol, rfl, nn, rfl⟩
  have hne : l ≠ s.heap.objs.size := Nat.ne_of_lt (Heap.lt_size hol)
  refine wpAny_pyIter_list hls ?_
  have W := Walks.list (prog := prog) (w := w) hh s.heap.objs.size l hne vs.toArray
  have up : ∀ b o, s.heap.get? b = some o → (s.heap.push { cls := .type "list_iterator", data := .fields #[.ref l, .int 0 0] }).get? b = some o := fun b o e => Heap.get?_push_of_some _ e
  refine forW (n := vs.toArray.size) "list_iterator" Led ps P X c₀ W ?_ (next_is_new F) ?_ ?_ ?_ ⟨⟨_, Heap.get?_push_size _ rfl, rfl, rfl⟩, hls.push _⟩ (F.keeps up) (fun p hp => ⟨up _ _ (N p hp).1, (N p hp).2⟩) hk hp ?_ done (by simpa using last)
  · intro hm
    rcases List.mem_cons.mp hm with e | hm
    · exact absurd F.ns.lt (e ▸ Nat.lt_irrefl _)
    · exact (N _ (hl c₀)).2.1 ((List.mem_singleton.mp hm).symm)
  · rintro i h ⟨⟨o, ho, hc, hd⟩, _⟩
    exact ⟨o, ho, hc⟩
  · intro b hb _
    rcases List.mem_cons.mp hb with rfl | hb
    · exact .inl rfl
    · rw [List.mem_singleton.mp hb]
      exact .inr ⟨_, hl⟩
  · intro p hp e
    exact absurd (Heap.lt_size (N p hp).1) (e ▸ Nat.lt_irrefl _)
  · intro i v c u h tk own hi hv
    exact turn i v c u h tk own (by simpa using hv)
section
variable {target : PySem.Expr}
/-- the same where the target is no plain name -/
theorem forWT {σ : Type} {I : Addr} {fp : List Addr} {n : Nat} {xs : Nat → Value → Prop} {St : Nat → Heap → Prop} {m₀ : Str → Option Value} (cl : String) (Led : σ → List (Addr × Obj)) (ps : σ → List (Str × Value)) (P : Nat → σ → Prop) (X : σ → Prop) (c₀ : σ)
    (W : Walks prog w A I fp [I] n xs St) (hgo : ∀ i v (s : Shared) (Q : Unit → Shared → Prop) (E : Value → Shared → Prop), St i s.heap → Q () s → wpAny (model prog w) A (letOwnedTupleGo target (.ref I) v) Q E s) (hLf : env.locals ∉ fp) (hI₀ : h₀.get? I = none) (hIc : ∀ i h, St i h → ∃ o, h.get? I = some o ∧ o.cls = .type cl) (hfp : ∀ b ∈ fp, h₀.get? b = none → b = I ∨ ∃ o, ∀ c, (b, o) ∈ Led c)
    (hnI : ∀ p ∈ Led c₀, p.1 ≠ I)
    (hst : St 0 s.heap) (F : Fr h₀ env.locals s.heap m₀) (N : News h₀ env.locals s.heap (Led c₀)) (hk : ∀ p ∈ ps c₀, m₀ p.1 = some p.2) (hp : P 0 c₀)
    (turn : ∀ i v (c : σ) (u : Str → Option Value) h tk own, i < n → xs i v → OwnOff own ((Led c).map (·.1)) → P i c →
      Fr h₀ env.locals h (kstB u (ps c)) → News h₀ env.locals h (Led c ++ own) →
      wpAny (model prog w) A (assign target env v) (fun _ s₃ => wpAny (model prog w) A (execs body env) (FPost h₀ env.locals { s with heap := h, toks := tk } Led ps (P (i + 1)) X own ((Led c).map (·.1)) cl Q) E s₃) E { s with heap := h, toks := tk })
    (done : ∀ (c : σ) (u : Str → Option Value) h tk, X c → Fr h₀ env.locals h (kstB u (ps c)) → News h₀ env.locals h (Led c) → Q .next { s with heap := h, toks := tk })
    (last : ∀ c, P n c → X c) :
    TurnsAt prog w A h₀ env target body Q E (.ref I) s := by
  have hIf : I ∈ fp := W.sub I (List.mem_singleton.mpr rfl)
  let J : Nat → (Str → Option Value) → List (Addr × Obj) → Prop := fun i m nx => ∃ c : σ, nx = Led c ∧ (∀ p ∈ ps c, m p.1 = some p.2) ∧ P i c
  refine ⟨I, fp, [I], n, (fun i v _ => xs i v), (fun i v h => xs i v ∧ St (i + 1) h), St, m₀, Led c₀, J, rfl, KTurns.ofWalks W hgo, hLf, ?_, ?_, hst, F, N, ⟨c₀, rfl, hk, hp⟩, ?_, ?_⟩
  · intro b hb
    rw [List.mem_singleton.mp hb]
    exact hI₀
  · intro p hp hI
    exact hnI p hp (List.mem_singleton.mp hI)
  · rintro i v m₁ news₁ h tk own hin hv ⟨c, rfl, h1, hP⟩ hnw hofp hoget hall hst' F₁ N₁
    obtain ⟨oI, heI, hcI⟩ := hIc _ _ hst'
    have hmem := hall I hIf hI₀ oI heI
    have hoff : OwnOff [(I, oI)] ((Led c).map (·.1)) := by
      intro p hp b hb e
      obtain ⟨q, hq, rfl⟩ := List.mem_map.mp hb
      rw [List.mem_singleton.mp hp] at e
      exact hnw q hq (List.mem_singleton.mpr e.symm)
    have N₂ : News h₀ env.locals h (Led c ++ [(I, oI)]) := fun p hp => by
      rcases List.mem_append.mp hp with hp | hp
      · exact N₁ _ (List.mem_append_right _ hp)
      · rw [List.mem_singleton.mp hp]
        exact N₁ _ (List.mem_append_left _ hmem)
    have F₂ : Fr h₀ env.locals h (kstB m₁ (ps c)) := by
      rw [kstB_self h1]; exact F₁
    refine wpAny_mono (turn i v c m₁ h tk [(I, oI)] hin hv hoff hP F₂ N₂) (fun _ s₃ h₃ => wpAny_mono h₃ (fun f s₂ p => ?_) fun _ _ e => e) fun _ _ e => e
    have fin : Ends h₀ env.locals { s with heap := h, toks := tk } Led ps (fun c' => P (i + 1) c' ∧ ∀ p ∈ Led c', p.1 ∈ (Led c).map (·.1) ∨ p.2.cls ≠ .type cl) [(I, oI)] s₂ → LoopStepV h₀ env.locals [I] own (J (i + 1)) { s with heap := h, toks := tk } (fun v s' => Q (.ret v) s') (fun s' => Q .next s') .next s₂ := by
      rintro ⟨c', h', tk', m', news', rfl, F', N', hl, ho, hk', hP', hcl⟩
      have nI : ∀ p ∈ Led c', p.1 ≠ I := fun p hp e => by
        rcases hcl p hp with hold | hcl
        · obtain ⟨q, hq, hqe⟩ := List.mem_map.mp hold
          exact hnw q hq (List.mem_singleton.mpr (hqe.trans e))
        have h2 := (N' p (hl p hp)).1
        have h3 := (N' (I, oI) (ho _ (List.mem_singleton.mpr rfl))).1
        rw [e, h3] at h2
        exact hcl (by rw [← Option.some.inj h2]; exact hcI)
      refine ⟨rfl, h', tk', m', Led c', rfl, F', fun p hp => ?_, fun p hp hI => nI p hp (List.mem_singleton.mp hI), c', rfl, hk', hP'⟩
      rcases List.mem_append.mp hp with hp | hp
      · have h2 := hoget p hp
        rcases hfp p.1 (hofp p hp) (N₁ p (List.mem_append_left _ hp)).2.2 with e | ⟨o', hm'⟩
        · have h3 : p = (I, oI) := by
            rw [e] at h2
            have h4 : h.get? I = some oI := heI
            have h5 : some p.2 = some oI := by rw [← h4]; exact h2.symm
            exact Prod.ext e (Option.some.inj h5)
          rw [h3]
          exact N' _ (ho _ (List.mem_singleton.mpr rfl))
        · have h4 : h.get? p.1 = some o' := (N₂ (p.1, o') (List.mem_append_left _ (hm' c))).1
          have h5 : some p.2 = some o' := by rw [← h4]; exact h2.symm
          have h6 : p = (p.1, o') := Prod.ext rfl (Option.some.inj h5)
          rw [h6]
          exact N' _ (hl _ (hm' c'))
      · exact N' p (hl p hp)
    cases f with
    | ret v => exact .ret p
    | brk =>
      obtain ⟨c', h', tk', m', news', rfl, F', N', hl, -, hk', hX⟩ := p
      exact .brk (done c' m' h' tk' hX (by rw [kstB_self hk']; exact F') fun p hp => N' p (hl p hp))
    | next => exact .next (fin p)
    | cont => exact .cont (fin p)
  · rintro h' tk m' news' F' N' _ ⟨c, rfl, hk', hP⟩
    exact done c m' h' tk (last c hP) (by rw [kstB_self hk']; exact F') N'
theorem forListT {σ : Type} {l : Addr} {vs : List Value} {nn : Nat} {m₀ : Str → Option Value} (Led : σ → List (Addr × Obj)) (ps : σ → List (Str × Value)) (P : Nat → σ → Prop) (X : σ → Prop) (c₀ : σ)
    (hh : A.handled = none) (hl : ∀ c, (l, listOf vs.toArray nn) ∈ Led c)
    (F : Fr h₀ env.locals s.heap m₀) (N : News h₀ env.locals s.heap (Led c₀)) (hk : ∀ p ∈ ps c₀, m₀ p.1 = some p.2) (hp : P 0 c₀)
    (turn : ∀ i v (c : σ) (u : Str → Option Value) h tk own, vs[i]? = some v → OwnOff own ((Led c).map (·.1)) → P i c →
      Fr h₀ env.locals h (kstB u (ps c)) → News h₀ env.locals h (Led c ++ own) →
      wpAny (model prog w) A (assign target env v) (fun _ s₃ => wpAny (model prog w) A (execs body env) (FPost h₀ env.locals { s with heap := h, toks := tk } Led ps (P (i + 1)) X own ((Led c).map (·.1)) "list_iterator" Q) E s₃) E { s with heap := h, toks := tk })
    (done : ∀ (c : σ) (u : Str → Option Value) h tk, X c → Fr h₀ env.locals h (kstB u (ps c)) → News h₀ env.locals h (Led c) → Q .next { s with heap := h, toks := tk })
    (last : ∀ c, P vs.length c → X c) :
    wpAny (model prog w) A (pyIter (.ref l)) (fun it s₂ => TurnsAt prog w A h₀ env target body Q E it s₂) E s := by
  have hol : s.heap.get? l = some (listOf vs.toArray nn) := (N _ (hl c₀)).1
  have hls : s.heap.IsList l vs.toArray := ⟨_, hol, rfl, nn, rfl⟩
  have hne : l ≠ s.heap.objs.size := Nat.ne_of_lt (Heap.lt_size hol)
  refine wpAny_pyIter_list hls ?_
  have W := Walks.list (prog := prog) (w := w) hh s.heap.objs.size l hne vs.toArray
  have up : ∀ b o, s.heap.get? b = some o → (s.heap.push { cls := .type "list_iterator", data := .fields #[.ref l, .int 0 0] }).get? b = some o := fun b o e => Heap.get?_push_of_some _ e
  refine forWT (n := vs.toArray.size) "list_iterator" Led ps P X c₀ W (fun i v s Q E st q => letGo_listiter st.1 q) ?_ (next_is_new F) ?_ ?_ ?_ ⟨⟨_, Heap.get?_push_size _ rfl, rfl, rfl⟩, hls.push _⟩ (F.keeps up) (fun p hp => ⟨up _ _ (N p hp).1, (N p hp).2⟩) hk hp ?_ done (by simpa using last)
  · intro hm
    rcases List.mem_cons.mp hm with e | hm
    · exact absurd F.ns.lt (e ▸ Nat.lt_irrefl _)
    · exact (N _ (hl c₀)).2.1 ((List.mem_singleton.mp hm).symm)
  · rintro i h ⟨⟨o, ho, hc, hd⟩, _⟩
    exact ⟨o, ho, hc⟩
  · intro b hb _
    rcases List.mem_cons.mp hb with rfl | hb
    · exact .inl rfl
    · rw [List.mem_singleton.mp hb]
      exact .inr ⟨_, hl⟩
  · intro p hp e
    exact absurd (Heap.lt_size (N p hp).1) (e ▸ Nat.lt_irrefl _)
  · intro i v c u h tk own hi hv
    exact turn i v c u h tk own (by simpa using hv)
end
theorem forRangeR {σ : Type} {r : Addr} {a₀ b₀ : Int} {t₀ u₀ v₀ : Tok} {n : Nat} {m₀ : Str → Option Value} (Led : σ → List (Addr × Obj)) (ps : σ → List (Str × Value)) (P : Nat → σ → Prop) (X : σ → Prop) (c₀ : σ)
    (hh : A.handled = none) (hr : IsRange s.heap r a₀ b₀ 1 t₀ u₀ v₀) (hsmall : Builtin.Range.small a₀ b₀ 1 = true) (hn : Builtin.Range.rangeSize a₀ b₀ 1 = (n : Int))
    (F : Fr h₀ env.locals s.heap m₀) (N : News h₀ env.locals s.heap (Led c₀)) (hk : ∀ p ∈ ps c₀, m₀ p.1 = some p.2) (hp : P 0 c₀)
    (turn : ∀ i t (c : σ) (u : Str → Option Value) h tk own, i < n → OwnOff own ((Led c).map (·.1)) → P i c →
      Fr h₀ env.locals h (fun y => if y = x then some (.int (a₀ + (i : Int)) t) else kstB u (ps c) y) → News h₀ env.locals h (Led c ++ own) →
      wpAny (model prog w) A (execs body env) (FPost h₀ env.locals { s with heap := h, toks := tk } Led ps (P (i + 1)) X own ((Led c).map (·.1)) "range_iterator" Q) E { s with heap := h, toks := tk })
    (done : ∀ (c : σ) (u : Str → Option Value) h tk, X c → Fr h₀ env.locals h (kstB u (ps c)) → News h₀ env.locals h (Led c) → Q .next { s with heap := h, toks := tk })
    (last : ∀ c, P n c → X c) :
    wpAny (model prog w) A (pyIter (.ref r)) (fun it s₂ => LoopAtV prog w A h₀ env x body Q E it s₂) E s := by
  refine wpAny_pyIter_range hr hsmall ?_
  have W : Walks prog w A s.heap.objs.size [s.heap.objs.size] [s.heap.objs.size] n (fun i v => i < n ∧ ∃ t, v = .int (a₀ + i * 1) t)
      (fun i h => IsRangeIter h s.heap.objs.size (a₀ + (i : Nat) * 1) ((n : Int) - (i : Nat)) 1) := (Walks.range hh _ a₀ 1 n).bound
  refine forW (n := n) "range_iterator" Led ps P X c₀ W ?_ (next_is_new F) ?_ ?_ ?_ (by show IsRangeIter _ _ _ _ _; rw [hn]; simpa using Heap.get?_push_size _ rfl) (F.push _) (fun p hp => ⟨Heap.get?_push_of_some _ (N p hp).1, (N p hp).2⟩) hk hp ?_ done last
  · intro hm
    exact absurd F.ns.lt ((List.mem_singleton.mp hm) ▸ Nat.lt_irrefl _)
  · intro i h st
    exact ⟨_, st, rfl⟩
  · intro b hb _
    exact .inl (List.mem_singleton.mp hb)
  · intro p hp e
    exact absurd (Heap.lt_size (N p hp).1) (e ▸ Nat.lt_irrefl _)
  · rintro i v c u h tk own hi ⟨_, t, rfl⟩ ho hP F' N'
    rw [Int.mul_one] at F'
    exact turn i t c u h tk own hi ho hP F' N'
end
end Mine
namespace Mine
/-- an instance at which a claim falls, if there is one -/
noncomputable def gen {α : Type} (ne : Nonempty α) (P : α → Prop) : α := @Classical.epsilon α ne fun a => ¬ P a
theorem gen_all {α : Type} {ne : Nonempty α} {P : α → Prop} (h : P (gen ne P)) : ∀ a, P a :=
  fun a => Classical.byContradiction fun hn => @Classical.epsilon_spec α (fun a => ¬ P a) ⟨a, hn⟩ h
theorem ne_prod {α β : Type} (a : Nonempty α) (b : Nonempty β) : Nonempty (α × β) := let ⟨x⟩ := a; let ⟨y⟩ := b; ⟨(x, y)⟩
theorem ne_shared : Nonempty Shared := ⟨{}⟩
theorem ne_params : Nonempty Params := ⟨{ strHash := fun _ => 0, shareClass := fun _ => 0, mergeTok := fun t => t, idOf := fun _ => 0, idOfShared := fun _ _ => 0, followText := fun _ => false, idOfImm := fun _ => 0 }⟩
theorem ne_world : Nonempty World := let ⟨p⟩ := ne_params; ⟨⟨fun _ _ => 0, p⟩⟩
noncomputable def gen2 {α β : Type} (ne : Nonempty (α × β)) (P : α → β → Prop) : α × β := gen ne fun z => P z.1 z.2
theorem gen_all2 {α β : Type} {ne : Nonempty (α × β)} {P : α → β → Prop} (h : P (gen2 ne P).1 (gen2 ne P).2) : ∀ a0 a1, P a0 a1 :=
  fun a0 a1 => gen_all (P := fun z : α × β => P z.1 z.2) h (a0, a1)
noncomputable def gen3 {α β γ : Type} (ne : Nonempty (α × β × γ)) (P : α → β → γ → Prop) : α × β × γ := gen ne fun z => P z.1 z.2.1 z.2.2
theorem gen_all3 {α β γ : Type} {ne : Nonempty (α × β × γ)} {P : α → β → γ → Prop} (h : P (gen3 ne P).1 (gen3 ne P).2.1 (gen3 ne P).2.2) : ∀ a0 a1 a2, P a0 a1 a2 :=
  fun a0 a1 a2 => gen_all (P := fun z : α × β × γ => P z.1 z.2.1 z.2.2) h (a0, a1, a2)
noncomputable def gen4 {α β γ δ : Type} (ne : Nonempty (α × β × γ × δ)) (P : α → β → γ → δ → Prop) : α × β × γ × δ := gen ne fun z => P z.1 z.2.1 z.2.2.1 z.2.2.2
theorem gen_all4 {α β γ δ : Type} {ne : Nonempty (α × β × γ × δ)} {P : α → β → γ → δ → Prop} (h : P (gen4 ne P).1 (gen4 ne P).2.1 (gen4 ne P).2.2.1 (gen4 ne P).2.2.2) : ∀ a0 a1 a2 a3, P a0 a1 a2 a3 :=
  fun a0 a1 a2 a3 => gen_all (P := fun z : α × β × γ × δ => P z.1 z.2.1 z.2.2.1 z.2.2.2) h (a0, a1, a2, a3)
noncomputable def gen5 {α β γ δ ε : Type} (ne : Nonempty (α × β × γ × δ × ε)) (P : α → β → γ → δ → ε → Prop) : α × β × γ × δ × ε := gen ne fun z => P z.1 z.2.1 z.2.2.1 z.2.2.2.1 z.2.2.2.2
theorem gen_all5 {α β γ δ ε : Type} {ne : Nonempty (α × β × γ × δ × ε)} {P : α → β → γ → δ → ε → Prop} (h : P (gen5 ne P).1 (gen5 ne P).2.1 (gen5 ne P).2.2.1 (gen5 ne P).2.2.2.1 (gen5 ne P).2.2.2.2) : ∀ a0 a1 a2 a3 a4, P a0 a1 a2 a3 a4 :=
  fun a0 a1 a2 a3 a4 => gen_all (P := fun z : α × β × γ × δ × ε => P z.1 z.2.1 z.2.2.1 z.2.2.2.1 z.2.2.2.2) h (a0, a1, a2, a3, a4)
noncomputable def gen6 {α β γ δ ε ζ : Type} (ne : Nonempty (α × β × γ × δ × ε × ζ)) (P : α → β → γ → δ → ε → ζ → Prop) : α × β × γ × δ × ε × ζ := gen ne fun z => P z.1 z.2.1 z.2.2.1 z.2.2.2.1 z.2.2.2.2.1 z.2.2.2.2.2
theorem gen_all6 {α β γ δ ε ζ : Type} {ne : Nonempty (α × β × γ × δ × ε × ζ)} {P : α → β → γ → δ → ε → ζ → Prop} (h : P (gen6 ne P).1 (gen6 ne P).2.1 (gen6 ne P).2.2.1 (gen6 ne P).2.2.2.1 (gen6 ne P).2.2.2.2.1 (gen6 ne P).2.2.2.2.2) : ∀ a0 a1 a2 a3 a4 a5, P a0 a1 a2 a3 a4 a5 :=
  fun a0 a1 a2 a3 a4 a5 => gen_all (P := fun z : α × β × γ × δ × ε × ζ => P z.1 z.2.1 z.2.2.1 z.2.2.2.1 z.2.2.2.2.1 z.2.2.2.2.2) h (a0, a1, a2, a3, a4, a5)
noncomputable def gen7 {α β γ δ ε ζ η : Type} (ne : Nonempty (α × β × γ × δ × ε × ζ × η)) (P : α → β → γ → δ → ε → ζ → η → Prop) : α × β × γ × δ × ε × ζ × η := gen ne fun z => P z.1 z.2.1 z.2.2.1 z.2.2.2.1 z.2.2.2.2.1 z.2.2.2.2.2.1 z.2.2.2.2.2.2
theorem gen_all7 {α β γ δ ε ζ η : Type} {ne : Nonempty (α × β × γ × δ × ε × ζ × η)} {P : α → β → γ → δ → ε → ζ → η → Prop} (h : P (gen7 ne P).1 (gen7 ne P).2.1 (gen7 ne P).2.2.1 (gen7 ne P).2.2.2.1 (gen7 ne P).2.2.2.2.1 (gen7 ne P).2.2.2.2.2.1 (gen7 ne P).2.2.2.2.2.2) : ∀ a0 a1 a2 a3 a4 a5 a6, P a0 a1 a2 a3 a4 a5 a6 :=
  fun a0 a1 a2 a3 a4 a5 a6 => gen_all (P := fun z : α × β × γ × δ × ε × ζ × η => P z.1 z.2.1 z.2.2.1 z.2.2.2.1 z.2.2.2.2.1 z.2.2.2.2.2.1 z.2.2.2.2.2.2) h (a0, a1, a2, a3, a4, a5, a6)
noncomputable def gen8 {α β γ δ ε ζ η θ : Type} (ne : Nonempty (α × β × γ × δ × ε × ζ × η × θ)) (P : α → β → γ → δ → ε → ζ → η → θ → Prop) : α × β × γ × δ × ε × ζ × η × θ := gen ne fun z => P z.1 z.2.1 z.2.2.1 z.2.2.2.1 z.2.2.2.2.1 z.2.2.2.2.2.1 z.2.2.2.2.2.2.1 z.2.2.2.2.2.2.2
theorem gen_all8 {α β γ δ ε ζ η θ : Type} {ne : Nonempty (α × β × γ × δ × ε × ζ × η × θ)} {P : α → β → γ → δ → ε → ζ → η → θ → Prop} (h : P (gen8 ne P).1 (gen8 ne P).2.1 (gen8 ne P).2.2.1 (gen8 ne P).2.2.2.1 (gen8 ne P).2.2.2.2.1 (gen8 ne P).2.2.2.2.2.1 (gen8 ne P).2.2.2.2.2.2.1 (gen8 ne P).2.2.2.2.2.2.2) : ∀ a0 a1 a2 a3 a4 a5 a6 a7, P a0 a1 a2 a3 a4 a5 a6 a7 :=
  fun a0 a1 a2 a3 a4 a5 a6 a7 => gen_all (P := fun z : α × β × γ × δ × ε × ζ × η × θ => P z.1 z.2.1 z.2.2.1 z.2.2.2.1 z.2.2.2.2.1 z.2.2.2.2.2.1 z.2.2.2.2.2.2.1 z.2.2.2.2.2.2.2) h (a0, a1, a2, a3, a4, a5, a6, a7)
noncomputable def gen9 {α β γ δ ε ζ η θ ι : Type} (ne : Nonempty (α × β × γ × δ × ε × ζ × η × θ × ι)) (P : α → β → γ → δ → ε → ζ → η → θ → ι → Prop) : α × β × γ × δ × ε × ζ × η × θ × ι := gen ne fun z => P z.1 z.2.1 z.2.2.1 z.2.2.2.1 z.2.2.2.2.1 z.2.2.2.2.2.1 z.2.2.2.2.2.2.1 z.2.2.2.2.2.2.2.1 z.2.2.2.2.2.2.2.2
theorem gen_all9 {α β γ δ ε ζ η θ ι : Type} {ne : Nonempty (α × β × γ × δ × ε × ζ × η × θ × ι)} {P : α → β → γ → δ → ε → ζ → η → θ → ι → Prop} (h : P (gen9 ne P).1 (gen9 ne P).2.1 (gen9 ne P).2.2.1 (gen9 ne P).2.2.2.1 (gen9 ne P).2.2.2.2.1 (gen9 ne P).2.2.2.2.2.1 (gen9 ne P).2.2.2.2.2.2.1 (gen9 ne P).2.2.2.2.2.2.2.1 (gen9 ne P).2.2.2.2.2.2.2.2) : ∀ a0 a1 a2 a3 a4 a5 a6 a7 a8, P a0 a1 a2 a3 a4 a5 a6 a7 a8 :=
  fun a0 a1 a2 a3 a4 a5 a6 a7 a8 => gen_all (P := fun z : α × β × γ × δ × ε × ζ × η × θ × ι => P z.1 z.2.1 z.2.2.1 z.2.2.2.1 z.2.2.2.2.1 z.2.2.2.2.2.1 z.2.2.2.2.2.2.1 z.2.2.2.2.2.2.2.1 z.2.2.2.2.2.2.2.2) h (a0, a1, a2, a3, a4, a5, a6, a7, a8)
noncomputable def gen10 {α β γ δ ε ζ η θ ι κ : Type} (ne : Nonempty (α × β × γ × δ × ε × ζ × η × θ × ι × κ)) (P : α → β → γ → δ → ε → ζ → η → θ → ι → κ → Prop) : α × β × γ × δ × ε × ζ × η × θ × ι × κ := gen ne fun z => P z.1 z.2.1 z.2.2.1 z.2.2.2.1 z.2.2.2.2.1 z.2.2.2.2.2.1 z.2.2.2.2.2.2.1 z.2.2.2.2.2.2.2.1 z.2.2.2.2.2.2.2.2.1 z.2.2.2.2.2.2.2.2.2
theorem gen_all10 {α β γ δ ε ζ η θ ι κ : Type} {ne : Nonempty (α × β × γ × δ × ε × ζ × η × θ × ι × κ)} {P : α → β → γ → δ → ε → ζ → η → θ → ι → κ → Prop} (h : P (gen10 ne P).1 (gen10 ne P).2.1 (gen10 ne P).2.2.1 (gen10 ne P).2.2.2.1 (gen10 ne P).2.2.2.2.1 (gen10 ne P).2.2.2.2.2.1 (gen10 ne P).2.2.2.2.2.2.1 (gen10 ne P).2.2.2.2.2.2.2.1 (gen10 ne P).2.2.2.2.2.2.2.2.1 (gen10 ne P).2.2.2.2.2.2.2.2.2) : ∀ a0 a1 a2 a3 a4 a5 a6 a7 a8 a9, P a0 a1 a2 a3 a4 a5 a6 a7 a8 a9 :=
  fun a0 a1 a2 a3 a4 a5 a6 a7 a8 a9 => gen_all (P := fun z : α × β × γ × δ × ε × ζ × η × θ × ι × κ => P z.1 z.2.1 z.2.2.1 z.2.2.2.1 z.2.2.2.2.1 z.2.2.2.2.2.1 z.2.2.2.2.2.2.1 z.2.2.2.2.2.2.2.1 z.2.2.2.2.2.2.2.2.1 z.2.2.2.2.2.2.2.2.2) h (a0, a1, a2, a3, a4, a5, a6, a7, a8, a9)
theorem ex_in {α : Type} {P : α → Prop} {X : Prop} (h : ∃ a0, P a0) (k : ∀ a0, P a0 → X) : X := let ⟨a0, p⟩ := h; k a0 p
theorem ex_in2 {α β : Type} {P : α → β → Prop} {X : Prop} (h : ∃ a0 a1, P a0 a1) (k : ∀ a0 a1, P a0 a1 → X) : X := let ⟨a0, a1, p⟩ := h; k a0 a1 p
theorem ex_in3 {α β γ : Type} {P : α → β → γ → Prop} {X : Prop} (h : ∃ a0 a1 a2, P a0 a1 a2) (k : ∀ a0 a1 a2, P a0 a1 a2 → X) : X := let ⟨a0, a1, a2, p⟩ := h; k a0 a1 a2 p
theorem ex_in4 {α β γ δ : Type} {P : α → β → γ → δ → Prop} {X : Prop} (h : ∃ a0 a1 a2 a3, P a0 a1 a2 a3) (k : ∀ a0 a1 a2 a3, P a0 a1 a2 a3 → X) : X := let ⟨a0, a1, a2, a3, p⟩ := h; k a0 a1 a2 a3 p
theorem ex_in5 {α β γ δ ε : Type} {P : α → β → γ → δ → ε → Prop} {X : Prop} (h : ∃ a0 a1 a2 a3 a4, P a0 a1 a2 a3 a4) (k : ∀ a0 a1 a2 a3 a4, P a0 a1 a2 a3 a4 → X) : X := let ⟨a0, a1, a2, a3, a4, p⟩ := h; k a0 a1 a2 a3 a4 p
theorem ex_in6 {α β γ δ ε ζ : Type} {P : α → β → γ → δ → ε → ζ → Prop} {X : Prop} (h : ∃ a0 a1 a2 a3 a4 a5, P a0 a1 a2 a3 a4 a5) (k : ∀ a0 a1 a2 a3 a4 a5, P a0 a1 a2 a3 a4 a5 → X) : X := let ⟨a0, a1, a2, a3, a4, a5, p⟩ := h; k a0 a1 a2 a3 a4 a5 p
theorem ex_in7 {α β γ δ ε ζ η : Type} {P : α → β → γ → δ → ε → ζ → η → Prop} {X : Prop} (h : ∃ a0 a1 a2 a3 a4 a5 a6, P a0 a1 a2 a3 a4 a5 a6) (k : ∀ a0 a1 a2 a3 a4 a5 a6, P a0 a1 a2 a3 a4 a5 a6 → X) : X := let ⟨a0, a1, a2, a3, a4, a5, a6, p⟩ := h; k a0 a1 a2 a3 a4 a5 a6 p
theorem ex_in8 {α β γ δ ε ζ η θ : Type} {P : α → β → γ → δ → ε → ζ → η → θ → Prop} {X : Prop} (h : ∃ a0 a1 a2 a3 a4 a5 a6 a7, P a0 a1 a2 a3 a4 a5 a6 a7) (k : ∀ a0 a1 a2 a3 a4 a5 a6 a7, P a0 a1 a2 a3 a4 a5 a6 a7 → X) : X := let ⟨a0, a1, a2, a3, a4, a5, a6, a7, p⟩ := h; k a0 a1 a2 a3 a4 a5 a6 a7 p
theorem pr2 {α β : Type} {P : α × β → Prop} (h : ∀ a0 a1, P (a0, a1)) : ∀ z, P z := fun (a0, a1) => h a0 a1
theorem pr3 {α β γ : Type} {P : α × β × γ → Prop} (h : ∀ a0 a1 a2, P (a0, a1, a2)) : ∀ z, P z := fun (a0, a1, a2) => h a0 a1 a2
theorem pr4 {α β γ δ : Type} {P : α × β × γ × δ → Prop} (h : ∀ a0 a1 a2 a3, P (a0, a1, a2, a3)) : ∀ z, P z := fun (a0, a1, a2, a3) => h a0 a1 a2 a3
theorem pr5 {α β γ δ ε : Type} {P : α × β × γ × δ × ε → Prop} (h : ∀ a0 a1 a2 a3 a4, P (a0, a1, a2, a3, a4)) : ∀ z, P z := fun (a0, a1, a2, a3, a4) => h a0 a1 a2 a3 a4
theorem pr6 {α β γ δ ε ζ : Type} {P : α × β × γ × δ × ε × ζ → Prop} (h : ∀ a0 a1 a2 a3 a4 a5, P (a0, a1, a2, a3, a4, a5)) : ∀ z, P z := fun (a0, a1, a2, a3, a4, a5) => h a0 a1 a2 a3 a4 a5
theorem pr10 {α β γ δ ε ζ η θ ι κ : Type} {P : α × β × γ × δ × ε × ζ × η × θ × ι × κ → Prop} (h : ∀ a0 a1 a2 a3 a4 a5 a6 a7 a8 a9, P (a0, a1, a2, a3, a4, a5, a6, a7, a8, a9)) : ∀ z, P z := fun (a0, a1, a2, a3, a4, a5, a6, a7, a8, a9) => h a0 a1 a2 a3 a4 a5 a6 a7 a8 a9
theorem ne_lo {l : List (Addr × Obj)} {d a : Addr} {o : Obj} (h : ∀ p ∈ l, p.1 < d) (m : (a, o) ∈ l) : a ≠ d := Nat.ne_of_lt (h _ m)
theorem ne_hi {l : List (Addr × Obj)} {d a : Addr} {o : Obj} (h : ∀ p ∈ l, p.1 < d) (m : (a, o) ∈ l) : d ≠ a := Nat.ne_of_gt (h _ m)
theorem lt_in {l : List (Addr × Obj)} {d a : Addr} {o : Obj} (h : ∀ p ∈ l, p.1 < d) (m : (a, o) ∈ l) : @LT.lt Nat _ a d := h _ m
theorem ne_k {l : List (Addr × Obj)} {d a k : Addr} {o : Obj} (hk : @LT.lt Nat _ k a) (h : ∀ p ∈ l, p.1 < d) (m : (a, o) ∈ l) : d ≠ k := Nat.ne_of_gt (Nat.lt_trans hk (h _ m))
theorem ne_al {l : List (Addr × Obj)} {d a : Addr} {o : Obj} (h : ∀ p ∈ l, @Ne Nat p.1 d) (m : (a, o) ∈ l) : a ≠ d := h _ m
theorem ne_ar {l : List (Addr × Obj)} {d a : Addr} {o : Obj} (h : ∀ p ∈ l, @Ne Nat p.1 d) (m : (a, o) ∈ l) : d ≠ a := Ne.symm (h _ m)
theorem off1_all {D : Addr} : ∀ {l : List (Addr × Obj)}, PyProof.Rows.LCg.Off1 D l → ∀ p ∈ l, @Ne Nat p.1 D
  | [], _, _, h => nomatch h
  | q :: r, x, p, h => by
    rcases List.mem_cons.mp h with rfl | h
    · exact x.1
    · exact off1_all x.2 p h
theorem lt_up {l : List (Addr × Obj)} {d : Addr} (h : ∀ p ∈ l, p.1 < d) : ∀ p ∈ l, p.1 < d + 1 := fun p hp => Nat.lt_succ_of_lt (h p hp)
theorem lt_cons {l : List (Addr × Obj)} {d : Addr} {o : Obj} (h : ∀ p ∈ l, p.1 < d) : ∀ p ∈ (d, o) :: l, p.1 < d + 1 := fun p hp => (List.mem_cons.mp hp).elim (fun e => e ▸ Nat.lt_succ_self _) fun hp => Nat.lt_succ_of_lt (h p hp)
theorem all_lo {l r : List (Addr × Obj)} {d : Addr} (h : ∀ p ∈ l, p.1 < d) (s : ∀ p ∈ r, p ∈ l) : ∀ p ∈ r, p.1 ≠ d := fun p hp => Nat.ne_of_lt (h p (s p hp))
theorem and_in {p q X : Prop} (h : p ∧ q) (k : p → q → X) : X := k h.1 h.2
theorem nm_qe {M : Model} {A : Around} {env : Env} {ss : List Stmt} {Q : Flow → Shared → Prop} {E : Value → Shared → Prop} {s : Shared} (hE : PassesOwn M A env E) (h : ∀ Q' E', PassesOwn M A env E' → Q' = Q → E' = E → wpAny M A (execs ss env) Q' E' s) : wpAny M A (execs ss env) Q E s := h Q E hE rfl rfl
theorem use_q {Q Q' : Flow → Shared → Prop} {f : Flow} {s : Shared} (e : Q' = Q) (h : Q f s) : Q' f s := e ▸ h
end Mine
namespace Mine
local macro_rules | `(tactic| walk_at $s:str) => do let t := Lean.Syntax.mkStrLit ("my:" ++ s.getString); `(tactic| first | k_extra $t | fail)
local macro_rules | `(tactic| k_ne) => `(tactic| first | k_extra "my:k_ne" | fail)
local macro_rules | `(tactic| k_all) => `(tactic| first | k_extra "my:k_all" | fail)
local macro_rules | `(tactic| walk_at "dsN") => `(tactic| (intro F' N' d'; (try dsimp only at N'); (try k_sweep)))
local macro_rules | `(tactic| walk_at "clsE") => `(tactic| (intro F' N' l1 l2; (try k_lt2 l2); (try k_sweep)))
local macro_rules | `(tactic| walk_at "kmsE") => `(tactic| (intro F' N' l1 hI' hC' hL'; (try simp only [Int.reduceNeg, Int.neg_neg, Int.reduceToNat] at hI' hC' hL'); (try k_sweep)))
theorem lay_0 : True := by
  k_with_none
  exact True.intro
theorem lay_1 : True := by
  k_with "my:exec While BoolOp cons nil" => with_reducible refine stop_in ?_
  k_with "my:exec While Compare cons nil" => with_reducible refine stop_in ?_
  k_with "my:exec While BinOp cons nil" => with_reducible refine stop_in ?_
  k_with "my:exec While Constant cons nil" => with_reducible refine stop_in ?_
  k_with "my:exec For Name Call cons nil" => with_reducible refine stop_in ?_
  k_with "my:exec For Name Name cons nil" => with_reducible refine stop_in ?_
  k_with "my:exec For Name Subscript cons nil" => with_reducible refine stop_in ?_
  k_with "my:exec For Name BinOp cons nil" => with_reducible refine stop_in ?_
  k_with "my:exec For Name List cons nil" => with_reducible refine stop_in ?_
  k_with "my:exec Assign cons DictComp" => with_reducible refine stop_in ?_
  k_with "my:hook" => skip
  k_with "my:go" => ((repeat' (first | (k_unfold; (try dsimp only)) | (k_extra "my:hook"; first | walk1 | (dsimp only; walk1) | (leave1; try dsimp only)))) <;> (try (with_reducible refine stop_out ?_)))
  k_with "my:mem1" => first | with_reducible assumption | with_reducible exact List.mem_cons_self | (with_reducible refine List.mem_cons_of_mem _ ?_; k_extra "my:mem1") | (with_reducible refine List.mem_append_left _ ?_; k_extra "my:mem1") | (with_reducible refine List.mem_append_right _ ?_; k_extra "my:mem1")
  k_with "my:mem2" => first | exact List.Mem.head _ | (refine List.mem_cons_of_mem _ ?_; k_extra "my:mem2") | (refine List.mem_append_left _ ?_; k_extra "my:mem2") | (refine List.mem_append_right _ ?_; k_extra "my:mem2")
  k_with "my:mem" => first | k_extra "my:mem1" | k_extra "my:mem2"
  k_with "my:inl" => first | with_reducible exact fun _ h => h | with_reducible exact List.forall_mem_nil _ | ((with_reducible refine List.forall_mem_append.mpr ⟨?_, ?_⟩) <;> k_extra "my:inl") | ((with_reducible refine List.forall_mem_cons.mpr ⟨?_, ?_⟩); (first | k_extra "my:mem1" | k_memK | k_extra "my:mem2"); k_extra "my:inl") | (intro _ _; k_extra "my:mem1")
  k_with "my:names" => first | exact List.forall_mem_nil _ | (refine List.forall_mem_cons.mpr ⟨by with_unfolding_all rfl, ?_⟩; k_extra "my:names")
  k_with "my:subscriptTail Name Slice str ref" => ((with_reducible show wpAny _ _ (subscriptTail _ (PySem.Expr.Slice none (some (PySem.Expr.BoolOp _ _ _)) none _) _ _) _ _ _); (refine slice_all_step (s := ⟨_, _, _, _, _⟩) (by k_asm) (by k_asm) ?_); intro _ _ _ _ _)
  k_with "my:ite" => first | (refine ite_yes (by omega) ?_) | (refine ite_no (by omega) ?_)
  k_with "my:execs cons" => ((with_reducible refine wpAny_execs_cons ?_); (try dsimp only); (try (with_reducible refine toks_gen ?_; intro _)))
  k_with "my:k_all" => first | assumption | (refine List.forall_mem_append.mpr ⟨?_, ?_⟩ <;> k_all) | exact ne_of_allLt (by assumption) | exact OwnOff.ne (by assumption) (by k_mem)
  k_with "my:us1" => first | decide | exact Nat.le_of_ble_eq_true rfl
  k_with "my:us2" => first | exact rfl | assumption
  k_with "my:exec For Tuple Call cons nil" => with_reducible refine stop_in ?_
  k_with "my:exec For Tuple Name cons nil" => with_reducible refine stop_in ?_
  k_with "my:k_all" => exact ne_of_out (by assumption) (by omega) (by omega)
  k_with "my:k_all" => exact ne_of_out3 (by assumption) (by omega) (by omega) (by omega)
  exact True.intro
local macro_rules | `(tactic| omega) => `(tactic| lia)
section
/-- a text's signs, each a text -/
def chs (x : Str) : List Str := x.cps.toList.map fun c => ⟨#[c]⟩
theorem chs_length (x : Str) : (chs x).length = x.length := by simp [chs, Str.length]
theorem chs_get {x : Str} {i : Nat} (h : i < x.length) : (chs x)[i]? = some (Txt.item x (i : Int)) := by
  have h' : i < x.cps.size := h
  unfold chs Txt.item Txt.charAt seqIndex?
  have h1 : ¬ ((i : Int) < 0) := by omega
  have h2 : (0 ≤ (i : Int) && decide ((i : Int) < (x.length : Int))) = true := by simp; exact_mod_cast h
  simp only [h1, if_false]
  rw [if_pos (by simpa using h)]
  simp [h']
theorem chs_item {x : Str} {i : Int} (h0 : 0 ≤ i) (h : i < x.length) : (chs x)[i.toNat]? = some (Txt.item x i) := by
  have e : ((i.toNat : Nat) : Int) = i := Int.toNat_of_nonneg h0
  have := chs_get (x := x) (i := i.toNat) (by omega)
  rw [e] at this
  exact this
theorem item_neg {x : Str} {i : Int} (h0 : i < 0) (h : 0 ≤ i + x.length) : Txt.item x i = Txt.item x (i + x.length) := by
  unfold Txt.item Txt.charAt seqIndex?
  have h1 : ¬ (i + (x.length : Int) < 0) := by omega
  simp only [h0, h1, if_true, if_false]
theorem str_ext {x y : Str} (h : x.cps.toList = y.cps.toList) : x = y := by
  obtain ⟨a⟩ := x; obtain ⟨b⟩ := y
  exact congrArg Str.mk (Array.toList_inj.mp h)
theorem chs_inj {x y : Str} (h : chs x = chs y) : x = y := by
  refine str_ext ?_
  unfold chs at h
  exact (List.map_inj_right fun a b e => by simpa using e).mp h
theorem chs_slice_from {x : Str} {i : Int} (h0 : 0 ≤ i) : chs (Txt.slice x (some i) none) = (chs x).drop i.toNat := by
  by_cases h : i ≤ x.length
  · rw [slice_from_eq h0 h rfl]
    simp only [chs, List.map_take, List.map_drop]
    rw [List.take_of_length_le]
    simp only [List.length_drop, List.length_map, Array.length_toList]
    have : x.cps.size = x.length := rfl
    omega
  · rw [slice_beyond (by omega)]
    rw [List.drop_of_length_le (by rw [chs_length]; omega)]
    rfl
theorem chs_slice_to {x : Str} {j : Int} (h0 : 0 ≤ j) (h : j ≤ x.length) : chs (Txt.slice x none (some j)) = (chs x).take j.toNat := by
  rw [beq_iff_eq.mp (slice_closes_toL h0 h)]
  simp [chs, List.map_take]
theorem slice_neg {x : Str} {j : Int} (h0 : j < 0) (h : 0 ≤ j + x.length) : Txt.slice x none (some j) = Txt.slice x none (some (j + x.length)) := by
  unfold Txt.slice
  have e : Builtin.Str.strSliceIndices none (some j) 1 x.length = Builtin.Str.strSliceIndices none (some (j + x.length)) 1 x.length := by
    have h1 : ¬ (j + (x.length : Int) < 0) := by omega
    have h2 : (1 : Int) > 0 := by decide
    simp only [Builtin.Str.strSliceIndices, h0, h1, h2, if_true, if_false]
  rw [e]
theorem chs_slice_neg {x : Str} {j : Int} (h0 : j < 0) (h : 0 ≤ j + x.length) : chs (Txt.slice x none (some j)) = (chs x).take (j + x.length).toNat := by
  rw [slice_neg h0 h]
  exact chs_slice_to h (by omega)
theorem slice_all (x : Str) : Txt.slice x none none = x := by
  refine chs_inj ?_
  have e : Txt.slice x none none = Txt.slice x none (some (x.length : Int)) := by
    unfold Txt.slice
    have e2 : Builtin.Str.strSliceIndices none none 1 x.length = Builtin.Str.strSliceIndices none (some (x.length : Int)) 1 x.length := by
      have h1 : ¬ ((x.length : Int) < 0) := by omega
      have h2 : (1 : Int) > 0 := by decide
      have h3 : max (0 : Int) (x.length : Int) = x.length := by omega
      simp only [Builtin.Str.strSliceIndices, h1, h2, if_true, if_false, Int.min_self, h3]
    rw [e2]
  rw [e, chs_slice_to (by omega) (by omega)]
  rw [List.take_of_length_le (by rw [chs_length]; omega)]
/-- the length of two lists' common front -/
def cpl {α : Type} [DecidableEq α] : List α → List α → Nat
  | x :: xs, y :: ys => if x = y then cpl xs ys + 1 else 0
  | _, _ => 0
section
variable {α : Type} [DecidableEq α]
theorem cpl_le_left : ∀ (a b : List α), cpl a b ≤ a.length
  | [], b => by simp [cpl]
  | x :: xs, [] => by simp [cpl]
  | x :: xs, y :: ys => by
    have := cpl_le_left xs ys
    simp only [cpl]; split <;> simp <;> omega
theorem cpl_le_right : ∀ (a b : List α), cpl a b ≤ b.length
  | [], b => by simp [cpl]
  | x :: xs, [] => by simp [cpl]
  | x :: xs, y :: ys => by
    have := cpl_le_right xs ys
    simp only [cpl]; split <;> simp <;> omega
theorem cpl_symm : ∀ (a b : List α), cpl a b = cpl b a
  | [], [] => rfl
  | [], _ :: _ => rfl
  | _ :: _, [] => rfl
  | x :: xs, y :: ys => by
    simp only [cpl, cpl_symm xs ys]
    by_cases h : x = y
    · rw [if_pos h, if_pos h.symm]
    · rw [if_neg h, if_neg (fun e => h e.symm)]
/-- one more: it goes on just where both have the same next -/
theorem cpl_more : ∀ (a b : List α) (i : Nat), i ≤ cpl a b → i < a.length → i < b.length → a[i]? = b[i]? → i + 1 ≤ cpl a b
  | x :: xs, y :: ys, 0, _, _, _, e => by
    simp at e
    simp [cpl, e]
  | x :: xs, y :: ys, i + 1, h, h1, h2, e => by
    by_cases hx : x = y
    · simp only [cpl, hx, if_true] at h ⊢
      have := cpl_more xs ys i (by omega) (by simpa using h1) (by simpa using h2) (by simpa using e)
      omega
    · simp [cpl, hx] at h
theorem cpl_stop : ∀ (a b : List α) (i : Nat), i ≤ cpl a b → (i = a.length ∨ i = b.length ∨ (i < a.length ∧ i < b.length ∧ a[i]? ≠ b[i]?)) → i = cpl a b
  | [], b, i, h, _ => by simp [cpl] at h ⊢; exact h
  | x :: xs, [], i, h, _ => by simp [cpl] at h ⊢; exact h
  | x :: xs, y :: ys, 0, h, e => by
    rcases e with e | e | ⟨_, _, e⟩
    · simp at e
    · simp at e
    · simp at e; simp [cpl, e]
  | x :: xs, y :: ys, i + 1, h, e => by
    by_cases hx : x = y
    · simp only [cpl, hx, if_true] at h ⊢
      have := cpl_stop xs ys i (by omega) (by simpa using e)
      omega
    · simp [cpl, hx] at h
/-- a row of the table, sign by sign: the new row, its last, its least -/
def inner (cost : α → α → Int) (bc : α) : List α → List Int → Int → Int → Int → List Int × Int × Int
  | x :: xs, r :: rs, dist, res, mn =>
    ((min (min res r + 2) (dist + cost bc x)) :: (inner cost bc xs rs r (min (min res r + 2) (dist + cost bc x)) (if min (min res r + 2) (dist + cost bc x) < mn then min (min res r + 2) (dist + cost bc x) else mn)).1,
      (inner cost bc xs rs r (min (min res r + 2) (dist + cost bc x)) (if min (min res r + 2) (dist + cost bc x) < mn then min (min res r + 2) (dist + cost bc x) else mn)).2)
  | _, _, _, res, mn => ([], res, mn)
def outer (cost : α → α → Int) (a : List α) (mx : Int) : List α → Int → List Int → Int → Int
  | [], _, _, res => res
  | bc :: bs, j, row, _ =>
    if (inner cost bc a row (j * 2) (j * 2) 9223372036854775807).2.2 > mx then mx + 1
    else outer cost a mx bs (j + 1) (inner cost bc a row (j * 2) (j * 2) 9223372036854775807).1 (inner cost bc a row (j * 2) (j * 2) 9223372036854775807).2.1
def row0 (n : Nat) : List Int := (List.range n).map fun (i : Nat) => 2 + 2 * (i : Int)
def levS (cost : α → α → Int) (a b : List α) (mx : Int) : Int :=
  if ((b.length : Int) - a.length) * 2 > mx then mx + 1 else outer cost a mx b 0 (row0 a.length) 0
def levT (cost : α → α → Int) (a b : List α) (mx : Int) : Int :=
  if a = [] ∨ b = [] then 2 * ((a.length : Int) + b.length)
  else if 40 < a.length ∨ 40 < b.length then mx + 1
  else if b.length < a.length then levS cost b a mx else levS cost a b mx
def cutEnd (a b : List α) : List α := a.take (a.length - cpl a.reverse b.reverse)
def levD (cost : α → α → Int) (a b : List α) (mx : Int) : Int :=
  if a = b then 0
  else levT cost (cutEnd (a.drop (cpl a b)) (b.drop (cpl a b))) (cutEnd (b.drop (cpl a b)) (a.drop (cpl a b))) mx
def stretchL (a b : List α) : Int := (a.length : Int) - cpl a b - min (cpl a.reverse b.reverse) (b.length - cpl a b)
end
section
variable {x y : Str} {k : Int}
theorem pre_more (h0 : 0 ≤ k) (hk : k ≤ cpl (chs x) (chs y)) (hx : k < x.length) (hy : k < y.length) (e : (Txt.item x k == Txt.item y k) = true) : k + 1 ≤ cpl (chs x) (chs y) := by
  have := cpl_more (chs x) (chs y) k.toNat (by omega) (by rw [chs_length]; omega) (by rw [chs_length]; omega) (by rw [chs_item h0 hx, chs_item h0 hy, beq_iff_eq.mp e])
  omega
theorem pre_stop (h0 : 0 ≤ k) (hk : k ≤ cpl (chs x) (chs y)) (h : k = x.length ∨ k = y.length ∨ (k < x.length ∧ k < y.length ∧ (Txt.item x k == Txt.item y k) = false)) : k = cpl (chs x) (chs y) := by
  have := cpl_stop (chs x) (chs y) k.toNat (by omega) (by
    rcases h with h | h | ⟨h1, h2, e⟩
    · left; rw [chs_length]; omega
    · right; left; rw [chs_length]; omega
    · right; right
      refine ⟨by rw [chs_length]; omega, by rw [chs_length]; omega, ?_⟩
      rw [chs_item h0 h1, chs_item h0 h2]
      intro q
      rw [Option.some.inj q] at e
      simp at e)
  omega
theorem rev_get {α : Type} {l : List α} {i : Nat} (h : i < l.length) : l.reverse[i]? = l[l.length - 1 - i]? := by
  rw [List.getElem?_reverse h]
/-- from behind: j below nought -/
theorem chs_back (h0 : k ≤ 0) (h : 0 < k + x.length) : (chs x).reverse[(-k).toNat]? = some (Txt.item x (k - 1)) := by
  rw [rev_get (by rw [chs_length]; omega), item_neg (by omega) (by omega)]
  rw [← chs_item (x := x) (i := k - 1 + x.length) (by omega) (by omega)]
  congr 1
  rw [chs_length]
  omega
theorem post_more (h0 : k ≤ 0) (hk : -k ≤ cpl (chs x).reverse (chs y).reverse) (hx : 0 < k + x.length) (hy : 0 < k + y.length) (e : (Txt.item x (k - 1) == Txt.item y (k - 1)) = true) : -k + 1 ≤ cpl (chs x).reverse (chs y).reverse := by
  have := cpl_more (chs x).reverse (chs y).reverse (-k).toNat (by omega) (by rw [List.length_reverse, chs_length]; omega) (by rw [List.length_reverse, chs_length]; omega) (by rw [chs_back h0 hx, chs_back h0 hy, beq_iff_eq.mp e])
  omega
theorem post_stop (h0 : k ≤ 0) (hk : -k ≤ cpl (chs x).reverse (chs y).reverse) (h : -k = x.length ∨ -k = y.length ∨ (0 < k + x.length ∧ 0 < k + y.length ∧ (Txt.item x (k - 1) == Txt.item y (k - 1)) = false)) : -k = cpl (chs x).reverse (chs y).reverse := by
  have := cpl_stop (chs x).reverse (chs y).reverse (-k).toNat (by omega) (by
    rcases h with h | h | ⟨h1, h2, e⟩
    · left; rw [List.length_reverse, chs_length]; omega
    · right; left; rw [List.length_reverse, chs_length]; omega
    · right; right
      refine ⟨by rw [List.length_reverse, chs_length]; omega, by rw [List.length_reverse, chs_length]; omega, ?_⟩
      rw [chs_back h0 h1, chs_back h0 h2]
      intro q
      rw [Option.some.inj q] at e
      simp at e)
  omega
end
theorem item_len (x : Str) (k : Int) : (Txt.item x k).length = 1 := rfl
theorem slice_all_step {prog : Program} {w : World} {A : Around} {E : Value → Shared → Prop} {s : Shared} {value slice : PySem.Expr} {x : Str} {t : Tok} {h₀ : Heap} {L : Addr} {m : Str → Option Value} {news : List (Addr × Obj)} {Q : Value → Shared → Prop}
    (hF : Fr h₀ L s.heap m) (hN : News h₀ L s.heap news) (h : ∀ h' t' k, Fr h₀ L h' m → News h₀ L h' news → Q (.str x t') { s with heap := h', toks := k })
    (hs : subscripted slice false (.str x t) (.ref s.heap.objs.size) = operate [.ref s.heap.objs.size, .str x t] (getItem (.str x t) (.ref s.heap.objs.size)) := by with_unfolding_all rfl)
    (ht : ∀ r, letTemporaryGo value (.str x t) r = pure () := by intro _; with_unfolding_all rfl) (hsz : x.length ≤ sizeLine := by size_fits) :
    wpAny (model prog w) A (subscriptTail value slice (.str x t) (.ref s.heap.objs.size)) Q E { s with heap := s.heap.push { cls := .type "slice", data := .fields #[.none, .none, .none] } } :=
  slice_strN_nn hF hN (fun h' t' k a b => by rw [slice_all]; exact h h' t' k a b) hs ht hsz
end
section
theorem levT_str (cost : Str → Str → Int) (x y : Str) (b : Int) : levT cost (chs x) (chs y) b =
    if (x.length : Int) = 0 ∨ (y.length : Int) = 0 then 2 * ((x.length : Int) + y.length) else if 40 < (x.length : Int) ∨ 40 < (y.length : Int) then b + 1
    else if (y.length : Int) < x.length then levS cost (chs y) (chs x) b else levS cost (chs x) (chs y) b := by
  have hz : ∀ z : Str, (chs z = []) ↔ (z.length : Int) = 0 := fun z => by rw [← List.length_eq_zero_iff, chs_length]; omega
  unfold levT
  simp only [hz, chs_length]
  by_cases h1 : (x.length : Int) = 0 ∨ (y.length : Int) = 0
  · rw [if_pos h1, if_pos h1]
  rw [if_neg h1, if_neg h1]
  by_cases h2 : 40 < x.length ∨ 40 < y.length
  · rw [if_pos h2]
    rw [if_pos (show 40 < (x.length : Int) ∨ 40 < (y.length : Int) by omega)]
  rw [if_neg h2]
  rw [if_neg (show ¬(40 < (x.length : Int) ∨ 40 < (y.length : Int)) by omega)]
  by_cases h3 : y.length < x.length
  · rw [if_pos h3]
    rw [if_pos (show (y.length : Int) < x.length by omega)]
  rw [if_neg h3]
  rw [if_neg (show ¬ (y.length : Int) < x.length by omega)]
theorem levS_str (cost : Str → Str → Int) (x y : Str) (b : Int) : levS cost (chs x) (chs y) b =
    if ((y.length : Int) - x.length) * 2 > b then b + 1 else outer cost (chs x) b (chs y) 0 (row0 x.length) 0 := by
  unfold levS
  simp only [chs_length]
theorem row0_length (n : Nat) : (row0 n).length = n := by simp [row0]
theorem row0_size {n : Nat} (h : 0 < n) : Builtin.Range.rangeSize 2 (2 * ((n : Int) + 1)) 2 = (n : Int) := by
  unfold Builtin.Range.rangeSize
  rw [if_pos (by decide), if_pos (by omega)]
  omega
theorem row0_small {n : Nat} (h : 0 < n) (h2 : n ≤ 1000) : Builtin.Range.small 2 (2 * ((n : Int) + 1)) 2 = true := by
  unfold Builtin.Range.small
  rw [row0_size h]
  have e : ∀ i : Int, -(2 ^ 62) ≤ i → i < 2 ^ 62 → Builtin.Range.rangeFitsLong i = true := fun i a b => by
    unfold Builtin.Range.rangeFitsLong
    rw [Bool.and_eq_true, decide_eq_true_eq, decide_eq_true_eq]
    constructor <;> omega
  simp [e]
  exact ⟨⟨e _ (by omega) (by omega), e _ (by omega) (by omega)⟩, .inr (e _ (by omega) (by omega))⟩
theorem ints_of : ∀ (vs : List Value) (ns : List Int), vs.length = ns.length → (∀ (j : Nat) (v : Value), vs[j]? = some v → ∃ t, v = .int (ns.getD j 0) t) → IntsAre vs ns
  | [], [], _, _ => .nil
  | v :: vs, n :: ns, e, h => by
    obtain ⟨t, rfl⟩ := h 0 v rfl
    exact .cons n t (ints_of vs ns (by simpa using e) fun j v hj => h (j + 1) v hj)
section
variable {prog : Program} {w : World} {A : Around} {E : Value → Shared → Prop} {s : Shared} {h₀ : Heap} {L r : Addr} {m : Str → Option Value} {news : List (Addr × Obj)} {t₀ u₀ v₀ : Tok} {n : Nat} {Q : Value → Shared → Prop}
theorem list_row (hh : A.handled = none) (F : Fr h₀ L s.heap m) (N : News h₀ L s.heap news) (hr : IsRange s.heap r 2 (2 * ((n : Int) + 1)) 2 t₀ u₀ v₀) (h0 : 0 < n) (h1 : n ≤ 1000)
    (h : ∀ D us c h' tk, Fr h₀ L h' m → News h₀ L h' ((D, listOf (List.toArray us) c) :: news) → (∀ p ∈ news, p.1 < D) → IntsAre us (row0 n) → Q (.ref D) { s with heap := h', toks := tk }) :
    wpAny (model prog w) A (call (.type "list") [.ref r]) Q E s := by
  refine call_list_range hh hr (row0_small h0 h1) (row0_size h0) (by omega) fun h' tk acc c hk hD hI => ?_
  have hD' : h'.get? s.heap.objs.size = some (listOf (List.toArray acc.toList) c) := by
    rw [Array.toArray_toList]
    exact hD
  refine h _ acc.toList c h' tk (F.keeps hk) (news_pushed F N hk hD' rfl) (fun p hp => Heap.lt_size (N p hp).1) (ints_of _ _ (by rw [Array.length_toList, row0_length]; exact hI.1) fun j v hj => ?_)
  obtain ⟨t, ht⟩ := hI.2 j v (by rw [← hj, Array.getElem?_toList])
  have hjn : j < n := by
    have := (List.getElem?_eq_some_iff.mp hj).1
    rw [Array.length_toList, hI.1] at this
    exact this
  refine ⟨t, ht.trans ?_⟩
  congr 1
  rw [List.getD_eq_getElem?_getD]
  unfold row0
  rw [List.getElem?_map, List.getElem?_range hjn]
  simp only [Option.map_some, Option.getD_some]
  omega
end
theorem outer_step {α : Type} (cost : α → α → Int) (a : List α) (mx : Int) (bc : α) (bs : List α) (j : Int) (row : List Int) (res : Int) : outer cost a mx (bc :: bs) j row res =
    if (inner cost bc a row (j * 2) (j * 2) 9223372036854775807).2.2 > mx then mx + 1
    else outer cost a mx bs (j + 1) (inner cost bc a row (j * 2) (j * 2) 9223372036854775807).1 (inner cost bc a row (j * 2) (j * 2) 9223372036854775807).2.1 := rfl
theorem drop_of_get {α : Type} {l : List α} {i : Nat} {x : α} (h : l[i]? = some x) : l.drop i = x :: l.drop (i + 1) := by
  obtain ⟨hi, e⟩ := List.getElem?_eq_some_iff.mp h
  rw [List.drop_eq_getElem_cons hi, e]
/-- the row's turn: what stands is done ++ rest -/
theorem inner_turn {α : Type} (cost : α → α → Int) (bc x : α) (xs : List α) (row : List Int) (i : Nat) (dist res mn : Int) (hi : i < row.length) (T : List Int × Int × Int)
    (h : T.1 = row.take i ++ (inner cost bc (x :: xs) (row.drop i) dist res mn).1 ∧ T.2 = (inner cost bc (x :: xs) (row.drop i) dist res mn).2)
    (r : Int) (hr : r = row.getD i 0) (v : Int) (hv : v = min (min res r + 2) (dist + cost bc x)) (mn' : Int) (hm : mn' = if v < mn then v else mn) :
    T.1 = (row.set i v).take (i + 1) ++ (inner cost bc xs ((row.set i v).drop (i + 1)) r v mn').1 ∧ T.2 = (inner cost bc xs ((row.set i v).drop (i + 1)) r v mn').2 := by
  have e : row.drop i = r :: row.drop (i + 1) := drop_of_get (by rw [hr, List.getD_eq_getElem?_getD, List.getElem?_eq_getElem hi]; rfl)
  have e2 : (row.set i v).drop (i + 1) = row.drop (i + 1) := by rw [List.drop_set_of_lt (by omega)]
  have e3 : (row.set i v).take (i + 1) = row.take i ++ [v] := by
    rw [List.take_succ_eq_append_getElem (by simpa using hi)]
    simp [List.take_set_of_le (Nat.le_refl _)]
  rw [e] at h
  rw [e2, e3, h.1, h.2]
  simp only [inner, ← hv, ← hm, List.append_assoc, List.singleton_append, and_self]
theorem mins (r res d c : Int) : (if d + c < (if r < res then r else res) + 2 then d + c else (if r < res then r else res) + 2) = min (min res r + 2) (d + c) := by
  by_cases h : r < res
  · rw [if_pos h]
    split <;> omega
  · rw [if_neg h]
    split <;> omega
end
section
def IterO (o : Obj) (l : Addr) (i : Nat) : Prop := o.cls = .type "list_iterator" ∧ o.data = .fields #[.ref l, .int i 0]
section
variable {prog : Program} {w : World} {A : Around} {E : Value → Shared → Prop} {s : Shared} {h₀ : Heap} {L : Addr} {m : Str → Option Value} {news : List (Addr × Obj)}
theorem special_item {it l : Addr} {i : Nat} {items : Array Value} {x : Value} {Q : Option Value → Shared → Prop} (hit : s.heap.IsListIter it l i) (hl : s.heap.IsList l items) (hx : items[i]? = some x)
    (hQ : ∀ h', h'.IsListIter it l (i + 1) → Heap.SameBut it s.heap h' → Q (some x) { s with heap := h' }) :
    wpAny (model prog w) A (callSpecial? (.ref it) (Str.ofString "__next__")) Q E s := by
  obtain ⟨o, ho, hc, hd⟩ := id hit
  obtain ⟨ol, hol, _, nl, hdl⟩ := hl
  refine wpAny_callSpecial?_slot (name := Str.ofString "__next__") hit.typeIs slot_listiter_next (wpAny_call_entry slot_listiter_next hit.typeIs entry_listiter_next ?_ (args_listiter_next _))
  show wpAny _ _ (field (.ref it) 0 >>= _) _ _ s
  refine wpAny_bind (wpAny_field ho hd (x := .ref l) rfl ?_)
  show wpAny _ _ (if (Value.ref l == Value.none) = true then _ else _) _ _ s
  rw [if_neg (show ¬ ((Value.ref l == Value.none) = true) from Bool.false_ne_true)]
  show wpAny _ _ (field (.ref it) 1 >>= _) _ _ s
  refine wpAny_bind (wpAny_field ho hd (x := .int i 0) rfl ?_)
  show wpAny _ _ (seqItems? (.ref l) >>= _) _ _ s
  refine wpAny_bind (wpAny_seqItems hol hdl ?_)
  simp only [Int.toNat_natCast, hx]
  refine wpAny_bind (wpAny_setField ho hd (by simp) (wpAny_pure ⟨x, rfl, hQ _ ?_ (Heap.SameBut.update ..)⟩))
  exact ⟨_, Heap.get?_update_self _ ho (Obj.isFreed_of_fields (Obj.data_mapFields hd _)), (Obj.cls_mapFields ..).trans hc, by
    rw [Obj.data_mapFields hd]; simp [rawInt]⟩
theorem special_end {it l : Addr} {i : Nat} {items : Array Value} {Q : Option Value → Shared → Prop} (hh : A.handled = none) (hit : s.heap.IsListIter it l i) (hl : s.heap.IsList l items) (hx : items[i]? = none)
    (hE : ∀ h1 h' e, Heap.ExtBut it s.heap h1 → Heap.NewExc h1 h' e "StopIteration" → E (.ref e) { s with heap := h' }) :
    wpAny (model prog w) A (callSpecial? (.ref it) (Str.ofString "__next__")) Q E s := by
  obtain ⟨o, ho, hc, hd⟩ := id hit
  obtain ⟨ol, hol, _, nl, hdl⟩ := hl
  refine wpAny_callSpecial?_slot (name := Str.ofString "__next__") hit.typeIs slot_listiter_next (wpAny_call_entry slot_listiter_next hit.typeIs entry_listiter_next ?_ (args_listiter_next _))
  show wpAny _ _ (field (.ref it) 0 >>= _) _ _ s
  refine wpAny_bind (wpAny_field ho hd (x := .ref l) rfl ?_)
  show wpAny _ _ (if (Value.ref l == Value.none) = true then _ else _) _ _ s
  rw [if_neg (show ¬ ((Value.ref l == Value.none) = true) from Bool.false_ne_true)]
  show wpAny _ _ (field (.ref it) 1 >>= _) _ _ s
  refine wpAny_bind (wpAny_field ho hd (x := .int i 0) rfl ?_)
  show wpAny _ _ (seqItems? (.ref l) >>= _) _ _ s
  refine wpAny_bind (wpAny_seqItems hol hdl ?_)
  simp only [Int.toNat_natCast, hx]
  refine wpAny_bind (wpAny_rule (wpAny_bind (wpAny_setField ho hd (by simp) ?_)))
  show wpAny _ _ (newExc (.type "StopIteration") [] >>= _) _ _ _
  refine wpAny_bind ?_
  simp only [newExc, newTuple]
  refine wpAny_bind (wpAny_newObj_type ?_ (by size_fits))
  refine wpAny_bind (m := firstArgMember _ _) (wpAny_of_eq (a := Value.none) (by first | rfl | (simp only [firstArgMember]; rfl)) ?_)
  refine wpAny_newObj_type ?_ (by size_fits)
  simp only [raiseNew]
  refine wpAny_bind (wpAny_handled ?_)
  first | rw [show A.in1.handled = none from hh] | rw [hh]
  refine wpAny_bind (wpAny_pure (wpAny_throw ?_))
  refine hE _ _ _ (Heap.SameBut.update ..).extBut ⟨fun b o e => Heap.get?_push_of_some _ (Heap.get?_push_of_some _ e), ?_, ⟨_, _, Heap.get?_push_size _ rfl, rfl, rfl⟩⟩
  cases q : Heap.get? (s.heap.update it (Obj.mapFields fun x => x.setIfInBounds 0 Value.none)) ((s.heap.update it (Obj.mapFields fun x => x.setIfInBounds 0 Value.none)).push { cls := Value.type "tuple", data := Data.seq #[] }).objs.size with
  | none => rfl
  | some o' =>
    have := Heap.lt_size q
    rw [Heap.size_push] at this
    exact absurd this (Nat.not_lt_of_le (Nat.le_succ _))
theorem iter_args (a : Value) : argsOk "next" ⟨[a], []⟩ := kdk_args_next a
theorem next_item {it l : Addr} {io : Obj} {i k : Nat} {vs : List Value} {x : Value} {Q : Value → Shared → Prop} (F : Fr h₀ L s.heap m) (N : News h₀ L s.heap ((it, io) :: news)) (hi : IterO io l i) (hl : (l, listOf vs.toArray k) ∈ news) (off : ∀ p ∈ news, p.1 ≠ it) (hx : vs[i]? = some x)
    (h : ∀ h' io', IterO io' l (i + 1) → Fr h₀ L h' m → News h₀ L h' ((it, io') :: news) → Q x { s with heap := h' }) :
    wpAny (model prog w) A (call (.builtin "next") [.ref it]) Q E s := by
  have hm := N (it, io) (.head _)
  have hit : s.heap.IsListIter it l i := ⟨io, hm.1, hi.1, hi.2⟩
  have hol := (N _ (.tail _ hl)).1
  have hls : s.heap.IsList l vs.toArray := ⟨_, hol, rfl, k, rfl⟩
  refine call_function_entry (by decide +kernel) (by decide +kernel) kdk_entry_next (kdk_args_next _) ?_
  unfold Builtin.«next»
  refine wpAny_bind (m := someArgs "next" 1 2 _) (wpAny_of_eq (a := [Value.ref it]) (by first | rfl | kernel_rfl!) ?_)
  dsimp only
  refine wpAny_bind (wpAny_specialOf (name := Str.ofString "__next__") hit.typeIs slot_listiter_next.lookup ?_)
  refine wpAny_ite_split (fun hab => absurd hab (by decide)) (fun _ => ?_)
  refine wpAny_bind (special_item hit hls (x := x) (by simpa using hx) fun h' hit' hs => ?_)
  obtain ⟨o', ho', hc', hd'⟩ := hit'
  refine wpAny_pure ⟨_, rfl, h h' o' ⟨hc', hd'⟩ (F.change hs hm.2.1 hm.2.2) fun p hp => ?_⟩
  rcases List.mem_cons.mp hp with rfl | hp
  · exact ⟨ho', hm.2⟩
  · exact ⟨hs.extBut _ _ (off p hp) (N p (.tail _ hp)).1, (N p (.tail _ hp)).2⟩
theorem next_end {it l : Addr} {io : Obj} {i k : Nat} {vs : List Value} {Q : Value → Shared → Prop} (hh : A.handled = none) (F : Fr h₀ L s.heap m) (N : News h₀ L s.heap ((it, io) :: news)) (hi : IterO io l i) (hl : (l, listOf vs.toArray k) ∈ news) (off : ∀ p ∈ news, p.1 ≠ it) (hx : vs[i]? = none)
    (h : ∀ h1 h' e, Fr h₀ L h1 m → News h₀ L h1 news → Heap.NewExc h1 h' e "StopIteration" → E (.ref e) { s with heap := h' }) :
    wpAny (model prog w) A (call (.builtin "next") [.ref it]) Q E s := by
  have hm := N (it, io) (.head _)
  have hit : s.heap.IsListIter it l i := ⟨io, hm.1, hi.1, hi.2⟩
  have hol := (N _ (.tail _ hl)).1
  have hls : s.heap.IsList l vs.toArray := ⟨_, hol, rfl, k, rfl⟩
  refine call_function_entry (by decide +kernel) (by decide +kernel) kdk_entry_next (kdk_args_next _) ?_
  unfold Builtin.«next»
  refine wpAny_bind (m := someArgs "next" 1 2 _) (wpAny_of_eq (a := [Value.ref it]) (by first | rfl | kernel_rfl!) ?_)
  dsimp only
  refine wpAny_bind (wpAny_specialOf (name := Str.ofString "__next__") hit.typeIs slot_listiter_next.lookup ?_)
  refine wpAny_ite_split (fun hab => absurd hab (by decide)) (fun _ => ?_)
  refine wpAny_bind (special_end hh hit hls (by simpa using hx) fun h1 h' e hs hx' => ?_)
  refine h h1 h' e ⟨F.ns.at' fun o q => hs _ _ (Ne.symm hm.2.1) q, fun b o q => hs _ _ (fun z => by rw [z, hm.2.2] at q; cases q) (F.keep b o q), F.above⟩ (fun p hp => ?_) hx'
  exact ⟨hs _ _ (off p hp) (N p (.tail _ hp)).1, (N p (.tail _ hp)).2⟩
end
/-- a contract of a def that may also raise -/
def ConX (prog : Program) (w : World) (K : Frag) (f : Addr) (dp un : Nat) (vs : List Value) (news : List (Addr × Obj)) (post : Value → List (Addr × Obj) → Prop) (cls : String) (newsX : List (Addr × Obj)) : Prop :=
  ∀ (p : Program) (loose : List Str) (mean : ExcName → Option Value) (mg mb : Str → Option Value) (gd : Option (List Code)) (cn : Str) (cs : Scope) (a : Addr) (ccd : Value) (cl : List (Str × Addr)) (outer : List Env) (A₀ : Around) (base h₀ : Heap) (L : Addr) (m : Str → Option Value) (s : Shared) (Q E : Value → Shared → Prop),
    Below A₀ base outer h₀ → Fr h₀ L s.heap m → K.In h₀ → News h₀ L s.heap news → Top p loose mean mg mb h₀ → cs.kind = .function →
    (∀ v news' h' tk', post v news' → Fr h₀ L h' m → News h₀ L h' news' → Q v { s with heap := h', toks := tk' }) →
    (∀ e g h' tk', Fr h₀ L g m → RaisedN base (envX cn cs L a ccd cl :: outer) e (.type cls) newsX h' → g.UpToSlots h' → E (.ref e) { s with heap := h', toks := tk' }) →
    wpAny (model prog w) (ktrTop dp un gd cn cs L a ccd cl outer) (call (.ref f) vs) Q E s
theorem ConX.of {prog : Program} {w : World} {K : Frag} {f : Addr} {dp un : Nat} {vs : List Value} {news : List (Addr × Obj)} {post : Value → List (Addr × Obj) → Prop} {cls : String} {newsX : List (Addr × Obj)}
    {name qual : Str} {params : Arguments} {body : List Stmt} {scope : Scope} {dV kV doc pm cdv ct oc : Value} {an od : Option Addr} {osl : Array (Option Value)} {binds : List (Str × Value)}
    (ho : K.lookup f = some ⟨oc, od, .func (fnOf name qual params body scope dV kV doc pm an cdv ct), osl⟩) (hcd : codeIn K cdv qual = true) (hroom : dp < recursionLimit)
    (hbind : ∀ s : Shared, K.In s.heap → BindsTo s (fnOf name qual params body scope dV kV doc pm an cdv ct) ⟨vs, []⟩ binds) (hloc : ∀ y ∈ binds, scope.names.lookup y.1 = some .local) (hnd : (binds.map (·.1)).Nodup)
    (hco : scope.isCoroutine = false) (hgen : scope.isGenerator = false) (hk : scope.kind = .function) (hcell : ∀ x ∈ scope.names, x.2 ≠ .cell)
    (h : ∀ (p : Program) (loose : List Str) (mean : ExcName → Option Value) (mg mb : Str → Option Value) (gd : Option (List Code)) (cn : Str) (cs : Scope) (a : Addr) (ccd : Value) (cl : List (Str × Addr)) (outer : List Env) (base g h₁ : Heap) (L' L₀ : Addr) (s : Shared) (tk : Nat) (R : Value → Shared → Prop),
      Fr g L' h₁ (kstB (fun _ => none) binds) → News g L' h₁ news → Below (ktrTop dp un gd cn cs L₀ a ccd cl outer) base (envX cn cs L₀ a ccd cl :: outer) g → K.In g → Top p loose mean mg mb g →
      (∀ e h' tk', RaisedN base (envX cn cs L₀ a ccd cl :: outer) e (.type cls) newsX h' → g.UpToSlots h' → R (.ref e) { s with heap := h', toks := tk' }) →
      wpAny (model prog w) ((ktrTop dp un gd cn cs L₀ a ccd cl outer).deeper (envOf qual scope L' f cdv)) (execs body (envOf qual scope L' f cdv))
        (fun fl s' => Out g s post (match fl with | .ret v => v | _ => .none) s')
        (fun e s' => wpAny (model prog w) ((ktrTop dp un gd cn cs L₀ a ccd cl outer).deeper (envOf qual scope L' f cdv)) (leaving (envOf qual scope L' f cdv) e) (fun _ s'' => R e s'') (fun e' s'' => R e' s'') s')
        { s with heap := h₁, toks := tk }) : ConX prog w K f dp un vs news post cls newsX := by
  intro p loose mean mg mb gd cn cs a ccd cl outer A₀ base h₀ L m s Q E B F X N T hkc ret exc
  refine wpAny_call ?_
  refine code_def B F X N T rfl rfl hkc ho hcd hroom (hbind s (X.keeps F.keep)) hloc (fun g L' h₁ FG F' N' B' X' T' => ?_) hco hgen hk hcell
  have F2 : Fr g L' h₁ (kstB (fun _ => none) binds) := by
    have e : (fun y => binds.reverse.lookup y) = kstB (fun _ => none) binds := funext fun y => kstB_of hnd
    rw [← e]; exact F'
  refine wpAny_mono (h p loose mean mg mb gd cn cs a ccd cl outer base g h₁ L' L s (s.toks + binds.length) E F2 N' B' X' T' (fun e h' tk' hx hu => exc e g h' tk' FG hx hu)) (fun fl s' hO => ?_) fun _ _ x => x
  obtain ⟨h', tk', L'', m', more, news', rfl, F'', N'', hs, hp⟩ := hO
  exact leaveK_ F'' N'' fun kF kN => ret _ news' h' tk' hp kF fun q hq => kN q (hs q hq)
theorem leaves {M : Model} {A : Around} {E : Value → Shared → Prop} {s' : Shared} {base g h : Heap} {outer : List Env} {L a e : Addr} {m : Str → Option Value} {name : Str} {scope : Scope} {cd : Value} {Q : Unit → Shared → Prop} {news : List (Addr × Obj)} {cls : String}
    (K : Below A base outer g) (hx : Heap.NewExc h s'.heap e cls) (F : Fr g L h m) (N : News g L h news)
    (hQ : ∀ h', RaisedN base outer e (.type cls) news h' → g.UpToSlots h' → Q () { s' with heap := h' }) (hk : scope.kind = .function) :
    wpAny M (A.deeper (envOf name scope L a cd)) (leaving (envOf name scope L a cd) (.ref e)) Q E s' := leave_newK K hx F N hQ hk
theorem raised_less {base : Heap} {l : List Env} {e : Addr} {cls : Value} {news news' : List (Addr × Obj)} {h : Heap} (R : RaisedN base l e cls news h) (hs : ∀ p ∈ news', p ∈ news) : RaisedN base l e cls news' h :=
  let ⟨B, a0, h1, h2, h3⟩ := R; ⟨B, a0, h1, fun q hq => h2 q (hs q hq), h3⟩
end
section
/-- how a body that caught what was raised below it comes back: its caller's frame is seen again from the heap below both -/
def OutX (h₀ : Heap) (L₀ : Addr) (m : Str → Option Value) (s₀ : Shared) (post : Value → List (Addr × Obj) → Prop) (v : Value) (s' : Shared) : Prop :=
  ∃ (h' : Heap) (tk' : Nat) (news' : List (Addr × Obj)), s' = { s₀ with heap := h', toks := tk' } ∧ Fr h₀ L₀ h' m ∧ News h₀ L₀ h' news' ∧ post v news'
theorem outX_of {h₀ : Heap} {L L₀ : Addr} {m m' : Str → Option Value} {s₀ s₁ : Shared} {post : Value → List (Addr × Obj) → Prop} {v : Value} {h' : Heap} {tk' : Nat} {oL : Obj} {more news' : List (Addr × Obj)}
    (he : s₁ = { s₀ with heap := h', toks := tk' }) (F : Fr h₀ L h' m') (N : News h₀ L h' more) (hm : (L₀, oL) ∈ more) (hns : ∀ h : Heap, h.get? L₀ = some oL → h.Ns L₀ m) (hab : h₀.objs.size ≤ L₀) (hs : ∀ p ∈ news', p ∈ more ∧ p.1 ≠ L₀) (hp : post v news') :
    OutX h₀ L₀ m s₀ post v s₁ := by
  refine ⟨h', tk', news', he, ⟨hns h' (N _ hm).1, F.keep, hab⟩, fun p hq => ⟨(N p (hs p hq).1).1, (hs p hq).2, (N p (hs p hq).1).2.2⟩, hp⟩
/-- a contract of a def that catches what is raised below it: called by a def that nothing of the text called -/
def ConT (prog : Program) (w : World) (K : Frag) (f : Addr) (dp un : Nat) (vs : List Value) (news : List (Addr × Obj)) (post : Value → List (Addr × Obj) → Prop) : Prop :=
  ∀ (p : Program) (loose : List Str) (mean : ExcName → Option Value) (mg mb : Str → Option Value) (gd : Option (List Code)) (cn : Str) (cs : Scope) (a : Addr) (ccd : Value) (cl : List (Str × Addr)) (A₀ : Around) (h₀ : Heap) (L : Addr) (m : Str → Option Value) (s : Shared) (Q E : Value → Shared → Prop),
    Below A₀ h₀ [] h₀ → Fr h₀ L s.heap m → K.In h₀ → News h₀ L s.heap news → Top p loose mean mg mb h₀ → cs.kind = .function →
    (∀ v news' h' tk', post v news' → Fr h₀ L h' m → News h₀ L h' news' → Q v { s with heap := h', toks := tk' }) →
    wpAny (model prog w) (ktrTop dp un gd cn cs L a ccd cl []) (call (.ref f) vs) Q E s
theorem ConT.of {prog : Program} {w : World} {K : Frag} {f : Addr} {dp un : Nat} {vs : List Value} {news : List (Addr × Obj)} {post : Value → List (Addr × Obj) → Prop}
    {name qual : Str} {params : Arguments} {body : List Stmt} {scope : Scope} {dV kV doc pm cdv ct oc : Value} {an od : Option Addr} {osl : Array (Option Value)} {binds : List (Str × Value)}
    (ho : K.lookup f = some ⟨oc, od, .func (fnOf name qual params body scope dV kV doc pm an cdv ct), osl⟩) (hcd : codeIn K cdv qual = true) (hroom : dp < recursionLimit)
    (hbind : ∀ s : Shared, K.In s.heap → BindsTo s (fnOf name qual params body scope dV kV doc pm an cdv ct) ⟨vs, []⟩ binds) (hloc : ∀ y ∈ binds, scope.names.lookup y.1 = some .local) (hnd : (binds.map (·.1)).Nodup)
    (hco : scope.isCoroutine = false) (hgen : scope.isGenerator = false) (hk : scope.kind = .function) (hcell : ∀ x ∈ scope.names, x.2 ≠ .cell)
    (h : ∀ (p : Program) (loose : List Str) (mean : ExcName → Option Value) (mg mb : Str → Option Value) (gd : Option (List Code)) (cn : Str) (cs : Scope) (a : Addr) (ccd : Value) (cl : List (Str × Addr)) (h₀ g h₁ : Heap) (L' L₀ : Addr) (m : Str → Option Value) (s : Shared) (tk : Nat) (R : Value → Shared → Prop),
      Fr h₀ L₀ g m → h₀.objs.size ≤ L' → (∀ q ∈ news, h₀.get? q.1 = none ∧ q.1 ≠ L₀) → K.In h₀ → Top p loose mean mg mb h₀ →
      Fr g L' h₁ (kstB (fun _ => none) binds) → News g L' h₁ news → Below (ktrTop dp un gd cn cs L₀ a ccd cl []) h₀ [envX cn cs L₀ a ccd cl] g → K.In g → Top p loose mean mg mb g →
      wpAny (model prog w) ((ktrTop dp un gd cn cs L₀ a ccd cl []).deeper (envOf qual scope L' f cdv)) (execs body (envOf qual scope L' f cdv))
        (fun fl s' => OutX h₀ L₀ m s post (match fl with | .ret v => v | _ => .none) s')
        (fun e s' => wpAny (model prog w) ((ktrTop dp un gd cn cs L₀ a ccd cl []).deeper (envOf qual scope L' f cdv)) (leaving (envOf qual scope L' f cdv) e) (fun _ s'' => R e s'') (fun e' s'' => R e' s'') s')
        { s with heap := h₁, toks := tk }) : ConT prog w K f dp un vs news post := by
  intro p loose mean mg mb gd cn cs a ccd cl A₀ h₀ L m s Q E B F X N T hkc ret
  refine wpAny_call ?_
  have Xs := X.keeps F.keep
  refine codeAny_call_def (fd := fnOf name qual params body scope dV kV doc pm an cdv ct) (body := body) (binds := binds) hroom (Xs _ _ ho) rfl (T.nolimit.keeps F.keep) (codeRec_of Xs hcd) rfl (hbind s Xs) hcell hloc (fun h₁ hns hk₁ => ?_) hco hgen hk
  have hg : ∀ b o, (hideAll s.heap (news.map (·.1))).get? b = some o → s.heap.get? b = some o := fun b o => of_hideAll _
  have hnot : ∀ b o, s.heap.get? b = some o → (∀ q ∈ news, q.1 ≠ b) → (hideAll s.heap (news.map (·.1))).get? b = some o := fun b o e hq =>
    hideAll_get _ e fun hm => by obtain ⟨q, hq', e'⟩ := List.mem_map.mp hm; exact hq q hq' e'
  have FG : Fr h₀ L (hideAll s.heap (news.map (·.1))) m := by
    obtain ⟨oL, es, ep, hL, r⟩ := F.ns
    refine ⟨⟨oL, es, ep, hnot _ _ hL fun q hq e => (N q hq).2.1 e, r⟩, fun b o e => hnot _ _ (F.keep b o e) fun q hq e' => ?_, F.above⟩
    have := (N q hq).2.2
    rw [e', e] at this
    cases this
  have hLt : L < s.heap.objs.size := F.ns.lt
  have FL : Fr (hideAll s.heap (news.map (·.1))) s.heap.objs.size h₁ (kstB (fun _ => none) binds) := by
    have e : (fun y => binds.reverse.lookup y) = kstB (fun _ => none) binds := funext fun y => kstB_of hnd
    rw [← e]
    exact ⟨hns, fun b o q => hk₁ b o (hg b o q), Nat.le_of_eq (hideAll_size _ _)⟩
  have NL : News (hideAll s.heap (news.map (·.1))) s.heap.objs.size h₁ news := fun q hq =>
    ⟨hk₁ _ _ (N q hq).1, Nat.ne_of_lt (Heap.lt_size (N q hq).1), hideAll_none _ (List.mem_map_of_mem hq)⟩
  have BB := B.push (name := cn) (a := a) (cd := ccd) (scope := cs) FG hkc
  have hfr : (hideAll s.heap (news.map (·.1))).FunFrames h₀ [envX cn cs L a ccd cl] := by
    obtain ⟨oL, es, ep, hL, hd, _⟩ := FG.ns
    exact ⟨by show cs.kind ≠ .module; rw [hkc]; decide, ⟨L, oL, rfl, Heap.get?_none_of_le FG.above, hL, fun vs q => by rw [hd] at q; cases q⟩, trivial⟩
  refine wpAny_mono (h p loose mean mg mb gd cn cs a ccd cl h₀ _ h₁ s.heap.objs.size L m s (s.toks + binds.length) E FG (Nat.le_trans F.above (Nat.le_of_lt hLt)) (fun q hq => ⟨(N q hq).2.2, (N q hq).2.1⟩) X T FL NL ⟨rfl, FG.keep, hfr⟩ (X.keeps FG.keep) (T.keeps FG.keep)) (fun fl s' hO => ?_) fun _ _ x => x
  obtain ⟨h', tk', news', rfl, F'', N'', hp⟩ := hO
  exact ret _ news' h' tk' hp F'' N''
section
variable {prog : Program} {w : World} {A₀ : Around} {E : Value → Shared → Prop} {s' : Shared} {h₀ g2 : Heap} {outer : List Env} {L a e : Addr} {m : Str → Option Value} {name : Str} {scope : Scope} {cd : Value}
  {b₀ : Stmt} {suite : List Stmt} {pos np : Pos} {rest : List ExceptHandler} {Q : Flow → Shared → Prop} {news : List (Addr × Obj)}
  {p : Program} {loose : List Str} {mean : ExcName → Option Value} {mg mb : Str → Option Value}
theorem caught_T (hst : A₀.frames = some outer) (F : Fr h₀ L g2 m) (hsm : g2.UpToSlots s'.heap) (R : RaisedN h₀ (envOf name scope L a cd :: outer) e (.type "StopIteration") news s'.heap) (T : Top p loose mean mg mb h₀)
    (k : ∀ h', Fr h₀ L h' m → News h₀ L h' news → g2.UpToSlots h' → wpAny (model prog w) ((A₀.deeper (envOf name scope L a cd)).mark (some (.ref e))) (execs (b₀ :: suite) (envOf name scope L a cd)) Q E { s' with heap := h' })
    (h1 : Str.ofString "StopIteration" ∉ startupNames) (h2 : Str.ofString "StopIteration" ∉ loose) (h3 : Str.ofString "StopIteration" ∉ (recsOf p).map (·.name)) (h4 : Str.ofString "StopIteration" ∉ (litsOf p).map (·.1)) (h4c : Str.ofString "StopIteration" ∉ (clssOf p loose).map (·.name))
    (hk : scope.kind = .function) (hx : (envOf name scope L a cd).kindOf (Str.ofString "StopIteration") = some .globalImplicit)
    (hE : PassesOwnAt (model prog w) ((A₀.deeper (envOf name scope L a cd)).mark (some (.ref e))) (A₀.deeper (envOf name scope L a cd)) (envOf name scope L a cd) E := by passes_own) :
    wpAny (model prog w) (A₀.deeper (envOf name scope L a cd)) (noteFrame (.ref e) (envOf name scope L a cd))
      (fun _ s₂ => wpAny (model prog w) (A₀.deeper (envOf name scope L a cd)) (setFlight (.ref e) none) (fun _ s₃ =>
        wpAny (model prog w) (A₀.deeper (envOf name scope L a cd)) (handleBy (.ref e) (envOf name scope L a cd) (.ExceptHandler (some (.Name (Str.ofString "StopIteration") np)) none (b₀ :: suite) pos :: rest)) Q E s₃) E s₂) E s' := by
  obtain ⟨B, a0, hB, hl, hfl⟩ := R
  have hL : B.get? L = none := by
    obtain ⟨_, ⟨L', _, hf, hn', _⟩, _⟩ := hfl.2.2.1
    obtain rfl : L = L' := Option.some.inj hf
    exact hn'
  refine wpAny_looks_onW (Around.frames_deeper hst) rfl hfl fun h₄ held₄ u₄ => ?_
  refine wpAny_landsW held₄ fun h₅ fly₅ u₅ => ?_
  have st₅ : g2.UpToSlots h₅ := hsm.trans (u₄.trans u₅)
  have F₅ : Fr h₀ L h₅ m := ⟨st₅.ns F.ns, fun b o q => fly₅.1 b o (hB b o q), F.above⟩
  obtain ⟨ob, hob, hobc⟩ := fly₅.there
  refine wpAny_handleBy_builtin (X := "StopIteration") (T := "StopIteration") (b := true) (isSubtype_of_subB (by decide +kernel)) (isSubtype_of_subB (by decide +kernel)) (isSubtype_of_subB (by decide +kernel))
    (ld_builtin_at F₅ T.g (T.free _ h1 h2 h3 h4 h4c) T.b ((T.builtins _ (by decide +kernel)).trans PyProof.Rows.Boot.«StopIteration») ⟨rfl, ⟨ob, hob, hobc⟩, ?_⟩ hk hx (by decide))
  refine lands_againW fly₅ fun h₆ fly₆ u₆ => ?_
  have st₆ := st₅.trans u₆
  have F₆ : Fr h₀ L h₆ m := ⟨st₆.ns F.ns, fun b o q => fly₆.1 b o (hB b o q), F.above⟩
  exact wpAny_passesOwnAt hE (k h₆ F₆ (fun q hq => ⟨fly₆.1 _ _ (hl q hq).1, (fun z => by have := (hl q hq).1; rw [z, hL] at this; cases this), (hl q hq).2⟩) st₆)
end
end
section
abbrev boundObj (id : String) (self : Value) : Obj := { cls := .type "builtin_function_or_method", data := .fields #[.builtin id, self] }
theorem slot_md_get : Slot "method_descriptor" "__get__" "method_descriptor.__get__" :=
  .of (owner := "method_descriptor") (n := "__get__") (by rw [typeLookup_type, builtinLookup_eq_fast]; kernel_rfl) (by decide +kernel) (by decide +kernel) (by decide +kernel)
    (by first | exact .inl (by decide +kernel) | exact .inr (by decide +kernel)) (by rw [isSubtype_type]; kernel_rfl)
theorem md_no_set : typeLookup (.type "method_descriptor") "__set__" = pure none := by rw [typeLookup_type, builtinLookup_eq_fast]; kernel_rfl
theorem md_no_del : typeLookup (.type "method_descriptor") "__delete__" = pure none := by rw [typeLookup_type, builtinLookup_eq_fast]; kernel_rfl
theorem entry_md_get : entryFor table "method_descriptor.__get__" = some Builtin.«method_descriptor.__get__» := entryFor_of_tree (by kernel_rfl)
theorem args_md_get (a b c : Value) : argsOk "method_descriptor.__get__" ⟨[a, b, c], []⟩ := by unfold argsOk; kernel_rfl
theorem owner_append : (".".intercalate ("list.append".cutAt '.').dropLast) = "list" := by
  have e0 : "list.append".cutAt '.' = ["list", "append"] := by first | rfl | decide +kernel
  rw [e0]; decide +kernel
section
variable {prog : Program} {w : World} {A : Around} {E : Value → Shared → Prop} {h : Heap} {g : Array GenState} {d : Drawn} {t : Nat} {os : OsState} {a : Addr}
theorem lk_append : typeLookup (.type "list") "append" = pure (some (.builtin "list.append")) := by rw [typeLookup_type, builtinLookup_eq_fast]; kernel_rfl
theorem entry_list_ga' : entryFor table "list.__getattribute__" = some Builtin.«object.__getattribute__» :=
  entryFor_alias (id' := "object.__getattribute__") (by kernel_rfl) (by decide +kernel) (by decide +kernel) (by kernel_rfl)
theorem md_get {its : Array Value} {n : Nat} {Q : Fin → Shared → Prop} (hx : h.get? a = some (listOf its n)) (hq : Q (.done (.ret (.ref h.objs.size))) ⟨h.push (boundObj "list.append" (.ref a)), g, d, t, os⟩) :
    wpAny (model prog w) A (Builtin.«method_descriptor.__get__» ⟨[.builtin "list.append", .ref a, .type "list"], []⟩) Q E ⟨h, g, d, t, os⟩ := by
  have hT : (⟨h, g, d, t, os⟩ : Shared).TypeIs (.ref a) "list" := ⟨_, hx, rfl⟩
  have f1 : Manifest.toldItsClass.contains "list.append" = false := by decide +kernel
  have f2 : isSubtype (.type "list") (.type (".".intercalate ("list.append".cutAt '.').dropLast)) = pure true := by rw [owner_append]; rw [isSubtype_type]; kernel_rfl
  unfold Builtin.«method_descriptor.__get__»
  repeat (any_goals (first | assumption | wp_step))
theorem ga_append {tk : Tok} {its : Array Value} {n : Nat} {Q : Fin → Shared → Prop} (hx : h.get? a = some (listOf its n)) (hq : Q (.done (.ret (.ref h.objs.size))) ⟨h.push (boundObj "list.append" (.ref a)), g, d, t, os⟩) :
    wpAny (model prog w) A (Builtin.«object.__getattribute__» ⟨[.ref a, .str "append" tk], []⟩) Q E ⟨h, g, d, t, os⟩ := by
  have hT : (⟨h, g, d, t, os⟩ : Shared).TypeIs (.ref a) "list" := ⟨_, hx, rfl⟩
  have hT5 : (⟨h, g, d, t, os⟩ : Shared).TypeIs (.builtin "list.append") "method_descriptor" := type_list_append
  have f4 := lk_append
  have f5 := type_list_append
  have f6 := slot_md_get.lookup
  have f7 := md_no_set
  have f8 := md_no_del
  unfold Builtin.«object.__getattribute__»
  repeat (any_goals (first | assumption | wp_step))
  refine codeAny_call_builtin slot_md_get.plain entry_md_get (slot_md_get.check _ _ _ _ _ _ _ _ hT5 (args_md_get _ _ _) ?_)
  refine md_get hx ?_
  show wpAny _ _ (ret (Value.ref h.objs.size)) _ _ _
  exact wpAny_pure hq
theorem call_ga {tk : Tok} {its : Array Value} {n : Nat} {R : Result → Shared → Prop} (hx : h.get? a = some (listOf its n)) (hq : R (.ok (.ret (.ref h.objs.size))) ⟨h.push (boundObj "list.append" (.ref a)), g, d, t, os⟩) :
    codeAny (model prog w) A (.call (.builtin "list.__getattribute__") ⟨[.ref a, .str "append" tk], []⟩) R ⟨h, g, d, t, os⟩ :=
  codeAny_call_builtin F.slot_list_getattribute.plain entry_list_ga' (F.slot_list_getattribute.check _ _ _ _ _ _ _ _ (show (⟨h, g, d, t, os⟩ : Shared).TypeIs (.ref a) "list" from ⟨_, hx, rfl⟩) (F.args_list_getattribute_2 _ _) (ga_append hx hq))
theorem at_append {its : Array Value} {n : Nat} {expr : Bool} {Q : Value → Shared → Prop} (hx : h.get? a = some (listOf its n)) (hq : Q (.ref h.objs.size) ⟨h.push (boundObj "list.append" (.ref a)), g, d, t + 1, os⟩) :
    wpAny (model prog w) A (getAttr (.ref a) "append" expr) Q E ⟨h, g, d, t, os⟩ := by
  have hT : ∀ t', (⟨h, g, d, t', os⟩ : Shared).TypeIs (.ref a) "list" := fun _ => ⟨_, hx, rfl⟩
  have f2 := F.slot_list_getattribute.lookup
  have f3 := F.slot_list_getattribute.bind (.ref a)
  have hx0 : (expr && onTheHeap (Value.builtin "list.__getattribute__")) = false := by cases expr <;> rfl
  unfold getAttr getAttrBy
  repeat (any_goals (first | assumption | exact hT _ | wp_step))
  refine call_ga hx ?_
  repeat (any_goals (first | assumption | wp_step))
end
section
variable {prog : Program} {w : World} {A : Around} {E : Value → Shared → Prop} {s : Shared} {h₀ : Heap} {L : Addr} {m : Str → Option Value} {news : List (Addr × Obj)}
theorem get_append {l : Addr} {its : Array Value} {n : Nat} {expr : Bool} {Q : Value → Shared → Prop} (F : Fr h₀ L s.heap m) (N : News h₀ L s.heap news) (hm : (l, listOf its n) ∈ news)
   (h : ∀ q h', Fr h₀ L h' m → News h₀ L h' ((q, boundObj "list.append" (.ref l)) :: news) → (∀ p ∈ news, p.1 < q) → Q (.ref q) { s with heap := h', toks := s.toks + 1 }) :
   wpAny (model prog w) A (getAttr (.ref l) "append" expr) Q E s :=
  at_append (N _ hm).1 (h _ _ (F.push _) (News.push F N _ rfl) fun p hp => Heap.lt_size (N p hp).1)
end
end
section
def nsD : List (Str × PyData) := [("http://www.w3.org/XML/1998/namespace", .str "xml"), ("http://www.w3.org/1999/xhtml", .str "html"), ("http://www.w3.org/1999/02/22-rdf-syntax-ns#", .str "rdf"), ("http://schemas.xmlsoap.org/wsdl/", .str "wsdl"), ("http://www.w3.org/2001/XMLSchema", .str "xs"), ("http://www.w3.org/2001/XMLSchema-instance", .str "xsi"), ("http://purl.org/dc/elements/1.1/", .str "dc")]
def tokD : List (Str × PyData) := [((Str.ofString "!"), PyData.int 54), ((Str.ofString "!="), PyData.int 28), ((Str.ofString "%"), PyData.int 24), ((Str.ofString "%="), PyData.int 40), ((Str.ofString "&"), PyData.int 19), ((Str.ofString "&="), PyData.int 41), ((Str.ofString "("), PyData.int 7), ((Str.ofString ")"), PyData.int 8), ((Str.ofString "*"), PyData.int 16), ((Str.ofString "**"), PyData.int 35), ((Str.ofString "**="), PyData.int 46), ((Str.ofString "*="), PyData.int 38), ((Str.ofString "+"), PyData.int 14), ((Str.ofString "+="), PyData.int 36), ((Str.ofString ","), PyData.int 12), ((Str.ofString "-"), PyData.int 15), ((Str.ofString "-="), PyData.int 37), ((Str.ofString "->"), PyData.int 51), ((Str.ofString "."), PyData.int 23), ((Str.ofString "..."), PyData.int 52), ((Str.ofString "/"), PyData.int 17), ((Str.ofString "//"), PyData.int 47), ((Str.ofString "//="), PyData.int 48), ((Str.ofString "/="), PyData.int 39), ((Str.ofString ":"), PyData.int 11), ((Str.ofString ":="), PyData.int 53), ((Str.ofString ";"), PyData.int 13), ((Str.ofString "<"), PyData.int 20), ((Str.ofString "<<"), PyData.int 33), ((Str.ofString "<<="), PyData.int 44), ((Str.ofString "<="), PyData.int 29), ((Str.ofString "="), PyData.int 22), ((Str.ofString "=="), PyData.int 27), ((Str.ofString ">"), PyData.int 21), ((Str.ofString ">="), PyData.int 30), ((Str.ofString ">>"), PyData.int 34), ((Str.ofString ">>="), PyData.int 45), ((Str.ofString "@"), PyData.int 49), ((Str.ofString "@="), PyData.int 50), ((Str.ofString "["), PyData.int 9), ((Str.ofString "]"), PyData.int 10), ((Str.ofString "^"), PyData.int 32), ((Str.ofString "^="), PyData.int 43), ((Str.ofString "{"), PyData.int 25), ((Str.ofString "|"), PyData.int 18), ((Str.ofString "|="), PyData.int 42), ((Str.ofString "}"), PyData.int 26), ((Str.ofString "~"), PyData.int 31)]
section
variable {w : World} {A : Around} {E : Value → Shared → Prop} {s : Shared} {h₀ : Heap} {L : Addr} {m : Str → Option Value} {news : List (Addr × Obj)}
abbrev PR := PySem.Challenge.rw_tv0054_01.row.prog
theorem ns_tab {h : Heap} (X : (Mine.hd0.heap_1_41 w.params).In h) : StrTab PR w h 89 (nsD.map fun p => (PyData.str p.1, p.2)) :=
  kt_tab_in (a := 89) (D := nsD) PR w X (by kernel_rfl) (by decide +kernel) (by kernel_rfl)
theorem tok_tab {h : Heap} (X : (Mine.hd0.heap_1_41 w.params).In h) : StrTab PR w h 46 (tokD.map fun p => (PyData.str p.1, p.2)) :=
  kt_tab_in (a := 46) (D := tokD) PR w X (by kernel_rfl) (by decide +kernel) (by kernel_rfl)
theorem gm_items {pl : Sem Bool} {Q : Value × List Value → Shared → Prop} (F : Fr h₀ L s.heap m) (X : (Mine.hd0.heap_1_41 w.params).In h₀) (h : Q (.builtin "dict.items", [.ref 89]) s) :
    wpAny (model PR w) A (getMethod (.ref 89) (Str.ofString "items") pl) Q E s := getMethod_tab_any (name := Str.ofString "items") (by decide +kernel) ((ns_tab X).keep F.keep) h
theorem call_ns_items {Q : Value → Shared → Prop} (F : Fr h₀ L s.heap m) (X : (Mine.hd0.heap_1_41 w.params).In h₀) (N : News h₀ L s.heap news)
    (h : ∀ q h' ov, ov.cls = .type "dict_items" → ov.data = .fields #[.ref 89] → Fr h₀ L h' m → News h₀ L h' ((q, ov) :: news) → (∀ p ∈ news, p.1 < q) → Q (.ref q) { s with heap := h' }) :
    wpAny (model PR w) A (call (.builtin "dict.items") [.ref 89]) Q E s :=
  call_items_tab ((ns_tab X).keep F.keep) F N fun h' o ho F' N' => by
    obtain ⟨ov, hg, hc, hd⟩ := ho
    refine h _ h' ov hc hd F' (fun p hp => ?_) fun p hp => Heap.lt_size (N p hp).1
    rcases List.mem_cons.mp hp with rfl | hp
    · exact ⟨hg, (N' _ (.head _)).2⟩
    · exact N' p (.tail _ hp)
theorem list_ns_items {q : Addr} {ov : Obj} {Q : Value → Shared → Prop} (hh : A.handled = none) (hc : ov.cls = .type "dict_items") (hd : ov.data = .fields #[.ref 89]) (F : Fr h₀ L s.heap m) (X : (Mine.hd0.heap_1_41 w.params).In h₀) (N : News h₀ L s.heap ((q, ov) :: news))
    (h : ∀ D h' tk, Fr h₀ L h' m → News h₀ L h' news → (∀ p ∈ news, p.1 < D) → Q (.ref D) { s with heap := h', toks := tk }) :
    wpAny (model PR w) A (call (.type "list") [.ref q]) Q E s := by
  obtain ⟨lo, kvs, hd', hf⟩ := (ns_tab X).keep F.keep
  obtain ⟨od, es, ep, r1, r2, r3, r4, r5, r6⟩ := hd'
  have hl : kvs.length ≤ sizeLine := by
    have := hf.length
    rw [← this]
    exact Nat.le_of_ble_eq_true rfl
  refine kdx_call (d := 89) (kvs := kvs) (ep := ep) hh ⟨ov, (N _ (.head _)).1, hc, hd⟩ ⟨od, es, r1, r2, r3, r4, r5, r6⟩ hl fun h' tk acc c as hk _ _ _ _ => ?_
  exact h _ h' tk (F.keeps hk) (fun p hp => ⟨hk _ _ (N p (.tail _ hp)).1, (N p (.tail _ hp)).2⟩) fun p hp => Heap.lt_size (N p (.tail _ hp)).1
end
end
section
section
variable {prog : Program} {w : World} {A : Around} {E : Value → Shared → Prop} {s : Shared} {K : Frag} {x C L : Addr} {ox od : Obj} {name : Str} {h₀ : Heap} {m : Str → Option Value} {es : List DictEntry} {n : Nat} {pl : Sem Bool} {v g : Value}
theorem findObj_shadow {a : Value} (hh : hasDictIn K C = true) (ha : findIn K (.ref C) name = some (some a)) (hg : specialIn K a "__get__" = some (some g)) (ht : takesIn K a = some false) (hl : lookIn name od = some (some v)) : findObj K C (some od) name = some (.value v) := by
  obtain ⟨cd, hc, hd⟩ := any_some hh
  have ho : W.ownOf cd (some od) name = some (some v) := by unfold W.ownOf; rw [if_pos hd]; exact hl
  unfold findObj
  rw [hc, Option.bind_some, ha, Option.bind_some]
  simp [hg, ht, ho]
theorem method_shadow {f : Addr} {Q : Value × List Value → Shared → Prop} (X : K.In s.heap) (I : InstAt s.heap x ox C (some od)) (hga : findIn K (.ref C) "__getattribute__" = some (some (.builtin "object.__getattribute__"))) (hk : findIn K (.ref C) "__getattr__" = some none)
    (hf : findIn K (.ref C) name = some (some (.ref f))) (ht : typeIn K (.ref f) = some (.type "function")) (hs : lookIn name od = some (some v))
    (h : wpAny (model prog w) A (getAttr (.ref x) name) (fun v => Q (v, [])) E s) : wpAny (model prog w) A (getMethod (.ref x) name pl) Q E s := by
  have hcan := PySem.F.canon_object_ga
  have u : wpAny (model prog w) A (do return (← getAttr (.ref x) name, ([] : List Value))) Q E s := wpAny_bind (wpAny_mono h (fun _ _ z => wpAny_pure z) fun _ _ z => z)
  unfold getMethod specialOf
  refine wpAny_bind (wpAny_bind (I.type.here ((looks_findIn X hga).here ?_)))
  dsimp only
  rw [hcan, if_neg (by decide)]
  refine wpAny_bind (wpAny_bind (I.type.here ((looks_findIn X hk).here ?_)))
  refine wpAny_bind (wpAny_bind (I.type.here ((looks_findIn X hf).here (wpAny_bind ((looks_typeIn X ht).here ?_)))))
  rw [if_neg (by decide +kernel)]
  refine wpAny_bind (wpAny_loadPart I.at_ ?_)
  have hd := I.dict
  cases e : ox.dict with
  | none => rw [e] at hd; exact absurd hd (by simp)
  | some dx =>
    rw [e] at hd
    refine wpAny_bind (wpAny_bind (wpAny_loadPart hd ?_))
    rw [nsLook_of hs]
    refine wpAny_pure ?_
    exact u
theorem gm_shadow {f : Addr} {Q : Value × List Value → Shared → Prop} (F : Fr h₀ L s.heap m) (X₀ : K.In h₀) (I : InstAt s.heap x ox C (some (dictOf es n))) (hg : plainGet K C name = true) (hh : hasDictIn K C = true) (hf : findIn K (.ref C) name = some (some (.ref f))) (ht : isFn K (.ref f) = true)
    (hgf : specialIn K (.ref f) "__get__" = some (some g)) (hts : takesIn K (.ref f) = some false) (hl : getL name es = some (some v)) (hv : handedIn v = true) (h : Q (v, []) { s with toks := s.toks + 1 }) : wpAny (model prog w) A (getMethod (.ref x) name pl) Q E s :=
  method_shadow (od := dictOf es n) (X₀.keeps F.keep) I (plainGet_of hg).1 (plainGet_of hg).2 hf (beq_iff_eq.mp ht) (by rw [lookIn_dict, hl])
    (get_value (X₀.keeps F.keep) I (plainGet_of hg).1 (findObj_shadow hh hf hgf hts (by rw [lookIn_dict, hl])) hv h)
end
end
section
section
variable {prog : Program} {w : World} {M : Model} {A : Around} {E : Value → Shared → Prop} {s : Shared} {h₀ : Heap} {L : Addr} {m : Str → Option Value} {news : List (Addr × Obj)}
theorem callWith_fieldsG {id : String} {self : Value} {ob : Obj} (hc : ob.cls = .type "builtin_function_or_method") (hd : ob.data = .fields #[.builtin id, self]) {pos : Pos} {u : Addr} {first : List Value} {args : List (Bool × Sem Value)} {Q : Value → Shared → Prop} (hplain : args.any (·.1) = false)
    (h : wpAny M A (evalArgs (.ref u) true args []) (fun x s₁ => s₁.heap.get? u = some ob ∧ wpAny M A (call (.ref u) (first ++ x.pos) x.kw) Q E s₁) E s) : wpAny M A (callWith pos (.ref u) first args []) Q E s := by
  unfold callWith
  refine wpAny_bind (wpAny_holding (wpAny_mono h (fun x s₁ h₁ => wpAny_bind (wpAny_standAt ?_)) fun _ _ x => x))
  obtain ⟨ho, hcall⟩ := h₁
  simp only [hplain, List.any_nil, Bool.or_false]
  refine wpAny_bind (m := keeperOf (.ref u)) ?_
  unfold keeperOf
  refine wpAny_bind (wpAny_load ho ?_)
  simp only [hc, hd, show (Value.type "builtin_function_or_method" != Value.type "method") = true by decide, show (Value.type "builtin_function_or_method" == Value.type "builtin_function_or_method" || Value.type "builtin_function_or_method" == Value.type "method-wrapper") = true by decide, if_true]
  refine wpAny_pure ?_
  exact wpAny_bind (wpAny_mono hcall (fun r s₂ hr => wpAny_bind (wpAny_holding (wpAny_point (wpAny_pure hr)))) fun _ _ x => x)
theorem callWith_boundG {id : String} {self : Value} {ob : Obj} (hc : ob.cls = .type "builtin_function_or_method") (hd : ob.data = .fields #[.builtin id, self]) {pos : Pos} {u : Addr} {first : List Value} {env : Env} {e : PySem.Expr} {rest : List PySem.Expr} {Q : Value → Shared → Prop}
    (h : wpAny M A (spliced (backTo pos (starEach (e :: rest) env))) (fun vs s₁ => s₁.heap.get? u = some ob ∧ wpAny M A (call (.ref u) (first ++ vs)) Q E s₁) E s)
    (he : starEach (e :: rest) env = (false, eval e env) :: starEach rest env := by rfl) (hplain : (backTo pos (starEach rest env)).any (·.1) = false := by rfl) :
    wpAny M A (callWith pos (.ref u) first (backTo pos (starEach (e :: rest) env)) []) Q E s := by
  rw [he] at h ⊢
  refine callWith_fieldsG hc hd (by show (false || (backTo pos (starEach rest env)).any (·.1)) = false; rw [hplain]; rfl) ?_
  exact evalArgs_plain h
theorem callWith_boundN {id : String} {self : Value} {pos : Pos} {u : Addr} {first : List Value} {env : Env} {e : PySem.Expr} {rest : List PySem.Expr} {Q : Value → Shared → Prop} (_N : News h₀ L s.heap news) (_hm : (u, boundObj id self) ∈ news)
    (h : wpAny M A (spliced (backTo pos (starEach (e :: rest) env))) (fun vs s₁ => s₁.heap.get? u = some (boundObj id self) ∧ wpAny M A (call (.ref u) (first ++ vs)) Q E s₁) E s)
    (he : starEach (e :: rest) env = (false, eval e env) :: starEach rest env := by rfl) (hplain : (backTo pos (starEach rest env)).any (·.1) = false := by rfl) :
    wpAny M A (callWith pos (.ref u) first (backTo pos (starEach (e :: rest) env)) []) Q E s := callWith_boundG rfl rfl h he hplain
theorem call_boundG {id : String} {self : Value} {ob : Obj} {u : Addr} {args : List Value} {B : Builtin} {Q : Value → Shared → Prop} (hc : ob.cls = .type "builtin_function_or_method") (hd : ob.data = .fields #[.builtin id, self]) (ho : s.heap.get? u = some ob)
    (hck : ∀ (A' : Around) (R : Unit → Shared → Prop) (E' : Value → Shared → Prop), R () s → wpAny (model prog w) A' (checkBoundCall id ⟨self :: args, []⟩) R E' s)
    (hq : ∀ as, (Code.builtin id as).quiet = true) (hpl : plainId id = true) (entry : entryFor table id = some B)
    (h : wpAny (model prog w) A.in1 (B ⟨self :: args, []⟩) (fun fin s' => match fin with | .done f => (wants Q E) (.ok f) s' | .again c' => c'.quiet = true ∧ codeAny (model prog w) A c' (wants Q E) s') (fun e s' => (wants Q E) (.error e) s') s) :
    wpAny (model prog w) A (call (.ref u) args) Q E s := by
  refine wpAny_call (codeAny_of_tree ?_)
  show wpAny _ A.in1 (callAny (.ref u) ⟨args, []⟩) _ _ s
  simp only [callAny]
  refine wpAny_bind (wpAny_load ho ?_)
  simp only [hc, hd, show (Value.type "builtin_function_or_method" == Value.type "method" || Value.type "builtin_function_or_method" == Value.type "builtin_function_or_method" || Value.type "builtin_function_or_method" == Value.type "method-wrapper") = true by decide, if_true]
  show wpAny _ A.in1 (if (Value.type "builtin_function_or_method" != Value.type "method") = true then (do checkBoundCall id ⟨self :: args, []⟩; again (Code.builtin id ⟨self :: args, []⟩)) else again (Code.call (.builtin id) ⟨self :: args, []⟩)) _ _ _
  rw [if_pos (by decide)]
  refine wpAny_bind (hck _ _ _ ?_)
  refine wpAny_pure ⟨hq _, codeAny_builtin entry ?_⟩
  rw [Around.under_plainId hpl _]
  exact h
theorem bound_join {u D : Addr} {ob : Obj} {items : Array Value} {ys : List Str} {x : Str} {t : Tok} {Q : Value → Shared → Prop} (hc : ob.cls = .type "builtin_function_or_method") (hd : ob.data = .fields #[.builtin "str.join", .str x t]) (ho : s.heap.get? u = some ob)
    (hl : s.heap.IsList D items) (hi : StrsAre items.toList ys) (hw : (ys.map (·.length)).sum + ys.length ≤ 1048576) (hs : x.length ≤ 16) (hq : ∀ t' k, Q (.str (Txt.join x ys) t') { s with toks := k }) :
    wpAny (model prog w) A (call (.ref u) [.ref D]) Q E s := by
  obtain ⟨l, hv, ht⟩ := strsAre_values hi
  have e : items = (strValues l).toArray := by rw [← hv]
  subst e
  subst ht
  have hok := joinOk_of (total_of_weight hw hs)
  unfold JoinOk at hok
  rw [Bool.not_eq_true'] at hok
  refine call_boundG (B := Builtin.«str.join») hc hd ho (fun A' R E' hR => ?_) (fun as => Code.quiet_builtin _ (by decide +kernel)) (by decide +kernel) PySem.F.entry_str_join ?_
  · exact wpAny_of_eq (a := ()) (by first | kernel_rfl | rfl) hR
  · exact meets_str_join_list x t D l hok prog w A (wants Q E) s ⟨hl, post_join l ⟨joinFit_length hok, hq⟩⟩
theorem bound_append {u D : Addr} {its : Array Value} {n : Nat} {v : Value} {Q : Value → Shared → Prop} (F : Fr h₀ L s.heap m) (N : News h₀ L s.heap news) {news' : List (Addr × Obj)} (ho : (u, boundObj "list.append" (.ref D)) ∈ news) (U : Upd D (listOf its n) (listOf (its.push v) (n + 1)) news news') (hz : its.size ≤ 100000)
    (h : ∀ h', Fr h₀ L h' m → News h₀ L h' news' → Q .none { s with heap := h' }) :
    wpAny (model prog w) A (call (.ref u) [v]) Q E s := by
  obtain ⟨pre, post, rfl, rfl, a, c⟩ := U.split
  have z := N (D, listOf its n) (List.mem_append.mpr (.inr (.head _)))
  refine call_boundG (B := Builtin.«list.append») rfl rfl (N _ ho).1 (fun A' R E' hR => ?_) (fun as => Code.quiet_builtin _ (by decide +kernel)) (by decide +kernel) entry_list_append ?_
  · obtain ⟨hp, g, dr, tk, os⟩ := s
    have zl := z.1
    have hT : (⟨hp, g, dr, tk, os⟩ : Shared).TypeIs (.ref D) "list" := ⟨_, z.1, rfl⟩
    have f1 : isSubtype (.type "list") (.type "module") = pure false := by rw [isSubtype_type]; kernel_rfl
    have f2 : (Manifest.varargsMethods.contains "list.append" || false) = false := by decide +kernel
    unfold checkBoundCall
    repeat (any_goals (first | assumption | with_reducible refine wpAny_loadPart_at zl ?_ | wp_step))
  · show wpAny _ _ (updateSeq D (·.push v) >>= fun _ => ret .none) _ _ s
    refine wpAny_bind (wpAny_updateSeq z.1 rfl (wpAny_pure (h _ (F.change (Heap.SameBut.update ..) z.2.1 z.2.2) ?_)))
    refine news_set N a c (Heap.SameBut.update ..) ?_
    rw [Heap.get?_update_self _ z.1 (by rw [mapSeq_push]; rfl), mapSeq_push]
end
theorem fr_at {K : Frag} {h₀ h : Heap} {L : Addr} {m : Str → Option Value} {a : Addr} {o : Obj} (X : K.In h₀) (F : Fr h₀ L h m) (e : K.lookup a = some o) : h.get? a = some o := (X.keeps F.keep) _ _ e
end
section
section
variable {prog : Program} {w : World} {A : Around} {E : Value → Shared → Prop} {s : Shared} {h₀ : Heap} {L : Addr} {m : Str → Option Value} {news : List (Addr × Obj)}
theorem pick_none {items : Array Value} {g : Value × Nat → Option Value} (hg : ∀ x k, k < items.size → g (x, k) = none) : (List.filterMap g items.toList.zipIdx).toArray = #[] := by
  have : List.filterMap g items.toList.zipIdx = [] := by
    rw [List.filterMap_eq_nil_iff]
    rintro ⟨x, k⟩ hm
    have := List.snd_lt_of_mem_zipIdx hm
    exact hg x k (by simpa using this)
  rw [this]
theorem del_body {l sl : Addr} {items : Array Value} {n : Nat} {Q : Fin → Shared → Prop} (hl : s.heap.get? l = some (listOf items n)) (hs : s.heap.get? sl = some { cls := .type "slice", data := .fields #[.none, .none, .none] }) (hn : items.size ≠ 0) (hz : items.size ≤ 100000)
    (h : ∀ h', Heap.SameBut l s.heap h' → h'.get? l = some (listOf #[] (n + 1)) → Q (.done (.ret .none)) { s with heap := h' }) :
    wpAny (model prog w) A (Builtin.«list.__delitem__» ⟨[.ref l, .ref sl], []⟩) Q E s := by
  have hTs : s.TypeIs (.ref sl) "slice" := ⟨_, hs, rfl⟩
  show wpAny _ _ (Builtin.List.listSubscript? (.ref sl) >>= _) _ _ s
  refine wpAny_bind ?_
  unfold Builtin.List.listSubscript?
  refine wpAny_bind (wpAny_specialOf hTs slice_no_index ?_)
  simp only [Option.isNone_none, if_true]
  refine wpAny_pure ?_
  show wpAny _ _ (typeOf (.ref sl) >>= _) _ _ s
  refine wpAny_bind (wpAny_typeOf hTs ?_)
  rw [if_neg (by decide)]
  rw [listSliceParts_eq]
  refine wpAny_bind (wpAny_bind (wpAny_field hs rfl (x := .none) rfl (wpAny_bind (wpAny_listPart .none ?_))))
  rw [if_neg (by exact Bool.false_ne_true)]
  refine wpAny_bind (wpAny_field hs rfl (x := .none) rfl (wpAny_bind (wpAny_listPart .none ?_)))
  refine wpAny_bind (wpAny_field hs rfl (x := .none) rfl (wpAny_bind (wpAny_listPart .none (wpAny_pure ?_))))
  refine wpAny_bind (m := Builtin.List.listItems (.ref l)) ?_
  unfold Builtin.List.listItems
  refine wpAny_bind (wpAny_seqItems hl rfl (wpAny_pure ?_))
  refine wpAny_bind (wpAny_of_eq (sliceIndices_raw none none none items.size (by decide)) ?_)
  refine wpAny_bind (wpAny_rule ?_)
  have pk : ∀ k : Nat, k < items.size → (decide ((0 : Int) ≤ (k : Int)) && decide ((k : Int) < (items.size : Int)) && ((((k : Int) - 0) % 1) == 0)) = true := fun k hk => by
    have h1 : ((k : Int) - 0) % 1 = 0 := Int.emod_one _
    simp [hk]
  have hsl : items.size ≤ sizeLine := Nat.le_trans hz (Nat.le_of_ble_eq_true rfl)
  refine wpAny_bind (listUpdate_at hl rfl ?_ hsl ?_)
  · refine wpAny_bind (wpAny_letGo (wpAny_pure (h _ (Heap.SameBut.update ..) ?_)))
    refine (IsL.update (show IsL s.heap l items n from hl) _).trans ?_
    rw [pick_none ?_]
    · rw [if_neg (by intro e; exact hn (by have := beq_iff_eq.mp e; exact this.symm))]
    · intro x k hk
      exact if_pos (pk k hk)
  · rw [pick_none ?_]
    · exact Nat.zero_le _
    · intro x k hk
      exact if_pos (pk k hk)
theorem del_all {l : Addr} {items : Array Value} {n : Nat} {news' : List (Addr × Obj)} {Q : Unit → Shared → Prop} (F : Fr h₀ L s.heap m) (N : News h₀ L s.heap news) (U : Upd l (listOf items n) (listOf #[] (n + 1)) news news') (hn : items.size ≠ 0) (hz : items.size ≤ 100000)
    (h : ∀ h', Fr h₀ L h' m → News h₀ L h' news' → Q () { s with heap := h' }) :
    wpAny (model prog w) A (delItem (.ref l) (.ref s.heap.objs.size)) Q E { s with heap := s.heap.push { cls := .type "slice", data := .fields #[.none, .none, .none] } } := by
  obtain ⟨pre, post, rfl, rfl, a, c⟩ := U.split
  have z := N (l, listOf items n) (List.mem_append.mpr (.inr (.head _)))
  have zp : (s.heap.push { cls := .type "slice", data := .fields #[.none, .none, .none] }).get? l = some (listOf items n) := Heap.get?_push_of_some _ z.1
  refine wpAny_delItem_slot (T := "list") ⟨_, zp, rfl⟩ (by decide) PySem.F.slot_list_delitem ?_
  refine wpAny_call_entry PySem.F.slot_list_delitem ⟨_, zp, rfl⟩ PySem.F.entry_list_delitem ?_ (PySem.F.args_list_delitem_2 _ _)
  refine del_body zp (Heap.get?_push_size _ rfl) hn hz fun h' hs hg => ?_
  exact ⟨_, rfl, h h' ((F.push _).change hs z.2.1 z.2.2) (news_set (N.grown fun _ _ e => Heap.get?_push_of_some _ e) a c hs hg)⟩
end
end
section
theorem Con.ofC {prog : Program} {w : World} {K : Frag} {f : Addr} {dp un : Nat} {vs : List Value} {news : List (Addr × Obj)} {post : Value → List (Addr × Obj) → Prop}
    {name qual : Str} {params : Arguments} {body : List Stmt} {scope : Scope} {dV kV doc pm cdv ct oc : Value} {an od : Option Addr} {osl : Array (Option Value)} {binds : List (Str × Value)}
    (ho : K.lookup f = some ⟨oc, od, .func (fnOf name qual params body scope dV kV doc pm an cdv ct), osl⟩) (hcd : codeIn K cdv qual = true) (hroom : dp < recursionLimit)
    (hbind : ∀ s : Shared, K.In s.heap → BindsTo s (fnOf name qual params body scope dV kV doc pm an cdv ct) ⟨vs, []⟩ binds) (hkind : (binds.all fun y => scope.names.lookup y.1 == some .local || scope.names.lookup y.1 == some .cell) = true)
    (hnd : ((cellsFrom 0 scope.names []).map (·.1)).Nodup)
    (hco : scope.isCoroutine = false) (hgen : scope.isGenerator = false) (hk : scope.kind = .function)
    (h : ∀ (p : Program) (loose : List Str) (mean : ExcName → Option Value) (mg mb : Str → Option Value) (gd : Option (List Code)) (cn : Str) (cs : Scope) (a : Addr) (ccd : Value) (cl : List (Str × Addr)) (outer : List Env) (base g h₁ : Heap) (L' L₀ : Addr) (s : Shared) (tk : Nat) (cells : List (Addr × Obj)) (R : Value → Shared → Prop),
      Fr g L' h₁ (bindL (envOfC qual scope L' f cdv).kindOf binds fun _ => none) → News g L' h₁ (cells ++ news) → CellsAre (bindC (envOfC qual scope L' f cdv).kindOf binds fun _ => none) (cellsFrom (L' + 1) scope.names []) cells →
      Below (ktrTop dp un gd cn cs L₀ a ccd cl outer) base (envX cn cs L₀ a ccd cl :: outer) g → K.In g → Top p loose mean mg mb g → (∀ p ∈ news, p.1 < L') →
      wpAny (model prog w) ((ktrTop dp un gd cn cs L₀ a ccd cl outer).deeper (envOfC qual scope L' f cdv)) (execs body (envOfC qual scope L' f cdv))
        (fun fl s' => Out g s post (match fl with | .ret v => v | _ => .none) s')
        (fun e s' => wpAny (model prog w) ((ktrTop dp un gd cn cs L₀ a ccd cl outer).deeper (envOfC qual scope L' f cdv)) (leaving (envOfC qual scope L' f cdv) e) (fun _ s'' => R e s'') (fun e' s'' => R e' s'') s')
        { s with heap := h₁, toks := tk }) : Con prog w K f dp un vs news post := by
  intro p loose mean mg mb gd cn cs a ccd cl outer A₀ base h₀ L m s Q E B F X N T hkc ret
  refine wpAny_call ?_
  refine code_defC B F X N T rfl rfl hkc ho hcd hroom (hbind s (X.keeps F.keep)) hkind hnd (fun g L' h₁ tk cells FG F' N' Y B' X' T' l1 => ?_) hco hgen hk
  refine wpAny_mono (h p loose mean mg mb gd cn cs a ccd cl outer base g h₁ L' L s tk cells E F' N' Y B' X' T' l1) (fun fl s' hO => ?_) fun _ _ x => x
  obtain ⟨h', tk', L'', m', more, news', rfl, F'', N'', hs, hp⟩ := hO
  exact leaveK_ F'' N'' fun kF kN => ret _ news' h' tk' hp kF fun q hq => kN q (hs q hq)
end
section
/-- the same, of the call's code: for a call by a bound method -/
def ConC (prog : Program) (w : World) (K : Frag) (f : Addr) (dp un : Nat) (vs : List Value) (news : List (Addr × Obj)) (post : Value → List (Addr × Obj) → Prop) : Prop :=
  ∀ (p : Program) (loose : List Str) (mean : ExcName → Option Value) (mg mb : Str → Option Value) (gd : Option (List Code)) (cn : Str) (cs : Scope) (a : Addr) (ccd : Value) (cl : List (Str × Addr)) (outer : List Env) (A₀ : Around) (base h₀ : Heap) (L : Addr) (m : Str → Option Value) (s : Shared) (Q E : Value → Shared → Prop),
    Below A₀ base outer h₀ → Fr h₀ L s.heap m → K.In h₀ → News h₀ L s.heap news → Top p loose mean mg mb h₀ → cs.kind = .function →
    (∀ v news' h' tk', post v news' → Fr h₀ L h' m → News h₀ L h' news' → Q v { s with heap := h', toks := tk' }) →
    codeAny (model prog w) (ktrTop dp un gd cn cs L a ccd cl outer) (.call (.ref f) ⟨vs, []⟩) (fun r s' => match r with | .ok (.ret v) => Q v s' | .ok _ => False | .error e => E e s') s
theorem code_mono {M : Model} {A A' : Around} {c : Code} {R : Result → Shared → Prop} {s : Shared} (h : codeAny M A' c R s)
    (h1 : A.handled = A'.handled) (h2 : A.depth ≤ A'.depth) (h3 : A.frames = A'.frames) (h4 : A.guards = A'.guards) (h5 : A.units ≤ A'.units) : codeAny M A c R s :=
  fun Γ p hc hΓ => h Γ p hc ⟨h1 ▸ hΓ.1, Nat.le_trans hΓ.2.1 h2, h3 ▸ hΓ.2.2.1, h4 ▸ hΓ.2.2.2.1, Nat.le_trans hΓ.2.2.2.2 h5⟩
theorem ConC.con {prog : Program} {w : World} {K : Frag} {f : Addr} {dp un : Nat} {vs : List Value} {news : List (Addr × Obj)} {post : Value → List (Addr × Obj) → Prop} (C : ConC prog w K f dp un vs news post) : Con prog w K f dp un vs news post :=
  fun p loose mean mg mb gd cn cs a ccd cl outer A₀ base h₀ L m s Q E B F X N T hk ret => wpAny_call (C p loose mean mg mb gd cn cs a ccd cl outer A₀ base h₀ L m s Q E B F X N T hk ret)
theorem ConC.useM {prog : Program} {w : World} {K : Frag} {f : Addr} {dp un dp' un' : Nat} {self : Value} {vs : List Value} {q : Addr} {nq : List (Addr × Obj)} {news : List (Addr × Obj)} {post : Value → List (Addr × Obj) → Prop} (C : ConC prog w K f dp un (self :: vs) news post) (hd : dp' ≤ dp) (hu : un' ≤ un)
    {p : Program} {loose : List Str} {mean : ExcName → Option Value} {mg mb : Str → Option Value} {gd : Option (List Code)} {cn : Str} {cs : Scope} {a : Addr} {ccd : Value} {cl : List (Str × Addr)} {outer : List Env} {A₀ : Around} {base h₀ : Heap} {L : Addr} {m : Str → Option Value} {s : Shared} {Q E : Value → Shared → Prop}
    (Nq : News h₀ L s.heap nq) (hq : (q, methodObj (.ref f) self) ∈ nq)
    (B : Below A₀ base outer h₀) (F : Fr h₀ L s.heap m) (X : K.In h₀) (N : News h₀ L s.heap news) (T : Top p loose mean mg mb h₀) (hk : cs.kind = .function)
    (ret : ∀ v news' h' tk', post v news' → Fr h₀ L h' m → News h₀ L h' news' → Q v { s with heap := h', toks := tk' }) :
    wpAny (model prog w) (ktrTop dp' un' gd cn cs L a ccd cl outer) (call (.ref q) vs) Q E s  :=
  call_meth Nq hq (code_mono (C p loose mean mg mb gd cn cs a ccd cl outer A₀ base h₀ L m s Q E B F X N T hk ret) rfl hd rfl rfl hu)
theorem ConC.of {prog : Program} {w : World} {K : Frag} {f : Addr} {dp un : Nat} {vs : List Value} {news : List (Addr × Obj)} {post : Value → List (Addr × Obj) → Prop}
    {name qual : Str} {params : Arguments} {body : List Stmt} {scope : Scope} {dV kV doc pm cdv ct oc : Value} {an od : Option Addr} {osl : Array (Option Value)} {binds : List (Str × Value)}
    (ho : K.lookup f = some ⟨oc, od, .func (fnOf name qual params body scope dV kV doc pm an cdv ct), osl⟩) (hcd : codeIn K cdv qual = true) (hroom : dp < recursionLimit)
    (hbind : ∀ s : Shared, K.In s.heap → BindsTo s (fnOf name qual params body scope dV kV doc pm an cdv ct) ⟨vs, []⟩ binds) (hloc : ∀ y ∈ binds, scope.names.lookup y.1 = some .local) (hnd : (binds.map (·.1)).Nodup)
    (hco : scope.isCoroutine = false) (hgen : scope.isGenerator = false) (hk : scope.kind = .function) (hcell : ∀ x ∈ scope.names, x.2 ≠ .cell)
    (h : ∀ (p : Program) (loose : List Str) (mean : ExcName → Option Value) (mg mb : Str → Option Value) (gd : Option (List Code)) (cn : Str) (cs : Scope) (a : Addr) (ccd : Value) (cl : List (Str × Addr)) (outer : List Env) (base g h₁ : Heap) (L' L₀ : Addr) (s : Shared) (tk : Nat) (R : Value → Shared → Prop),
      Fr g L' h₁ (kstB (fun _ => none) binds) → News g L' h₁ news → Below (ktrTop dp un gd cn cs L₀ a ccd cl outer) base (envX cn cs L₀ a ccd cl :: outer) g → K.In g → Top p loose mean mg mb g →
      wpAny (model prog w) ((ktrTop dp un gd cn cs L₀ a ccd cl outer).deeper (envOf qual scope L' f cdv)) (execs body (envOf qual scope L' f cdv))
        (fun fl s' => Out g s post (match fl with | .ret v => v | _ => .none) s')
        (fun e s' => wpAny (model prog w) ((ktrTop dp un gd cn cs L₀ a ccd cl outer).deeper (envOf qual scope L' f cdv)) (leaving (envOf qual scope L' f cdv) e) (fun _ s'' => R e s'') (fun e' s'' => R e' s'') s')
        { s with heap := h₁, toks := tk }) : ConC prog w K f dp un vs news post := by
  intro p loose mean mg mb gd cn cs a ccd cl outer A₀ base h₀ L m s Q E B F X N T hkc ret
  refine code_def B F X N T rfl rfl hkc ho hcd hroom (hbind s (X.keeps F.keep)) hloc (fun g L' h₁ FG F' N' B' X' T' => ?_) hco hgen hk hcell
  have F2 : Fr g L' h₁ (kstB (fun _ => none) binds) := by
    have e : (fun y => binds.reverse.lookup y) = kstB (fun _ => none) binds := funext fun y => kstB_of hnd
    rw [← e]; exact F'
  refine wpAny_mono (h p loose mean mg mb gd cn cs a ccd cl outer base g h₁ L' L s (s.toks + binds.length) E F2 N' B' X' T') (fun fl s' hO => ?_) fun _ _ x => x
  obtain ⟨h', tk', L'', m', more, news', rfl, F'', N'', hs, hp⟩ := hO
  exact leaveK_ F'' N'' fun kF kN => ret _ news' h' tk' hp kF fun q hq => kN q (hs q hq)
end
section
/-- a is what is left of b when signs are left out and some are told otherwise -/
def Part {α : Type} (m : α → α → Prop) : List α → List α → Prop
  | [], _ => True
  | _ :: _, [] => False
  | x :: a, y :: b => (m x y ∧ Part m a b) ∨ Part m (x :: a) b
section
variable {α : Type} {m : α → α → Prop}
theorem Part.nil_left (b : List α) : Part m [] b := by cases b <;> simp [Part]
theorem Part.skip {a b : List α} {y : α} (h : Part m a b) : Part m a (y :: b) := by
  cases a with
  | nil => simp [Part]
  | cons x a => simp only [Part]; exact .inr h
theorem Part.keep {a b : List α} {x y : α} (hm : m x y) (h : Part m a b) : Part m (x :: a) (y :: b) := by
  simp only [Part]; exact .inl ⟨hm, h⟩
theorem Part.of_cons {x : α} {a : List α} : ∀ {b : List α}, Part m (x :: a) b → Part m a b
  | [], h => by simp [Part] at h
  | y :: b, h => by
    simp only [Part] at h
    rcases h with h | h
    · exact h.2.skip
    · exact (Part.of_cons h).skip
theorem Part.tails {x y : α} {a b : List α} (h : Part m (x :: a) (y :: b)) : Part m a b := by
  simp only [Part] at h
  rcases h with h | h
  · exact h.2
  · exact h.of_cons
theorem Part.not_nil {a : List α} (h : Part m a []) : a = [] := by
  cases a with
  | nil => rfl
  | cons x a => simp [Part] at h
theorem Part.snoc_inv {x y : α} : ∀ {b a : List α}, Part m (a ++ [x]) (b ++ [y]) → Part m (a ++ [x]) b ∨ (m x y ∧ Part m a b)
  | [], a, h => by
    cases a with
    | nil =>
      simp only [List.nil_append, Part] at h
      rcases h with h | h
      · exact .inr ⟨h.1, trivial⟩
      · exact absurd h id
    | cons z a =>
      simp only [List.cons_append, List.nil_append, Part] at h
      rcases h with h | h
      · have := h.2.not_nil; simp at this
      · exact absurd h id
  | c :: b, a, h => by
    cases a with
    | nil =>
      simp only [List.nil_append, List.cons_append, Part] at h ⊢
      rcases h with h | h
      · exact .inl (.inl ⟨h.1, trivial⟩)
      · rcases Part.snoc_inv (b := b) (a := []) h with h | h
        · exact .inl (.inr h)
        · exact .inr ⟨h.1, trivial⟩
    | cons z a =>
      simp only [List.cons_append, Part] at h ⊢
      rcases h with h | h
      · rcases Part.snoc_inv (b := b) (a := a) h.2 with h' | h'
        · exact .inl (.inl ⟨h.1, h'⟩)
        · exact .inr ⟨h'.1, .inl ⟨h.1, h'.2⟩⟩
      · rcases Part.snoc_inv (b := b) (a := z :: a) h with h' | h'
        · exact .inl (.inr h')
        · exact .inr ⟨h'.1, .inr h'.2⟩
theorem Part.init {x : α} : ∀ {b a : List α}, Part m (a ++ [x]) b → Part m a b
  | [], a, h => by have := h.not_nil; simp at this
  | c :: b, a, h => by
    cases a with
    | nil => exact .nil_left _
    | cons z a =>
      simp only [List.cons_append, Part] at h ⊢
      rcases h with h | h
      · exact .inl ⟨h.1, Part.init h.2⟩
      · exact .inr (Part.init (a := z :: a) h)
theorem Part.inits {x y : α} {a b : List α} (h : Part m (a ++ [x]) (b ++ [y])) : Part m a b := by
  rcases h.snoc_inv with h | h
  · exact h.init
  · exact h.2
theorem Part.len : ∀ {b a : List α}, Part m a b → a.length ≤ b.length
  | [], a, h => by rw [h.not_nil]; simp
  | c :: b, [], _ => by simp
  | c :: b, x :: a, h => by
    simp only [Part] at h
    rcases h with h | h
    · have := h.2.len; simp; omega
    · have := h.len; simp at this ⊢; omega
theorem Part.split : ∀ {q r a : List α}, Part m a (q ++ r) → ∃ p s, a = p ++ s ∧ Part m p q ∧ Part m s r
  | [], r, a, h => ⟨[], a, rfl, .nil_left _, h⟩
  | c :: q, r, [], _ => ⟨[], [], rfl, .nil_left _, .nil_left _⟩
  | c :: q, r, x :: a, h => by
    simp only [List.cons_append, Part] at h
    rcases h with h | h
    · obtain ⟨p, s, e, h1, h2⟩ := h.2.split
      exact ⟨x :: p, s, by rw [e]; rfl, .keep h.1 h1, h2⟩
    · obtain ⟨p, s, e, h1, h2⟩ := Part.split h
      exact ⟨p, s, e, h1.skip, h2⟩
theorem Part.append : ∀ {q r p s : List α}, Part m p q → Part m s r → Part m (p ++ s) (q ++ r)
  | [], r, p, s, h1, h2 => by rw [h1.not_nil]; exact h2
  | c :: q, r, [], s, _, h2 => (Part.append (q := q) (p := []) (.nil_left _) h2).skip
  | c :: q, r, x :: p, s, h1, h2 => by
    simp only [List.cons_append, Part] at h1 ⊢
    rcases h1 with h | h
    · exact .inl ⟨h.1, Part.append h.2 h2⟩
    · exact .inr (Part.append h h2)
theorem Part.take_end : ∀ (c : Nat) {a b : List α}, c ≤ a.length → Part m a b → Part m (a.take (a.length - c)) (b.take (b.length - c))
  | 0, a, b, _, h => by simpa using h
  | c + 1, a, b, hc, h => by
    have hl := h.len
    have ha : a ≠ [] := by intro e; rw [e] at hc; simp at hc
    have hb : b ≠ [] := by intro e; rw [e] at hl; simp at hl; exact ha hl
    have ea := List.dropLast_concat_getLast ha
    have eb := List.dropLast_concat_getLast hb
    have h2 : Part m a.dropLast b.dropLast := by
      rw [← ea, ← eb] at h
      exact h.inits
    have := Part.take_end c (a := a.dropLast) (b := b.dropLast) (by rw [List.length_dropLast]; omega) h2
    rw [List.length_dropLast, List.length_dropLast] at this
    rw [List.dropLast_eq_take, List.dropLast_eq_take, List.take_take, List.take_take] at this
    have e1 : min (a.length - 1 - c) (a.length - 1) = a.length - (c + 1) := by omega
    have e2 : min (b.length - 1 - c) (b.length - 1) = b.length - (c + 1) := by omega
    rw [e1, e2] at this
    exact this
def wsum (wt : α → Int) (l : List α) : Int := (l.map wt).sum
theorem wsum_nil (wt : α → Int) : wsum wt [] = 0 := rfl
theorem wsum_cons (wt : α → Int) (x : α) (l : List α) : wsum wt (x :: l) = wt x + wsum wt l := by simp [wsum]
theorem wsum_append (wt : α → Int) (l r : List α) : wsum wt (l ++ r) = wsum wt l + wsum wt r := by simp [wsum]
theorem wsum_nonneg {wt : α → Int} (h : ∀ x, 0 ≤ wt x) (l : List α) : 0 ≤ wsum wt l := by
  induction l with
  | nil => simp [wsum_nil]
  | cons x l ih => rw [wsum_cons]; have := h x; omega
theorem wsum_le {wt : α → Int} (h : ∀ x, wt x ≤ 1) (l : List α) : wsum wt l ≤ l.length := by
  induction l with
  | nil => simp [wsum_nil]
  | cons x l ih => rw [wsum_cons]; have := h x; simp; omega
theorem wsum_zero {wt : α → Int} {l : List α} (h : ∀ x ∈ l, wt x = 0) : wsum wt l = 0 := by
  induction l with
  | nil => rfl
  | cons x l ih => rw [wsum_cons, h x (by simp), ih fun y hy => h y (by simp [hy])]; rfl
/-- a cell of the table: its bounds -/
def Cell (m : α → α → Prop) (wt : α → Int) (p q : List α) (v : Int) : Prop :=
  2 * ((q.length : Int) - p.length) + wsum wt p ≤ v ∧ (Part m p q → v ≤ 2 * ((q.length : Int) - p.length) + wsum wt p)
theorem inner_cells [DecidableEq α] (cost : α → α → Int) (wt : α → Int) (h0 : ∀ x, 0 ≤ wt x) (h1 : ∀ x, wt x ≤ 1) (bc : α) (bd : List α) :
    ∀ (ar rs ad : _) (dist res mn : Int), rs.length = ar.length → (∀ x ∈ ar, wt x ≤ cost bc x ∧ (m x bc → cost bc x ≤ wt x)) → Cell m wt ad bd dist → 2 * ((bd.length : Int) - ad.length) + wsum wt ad ≤ res →
      (∀ k, k < ar.length → Cell m wt (ad ++ ar.take (k + 1)) bd (rs.getD k 0)) →
      (inner cost bc ar rs dist res mn).1.length = ar.length ∧ (∀ k, k < ar.length → Cell m wt (ad ++ ar.take (k + 1)) (bd ++ [bc]) ((inner cost bc ar rs dist res mn).1.getD k 0)) ∧
      (ar ≠ [] → Cell m wt (ad ++ ar) (bd ++ [bc]) (inner cost bc ar rs dist res mn).2.1) ∧
      (inner cost bc ar rs dist res mn).2.2 ≤ mn ∧ (∀ k, k < ar.length → (inner cost bc ar rs dist res mn).2.2 ≤ (inner cost bc ar rs dist res mn).1.getD k 0)
  | [], rs, ad, dist, res, mn, _, _, _, _, _ => by
    cases rs <;> simp [inner]
  | x :: ar, [], ad, dist, res, mn, h, _, _, _, _ => by simp at h
  | x :: ar, r :: rs, ad, dist, res, mn, hl, hc, hd, hr, hk => by
    have hr0 := hk 0 (by simp)
    simp only [List.take_succ_cons, List.take_zero, List.getD_cons_zero] at hr0
    have hcx := hc x (by simp)
    have hx0 := h0 x
    have hx1 := h1 x
    generalize hv : min (min res r + 2) (dist + cost bc x) = v
    have hcell : Cell m wt (ad ++ [x]) (bd ++ [bc]) v := by
      obtain ⟨ha, hb⟩ := hr0
      obtain ⟨hd1, hd2⟩ := hd
      simp only [Cell, wsum_append, wsum_cons, wsum_nil, List.length_append, List.length_cons, List.length_nil] at ha hb ⊢
      refine ⟨by omega, fun hp => ?_⟩
      rcases hp.snoc_inv with hp | hp
      · have := hb hp
        omega
      · have := hd2 hp.2
        have := hcx.2 hp.1
        omega
    have ih := inner_cells cost wt h0 h1 bc bd ar rs (ad ++ [x]) r v (if v < mn then v else mn) (by simpa using hl) (fun y hy => hc y (by simp [hy])) hr0 (by
        have := hcell.1
        simp only [List.length_append, List.length_cons, List.length_nil] at this ⊢
        omega) (fun k hk' => by
        have := hk (k + 1) (by simpa using hk')
        simpa using this)
    simp only [inner, hv]
    obtain ⟨i1, i2, i3, i4, i5⟩ := ih
    refine ⟨by simp [i1], ?_, ?_, ?_, ?_⟩
    · intro k hk'
      cases k with
      | zero => simpa using hcell
      | succ k => simpa using i2 k (by simpa using hk')
    · intro _
      cases ar with
      | nil => cases rs <;> simpa [inner] using hcell
      | cons z ar => simpa using i3 (by simp)
    · by_cases hlt : v < mn
      · rw [if_pos hlt] at i4 ⊢; omega
      · rw [if_neg hlt] at i4 ⊢; omega
    · intro k hk'
      cases k with
      | zero =>
        simp only [List.getD_cons_zero]
        by_cases hlt : v < mn
        · rw [if_pos hlt] at i4 ⊢; omega
        · rw [if_neg hlt] at i4 ⊢; omega
      | succ k => simpa using i5 k (by simpa using hk')
theorem outer_price [DecidableEq α] (cost : α → α → Int) (wt : α → Int) (h0 : ∀ x, 0 ≤ wt x) (h1 : ∀ x, wt x ≤ 1) (x y : α) (a b : List α) (hm : m x y) (hp : Part m a b) (mx price : Int)
    (hc : ∀ u ∈ x :: a, ∀ v ∈ y :: b, wt u ≤ cost v u ∧ (m u v → cost v u ≤ wt u)) (hpr : price = 2 * ((b.length : Int) - a.length) + wsum wt (x :: a)) (hmx : price - 1 ≤ mx) :
    ∀ (br bd : List α) (row : List Int) (res : Int), y :: b = bd ++ br → row.length = (x :: a).length → (∀ k, k < (x :: a).length → Cell m wt ((x :: a).take (k + 1)) bd (row.getD k 0)) → (br = [] → res = price) →
      outer cost (x :: a) mx br bd.length row res = price
  | [], bd, row, res, _, _, _, hres => by simp only [outer]; exact hres rfl
  | bc :: br, bd, row, res, hb, hrow, hcells, _ => by
    have hbc : bc ∈ y :: b := by rw [hb]; simp
    obtain ⟨i1, i2, i3, i4, i5⟩ := inner_cells (m := m) cost wt h0 h1 bc bd (x :: a) row [] ((bd.length : Int) * 2) ((bd.length : Int) * 2) 9223372036854775807 hrow (fun u hu => hc u hu bc hbc)
      ⟨by simp [wsum_nil]; omega, fun _ => by simp [wsum_nil]; omega⟩ (by simp [wsum_nil]; omega) (fun k hk => by simpa using hcells k hk)
    simp only [outer]
    generalize inner cost bc (x :: a) row ((bd.length : Int) * 2) ((bd.length : Int) * 2) 9223372036854775807 = T at i1 i2 i3 i4 i5 ⊢
    have hmn : T.2.2 ≤ price := by
      obtain ⟨q, hq⟩ : ∃ q, bd ++ [bc] = y :: q := by
        cases bd with
        | nil => simp at hb ⊢; exact hb.1.symm
        | cons z bd => simp at hb ⊢; exact hb.1.symm
      have hqb : b = q ++ br := by
        have : y :: b = (bd ++ [bc]) ++ br := by rw [hb]; simp
        rw [hq] at this
        simpa using this
      obtain ⟨p, s, e, hp1, hp2⟩ := (hqb ▸ hp : Part m a (q ++ br)).split
      have hk := i5 p.length (by rw [e]; simp; omega)
      have hcl := (i2 p.length (by rw [e]; simp; omega)).2
      have ht : (x :: a).take (p.length + 1) = x :: p := by rw [e]; simp
      rw [List.nil_append, ht, hq] at hcl
      have hcl := hcl (.keep hm hp1)
      have hls := hp2.len
      have hqn : (bd ++ [bc]).length = q.length + 1 := by rw [hq]; rfl
      have hbn : b.length = q.length + br.length := by rw [hqb]; simp
      have han : a.length = p.length + s.length := by rw [e]; simp
      have hw : wsum wt (x :: a) = wsum wt (x :: p) + wsum wt s := by rw [e, wsum_cons, wsum_cons, wsum_append]; omega
      have hs0 := wsum_nonneg h0 s
      simp only [List.length_cons] at hcl
      omega
    by_cases hgt : T.2.2 > mx
    · rw [if_pos hgt]; omega
    · rw [if_neg hgt]
      have e : ((bd.length : Int) + 1) = ((bd ++ [bc]).length : Int) := by simp
      rw [e]
      refine outer_price cost wt h0 h1 x y a b hm hp mx price hc hpr hmx br (bd ++ [bc]) T.1 T.2.1 (by rw [hb]; simp) i1 (fun k hk => by simpa using i2 k hk) fun hbr => ?_
      have hcell := i3 (by simp)
      have hb' : bd ++ [bc] = y :: b := by rw [hb, hbr]
      rw [List.nil_append, hb'] at hcell
      have hlo := hcell.1
      have hhi := hcell.2 (.keep hm hp)
      simp only [List.length_cons] at hlo hhi
      omega
theorem levS_price [DecidableEq α] (cost : α → α → Int) (wt : α → Int) (h0 : ∀ x, 0 ≤ wt x) (h1 : ∀ x, wt x ≤ 1) (x y : α) (a b : List α) (hm : m x y) (hp : Part m a b) (mx price : Int)
    (hc : ∀ u ∈ x :: a, ∀ v ∈ y :: b, wt u ≤ cost v u ∧ (m u v → cost v u ≤ wt u)) (hpr : price = 2 * ((b.length : Int) - a.length) + wsum wt (x :: a)) (hmx : price - 1 ≤ mx) (hx : wt x = 1) :
    levS cost (x :: a) (y :: b) mx = price := by
  have hs0 := wsum_nonneg h0 a
  unfold levS
  rw [if_neg (by simp only [List.length_cons, wsum_cons] at *; omega)]
  refine outer_price cost wt h0 h1 x y a b hm hp mx price hc hpr hmx (y :: b) [] (row0 (x :: a).length) 0 rfl (by simp [row0]) (fun k hk => ?_) (by simp)
  have hle := wsum_le h1 ((x :: a).take (k + 1))
  have e : (row0 (x :: a).length).getD k 0 = 2 + 2 * (k : Int) := by
    simp only [row0, List.getD_eq_getElem?_getD, List.getElem?_map]
    rw [List.getElem?_range hk]
    rfl
  have hl : ((x :: a).take (k + 1)).length = k + 1 := by rw [List.length_take]; omega
  rw [e]
  refine ⟨by rw [hl] at hle ⊢; simp only [List.length_nil]; omega, fun hq => ?_⟩
  have := hq.not_nil
  rw [this] at hl
  simp at hl
end
end
section
section
variable {prog : Program} {w : World} {A : Around} {E : Value → Shared → Prop} {s : Shared} {h₀ : Heap} {L sa : Addr} {m : Str → Option Value} {news : List (Addr × Obj)} {g : Obj → List (Addr × Obj)}
theorem new_set {Q : Value → Shared → Prop} (h : ∀ led : Bool, led = !(w.params.followText "set-order") → Q (.ref s.heap.objs.size) { s with heap := s.heap.push { cls := .type "set", dict := none, data := .set #[] 0 (.fresh 0 0 led) } }) :
    wpAny (model prog w) A (newSet (.type "set")) Q E s := by
  unfold newSet setsByText
  refine wpAny_bind (wpAny_bind (wpAny_askSetting (wpAny_pure ?_)))
  dsimp only
  simp only [newObj]
  exact wpAny_bind (wpAny_alloc (wpAny_pure (h _ rfl)))
theorem set_star {K : Frag} {e1 e2 : PySem.Expr} {k : Nat} {pos sp : Pos} {env : Env} {Q : Value → Shared → Prop} (F : Fr h₀ L s.heap m) (N : News h₀ L s.heap news) (X : K.In h₀) (hc : kdsCode K env.code = true) (hk : k = 0)
    (hst : starEach [e1, .Starred e2 sp] env = [(false, eval e1 env), (true, eval e2 env)] := by rfl)
    (h : ∀ D h' (led : Bool), led = !(w.params.followText "set-order") → Fr h₀ L h' m → News h₀ L h' ((D, { cls := .type "set", dict := none, data := .set #[] 0 (.fresh 0 0 led) }) :: news) → (∀ p ∈ news, p.1 < D) →
      wpAny (model prog w) A (eval e1 env) (fun v s1 => wpAny (model prog w) A (setAdd D v) (fun _ s2 => wpAny (model prog w) A (eval e2 env) (fun v2 s3 => wpAny (model prog w) A (setDisplayStar D v2) (fun _ s4 => Q (.ref D) s4) E s3) E s2) E s1) E { s with heap := h' }) :
    wpAny (model prog w) A (eval (.Set [e1, .Starred e2 sp] k pos) env) Q E s := by
  subst hk
  rw [arm_eval_Set]
  refine wpAny_bind (wpAny_standAt ?_)
  refine wpAny_bind (kds_main (X.keeps F.keep) hc fun b => ?_)
  rw [hst]
  have hr : displayRoad 0 [e1, .Starred e2 sp] = .oneByOne := rfl
  rw [hr]
  unfold setDisplay
  try dsimp only
  rw [if_neg (by decide)]
  refine wpAny_bind (new_set fun led hled => ?_)
  have h9 := h s.heap.objs.size _ led hled (F.push _) (News.push F N _ rfl) (fun p hp => Heap.lt_size (N p hp).1)
  dsimp only
  simp only [List.map_cons, List.map_nil, List.length_cons, List.length_nil, List.findIdx?_cons, List.findIdx?_nil, Bool.false_eq_true, if_false, if_true, Option.map_some, Option.getD_some, Nat.zero_add, Nat.reduceAdd, Nat.reduceGT, Nat.reduceLT, List.take_succ_cons, List.take_zero, List.drop_succ_cons, List.drop_zero, gt_iff_lt, Nat.reduceLeDiff, show ¬ (30 < 2) from by decide]
  refine wpAny_bind (wpAny_holding ?_)
  refine wpAny_bind ?_
  refine wpAny_evalAll_cons ?_
  refine wpAny_bind (wpAny_mono h9 (fun v s1 h1 => ?_) fun _ _ x => x)
  refine wpAny_bind (wpAny_standAt (wpAny_pure ?_))
  refine wpAny_evalAll_nil ?_
  refine wpAny_bind (wpAny_holding ?_)
  refine wpAny_bind ?_
  rw [List.forIn_cons]
  refine wpAny_bind (wpAny_bind (wpAny_mono h1 (fun _ s2 h2 => wpAny_pure ?_) fun _ _ x => x))
  dsimp only
  rw [List.forIn_nil]
  refine wpAny_pure ?_
  rw [if_neg (by decide)]
  refine wpAny_pure ?_
  refine wpAny_bind ?_
  rw [List.forIn_cons]
  refine wpAny_bind (wpAny_bind (wpAny_bind (wpAny_mono h2 (fun v2 s3 h3 => ?_) fun _ _ x => x)))
  refine wpAny_bind (wpAny_standAt (wpAny_pure ?_))
  dsimp only
  rw [if_pos rfl]
  refine wpAny_bind (wpAny_holding (wpAny_mono h3 (fun _ s4 h4 => wpAny_pure ?_) fun _ _ x => x))
  dsimp only
  rw [List.forIn_nil]
  exact wpAny_pure (wpAny_pure (wpAny_pure h4))
/-- a set of one element, its table known -/
def OneSet (w : World) (o : Obj) (k : Int) (x : Value) : Prop := o.ExactSet ∧ ∃ ep t, o.data = .set #[(k, x)] ep t ∧ t.fits 1 = true ∧ t.fill = 1 ∧ 7 ≤ t.mask ∧ t.led = !(w.params.followText "set-order")
theorem lay_one (led : Bool) (k : Int) (x : Value) : ∃ t b c, layNew (.fresh 0 0 led) #[] k x = (#[(k, x)], t, b, c) ∧ t.fill = 1 ∧ 7 ≤ t.mask ∧ t.led = led := by
  have hs : ∀ n : Nat, (SetTable.standIn (.fresh 0 0 led) 1).fill = 1 ∧ 7 ≤ (SetTable.standIn (.fresh 0 0 led) 1).mask := fun _ => ⟨by simp [SetTable.standIn, SetTable.fill, SetTable.fresh], by simp [SetTable.standIn]⟩
  unfold layNew
  split
  · rename_i slot wd he
    have e1 : ((SetTable.fresh 0 0 led).put slot).1.place = #[slot] := rfl
    have e2 : ((SetTable.fresh 0 0 led).put slot).1.dummies = #[] := rfl
    have e3 : ((SetTable.fresh 0 0 led).put slot).1.mask = 7 := rfl
    have e4 : ((SetTable.fresh 0 0 led).put slot).2 = 0 := rfl
    have e5 : ((SetTable.fresh 0 0 led).put slot).1.led = led := rfl
    generalize (SetTable.fresh 0 0 led).put slot = R at *
    obtain ⟨t', p⟩ := R
    dsimp only at e1 e2 e3 e4 e5 ⊢
    subst e4
    refine ⟨_, _, _, by rfl, ?_, ?_, ?_⟩
    · unfold SetTable.orStandIn; split
      · unfold SetTable.fill; rw [e1, e2]; rfl
      · unfold SetTable.standIn SetTable.fill; simp [SetTable.insertAt]
    · unfold SetTable.orStandIn; split
      · rw [e3]; exact Nat.le_refl _
      · unfold SetTable.standIn; simp [SetTable.insertAt]
    · unfold SetTable.orStandIn; split
      · exact e5
      · exact e5
  · exact ⟨_, _, _, rfl, (hs 0).1, (hs 0).2, rfl⟩
theorem add_fresh {D : Addr} {led : Bool} {y : Str} {t : Tok} {Q : Bool → Shared → Prop} (hled : led = !(w.params.followText "set-order")) (F : Fr h₀ L s.heap m) (N : News h₀ L s.heap news) (U : UpdF D { cls := .type "set", dict := none, data := .set #[] 0 (.fresh 0 0 led) } news g)
    (h : ∀ h' so' k, Fr h₀ L h' m → News h₀ L h' (g so') → OneSet w so' k (.str y t) → Q true { s with heap := h', toks := s.toks + 1 }) :
    wpAny (model prog w) A (setAdd D (.str y t)) Q E s := by
  obtain ⟨pre, post, rfl, hg, a, b⟩ := U.split
  have hm := N (D, _) (List.mem_append_right _ (.head _))
  have hkey : (PySem.strKind prog w).is y (.str y t) = true := strKind_is ..
  unfold setAdd
  refine wpAny_holding (wpAny_bind ((PySem.strKind prog w).pyHash hkey ?_))
  unfold setAddHashed setAddHashedIn
  refine wpAny_holding (wpAny_bind (wpAny_setState_of (s := { s with toks := s.toks + 1 }) hm.1 rfl (by rfl) ?_))
  dsimp only
  rw [byScan_of (knd := PySem.strKind prog w) (by rfl) (by decide) (fun e he => by simp at he)]
  simp only [↓reduceIte]
  unfold setAddByScan
  refine wpAny_bind ?_
  refine wpAny_bind (wpAny_rule ?_)
  refine wpAny_bind (wpAny_setScan_of (knd := PySem.strKind prog w) (k := y) hkey hm.1 rfl (by rfl) (fun e he => by simp at he) ?_)
  dsimp only [List.findIdx?_nil]
  have hfits := layNew_fits (.fresh 0 0 led) #[] ((PySem.strKind prog w).hash y) (.str y t)
  obtain ⟨t1, wd, gave, e, hfill, hmask, hl1⟩ := lay_one led ((PySem.strKind prog w).hash y) (.str y t)
  rw [e] at hfits ⊢
  dsimp only at hfits ⊢
  have hgw : ∀ (b : Bool) {s₁ : Shared} {Q' : Unit → Shared → Prop}, Q' () s₁ → wpAny (model prog w) A (match b with | true => rule "set.scan.the-table-gave-way" | false => pure ()) Q' E s₁ :=
    fun b s₁ Q' hq => by cases b <;> first | exact wpAny_pure hq | exact wpAny_rule hq
  refine wpAny_bind (hgw _ ?_)
  have hfull : ∀ t' : SetTable, t'.fill = 1 → 7 ≤ t'.mask → t'.tooFull = false := fun t' h1 h2 => by unfold SetTable.tooFull; rw [h1]; simp; omega
  have fin : ∀ t2 : SetTable, t2.fits 1 = true → t2.fill = 1 → 7 ≤ t2.mask → t2.led = led → wpAny (model prog w) A (do
      storeSet D #[((PySem.strKind prog w).hash y, .str y t)] t2
      if (!wd && t2.tooFull) = true then do
          (match (relayAll t2 #[((PySem.strKind prog w).hash y, .str y t)] (SetTable.grown (#[((PySem.strKind prog w).hash y, Value.str y t)] : Array (Int × Value)).size)).2.2 with | true => rule "set.scan.the-table-gave-way" | false => pure ())
          storeSet D (relayAll t2 #[((PySem.strKind prog w).hash y, .str y t)] (SetTable.grown (#[((PySem.strKind prog w).hash y, Value.str y t)] : Array (Int × Value)).size)).1 (relayAll t2 #[((PySem.strKind prog w).hash y, .str y t)] (SetTable.grown (#[((PySem.strKind prog w).hash y, Value.str y t)] : Array (Int × Value)).size)).2.1
          pure (some true)
        else pure (some true)) (fun r s' => wpAny (model prog w) A (match r with | some added => pure added | none => setAddHashedIn D (.str y t) ((PySem.strKind prog w).hash y) 99999) Q E s') E { s with toks := s.toks + 1 } := by
    intro t2 q1 q2 q3 q4
    refine wpAny_bind (wpAny_storeSet_of hm.1 rfl ?_ (by simp [sizeLine_eq]))
    rw [hfull t2 q2 q3, Bool.and_false, if_neg (by decide)]
    refine wpAny_pure ?_
    refine wpAny_pure ?_
    have hu := Heap.get?_update_self (Obj.putSet #[((PySem.strKind prog w).hash y, Value.str y t)] t2) hm.1 (by rfl)
    exact h _ _ _ (F.change (Heap.SameBut.update _ _ _) hm.2.1 hm.2.2) (hg _ ▸ N.setIn a b (Heap.SameBut.update _ _ _) hu) ⟨⟨rfl, rfl, rfl⟩, _, t2, rfl, q1, q2, q3, q4.trans hled⟩
  split
  · refine wpAny_bind ?_
    rw [hashByValue_scannable 8 (by rfl)]
    refine wpAny_pure ?_
    split
    · exact fin _ hfits hfill hmask hl1
    · exact fin _ (SetTable.fits_plain_off hfits) hfill hmask hl1
  · refine wpAny_bind (wpAny_pure ?_)
    simp only [↓reduceIte]
    exact fin _ hfits hfill hmask hl1
/-- the keys of an empty dict laid into a set of one: nothing -/
theorem star_empty {D d : Addr} {so oe : Obj} {k : Int} {x : Value} {Q : Unit → Shared → Prop} (hh : A.handled = none) (F : Fr h₀ L s.heap m) (N : News h₀ L s.heap news) (hD : (D, so) ∈ news) (hd : (d, oe) ∈ news) (hde : oe.IsDictOf (PySem.strKind prog w) []) (hds : (d == sysModules) = false) (hso : OneSet w so k x)
    (h : ∀ h', Fr h₀ L h' m → News h₀ L h' news → Q () { s with heap := h' }) :
    wpAny (model prog w) A (setDisplayStar D (.ref d)) Q E s := by
  obtain ⟨ep, hat⟩ := KdkAt.of hde
  have hDd := hat.dictAt (N _ hd).1
  obtain ⟨od, es, hod, hcd, hdd, hk, hp, hnd⟩ := id hDd
  have hT : s.TypeIs (.ref d) "dict" := ⟨od, hod, hcd.1⟩
  have hes : es.size = 0 := by have := hp.length; simpa using this
  obtain ⟨hex, eps, tt, hdat, hfit, hfill, hmask, _⟩ := hso
  unfold setDisplayStar
  refine wpAny_bind (wpAny_isInstance hT (U := "set") (b := false) (by rw [isSubtype_type]; kernel_rfl) ?_)
  simp only [Bool.false_eq_true, if_false]
  refine wpAny_bind (wpAny_isInstance hT (U := "frozenset") (b := false) (by rw [isSubtype_type]; kernel_rfl) ?_)
  simp only [Bool.false_eq_true, if_false]
  refine wpAny_bind (wpAny_askSetting ?_)
  have road : wpAny (model prog w) A (do let _ ← runValue (.builtin "set.update.loop" ⟨[.ref D, ← pyIter (.ref d)], []⟩)) Q E s := by
    refine wpAny_bind (wpAny_pyIter_dict hds hDd ?_)
    have F1 := F.push (o := { cls := .type "dict_keyiterator", data := .fields #[.ref d, .int 0 0, .int ([] : List (Str × Value)).length 0, .int ep 0] })
    have N1 := News.push F N { cls := .type "dict_keyiterator", data := .fields #[.ref d, .int 0 0, .int ([] : List (Str × Value)).length 0, .int ep 0] } rfl
    refine wpAny_bind (runValue_entry PyProof.Rows.F.entry_set_update_loop ?_)
    rw [Around.under_plainId PyProof.Rows.F.plain_set_update_loop _]
    show wpAny _ A.in1 (pyNext _ >>= _) _ _ _
    have hI : s.heap.objs.size ≠ d := fun e => Nat.lt_irrefl _ (e ▸ Heap.lt_size hod)
    refine wpAny_bind (wpAny_pyNext_dict_end (knd := PySem.strKind prog w) (kvs := []) (d := d) (i := 0) (ep := ep) hh ⟨_, (N1 _ (.head _)).1, rfl, rfl⟩ (hDd.push _) rfl fun h' hs => ?_)
    have hk : ∀ b o, s.heap.get? b = some o → h'.get? b = some o := fun b o hb => hs b o (Nat.ne_of_lt (Heap.lt_size hb)) (Heap.get?_push_of_some _ hb)
    exact wpAny_pure ⟨_, rfl, wpAny_pure (h h' (F.keeps hk) (N.grown hk))⟩
  cases hb : (model prog w).w.params.followText "set-display-star-reads-storage"
  · rw [if_neg (by decide)]
    dsimp only
    refine wpAny_bind (wpAny_typeOf hT ?_)
    rw [if_pos (by rfl)]
    refine wpAny_bind (wpAny_rule ?_)
    rw [if_neg (by rw [hds]; decide)]
    refine wpAny_bind (wpAny_dictEpoch hod hdd ?_)
    refine wpAny_bind (wpAny_dictEntries hod hdd ?_)
    unfold setRoomFor
    refine wpAny_bind (wpAny_bind (wpAny_setState_of (N _ hD).1 hdat hfit ?_))
    rw [hes]
    dsimp only
    have hroom : tt.roomFor 0 = none := by unfold SetTable.roomFor; rw [hfill, if_neg (by omega)]
    rw [hroom]
    refine wpAny_pure ?_
    refine wpAny_bind (wpAny_of_eq (a := PUnit.unit) (by simp [Std.Legacy.Range.forIn_eq_forIn_range', Std.Legacy.Range.size]) ?_)
    exact wpAny_pure (h _ F N)
  · rw [if_pos rfl]
    exact road
end
end
section
theorem q_of {Q : Bool → Shared → Prop} {b b' : Bool} {s : Shared} (e : b = b') (h : Q b' s) : Q b s := e ▸ h
theorem drawn_one (a : Bool) (d : Bool) (n : Nat) (e : d = (!a && decide (n > 1))) (h : n = 1) : d = false := by rw [e, h]; simp
section
variable {prog : Program} {w : World} {A : Around} {E : Value → Shared → Prop} {s : Shared} {h₀ : Heap} {L sa : Addr} {m : Str → Option Value} {news : List (Addr × Obj)} {k : Int} {x : Value}
theorem drawn_one_ {D : Addr} {so : Obj} {Q : Bool → Shared → Prop} (hso : OneSet w so k x) (hD : s.heap.get? D = some so) (h : Q false s) : wpAny (model prog w) A (setDrawn D) Q E s := by
  obtain ⟨hex, ep, t, hd, hf, hfill, hm, hl⟩ := hso
  unfold setDrawn setsByText
  refine wpAny_bind (wpAny_setState_of hD hd hf ?_)
  refine wpAny_bind (wpAny_bind (wpAny_askSetting (wpAny_pure ?_)))
  refine wpAny_pure (q_of ?_ h)
  cases ht : t.plain <;> cases (model prog w).w.params.followText "set-order" <;> simp only [Bool.not_true, Bool.not_false, Bool.false_and, Bool.true_and]
  · exact drawn_one t.plain _ 1 rfl rfl
  · exact drawn_one t.plain _ 1 rfl rfl
theorem walk_one {D : Addr} {so : Obj} {Q : Array (Int × Value) → Shared → Prop} (hso : OneSet w so k x) (hD : s.heap.get? D = some so) (h : Q #[(k, x)] s) : wpAny (model prog w) A (setWalk D) Q E s := by
  obtain ⟨hex, ep, t, hd, hf, hfill, hm, hl⟩ := hso
  unfold setWalk setsByText
  refine wpAny_bind (wpAny_setState_of hD hd hf ?_)
  refine wpAny_bind (wpAny_bind (wpAny_askSetting (wpAny_pure ?_)))
  dsimp only
  cases hb : (model prog w).w.params.followText "set-order"
  · rw [if_neg (by decide)]
    refine wpAny_ite_split (fun hab => ?_) (fun _ => ?_)
    · have e : _ = false := drawn_one t.plain _ 1 rfl rfl
      exact absurd (e.symm.trans hab) (by decide)
    · refine wpAny_bind (wpAny_of_eq (a := PUnit.unit) (if_neg (c := (!t.led && decide (1 > 1)) = true) (by simp)) ?_)
      exact wpAny_pure h
  · rw [if_pos rfl]
    refine wpAny_bind (wpAny_askSetting (wpAny_pure ?_))
    have e : ∀ f, PySem.pickOrder f #[(k, x)] = #[(k, x)] := fun f => by simp [PySem.pickOrder, PySem.pickOrder.go, Nat.mod_one]
    rw [e]; exact h
theorem below_one (j : Nat) : SetTable.below #[j] 0 = 0 ∧ SetTable.below #[j] (j + 1) = 1 := by
  constructor <;> simp [SetTable.below, SetTable.below.go]
theorem next_one (prog : Program) (w : World) {so : Obj} (hso : OneSet w so k x) : ∃ (ep : Nat) (nx : Nat),
    (∀ (A : Around) (E : Value → Shared → Prop) (s : Shared) (D : Addr) (Q : Nat → Shared → Prop), s.heap.get? D = some so → Q ep s → wpAny (model prog w) A (setEpoch D) Q E s) ∧
    (∀ (A : Around) (E : Value → Shared → Prop) (s : Shared) (D : Addr) (Q : Array (Int × Value) → Shared → Prop), s.heap.get? D = some so → Q #[(k, x)] s → wpAny (model prog w) A (setEntries D) Q E s) ∧
    (∀ (A : Around) (E : Value → Shared → Prop) (s : Shared) (D : Addr) (Q : Option (Value × Nat) → Shared → Prop), s.heap.get? D = some so → Q (some (x, nx)) s → wpAny (model prog w) A (setNext D 0 0 ep) Q E s) ∧
    (∀ (A : Around) (E : Value → Shared → Prop) (s : Shared) (D : Addr) (Q : Option (Value × Nat) → Shared → Prop), s.heap.get? D = some so → Q none s → wpAny (model prog w) A (setNext D nx 1 ep) Q E s) := by
  obtain ⟨hex, ep, t, hd, hf, hfill, hm, hl⟩ := id hso
  have hps : t.place.size = 1 := by
    unfold SetTable.fits at hf
    simp only [Bool.and_eq_true, beq_iff_eq] at hf
    exact hf.1
  obtain ⟨j, hj⟩ : ∃ j, t.place = #[j] := ⟨t.place[0], by
    apply Array.ext
    · simpa using hps
    · intro i h1 h2
      have : i = 0 := by omega
      subst this; rfl⟩
  refine ⟨ep, if w.params.followText "set-order" then 0 else j + 1, ?_, ?_, ?_, ?_⟩
  · intro A E s D Q ho h
    exact wpAny_setEpoch_of ho hd hf h
  · intro A E s D Q ho h
    exact wpAny_setEntries_of ho hd hf h
  · intro A E s D Q ho h
    unfold setNext setsByText
    refine wpAny_bind (wpAny_setState_of ho hd hf ?_)
    refine wpAny_bind (wpAny_bind (wpAny_askSetting (wpAny_pure ?_)))
    dsimp only
    cases hb : w.params.followText "set-order"
    · rw [hb] at h hl
      rw [if_neg (by show ¬ (w.params.followText "set-order" = true); rw [hb]; decide)]
      refine wpAny_ite_split (fun hab => ?_) (fun _ => ?_)
      · have e : _ = false := drawn_one t.plain _ 1 rfl rfl
        exact absurd (e.symm.trans hab) (by decide)
      · refine wpAny_bind (wpAny_of_eq (a := PUnit.unit) (if_neg (c := (!t.led && !(#[(k, x)] : Array (Int × Value)).isEmpty) = true) (by rw [hl]; simp)) ?_)
        refine wpAny_pure ?_
        rw [hj, (below_one j).1]
        exact h
    · rw [hb] at h
      rw [if_pos (show (model prog w).w.params.followText "set-order" = true from hb)]
      rw [if_neg (by simp)]
      refine wpAny_bind (walk_one hso ho ?_)
      exact wpAny_pure h
  · intro A E s D Q ho h
    unfold setNext setsByText
    refine wpAny_bind (wpAny_setState_of ho hd hf ?_)
    refine wpAny_bind (wpAny_bind (wpAny_askSetting (wpAny_pure ?_)))
    dsimp only
    cases hb : w.params.followText "set-order"
    · rw [hb] at hl
      rw [if_neg (by show ¬ (w.params.followText "set-order" = true); rw [hb]; decide)]
      refine wpAny_ite_split (fun hab => ?_) (fun _ => ?_)
      · have e : _ = false := drawn_one t.plain _ 1 rfl rfl
        exact absurd (e.symm.trans hab) (by decide)
      · refine wpAny_bind (wpAny_of_eq (a := PUnit.unit) (if_neg (c := (!t.led && !(#[(k, x)] : Array (Int × Value)).isEmpty) = true) (by rw [hl]; simp)) ?_)
        refine wpAny_pure ?_
        rw [if_neg (by decide), hj, (below_one j).2]
        exact h
    · rw [if_pos (show (model prog w).w.params.followText "set-order" = true from hb)]
      rw [if_neg (by simp)]
      refine wpAny_bind (walk_one hso ho ?_)
      exact wpAny_pure h
theorem slot_si_next : Slot "set_iterator" "__next__" "set_iterator.__next__" :=
  .of (owner := "set_iterator") (n := "__next__") (by rw [typeLookup_type, builtinLookup_eq_fast]; kernel_rfl) (by decide +kernel) (by decide +kernel) (by decide +kernel)
    (by first | exact .inl (by decide +kernel) | exact .inr (by decide +kernel)) (by rw [isSubtype_type]; kernel_rfl)
theorem entry_si_next : entryFor table "set_iterator.__next__" = some Builtin.«set_iterator.__next__» := entryFor_of_tree (by kernel_rfl)
theorem entry_s_iter : entryFor table "set.__iter__" = some Builtin.«frozenset.__iter__» :=
  entryFor_alias (id' := "frozenset.__iter__") (by kernel_rfl) rfl (by decide +kernel) (by kernel_rfl)
theorem args_si_next (a : Value) : argsOk "set_iterator.__next__" ⟨[a], []⟩ := by unfold argsOk; kernel_rfl
def SetIt (o : Obj) (D : Addr) (ep : Nat) (a b : Int) : Prop := o.cls = .type "set_iterator" ∧ o.data = .fields #[.int a 0, .int b 0, .ref D, .int 1 0, .int ep 0]
theorem si_item {D I : Addr} {so io : Obj} {ep nx : Nat} {Q : Option Value → Shared → Prop} (hD : s.heap.get? D = some so) (hI : s.heap.get? I = some io) (hio : SetIt io D ep 0 0) (hDI : D ≠ I)
    (ents : ∀ (A : Around) (E : Value → Shared → Prop) (s : Shared) (D : Addr) (Q : Array (Int × Value) → Shared → Prop), s.heap.get? D = some so → Q #[(k, x)] s → wpAny (model prog w) A (setEntries D) Q E s)
    (nxt : ∀ (A : Around) (E : Value → Shared → Prop) (s : Shared) (D : Addr) (Q : Option (Value × Nat) → Shared → Prop), s.heap.get? D = some so → Q (some (x, nx)) s → wpAny (model prog w) A (setNext D 0 0 ep) Q E s)
    (h : ∀ h' io', SetIt io' D ep nx 1 → h'.get? I = some io' → Heap.SameBut I s.heap h' → Q (some x) { s with heap := h' }) :
    wpAny (model prog w) A (pyNext (.ref I)) Q E s := by
  obtain ⟨hc, hd⟩ := hio
  have hT : s.TypeIs (.ref I) "set_iterator" := ⟨io, hI, hc⟩
  unfold pyNext
  refine wpAny_bind (wpAny_attempt (wpAny_callSpecial?_slot (name := Str.ofString "__next__") hT slot_si_next (wpAny_call_entry slot_si_next hT entry_si_next ?_ (args_si_next _))))
  show wpAny _ _ (fieldsOf (.ref I) >>= _) _ _ s
  refine wpAny_bind (wpAny_fieldsOf hI hd ?_)
  show wpAny _ _ (setEntries D >>= _) _ _ s
  refine wpAny_bind (ents _ _ _ _ _ hD ?_)
  rw [if_neg (by simp)]
  show wpAny _ _ (setNext D 0 0 ep >>= _) _ _ s
  refine wpAny_bind (nxt _ _ _ _ _ hD ?_)
  dsimp only
  show wpAny _ _ (setField (.ref I) 0 (.int nx 0) >>= _) _ _ s
  refine wpAny_bind (wpAny_setField hI hd (by simp) ?_)
  have hI1 := Heap.get?_update_self (Obj.mapFields (·.setIfInBounds 0 (.int nx 0))) hI (Obj.isFreed_of_fields (Obj.data_mapFields hd _))
  have hd1 : (Obj.mapFields (·.setIfInBounds 0 (.int nx 0)) io).data = .fields #[.int nx 0, .int 0 0, .ref D, .int 1 0, .int ep 0] := by rw [Obj.data_mapFields hd]; rfl
  show wpAny _ _ (setField (.ref I) 1 (.int 1 0) >>= _) _ _ _
  refine wpAny_bind (wpAny_setField hI1 hd1 (by simp) ?_)
  have hI2 := Heap.get?_update_self (Obj.mapFields (·.setIfInBounds 1 (.int 1 0))) hI1 (Obj.isFreed_of_fields (Obj.data_mapFields hd1 _))
  refine wpAny_pure ⟨_, rfl, wpAny_pure (h _ _ ⟨?_, ?_⟩ hI2 ((Heap.SameBut.update _ _ _).trans (Heap.SameBut.update _ _ _)))⟩
  · rw [Obj.cls_mapFields, Obj.cls_mapFields]; exact hc
  · rw [Obj.data_mapFields hd1]; rfl
theorem si_end {D I : Addr} {so io : Obj} {ep nx : Nat} {Q : Option Value → Shared → Prop} (hh : A.handled = none) (hD : s.heap.get? D = some so) (hI : s.heap.get? I = some io) (hio : SetIt io D ep nx 1)
    (ents : ∀ (A : Around) (E : Value → Shared → Prop) (s : Shared) (D : Addr) (Q : Array (Int × Value) → Shared → Prop), s.heap.get? D = some so → Q #[(k, x)] s → wpAny (model prog w) A (setEntries D) Q E s)
    (nxt : ∀ (A : Around) (E : Value → Shared → Prop) (s : Shared) (D : Addr) (Q : Option (Value × Nat) → Shared → Prop), s.heap.get? D = some so → Q none s → wpAny (model prog w) A (setNext D nx 1 ep) Q E s)
    (h : ∀ h', Heap.ExtBut I s.heap h' → Q none { s with heap := h' }) :
    wpAny (model prog w) A (pyNext (.ref I)) Q E s := by
  obtain ⟨hc, hd⟩ := hio
  have hT : s.TypeIs (.ref I) "set_iterator" := ⟨io, hI, hc⟩
  unfold pyNext
  refine wpAny_bind (wpAny_attempt (wpAny_callSpecial?_slot (name := Str.ofString "__next__") hT slot_si_next (wpAny_call_entry slot_si_next hT entry_si_next ?_ (args_si_next _))))
  show wpAny _ _ (fieldsOf (.ref I) >>= _) _ _ s
  refine wpAny_bind (wpAny_fieldsOf hI hd ?_)
  show wpAny _ _ (setEntries D >>= _) _ _ s
  refine wpAny_bind (ents _ _ _ _ _ hD ?_)
  rw [if_neg (by simp)]
  show wpAny _ _ (setNext D nx 1 ep >>= _) _ _ s
  refine wpAny_bind (nxt _ _ _ _ _ hD ?_)
  dsimp only
  show wpAny _ _ (setField (.ref I) 2 .none >>= _) _ _ s
  refine wpAny_bind (wpAny_setField hI hd (by simp) ?_)
  show wpAny _ _ (newExc (.type "StopIteration") [] >>= _) _ _ _
  refine wpAny_bind ?_
  simp only [newExc, newTuple]
  refine wpAny_bind (wpAny_newObj_type ?_ (by size_fits))
  refine wpAny_bind (m := firstArgMember _ _) (wpAny_of_eq (a := Value.none) (by first | rfl | (simp only [firstArgMember]; rfl)) ?_)
  refine wpAny_newObj_type ?_ (by size_fits)
  simp only [raiseNew]
  refine wpAny_bind (wpAny_handled ?_)
  rw [show A.in1.handled = none from hh]
  refine wpAny_bind (wpAny_pure (wpAny_throw ?_))
  refine wpAny_bind (wpAny_isInstance (T := "StopIteration") (b := true) ⟨_, Heap.get?_push_size _ rfl, rfl⟩ isSubtype_stop ?_)
  exact wpAny_pure (h _ (((Heap.SameBut.update ..).extBut.push _).push _))
theorem slot_si_iter : Slot "set_iterator" "__iter__" "set_iterator.__iter__" :=
  .of (owner := "set_iterator") (n := "__iter__") (by rw [typeLookup_type, builtinLookup_eq_fast]; kernel_rfl) (by decide +kernel) (by decide +kernel) (by decide +kernel)
    (by first | exact .inl (by decide +kernel) | exact .inr (by decide +kernel)) (by rw [isSubtype_type]; kernel_rfl)
theorem entry_si_iter : entryFor table "set_iterator.__iter__" = some Builtin.«dict_keyiterator.__iter__» :=
  entryFor_alias (id' := "dict_keyiterator.__iter__") (by kernel_rfl) rfl (by decide +kernel) (by kernel_rfl)
theorem args_si_iter (a : Value) : argsOk "set_iterator.__iter__" ⟨[a], []⟩ := by unfold argsOk; kernel_rfl
theorem set_hint {D : Addr} {Q : Bool → Shared → Prop} (hT : s.TypeIs (.ref D) "set") (h : Q false s) : wpAny (model prog w) A (Builtin.List.listLengthHint (.ref D)) Q E s := by
  unfold Builtin.List.listLengthHint
  refine wpAny_bind (wpAny_specialOf hT PySem.F.slot_set_len.lookup ?_)
  generalize hid : ("set.__len__" : String) = id0
  wp_delta
  rw [show splitId id0 = some ("set", "__len__") from by subst hid; decide +kernel]
  subst hid
  refine wpAny_bind (wpAny_isInstance (T := "set") (b := true) hT (by rw [isSubtype_type]; kernel_rfl) ?_)
  refine wpAny_ite_split (fun hab => absurd hab (by decide)) (fun _ => ?_)
  refine wpAny_ite_split (fun _ => ?_) (fun hab => absurd (by decide +kernel) hab)
  refine wpAny_bind (wpAny_typeOf hT ?_)
  exact wpAny_pure h
theorem set_src {D : Addr} {so : Obj} (hso : OneSet w so k x) : KdlSrc prog w "set" D D 1 (fun _ v => v = x) (fun h => h.get? D = some so) := by
  obtain ⟨ep, nx, hep, hents, hnx0, hnx1⟩ := next_one prog w hso
  have hT : ∀ s : Shared, s.heap.get? D = some so → s.TypeIs (.ref D) "set" := fun s e => ⟨so, e, hso.1.1⟩
  refine ⟨hT, fun h e => ⟨Heap.lt_size e, Heap.lt_size e⟩, fun h h' e k' => k' D (.inl rfl) _ e, by decide, by decide, fun A E s Q e h => set_hint (hT s e) h, ?_⟩
  intro A s hh hD
  refine ⟨{ cls := .type "set_iterator", data := .fields #[.int 0 0, .int 0 0, .ref D, .int 1 0, .int ep 0] },
    fun i h => h.get? D = some so ∧ ∃ io, h.get? s.heap.objs.size = some io ∧ ((i = 0 ∧ SetIt io D ep 0 0) ∨ (i = 1 ∧ SetIt io D ep nx 1)), ?_, ?_, ?_⟩
  · intro E Q h
    refine wpAny_pyIter_slot (hT _ hD) PySem.F.slot_set_iter (wpAny_call_entry PySem.F.slot_set_iter (hT _ hD) entry_s_iter ?_ (PySem.F.args_set_iter_1 _))
    show wpAny _ _ (Builtin.Frozenset.sizeOf D >>= _) _ _ s
    unfold Builtin.Frozenset.sizeOf
    refine wpAny_bind (wpAny_bind (hents _ _ _ _ _ hD (wpAny_pure ?_)))
    refine wpAny_bind (drawn_one_ hso hD ?_)
    rw [if_neg (by decide)]
    refine wpAny_bind (wpAny_pure ?_)
    refine wpAny_bind (hep _ _ _ _ _ hD ?_)
    refine wpAny_bind (wpAny_newObj_type (wpAny_pure ⟨_, rfl, "set_iterator", _, ⟨_, Heap.get?_push_size _ rfl, rfl⟩, slot_si_next.lookup, h⟩))
  · have hDI : D ≠ s.heap.objs.size := Nat.ne_of_lt (Heap.lt_size hD)
    refine ⟨fun b hb => List.mem_cons.mpr (.inl (List.mem_singleton.mp hb)), ?_, ?_, ?_, ?_⟩
    · rintro i h h' ⟨e1, io, e2, e3⟩ hk
      exact ⟨hk D (by simp) _ e1, io, hk _ (by simp) _ e2, e3⟩
    · rintro i s' Q E hi ⟨e1, io, e2, e3⟩ hQ
      rcases e3 with ⟨rfl, e3⟩ | ⟨rfl, e3⟩
      · refine si_item e1 e2 e3 hDI hents hnx0 fun h' io' hio' e2' hs => hQ x h' _ rfl ⟨(hs.2 D hDI).trans e1, io', e2', .inr ⟨rfl, hio'⟩⟩ fun b o hb e => (hs.2 b (by simpa using hb)).trans e
      · omega
    · rintro s' Q E ⟨e1, io, e2, e3⟩ hQ
      rcases e3 with ⟨e0, e3⟩ | ⟨_, e3⟩
      · cases e0
      · exact si_end hh e1 e2 e3 hents hnx1 fun h' hs => hQ h' _ fun b o hb e => hs b o (by simpa using hb) e
    · rintro i s' Q E ⟨e1, io, e2, e3⟩ hQ
      have hTi : s'.TypeIs (.ref s.heap.objs.size) "set_iterator" := ⟨io, e2, by rcases e3 with ⟨_, e3⟩ | ⟨_, e3⟩ <;> exact e3.1⟩
      refine wpAny_pyIter_slot hTi slot_si_iter (wpAny_call_entry slot_si_iter hTi entry_si_iter ?_ (args_si_iter _))
      exact wpAny_pure ⟨_, rfl, "set_iterator", _, hTi, slot_si_next.lookup, hQ⟩
  · exact ⟨Heap.get?_push_of_some _ hD, _, Heap.get?_push_size _ rfl, .inl ⟨rfl, rfl, rfl⟩⟩
end
end
section
section
variable {prog : Program} {w : World} {A : Around} {E : Value → Shared → Prop} {s : Shared} {h₀ : Heap} {L sa : Addr} {m : Str → Option Value} {news : List (Addr × Obj)} {k : Int} {x : Value}
theorem sort_one {f : Addr} {a : Addr} {n : Nat} {P : PySem.Fin → Shared → Prop} (F : Fr h₀ L s.heap m) (N : News h₀ L s.heap ((a, seqObj "list" #[x] n) :: news)) (hna : ∀ p ∈ news, p.1 ≠ a)
    (turn : ∀ (h : Heap) (tk : Nat) (own : List (Addr × Obj)), Fr h₀ L h m → News h₀ L h (own ++ news) → (∀ p ∈ own, ∀ q ∈ news, p.1 ≠ q.1) →
      wpAny (model prog w) A (call (.ref f) [x]) (fun _ s' => ∃ h' tk', s' = { s with heap := h', toks := tk' } ∧ Fr h₀ L h' m ∧ News h₀ L h' (own ++ news)) (fun _ _ => False) { s with heap := h, toks := tk })
    (h : ∀ h' tk c, Fr h₀ L h' m → News h₀ L h' ((a, seqObj "list" #[x] c) :: news) → P (.done (.ret .none)) { s with heap := h', toks := tk }) :
    wpAny (model prog w) A (ksk_tree a (.ref f) false) P E s := by
  obtain ⟨ho, haL, ha0⟩ := N _ (.head _)
  have Nn : News h₀ L s.heap news := fun p hp => N p (.tail _ hp)
  have s1 := Heap.SameBut.update s.heap a (Obj.mapSeq fun _ => (#[] : Array Value))
  obtain ⟨e1, ho1⟩ : ∃ e1, (s.heap.update a (Obj.mapSeq fun _ => (#[] : Array Value))).get? a = some (seqObj "list" #[] e1) := ⟨_, get?_update_seq ho fun _ => #[]⟩
  have F1 := ksk_fr F s1 haL ha0
  have N1 := ksk_news Nn s1 hna
  unfold ksk_tree
  refine wpAny_bind (listItems_at ho rfl ?_)
  refine wpAny_bind (listUpdate_at ho rfl ?_ (by simp [sizeLine_eq]) (Nat.zero_le _))
  refine wpAny_bind (seqEpoch_at ho1 rfl ?_)
  refine wpAny_bind (wpAny_newTuple ?_ (by simp [sizeLine_eq]))
  refine wpAny_bind (wpAny_newList ?_ (Nat.zero_le _))
  refine wpAny_holding ?_
  generalize hH1 : s.heap.update a (Obj.mapSeq fun _ => (#[] : Array Value)) = H1 at F1 N1 ho1 ⊢
  have F2 := F1.push (seqObj "tuple" #[x] 0)
  have N2 := News.push F1 (fun p hp => by
    rcases List.mem_cons.mp hp with rfl | hp
    · exact ⟨ho1, haL, ha0⟩
    · exact N1 p hp : News h₀ L H1 ((a, seqObj "list" #[] e1) :: news)) (seqObj "tuple" #[x] 0) rfl
  show wpAny _ _ _ _ _ { s with heap := (H1.push (seqObj "tuple" #[x] 0)).push (seqObj "list" #[] 0) }
  have hkS : (H1.push (seqObj "tuple" #[x] 0)).objs.size = H1.objs.size + 1 := by rw [size_push']
  have N3 := News.push F2 N2 (seqObj "list" #[] 0) rfl
  have F3 := F2.push (seqObj "list" #[] 0)
  have ltN : ∀ q ∈ news, q.1 < H1.objs.size := fun q hq => Heap.lt_size (N1 q hq).1
  have lta : a < H1.objs.size := Heap.lt_size ho1
  generalize hK : (H1.push (seqObj "tuple" #[x] 0)).objs.size = kS at hkS N3 ⊢
  unfold ksk_rest
  refine wpAny_bind (wpAny_rule ?_)
  rw [← Array.forIn_toList]
  show wpAny _ _ (forIn [x] PUnit.unit _ >>= _) _ _ _
  rw [List.forIn_cons]
  refine wpAny_bind (wpAny_bind (wpAny_bind (wpAny_attempt (wpAny_mono (turn _ _ [(kS, seqObj "list" #[] 0), (H1.objs.size, seqObj "tuple" #[x] 0), (a, seqObj "list" #[] e1)] F3 N3 ?_) (fun v s' he => ?_) fun _ _ hF => hF.elim))))
  · intro p hp q hq
    have := ltN q hq
    simp only [List.mem_cons, List.not_mem_nil, or_false] at hp
    rcases hp with rfl | rfl | rfl
    · rw [hkS]; exact Nat.ne_of_gt (Nat.lt_succ_of_lt this)
    · exact Nat.ne_of_gt this
    · exact (hna q hq).symm
  obtain ⟨g, tk2, rfl, F4, N4⟩ := he
  have nk := N4 (kS, seqObj "list" #[] 0) (.head _)
  have na := N4 (a, seqObj "list" #[] e1) (.tail _ (.tail _ (.head _)))
  have N4n : News h₀ L g news := fun p hp => N4 p (List.mem_append_right _ hp)
  have hka : kS ≠ a := by rw [hkS]; exact Nat.ne_of_gt (Nat.lt_succ_of_lt lta)
  have hkn : ∀ p ∈ news, p.1 ≠ kS := fun p hp => by rw [hkS]; exact Nat.ne_of_lt (Nat.lt_succ_of_lt (ltN p hp))
  have t1 := Heap.SameBut.update g kS (Obj.mapSeq (·.push v))
  obtain ⟨c2, hc2⟩ : ∃ c2, (g.update kS (Obj.mapSeq (·.push v))).get? kS = some (seqObj "list" #[v] c2) := ⟨_, get?_update_seq nk.1 (·.push v)⟩
  dsimp only
  refine wpAny_bind (listUpdate_at nk.1 rfl ?_ (by simp [sizeLine_eq]) (by simp [sizeLine_eq]))
  refine wpAny_pure ?_
  dsimp only
  rw [List.forIn_nil]
  refine wpAny_pure ?_
  refine wpAny_bind (listItems_at hc2 rfl ?_)
  have F5 := ksk_fr F4 t1 nk.2.1 nk.2.2
  have N5 := ksk_news N4n t1 hkn
  have na5 : (g.update kS (Obj.mapSeq (·.push v))).get? a = some (seqObj "list" #[] e1) := (t1.2 a hka.symm).trans na.1
  generalize (g.update kS (Obj.mapSeq (·.push v))) = G at hc2 F5 N5 na5 ⊢
  unfold ksk_end
  dsimp only
  rw [if_neg (by decide), if_pos (by show 1 < 2; decide), if_pos (by show 1 < 2; decide)]
  refine wpAny_bind (wpAny_pure ?_)
  rw [StateT.run_pure]
  refine wpAny_bind (wpAny_pure ?_)
  try dsimp only
  unfold ksk_tail
  try dsimp only
  have hz : (if false = true then (Array.map (fun x => x.snd) (arrOf (SortSt.mk' general' (if false = true then (#[v].zip #[x]).reverse else #[v].zip #[x]) #[] 7 none))).reverse else Array.map (fun x => x.snd) (arrOf (SortSt.mk' general' (if false = true then (#[v].zip #[x]).reverse else #[v].zip #[x]) #[] 7 none))) = #[x] := by
    rw [if_neg (by decide), if_neg (by decide)]
    show Array.map (fun x => x.snd) (#[v].zip #[x]) = #[x]
    simp
  rw [hz]
  have u1 := Heap.SameBut.update G kS (Obj.mapSeq fun _ => (#[] : Array Value))
  have na6 : (G.update kS (Obj.mapSeq fun _ => (#[] : Array Value))).get? a = some (seqObj "list" #[] e1) := (u1.2 a hka.symm).trans na5
  refine wpAny_bind (listUpdate_at hc2 rfl ?_ (by simp [sizeLine_eq]) (Nat.zero_le _))
  refine wpAny_bind (wpAny_letGo ?_)
  refine wpAny_bind (seqEpoch_at na6 rfl ?_)
  have u2 := Heap.SameBut.update (G.update kS (Obj.mapSeq fun _ => (#[] : Array Value))) a (Obj.mapSeq fun _ => #[x])
  obtain ⟨c3, hc3⟩ : ∃ c3, ((G.update kS (Obj.mapSeq fun _ => (#[] : Array Value))).update a (Obj.mapSeq fun _ => #[x])).get? a = some (seqObj "list" #[x] c3) := ⟨_, get?_update_seq na6 fun _ => #[x]⟩
  refine wpAny_bind (listUpdate_at na6 rfl ?_ (Nat.zero_le _) ?_)
  · rw [if_neg (by simp)]
    refine wpAny_pure ?_
    refine h _ _ c3 (ksk_fr (ksk_fr F5 u1 nk.2.1 nk.2.2) u2 na.2.1 na.2.2) (fun p hp => ?_)
    rcases List.mem_cons.mp hp with rfl | hp
    · exact ⟨hc3, na.2⟩
    · exact ksk_news (ksk_news N5 u1 hkn) u2 hna p hp
  · show (#[x] : Array Value).size ≤ _
    simp [sizeLine_eq]
theorem sorted_one {f D : Addr} {so : Obj} {Q : Value → Shared → Prop} (hh : A.handled = none) (hso : OneSet w so k x) (F : Fr h₀ L s.heap m) (N : News h₀ L s.heap news) (hD : (D, so) ∈ news)
    (turn : ∀ (h : Heap) (tk : Nat) (own : List (Addr × Obj)), Fr h₀ L h m → News h₀ L h (own ++ news) → (∀ p ∈ own, ∀ q ∈ news, p.1 ≠ q.1) →
      wpAny (model prog w) A.in1.in1 (call (.ref f) [x]) (fun _ s' => ∃ h' tk', s' = { s with heap := h', toks := tk' } ∧ Fr h₀ L h' m ∧ News h₀ L h' (own ++ news)) (fun _ _ => False) { s with heap := h, toks := tk })
    (h : ∀ l c h' tk, Fr h₀ L h' m → News h₀ L h' ((l, listOf #[x] c) :: news) → (∀ q ∈ news, q.1 < l) → Q (.ref l) { s with heap := h', toks := tk }) :
    wpAny (model prog w) A (call (.builtin "sorted") [.ref D] [(Str.ofString "key", .ref f)]) Q E s := by
  refine call_function_entry_kw kind_sorted plain_sorted entry_sorted (ksk_s1 _ _) ?_
  unfold Builtin.«sorted»
  refine wpAny_bind (m := checkCount "sorted" 1 1 _) (wpAny_pure ?_)
  refine wpAny_bind (kdu_collect (set_src hso) hh (N _ hD).1 (by simp [sizeLine_eq]) fun h' tk acc hk hacc => ?_)
  have hax : acc.toList = [x] := by
    obtain ⟨h1, h2⟩ := hacc
    have h3 : acc[0]? = some acc[0] := by simp
    have h4 := h2 0 _ h3
    have : acc = #[acc[0]] := by
      apply Array.ext
      · simpa using h1
      · intro i q1 q2
        have : i = 0 := by omega
        subst this; rfl
    rw [this, h4]
  rw [hax]
  refine wpAny_bind (wpAny_newList ?_ (by simp [sizeLine_eq]))
  have F1 := F.keeps hk
  have N1 := N.grown hk
  have N2 := News.push F1 N1 (seqObj "list" #[x] 0) rfl
  have hlt : ∀ q ∈ news, q.1 < h'.objs.size := fun q hq => Heap.lt_size (N1 q hq).1
  show wpAny _ _ _ _ _ { s with heap := h'.push (seqObj "list" #[x] 0), toks := tk }
  have hoL : (h'.push (seqObj "list" #[x] 0)).get? h'.objs.size = some (seqObj "list" #[x] 0) := (N2 _ (.head _)).1
  refine wpAny_bind (wpAny_holding (wpAny_call_entry_kw slot_list_sort ⟨_, hoL, rfl⟩ entry_list_sort ?body (ksk_l1 _ _)))
  case body =>
    show wpAny (model prog w) A.in1.in1 (Builtin.«list.sort» ⟨[.ref h'.objs.size], [(Str.ofString "key", .ref f)]⟩) _ _ _
    rw [ksk_t1]
    refine sort_one (s := { s with heap := h'.push (seqObj "list" #[x] 0), toks := tk }) (F1.push _) N2 (fun p hp => Nat.ne_of_lt (hlt p hp)) (fun h2 tk2 own F2 N2 off => turn h2 tk2 own F2 N2 off) fun h3 tk3 c F3 N3 => ⟨_, rfl, ?_⟩
    exact wpAny_pure ⟨_, rfl, h _ c h3 tk3 F3 N3 hlt⟩
end
end
section
open PyProof.Rows.LCg (NsObj Off3 Off1 fr_but news_but ns_obj)
section
variable {prog : Program} {w : World} {A : Around} {E : Value → Shared → Prop} {s : Shared} {h₀ : Heap} {L : Addr} {m : Str → Option Value} {env : Env} {K : Type} [DecidableEq K] {knd : KeyKind prog w K}
/-- one turn of a dict comprehension, its ledger told -/
def DTurn (prog : Program) (w : World) (A : Around) (h₀ : Heap) (L : Addr) (m : Str → Option Value) (env : Env) {K : Type} [DecidableEq K] (knd : KeyKind prog w K) (kx vx : PySem.Expr) (x : Str) (scope : Scope) (cl : List (Str × Addr)) (s : Shared) (I : Addr) (xs : Nat → Value → Prop) (Inv : Nat → List (K × Value) → List (Addr × Obj) → Prop) (n : Nat) : Prop :=
  ∀ i kvs news v C oC D oD oI m₂ h tk (E' : Value → Shared → Prop), i < n → xs i v → Inv i kvs news → NsObj oC m₂ → m₂ x = some v → oD.IsDictOf knd kvs → Fr h₀ L h m → News h₀ L h ((I, oI) :: (C, oC) :: (D, oD) :: news) → Off3 I C D news → ((@Ne Nat I C) ∧ (@Ne Nat I D) ∧ (@Ne Nat C D)) →
    wpAny (model prog w) A (eval kx (compEnvC scope cl C env)) (fun kv s₄ => wpAny (model prog w) A (eval vx (compEnvC scope cl C env)) (fun vv s₅ => ∃ k h' tk' news', knd.is k kv = true ∧ s₅ = { s with heap := h', toks := tk' } ∧ Fr h₀ L h' m ∧
      News h₀ L h' ((I, oI) :: (C, oC) :: (D, oD) :: news') ∧ Off3 I C D news' ∧ Inv (i + 1) (stored kvs k vv) news') E' s₄) E' { s with heap := h, toks := tk }
def DFinA (prog : Program) (w : World) (h₀ : Heap) (L : Addr) (m : Str → Option Value) {K : Type} [DecidableEq K] (knd : KeyKind prog w K) (y : Str) (Q : Flow → Shared → Prop) (s : Shared) (Inv : List (K × Value) → List (Addr × Obj) → Prop) : Prop :=
  ∀ D oD h tk kvs news', Fr h₀ L h (fun z => if z = y then some (.ref D) else m z) → News h₀ L h ((D, oD) :: news') → oD.IsDictOf knd kvs → Off1 D news' → (D == sysModules) = false → Inv kvs news' → Q .next { s with heap := h, toks := tk }
theorem block_D {kx vx iter : PySem.Expr} {x : Str} {px : Pos} {scope : Scope} {cl : List (Str × Addr)} {pos : Pos} {s₂ : Shared} {I : Addr} {fp : List Addr} {n : Nat} {xs : Nat → Value → Prop} {St : Nat → Heap → Prop} (Inv : Nat → List (K × Value) → List (Addr × Obj) → Prop) {news : List (Addr × Obj)}
    {RR : Value → Addr → Result → Shared → Prop}
    (W : Walks prog w A I fp [I] n xs St) (hsz : n ≤ sizeLine) (hIo : ∀ i h, St i h → ∃ o, h.get? I = some o)
    (hSt : ∀ i kvs h h' o nw, St i h → h.get? I = some o → h'.get? I = some o → (∀ b o, h₀.get? b = some o → h'.get? b = some o) → News h₀ L h' nw → Inv i kvs nw → St i h')
    (hlen : ∀ i kvs nw, Inv i kvs nw → kvs.length ≤ i)
    (hcell : ∀ y ∈ scope.names, y.2 ≠ .cell) (hkind : scope.kind = .function) (hx : scope.names.lookup x = some .local) (hst : St 0 s₂.heap) (hfp : ∀ b ∈ fp, b < s₂.heap.objs.size)
    (hbig : h₀.NoLimit)
    (F : Fr h₀ L s₂.heap m) (N : News h₀ L s₂.heap news) (hIL : L ≠ I) (hI₀ : h₀.get? I = none) (off : ∀ p ∈ news, p.1 ≠ I) (hI : Inv 0 [] news)
    (turn : DTurn prog w A h₀ L m env knd kx vx x scope cl s₂ I xs Inv n)
    (hRR : ∀ D oD C h tk m' kvs news', Fr h₀ L h m → News h₀ L h ((D, oD) :: news') → oD.IsDictOf knd kvs → Off1 D news' → h.Ns C m' → h₀.get? C = none → h₀.get? D = none → C ≠ L → D ≠ L → C ≠ D → (∀ p ∈ news', p.1 ≠ C) → (D == sysModules) = false → Inv n kvs news' → RR (.ref D) C (.ok .next) { s₂ with heap := h, toks := tk }) :
    wpAny (model prog w) A newDict (fun acc s₃ => wpAny (model prog w) A (newFunctionEnv scope env.globals cl [] env.qual none .none (some env)) (fun cenv s₄ =>
      codeAny (model prog w) A (.compStart (.DictComp kx vx [⟨.Name x px, iter, [], 0⟩] scope pos) 0 (.ref I) acc { cenv with scope := relabel scope env }) (RR acc cenv.locals) s₄) E s₃) E s₂ := by
  have hDs : (s₂.heap.objs.size == sysModules) = false := F.notModules (modules_low hbig)
  refine wpAny_newObj_type (wpAny_newFunctionEnv hcell (by intro y hy; simp at hy) (fun h₁ hns₁ hsb₁ => ?_) hkind)
  dsimp only at hns₁ hsb₁ ⊢
  have hnew : (s₂.heap.push { cls := .type "dict", dict := none, data := .dict #[] }).DictOf knd s₂.heap.objs.size [] := Heap.DictOf.new s₂.heap
  generalize hH2 : s₂.heap.push { cls := .type "dict", dict := none, data := .dict #[] } = H2 at hns₁ hsb₁ hnew ⊢
  have hC : H2.objs.size = s₂.heap.objs.size + 1 := by rw [← hH2, Heap.size_push]
  generalize hDq : s₂.heap.objs.size = D at hC hDs hnew ⊢
  generalize hCq : H2.objs.size = C at hC hns₁ hsb₁ ⊢
  have hDC : D ≠ C := by rw [hC]; exact Nat.ne_of_lt (Nat.lt_succ_self _)
  have hold : ∀ b, b < D → b ≠ C ∧ b ≠ D := fun b hb => ⟨by rw [hC]; exact Nat.ne_of_lt (Nat.lt_succ_of_lt hb), Nat.ne_of_lt hb⟩
  have hDf : D ∉ fp := fun hm => Nat.lt_irrefl _ (hDq ▸ hfp _ hm)
  have hCf : C ∉ fp := fun hm => by have := hfp _ hm; rw [hC, hDq] at this; exact Nat.lt_irrefl _ (Nat.lt_of_succ_lt this)
  have hIlt : I < D := hDq ▸ hfp I (W.sub I (List.mem_singleton.mpr rfl))
  have old : ∀ b o, s₂.heap.get? b = some o → h₁.get? b = some o := fun b o e => hsb₁.extBut b o (hold b (hDq ▸ Heap.lt_size e)).1 (Heap.get?_push_of_some _ (hH2 ▸ Heap.get?_push_of_some _ e))
  have hacc : h₁.DictOf knd D [] := hnew.at fun o e => hsb₁.extBut _ _ hDC (Heap.get?_push_of_some _ e)
  have hst₁ : St 0 h₁ := W.frame _ _ _ hst fun b _ o e => old b o e
  have none₀ : ∀ a, D ≤ a → h₀.get? a = none := fun a ha => by
    cases e : h₀.get? a with
    | none => rfl
    | some o' => exact absurd (Heap.lt_size (F.keep a o' e)) (Nat.not_lt.mpr (hDq ▸ ha))
  have hD₀ := none₀ D (Nat.le_refl _)
  have hC₀ := none₀ C (by rw [hC]; exact Nat.le_succ _)
  have hLlt : L < D := hDq ▸ F.ns.lt
  have hDL : D ≠ L := Ne.symm (hold L hLlt).2
  have hCL : C ≠ L := Ne.symm (hold L hLlt).1
  have hIC : I ≠ C := (hold I hIlt).1
  have hID : I ≠ D := (hold I hIlt).2
  have off₀ : Off3 I C D news := Off3.of fun p hp => ⟨off p hp, hold _ (hDq ▸ Heap.lt_size (N p hp).1)⟩
  obtain ⟨oD₁, hoD₁, hdD₁⟩ := Heap.dictOf_iff.mp hacc
  have loop : ∀ s₃ : Shared, s₃ = { s₂ with heap := h₁, toks := s₂.toks + ([] : List (Str × Value)).length } →
      codeAny (model prog w) A (.compLoop (.DictComp kx vx [⟨.Name x px, iter, [], 0⟩] scope pos) 0 (.ref I) (.ref D) (compEnvC scope cl C env)) (RR (.ref D) C) s₃ := by
    rintro s₃ rfl
    refine codeAny_compLoop_testsD
      (fun k s' => ∃ h' tk i kvs oD m' news', s' = { s₂ with heap := h', toks := tk } ∧ i ≤ n ∧ k = n + 1 - i ∧ St i h' ∧ Fr h₀ L h' m ∧ h'.Ns C m' ∧ News h₀ L h' ((D, oD) :: news') ∧ oD.IsDictOf knd kvs ∧ Off3 I C D news' ∧ Inv i kvs news') ?_ (n + 1)
      ⟨h₁, _, 0, [], oD₁, _, news, rfl, Nat.zero_le _, rfl, hst₁, F.keeps old, hns₁, fun p hp => ?_, hdD₁, off₀, hI⟩
    · rintro k s' ⟨h', tk, i, kvs, oD, m', news', rfl, hi, rfl, hst', F', hn', N', hdD, off', hI'⟩
      by_cases hlt : i < n
      · refine W.item i _ _ _ hlt hst' fun v h₂ tk₂ hPv hst₂ hk₂ => ?_
        refine wpAny_assign_Name (wpAny_storeName_local (lookup_relabel_local hx) (hn'.at' fun o e => hk₂ _ o (by simpa using Ne.symm hIC) e) (fun h₃ hn₃ hs₃ => ?_) (by simp [compEnvC, relabel, hkind]))
        refine wpAny_tests_nil ?_
        simp only [if_true]
        have hst₃ : St (i + 1) h₃ := W.frame _ _ _ hst₂ fun b hb o e => hs₃.extBut b o (fun q => hCf (by have q' : b = C := q; rw [← q']; exact hb)) e
        obtain ⟨oI, heI⟩ := hIo _ _ hst₃
        obtain ⟨oC, heC, hoC⟩ := ns_obj hn₃
        have F₃ : Fr h₀ L h₃ m := (fr_but F' hk₂ hIL hI₀).change hs₃ hCL hC₀
        have off3 := off'.mem
        have N₂ : News h₀ L h₂ ((D, oD) :: news') := news_but N' hk₂ fun p hp => by
          rcases List.mem_cons.mp hp with rfl | hp
          · exact Ne.symm hID
          · exact (off3 p hp).1
        have N₃ : News h₀ L h₃ ((I, oI) :: (C, oC) :: (D, oD) :: news') := fun p hp => by
          rcases List.mem_cons.mp hp with rfl | hp
          · exact ⟨heI, Ne.symm hIL, hI₀⟩
          · rcases List.mem_cons.mp hp with rfl | hp
            · exact ⟨heC, hCL, hC₀⟩
            · have z := N₂ p hp
              refine ⟨hs₃.extBut _ _ ?_ z.1, z.2⟩
              rcases List.mem_cons.mp hp with rfl | hp
              · exact hDC
              · exact (off3 p hp).2.1
        refine wpAny_mono (turn i kvs news' v C oC D oD oI _ h₃ _ _ hlt hPv hI' hoC (by simp) hdD F₃ N₃ off' ⟨hIC, hID, Ne.symm hDC⟩) (fun kv s₄ h₄ => wpAny_mono h₄ (fun vv s₅ h₅ => ?_) fun _ _ e => e) fun _ _ e => e
        obtain ⟨key, h₄, tk₄, news₄, hkey, rfl, F₄, N₄, off₄, hI₄⟩ := h₅
        have zI := (N₄ (I, oI) (.head _)).1
        have zC := (N₄ (C, oC) (.tail _ (.head _))).1
        have zD := (N₄ (D, oD) (.tail _ (.tail _ (.head _)))).1
        have N₄' : News h₀ L h₄ news₄ := fun p hp => N₄ p (.tail _ (.tail _ (.tail _ hp)))
        have hst₄ : St (i + 1) h₄ := hSt _ _ _ _ _ _ hst₃ heI zI F₄.keep N₄' hI₄
        have off4 := off₄.mem
        refine wpAny_dictSet_pairs (hsz := Nat.le_trans (hlen _ _ _ hI') (Nat.le_trans hi hsz)) hkey (Heap.dictOf_iff.mpr ⟨_, zD, hdD⟩) fun h₅ hD₅ hs₅ => ?_
        obtain ⟨oD₅, hoD₅, hdD₅⟩ := Heap.dictOf_iff.mp hD₅
        refine ⟨n + 1 - (i + 1), by omega, h₅, _, i + 1, _, oD₅, _, news₄, rfl, hlt, rfl, W.frame _ _ _ hst₄ fun b hb o e => hs₅.extBut b o (fun q => hDf (q ▸ hb)) e, F₄.change hs₅ hDL hD₀,
          (hoC.ns zC).sameBut hs₅ (Ne.symm hDC), fun p hp => ?_, hdD₅, off₄, hI₄⟩
        rcases List.mem_cons.mp hp with rfl | hp
        · exact ⟨hoD₅, hDL, hD₀⟩
        · exact ⟨hs₅.extBut _ _ (off4 p hp).2.2 (N₄' p hp).1, (N₄' p hp).2⟩
      · obtain rfl : i = n := Nat.le_antisymm hi (Nat.not_lt.mp hlt)
        refine W.done _ _ _ hst' fun h₂ tk₂ hk₂ => ?_
        have off3 := off'.mem
        exact hRR _ _ _ h₂ tk₂ _ kvs news' (fr_but F' hk₂ hIL hI₀) (news_but N' hk₂ fun p hp => by
          rcases List.mem_cons.mp hp with rfl | hp
          · exact Ne.symm hID
          · exact (off3 p hp).1) hdD off'.one (hn'.at' fun o e => hk₂ _ o (by simpa using Ne.symm hIC) e) hC₀ hD₀ hCL hDL (Ne.symm hDC) (fun p hp => (off3 p hp).2.1) hDs hI'
    · rcases List.mem_cons.mp hp with rfl | hp
      · exact ⟨hoD₁, hDL, hD₀⟩
      · exact ⟨old _ _ (N p hp).1, (N p hp).2⟩
  exact codeAny_compStart_dict (loop _ rfl) (W.self 0 _ _ _ hst₁ (loop _ rfl))
/-- what the iterable gives a dict comprehension -/
def DSrc (prog : Program) (w : World) (A : Around) (h₀ : Heap) (L : Addr) (m : Str → Option Value) (env : Env) {K : Type} [DecidableEq K] (knd : KeyKind prog w K) (kx vx : PySem.Expr) (x : Str) (scope : Scope) (cl : List (Str × Addr)) (Fin : Shared → (List (K × Value) → List (Addr × Obj) → Prop) → Prop) (it : Value) (s₂ : Shared) : Prop :=
  ∃ I fp n xs St Inv news, it = .ref I ∧ Walks prog w A I fp [I] n xs St ∧ n ≤ sizeLine ∧ (∀ i h, St i h → ∃ o, h.get? I = some o) ∧
    (∀ i kvs h h' o nw, St i h → h.get? I = some o → h'.get? I = some o → (∀ b o, h₀.get? b = some o → h'.get? b = some o) → News h₀ L h' nw → Inv i kvs nw → St i h') ∧
    (∀ i (kvs : List (K × Value)) nw, Inv i kvs nw → kvs.length ≤ i) ∧ St 0 s₂.heap ∧ (∀ b ∈ fp, b < s₂.heap.objs.size) ∧
    Fr h₀ L s₂.heap m ∧ News h₀ L s₂.heap news ∧ L ≠ I ∧ h₀.get? I = none ∧ (∀ p ∈ news, p.1 ≠ I) ∧ Inv 0 [] news ∧ DTurn prog w A h₀ L m env knd kx vx x scope cl s₂ I xs Inv n ∧
    Fin s₂ (Inv n)
theorem Assign_DictComp_U {kx vx iter : PySem.Expr} {x y : Str} {px py : Pos} {scope : Scope} {cl : List (Str × Addr)} {pos spos : Pos} {Q : Flow → Shared → Prop} (knd : KeyKind prog w K) (F₀ : Fr h₀ L s.heap m) (hLe : env.locals = L)
    (hsw : swapsWith (.DictComp kx vx [⟨.Name x px, iter, [], 0⟩] scope pos) (some (.Name y py)) spos.line env = pure true)
    (hclos : closureFor scope env = pure cl) (hcell : ∀ z ∈ scope.names, z.2 ≠ .cell) (hkind : scope.kind = .function)
    (hnames : ∀ z ∈ scope.names, z.2 = .local → scope.names.lookup z.1 = some .local) (hx : scope.names.lookup x = some .local)
    (hy : env.kindOf y = some .local) (hp : (env.scope.kind == .class || (env.scope.kind == .module && env.locals != env.globals)) = false)
    (hbig : h₀.NoLimit)
    (h : wpAny (model prog w) A (eval iter env) (fun xv s₁ => wpAny (model prog w) A (pyIter xv) (DSrc prog w A h₀ L m env knd kx vx x scope cl (DFinA prog w h₀ L m knd y Q)) E s₁) E s)
    (hs : ∀ x, foldedSetIterable iter env x = pure x := by intro _; rfl) :
    wpAny (model prog w) A (exec (.Assign [.Name y py] (.DictComp kx vx [⟨.Name x px, iter, [], 0⟩] scope pos) spos) env) Q E s := by
  subst hLe
  rw [exec_Assign_Name_used _ _ _ _ hsw]
  refine wpAny_bind (wpAny_standAt (wpAny_bind ?_))
  show wpAny _ A (do let _ ← comprehension (.DictComp kx vx [⟨.Name x px, iter, [], 0⟩] scope pos) scope env _ newDict false (eval iter env) (some (assign (.Name y py) env))) _ _ s
  refine wpAny_bind (wpAny_mono (wpAny_comprehension_free (use := some (assign (.Name y py) env)) (Q := fun _ s' => Q .next s') rfl hs hclos hkind hnames
    (wpAny_mono h (fun xv s₁ h₁ => wpAny_mono h₁ (fun it s₂ h₂ => ?_) fun _ _ e => e) fun _ _ e => e)) (fun _ s' hq => wpAny_pure (wpAny_pure hq)) fun _ _ e => e)
  obtain ⟨I, fp, n, xs, St, Inv, news, rfl, W, hsz, hIo, hSt, hlen, hst, hfp, F, N, hIL, hI₀, off, hI, turn, fin⟩ := h₂
  refine block_D (knd := knd) Inv W hsz hIo hSt hlen hcell hkind hx hst hfp hbig F N hIL hI₀ off hI turn fun D oD C h' tk m' kvs news' F' N' hd o1 hn hC₀ hD₀ hCL hDL hCD offC hsys hI' => ?_
  show wpAny _ A (assign (.Name y py) env (.ref D)) _ _ _
  refine wpAny_assign_Name (wpAny_storeName_local hy F'.ns (fun h₂ hn₂ hs₂ => ?_) hp)
  have hL₀ : h₀.get? env.locals = none := Heap.get?_none_of_le F'.above
  have F₂ : Fr h₀ env.locals h₂ (fun z => if z = y then some (.ref D) else m z) := ⟨hn₂, fun b o e => hs₂.extBut b o (fun q => by rw [q, hL₀] at e; cases e) (F'.keep b o e), F'.above⟩
  refine ⟨m', hn.sameBut hs₂ hCL, fun h'' hs'' => fin D oD h'' _ kvs news' (F₂.change hs'' hCL hC₀) (fun p hp => ?_) hd o1 hsys hI'⟩
  have z : h₂.get? p.1 = some p.2 := hs₂.extBut _ _ (N' p hp).2.1 (N' p hp).1
  refine ⟨hs''.extBut _ _ ?_ z, (N' p hp).2⟩
  rcases List.mem_cons.mp hp with rfl | hp
  · exact Ne.symm hCD
  · exact offC p hp
/-- the iterable is a list of the ledger -/
theorem DSrc.list {kx vx : PySem.Expr} {x : Str} {scope : Scope} {cl : List (Str × Addr)} {knd : KeyKind prog w K} {Fin : Shared → (List (K × Value) → List (Addr × Obj) → Prop) → Prop} {news : List (Addr × Obj)} {l : Addr} {vs : List Value} {nn : Nat} (Inv : Nat → List (K × Value) → List (Addr × Obj) → Prop)
    (hh : A.handled = none) (F : Fr h₀ L s.heap m) (N : News h₀ L s.heap news) (hsz : vs.length ≤ sizeLine) (hl : (l, listOf vs.toArray nn) ∈ news)
    (hin : ∀ i kvs nw, Inv i kvs nw → (l, listOf vs.toArray nn) ∈ nw) (hlen : ∀ i (kvs : List (K × Value)) nw, Inv i kvs nw → kvs.length ≤ i) (h0 : Inv 0 [] news)
    (turn : ∀ I h, DTurn prog w A h₀ L m env knd kx vx x scope cl { s with heap := h } I (fun i v => vs[i]? = some v) Inv vs.length)
    (fin : ∀ h, Fin { s with heap := h } (Inv vs.length)) :
    wpAny (model prog w) A (pyIter (.ref l)) (DSrc prog w A h₀ L m env knd kx vx x scope cl Fin) E s := by
  have hol : s.heap.get? l = some (listOf vs.toArray nn) := (N _ hl).1
  have hls : s.heap.IsList l vs.toArray := ⟨_, hol, rfl, nn, rfl⟩
  have hne : l ≠ s.heap.objs.size := Nat.ne_of_lt (Heap.lt_size hol)
  refine wpAny_pyIter_list hls ?_
  have up : ∀ b o, s.heap.get? b = some o → (s.heap.push { cls := .type "list_iterator", data := .fields #[.ref l, .int 0 0] }).get? b = some o := fun b o e => Heap.get?_push_of_some _ e
  have W := Walks.list (prog := prog) (w := w) hh s.heap.objs.size l hne vs.toArray
  refine ⟨_, _, vs.length, _, _, Inv, news, rfl, W, hsz, fun i h st => ?_, ?_, hlen, ⟨⟨_, Heap.get?_push_size _ rfl, rfl, rfl⟩, hls.push _⟩, ?_, F.keeps up, N.grown up, Nat.ne_of_lt F.ns.lt, next_is_new F, fun p hp => Nat.ne_of_lt (Heap.lt_size (N p hp).1), h0, ?_, fin _⟩
  · obtain ⟨o, e, _⟩ := st.1; exact ⟨o, e⟩
  · intro i kvs h h' o nw st e e' k N' hi
    refine ⟨by obtain ⟨o', q, r⟩ := st.1; rw [e] at q; cases q; exact ⟨o, e', r⟩, ⟨_, (N' _ (hin _ _ _ hi)).1, rfl, nn, rfl⟩⟩
  · intro b hb
    show b < (s.heap.push _).objs.size
    rw [Heap.size_push]
    rcases List.mem_cons.mp hb with rfl | hb
    · exact Nat.lt_succ_self _
    · rw [List.mem_singleton.mp hb]; exact Nat.lt_succ_of_lt (Heap.lt_size hol)
  · intro i kvs news v C oC D oD oI m₂ h tk E' hi hv hI hC hx hd F' N' off' hne'
    exact turn _ _ i kvs news v C oC D oD oI m₂ h tk E' hi (by simpa using hv) hI hC hx hd F' N' off' hne'
end
end
section
theorem updF_mid {d : Addr} {o : Obj} {post : List (Addr × Obj)} : ∀ {pre : List (Addr × Obj)}, (∀ p ∈ pre, p.1 ≠ d) → (∀ p ∈ post, p.1 ≠ d) → UpdF d o (pre ++ (d, o) :: post) (fun o' => pre ++ (d, o') :: post)
  | [], _, h => .head h
  | _ :: _, h1, h => .tail (h1 _ (.head _)) (updF_mid (fun q hq => h1 q (.tail _ hq)) h)
abbrev lamQ : Str := "C14NWriterTarget._start.<locals>.<lambda>"
/-- the table of _start's inner code: nothing made yet, or the key's code made -/
def tabS : Option (Addr × Obj) → List (Addr × Obj)
  | none => [(168, tabObj #[])]
  | some p => [(168, tabObj #[rawInt 250, rawInt 71, .ref p.1]), (p.1, p.2)]
def TabOk : Option (Addr × Obj) → Prop
  | none => True
  | some p => ∃ vs t, p.2.data = .fields vs ∧ vs[1]? = some (.str lamQ t)
section
variable {M : Model} {A : Around} {E : Value → Shared → Prop} {s : Shared} {h₀ : Heap} {L a : Addr} {m mg mb : Str → Option Value} {cn : Str} {cs : Scope} {ccd : Value} {cl : List (Str × Addr)} {pre post : List (Addr × Obj)}
  {p : Program} {loose : List Str} {mean : ExcName → Option Value} {params : Arguments} {body : PySem.Expr} {scope : Scope} {clos : List (Str × Addr)}
theorem lam_start {Q : Value → Shared → Prop} {tb : Option (Addr × Obj)} (F : Fr h₀ L s.heap m) (N : News h₀ L s.heap (pre ++ (tabS tb ++ post))) (T : Top p loose mean mg mb h₀) (C : CodeHd h₀ 170 168) (hpre : ∀ q ∈ pre, q.1 ≠ 168) (hpost : ∀ q ∈ post, q.1 ≠ 168) (htb : TabOk tb)
    (hcl : closureFor scope (envX cn cs L a (.ref 170) cl) = pure clos)
    (h : ∀ f c' oc ctv h' tk, Fr h₀ L h' m →
      News h₀ L h' ((f, kla_obj "<lambda>" lamQ params body scope clos ((mg "__name__").getD .none) c' ctv) :: (pre ++ (tabS (some (c', oc)) ++ post))) →
      TabOk (some (c', oc)) → (∀ q ∈ pre ++ (tabS (some (c', oc)) ++ post), q.1 < f) → (tb = some (c', oc) ∨ ∀ q ∈ pre ++ (tabS none ++ post), q.1 < c') → Q (.ref f) { s with heap := h', toks := tk }) :
    wpAny M A (makeFunction "<lambda>" lamQ params (.expr body) scope (envX cn cs L a (.ref 170) cl) [] [] [] ⟨250, 71, 250, 96⟩ 250) Q E s := by
  cases tb with
  | none =>
    refine kla_nest (c := 170) (P := 168) (ps := #[]) F N T C rfl (updF_mid hpre hpost) (by exact True.intro) rfl hcl ?_
    intro f c' oc vs t ctv h' tk F' N' hd hv lc lf
    have lall : ∀ q ∈ pre ++ (tabS (some (c', oc)) ++ post), q.1 < f := by
      intro q hq
      rcases List.mem_append.mp hq with hq | hq
      · exact Nat.lt_trans (lc q (List.mem_append_left _ hq)) lf
      · rcases List.mem_append.mp hq with hq | hq
        · simp only [tabS, List.mem_cons, List.not_mem_nil, or_false] at hq
          rcases hq with rfl | rfl
          · exact Nat.lt_trans (lc (168, tabObj #[]) (List.mem_append_right _ (.head _))) lf
          · exact lf
        · exact Nat.lt_trans (lc q (List.mem_append_right _ (.tail _ hq))) lf
    refine h f c' oc ctv h' tk F' (fun q hq => N' q ?_) ⟨vs, t, hd, hv⟩ lall (.inr lc)
    rcases List.mem_cons.mp hq with rfl | hq
    · exact .head _
    · refine .tail _ ?_
      rcases List.mem_append.mp hq with hq | hq
      · exact .tail _ (List.mem_append_left _ hq)
      · rcases List.mem_append.mp hq with hq | hq
        · simp only [tabS, List.mem_cons, List.not_mem_nil, or_false] at hq
          rcases hq with rfl | rfl
          · exact .tail _ (List.mem_append_right _ (.head _))
          · exact .head _
        · exact .tail _ (List.mem_append_right _ (.tail _ hq))
  | some q =>
    obtain ⟨c', oc⟩ := q
    refine kla_hit (c := 170) (P := 168) (ps := #[rawInt 250, rawInt 71, .ref c']) F N T C rfl (List.mem_append_right _ (.head _)) (by simp [TriplesOk, rawInt]) (c' := c') (by simp [codeAmong, rawInt]) hcl ?_
    intro f ctv h' tk F' N' lf
    exact h f c' oc ctv h' tk F' N' htb lf (.inl rfl)
end
end
section
open PyProof.Rows (firstMet)
section
variable {prog : Program} {w : World} {A : Around} {R : Result → Shared → Prop}
theorem loop_one {I l S : Addr} {s : Shared} {y : Str} {ty : Tok} (hh : A.in1.handled = none) (hIS : I ≠ S) (hlS : l ≠ S) (hlI : l ≠ I) (hI : s.heap.IsListIter I l 0) (hl : s.heap.IsList l #[.str y ty])
    (hS : s.heap.SetOf (PySem.strKind prog w) S (fun _ => false) 0)
    (hR : ∀ h' tk, (∀ b o, b ≠ S → b ≠ I → s.heap.get? b = some o → h'.get? b = some o) → h'.SetOf (PySem.strKind prog w) S (fun k' => decide (k' = y)) 1 → R (.ok (.ret .none)) { s with heap := h', toks := tk }) :
    codeAny (model prog w) A (.builtin "set.update.loop" ⟨[.ref S, .ref I], []⟩) R s := by
  refine codeAny_builtin PyProof.Rows.F.entry_set_update_loop ?_
  rw [Around.under_plainId PyProof.Rows.F.plain_set_update_loop _]
  show wpAny _ A.in1 (pyNext (.ref I) >>= _) _ _ s
  refine wpAny_bind (wpAny_pyNext_list_item hI hl (x := .str y ty) rfl fun h' hI' hs' => ?_)
  have hS' : h'.SetOf (PySem.strKind prog w) S (fun _ => false) 0 := by
    obtain ⟨o, es, ep, tb, ho, rest⟩ := hS
    exact ⟨o, es, ep, tb, hs'.extBut _ _ (Ne.symm hIS) ho, rest⟩
  have hl' : h'.IsList l #[.str y ty] := by
    obtain ⟨o, ho, r⟩ := hl
    exact ⟨o, hs'.extBut _ _ hlI ho, r⟩
  show wpAny _ A.in1 (holding [Value.str y ty] (setAdd S (.str y ty)) >>= _) _ _ _
  refine wpAny_bind (wpAny_holding ?_)
  unfold setAdd
  refine wpAny_holding ?_
  refine wpAny_bind ((PySem.strKind prog w).pyHash (k := y) (strKind_is _ _ _ _) ?_)
  refine wpAny_setAddHashed_of (knd := PySem.strKind prog w) (s := { s with heap := h', toks := s.toks + 1 }) (strKind_is _ _ _ _) rfl hS' (by decide) fun h2 hsb hS2 => ?_
  have hI2 : h2.IsListIter I l 1 := by
    obtain ⟨o, ho, r⟩ := hI'
    exact ⟨o, by rw [hsb.2 I hIS]; exact ho, r⟩
  have hl2 : h2.IsList l #[.str y ty] := by
    obtain ⟨o, ho, r⟩ := hl'
    exact ⟨o, by rw [hsb.2 l hlS]; exact ho, r⟩
  have hS3 : h2.SetOf (PySem.strKind prog w) S (fun k' => decide (k' = y)) 1 := PyProof.Rows.SetOf_congr hS2 (fun k' => by simp) (by simp)
  refine wpAny_pure ⟨plainId_quiet PyProof.Rows.F.plain_set_update_loop _, codeAny_builtin PyProof.Rows.F.entry_set_update_loop ?_⟩
  rw [Around.under_plainId PyProof.Rows.F.plain_set_update_loop _]
  show wpAny _ A.in1 (pyNext (.ref I) >>= _) _ _ _
  refine wpAny_bind (wpAny_pyNext_list_end hh hI2 hl2 rfl fun h3 he => ?_)
  show wpAny _ A.in1 (ret Value.none) _ _ _
  refine wpAny_pure (hR h3 _ (fun b o h1 h4 e => he b o h4 ?_) ?_)
  · rw [hsb.2 b h1]
    exact hs'.extBut _ _ h4 e
  · obtain ⟨o, es, ep, tb, ho, rest⟩ := hS3
    exact ⟨o, es, ep, tb, he _ _ (Ne.symm hIS) ho, rest⟩
end
section
variable {prog : Program} {w : World} {A : Around} {E : Value → Shared → Prop} {s : Shared}
set_option maxHeartbeats 3200000 in
theorem call_set_one {l : Addr} {y : Str} {ty : Tok} {Q : Value → Shared → Prop}
    (hh : A.handled = none) (hl : s.heap.IsList l #[.str y ty])
    (h : ∀ (h' : Heap) (tk : Nat), h'.SetOf (PySem.strKind prog w) s.heap.objs.size (fun k' => decide (k' = y)) 1 →
      (∀ b o, b < s.heap.objs.size → s.heap.get? b = some o → h'.get? b = some o) → Q (.ref s.heap.objs.size) { s with heap := h', toks := tk }) :
    wpAny (model prog w) A (call (.type "set") [.ref l]) Q E s := by
  obtain ⟨c, tl, hmro⟩ := PySem.F.called_set.mro
  have hmade := PySem.F.called_set.made
  have hsub := PySem.F.called_set.sub
  refine wpAny_call (codeAny_of_tree ?_)
  show wpAny _ _ (callAny (.type "set") _) _ _ _
  refine wpAny_pure ⟨Code.quiet_builtin _ (by decide +kernel), codeAny_builtin PySem.F.entry_type_call ?_⟩
  rw [Around.under_plain (weight_type_call_type "set" [.ref l] []) rfl]
  have h1 := PySem.F.called_set.notType
  have h2 := PySem.F.called_set.canCreate
  have hct := PySem.F.typeCall_set_1 (.ref l)
  repeat (any_goals (first | assumption | wp_step))
  refine codeAny_mono (code_set_new_1 (.ref l) (E := E) (Q₁ := fun obj s₁ => ∃ led : Bool, obj = .ref s.heap.objs.size ∧ s₁ = { s with heap := s.heap.push { cls := .type "set", dict := none, data := .set #[] 0 (.fresh 0 0 led) } }) fun led => ⟨led, rfl, rfl⟩) fun r s₁ hr => ?_
  cases r with
  | error e => exact hr
  | ok fl =>
    cases fl with
    | ret obj =>
      obtain ⟨led, rfl, rfl⟩ := hr
      have hS : (s.heap.push { cls := .type "set", dict := none, data := .set #[] 0 (.fresh 0 0 led) }).get? s.heap.objs.size = some { cls := .type "set", dict := none, data := .set #[] 0 (.fresh 0 0 led) } := Heap.get?_push_size _ rfl
      have hT : Shared.TypeIs { s with heap := s.heap.push { cls := .type "set", dict := none, data := .set #[] 0 (.fresh 0 0 led) } } (.ref s.heap.objs.size) "set" := ⟨_, hS, rfl⟩
      have hli := PySem.F.called_set.init.lookup
      have hbi := PySem.F.called_set.init.bind (.ref s.heap.objs.size)
      repeat (any_goals (first | assumption | wp_step))
      refine codeAny_mono (codeAny_call_builtin (R := wants (fun r s₂ => r = .none ∧ ∃ h' tk, s₂ = { s with heap := h', toks := tk } ∧
          h'.SetOf (PySem.strKind prog w) s.heap.objs.size (fun k' => decide (k' = y)) 1 ∧
          (∀ b o, b < s.heap.objs.size → s.heap.get? b = some o → h'.get? b = some o)) E) PySem.F.called_set.init.plain PySem.F.entry_set_init (check_set_init_1 hT ?_)) fun r₂ s₂ hr₂ => ?_
      · obtain ⟨ol, hol, hcl, nl, hdl⟩ := hl
        obtain ⟨ocls, odict, odata, oslots⟩ := ol
        simp only at hcl hdl
        subst hcl; subst hdl
        have hol' : (s.heap.push { cls := .type "set", dict := none, data := .set #[] 0 (.fresh 0 0 led) }).get? l = some { cls := .type "list", dict := odict, data := .seq #[.str y ty] nl, slots := oslots } := Heap.get?_push_of_some _ hol
        have hsls := PySem.F.sub_list_set
        have hslf := PySem.F.sub_list_frozenset
        have hne : (Value.type "list" == Value.type "dict") = false := by decide
        have hl1 : (s.heap.push { cls := .type "set", dict := none, data := .set #[] 0 (.fresh 0 0 led) }).IsList l #[.str y ty] := ⟨_, hol', rfl, nl, rfl⟩
        unfold Builtin.«set.__init__» noKeywords Builtin.Frozenset.updateFrom
        generalize hPI : pyIter = PI
        wp_walk
        subst hPI
        refine wpAny_pyIter_list hl1 ?_
        refine wpAny_bind (wpAny_runValue ?_)
        have hlS : l < s.heap.objs.size := Heap.lt_size hol
        have hneI : l ≠ (s.heap.push { cls := .type "set", dict := none, data := .set #[] 0 (.fresh 0 0 led) }).objs.size := by
          rw [Heap.size_push]; exact Nat.ne_of_lt (Nat.lt_succ_of_lt hlS)
        have hIS : (s.heap.push { cls := .type "set", dict := none, data := .set #[] 0 (.fresh 0 0 led) }).objs.size ≠ s.heap.objs.size := by
          rw [Heap.size_push]; exact Nat.ne_of_gt (Nat.lt_succ_self _)
        refine loop_one (y := y) (ty := ty) (by simp [hh]) hIS (Nat.ne_of_lt hlS) hneI ⟨_, Heap.get?_push_size _ rfl, rfl, rfl⟩ (hl1.push _) ?hS0 ?hR
        case hS0 =>
          have hget : ((s.heap.push { cls := .type "set", dict := none, data := .set #[] 0 (.fresh 0 0 led) }).push { cls := .type "list_iterator", data := .fields #[.ref l, .int 0 0] }).get? s.heap.objs.size
              = some { cls := .type "set", dict := none, data := .set #[] 0 (.fresh 0 0 led) } := Heap.get?_push_of_some _ hS
          exact PyProof.Rows.SetOf_congr ((PyProof.Rows.setObjOf_fresh (knd := PySem.strKind prog w) led).setOf hget (by unfold scanBound; omega)) (fun _ => rfl) rfl
        case hR =>
          intro h' tk' hk' hS'
          show wpAny _ _ _ _ _ _
          refine wpAny_pure ?_
          show wpAny _ _ (ret Value.none) _ _ _
          refine wpAny_pure ⟨rfl, h', tk', rfl, hS', fun b o hb e => ?_⟩
          have hb1 : b ≠ s.heap.objs.size := Nat.ne_of_lt hb
          have hb2 : b ≠ (s.heap.push { cls := .type "set", dict := none, data := .set #[] 0 (.fresh 0 0 led) }).objs.size := by
            rw [Heap.size_push]; exact Nat.ne_of_lt (Nat.lt_succ_of_lt hb)
          exact hk' b o hb1 hb2 (Heap.get?_push_of_some _ (Heap.get?_push_of_some _ e))
      · cases r₂ with
        | error e => exact hr₂
        | ok fl₂ =>
          cases fl₂ with
          | ret r =>
            obtain ⟨rfl, h', tk, rfl, hS', hk'⟩ := hr₂
            repeat (any_goals (first | assumption | wp_step))
            exact h _ _ hS' hk'
          | _ => exact hr₂.elim
    | _ => exact hr.elim
/-- set of a list of one text -/
theorem set_one {h₀ : Heap} {L : Addr} {m : Str → Option Value} {news : List (Addr × Obj)} {l : Addr} {kn : Nat} {y : Str} {ty : Tok} {Q : Value → Shared → Prop} (hh : A.handled = none) (F : Fr h₀ L s.heap m) (N : News h₀ L s.heap news) (hl : (l, listOf #[.str y ty] kn) ∈ news)
    (h : ∀ D h' tk o, Fr h₀ L h' m → News h₀ L h' ((D, o) :: news) → (∀ p ∈ news, p.1 < D) → o.SetObjOf (PySem.strKind prog w) (fun k => decide (k = y)) 1 → Q (.ref D) { s with heap := h', toks := tk }) :
    wpAny (model prog w) A (call (.type "set") [.ref l]) Q E s := by
  refine call_set_one (y := y) (ty := ty) hh ⟨_, (N _ hl).1, rfl, _, rfl⟩ fun h' tk hS hk => ?_
  obtain ⟨o, ho, hso⟩ := hS.objOf
  obtain ⟨oL, _, _, hL, _⟩ := F.ns
  have hLlt : L < s.heap.objs.size := Heap.lt_size hL
  refine h _ h' tk o ⟨F.ns.at' fun o' e => hk L o' hLlt e, fun b o' e => hk b o' (Heap.lt_size (F.keep b o' e)) (F.keep b o' e), F.above⟩ (fun p hp => ?_) (fun p hp => Heap.lt_size (N p hp).1) hso
  rcases List.mem_cons.mp hp with rfl | hp
  · refine ⟨ho, Nat.ne_of_gt hLlt, ?_⟩
    cases hq : h₀.get? s.heap.objs.size with
    | none => rfl
    | some o' => exact absurd (Heap.lt_size (F.keep _ _ hq)) (Nat.lt_irrefl _)
  · exact ⟨hk _ _ (Heap.lt_size (N p hp).1) (N p hp).1, (N p hp).2.1, (N p hp).2.2⟩
end
end
section
/-- the law's 48 operators, from 7 on -/
def ops : List Str := [Str.ofString "(", Str.ofString ")", Str.ofString "[", Str.ofString "]", Str.ofString ":", Str.ofString ",", Str.ofString ";", Str.ofString "+", Str.ofString "-", Str.ofString "*", Str.ofString "/", Str.ofString "|", Str.ofString "&", Str.ofString "<", Str.ofString ">", Str.ofString "=", Str.ofString ".", Str.ofString "%", Str.ofString "{", Str.ofString "}", Str.ofString "==", Str.ofString "!=", Str.ofString "<=", Str.ofString ">=", Str.ofString "~", Str.ofString "^", Str.ofString "<<", Str.ofString ">>", Str.ofString "**", Str.ofString "+=", Str.ofString "-=", Str.ofString "*=", Str.ofString "/=", Str.ofString "%=", Str.ofString "&=", Str.ofString "|=", Str.ofString "^=", Str.ofString "<<=", Str.ofString ">>=", Str.ofString "**=", Str.ofString "//", Str.ofString "//=", Str.ofString "@", Str.ofString "@=", Str.ofString "->", Str.ofString "...", Str.ofString ":=", Str.ofString "!"]
def intOf : PyData → Option Int
  | .int n => some n
  | _ => none
section
variable {prog : Program} {w : World} {A : Around} {E : Value → Shared → Prop} {s : Shared} {h₀ : Heap} {L : Addr} {m : Str → Option Value} {env : Env} {news : List (Addr × Obj)}
theorem valueAt_stored {K : Type} [DecidableEq K] (kvs : List (K × Value)) (k k' : K) (v : Value) : valueAt (stored kvs k v) k' = if k' = k then some v else valueAt kvs k' := by
  by_cases hv : valueAt kvs k = none
  · rw [stored_absent hv]
    unfold valueAt at hv ⊢
    rw [List.find?_append]
    by_cases h : k' = k
    · subst h
      have h1 : kvs.find? (fun kv => kv.1 = k') = none := by
        cases e : kvs.find? (fun kv => kv.1 = k') with
        | none => rfl
        | some p => rw [e] at hv; cases hv
      rw [h1]; simp
    · have h' : ¬ k = k' := fun e => h e.symm
      simp only [List.find?_cons, List.find?_nil, h', decide_false, if_neg h, Option.or_none]
  · unfold stored
    have ha : kvs.any (fun kv => decide (kv.1 = k)) = true := by
      cases e : kvs.any (fun kv => decide (kv.1 = k)) with
      | true => rfl
      | false =>
        refine absurd ?_ hv
        have : kvs.find? (fun kv => decide (kv.1 = k)) = none := List.find?_eq_none.mpr fun p hp hq => by
          have h9 : kvs.any (fun kv => decide (kv.1 = k)) = true := List.any_eq_true.mpr ⟨p, hp, hq⟩
          rw [e] at h9; cases h9
        unfold valueAt
        rw [this]; rfl
    rw [if_pos ha]
    clear hv
    unfold valueAt
    induction kvs with
    | nil => simp at ha
    | cons p r ih =>
      simp only [List.map_cons, List.find?_cons]
      by_cases hp : p.1 = k
      · rw [if_pos hp]
        by_cases h : k' = k
        · rw [if_pos h, h, hp]; simp
        · rw [if_neg h]
          have h2 : ¬ p.1 = k' := fun e => h (e.symm.trans hp)
          simp only [h2, decide_false]
          by_cases hr : r.any (fun kv => decide (kv.1 = k)) = true
          · have := ih hr
            rw [if_neg h] at this
            exact this
          · have e : r.map (fun kv => if kv.1 = k then (kv.1, v) else kv) = r := by
              refine (List.map_congr_left fun q hq => ?_).trans (List.map_id r)
              rw [if_neg]; rfl
              intro e
              exact hr (List.any_eq_true.mpr ⟨q, hq, by simpa using e⟩)
            rw [e]
      · rw [if_neg hp]
        have hr : r.any (fun kv => decide (kv.1 = k)) = true := by simpa [hp] using ha
        have := ih hr
        by_cases h3 : p.1 = k'
        · have h : ¬ k' = k := fun e => hp (h3.trans e)
          simp only [h3, decide_true, if_neg h]
        · simp only [h3, decide_false]
          exact this
/-- iter of a list of the ledger -/
theorem iter_list {l : Addr} {vs : List Value} {k : Nat} {Q : Value → Shared → Prop} (F : Fr h₀ L s.heap m) (N : News h₀ L s.heap news) (hl : (l, listOf vs.toArray k) ∈ news)
    (h : ∀ I io h', IterO io l 0 → Fr h₀ L h' m → News h₀ L h' ((I, io) :: news) → (∀ p ∈ news, p.1 < I) → Q (.ref I) { s with heap := h' }) :
    wpAny (model prog w) A (call (.builtin "iter") [.ref l]) Q E s := by
  refine call_function_entry (by decide +kernel) (by decide +kernel) kdk_entry_iter (kdk_args_iter _) ?_
  unfold Builtin.«iter»
  refine wpAny_bind (m := someArgs "iter" 1 2 _) (wpAny_of_eq (a := [Value.ref l]) (by first | rfl | kernel_rfl!) ?_)
  show wpAny _ _ (pyIter (.ref l) >>= _) _ _ _
  have hls : s.heap.IsList l vs.toArray := ⟨_, (N _ hl).1, rfl, k, rfl⟩
  refine wpAny_bind (wpAny_pyIter_list hls ?_)
  exact wpAny_pure ⟨_, rfl, h _ _ _ ⟨rfl, rfl⟩ (F.push _) (News.push F N _ rfl) (fun q hq => Heap.lt_size (N q hq).1)⟩
theorem tok_lookup : ∀ p ∈ tokD, ∃ n, p.2 = .int n ∧ lookup (.str p.1) (tokD.map fun p => (PyData.str p.1, p.2)) = some (.int n) := by
  have h : (tokD.all fun p => match lookup (.str p.1) (tokD.map fun p => (PyData.str p.1, p.2)), p.2 with | some (.int a), .int b => a == b | _, _ => false) = true := by decide +kernel
  intro p hp
  have := List.all_eq_true.mp h p hp
  revert this
  cases e1 : lookup (.str p.1) (tokD.map fun p => (PyData.str p.1, p.2)) with
  | none => intro h; cases h
  | some d =>
    cases d <;> try (intro h; cases h; done)
    rename_i a
    cases e2 : p.2 <;> try (intro h; cases h; done)
    rename_i b
    intro h
    have : a = b := by simpa using h
    exact ⟨b, rfl, by rw [this]⟩
theorem tok_inj : ∀ p ∈ tokD, ∀ q ∈ tokD, p.2 = q.2 → p.1 = q.1 := by
  have h : ∀ p ∈ tokD, ∀ q ∈ tokD, intOf p.2 = intOf q.2 → p.1 = q.1 := by decide +kernel
  exact fun p hp q hq e => h p hp q hq (by rw [e])
theorem tok_ops : ∀ i : Nat, i < 48 → ∃ j < 48, ∃ k n, tokD[j]? = some (k, .int n) ∧ n = (i : Int) + 7 ∧ ops[i]? = some k := by
  have h : ∀ i : Nat, i < 48 → ∃ j < 48, (tokD[j]?.bind fun p => intOf p.2) = some ((i : Int) + 7) ∧ ops[i]? = tokD[j]?.map (·.1) := by decide +kernel
  intro i hi
  obtain ⟨j, hj, h1, h2⟩ := h i hi
  cases e : tokD[j]? with
  | none => rw [e] at h1; cases h1
  | some p =>
    rw [e] at h1 h2
    obtain ⟨k, d⟩ := p
    cases d <;> try (cases h1; done)
    rename_i n
    exact ⟨j, hj, k, n, e, by simpa [intOf] using h1, by rw [h2]; rfl⟩
/-- the words read so far -/
structure WordsTo (i : Nat) (kvs : List (Int × Value)) : Prop where
  len : kvs.length ≤ i
  all : ∀ j < i, ∀ k n, tokD[j]? = some (k, .int n) → ∃ t, valueAt kvs n = some (.str k t)
theorem WordsTo.step {i : Nat} {kvs : List (Int × Value)} {k : Str} {n : Int} {t : Tok} (W : WordsTo i kvs) (h : tokD[i]? = some (k, .int n)) : WordsTo (i + 1) (stored kvs n (.str k t)) := by
  refine ⟨?_, fun j hj k' n' h' => ?_⟩
  · have := stored_length_le kvs n (.str k t)
    have := W.len
    omega
  · rw [valueAt_stored]
    by_cases e : n' = n
    · rw [if_pos e]
      refine ⟨t, ?_⟩
      have := tok_inj _ (List.mem_of_getElem? h') _ (List.mem_of_getElem? h) (by rw [e])
      rw [show k' = k from this]
    · rw [if_neg e]
      refine W.all j ?_ k' n' h'
      have : j ≠ i := fun q => by rw [q, h] at h'; cases h'; exact e rfl
      omega
theorem WordsTo.word {kvs : List (Int × Value)} (W : WordsTo 48 kvs) {i : Nat} {y : Str} (h : ops[i]? = some y) : ∃ t, valueAt kvs ((i : Int) + 7) = some (.str y t) := by
  have hi : i < 48 := (List.getElem?_eq_some_iff.mp h).1
  obtain ⟨j, hj, k, n, h1, rfl, h3⟩ := tok_ops i hi
  obtain ⟨t, ht⟩ := W.all j hj k _ h1
  rw [h] at h3
  cases h3
  exact ⟨t, ht⟩
theorem DSrc.tok {K : Type} [DecidableEq K] {knd : KeyKind PR w K} {kx vx : PySem.Expr} {x : Str} {scope : Scope} {cl : List (Str × Addr)} {Fin : Shared → (List (K × Value) → List (Addr × Obj) → Prop) → Prop} (Inv : Nat → List (K × Value) → List (Addr × Obj) → Prop)
    (hh : A.handled = none) (F : Fr h₀ L s.heap m) (X : (Mine.hd0.heap_1_41 w.params).In h₀) (N : News h₀ L s.heap news) (hlen : ∀ i (kvs : List (K × Value)) nw, Inv i kvs nw → kvs.length ≤ i) (h0 : Inv 0 [] news)
    (turn : ∀ I h, DTurn PR w A h₀ L m env knd kx vx x scope cl { s with heap := h } I (fun i v => ∃ k dv t, tokD[i]? = some (k, dv) ∧ v = .str k t) Inv tokD.length)
    (fin : ∀ h, Fin { s with heap := h } (Inv tokD.length)) :
    wpAny (model PR w) A (pyIter (.ref 46)) (DSrc PR w A h₀ L m env knd kx vx x scope cl Fin) E s := by
  obtain ⟨lo, kvs, hdo, hf⟩ := tok_tab X
  obtain ⟨ep, hat₀⟩ := hdo.dictAt
  have hat : s.heap.DictAt (PySem.strKind PR w) 46 kvs ep := hat₀.at' fun o e => F.keep _ _ e
  refine wpAny_pyIter_dict lo hat ?_
  have hne : (46 : Addr) ≠ s.heap.objs.size := Nat.ne_of_lt hat.lt_size
  have hfl : tokD.length = kvs.length := by have := hf.length; simpa using this
  refine ⟨s.heap.objs.size, [s.heap.objs.size, 46], _, _, _, Inv, news, rfl, (Walks.dictKeys (knd := strKind PR w) hh _ 46 hne kvs ep).weaken (P' := fun i v => ∃ k dv t, tokD[i]? = some (k, dv) ∧ v = .str k t) ?_, ?_, fun i h st => ?_, ?_, hlen, ⟨⟨_, Heap.get?_push_size _ rfl, rfl, rfl⟩, hat.push _⟩, ?_, F.push _, N.grown (fun b o e => Heap.get?_push_of_some _ e), Nat.ne_of_lt F.ns.lt, next_is_new F, fun p hp => Nat.ne_of_lt (Heap.lt_size (N p hp).1), h0, ?_, ?_⟩
  · rintro i v ⟨k, xv, hx, hkey⟩
    obtain ⟨dv, hD, _⟩ := hf.at hx
    obtain ⟨t, rfl⟩ := Value.isStrOf_shape hkey
    rw [List.getElem?_map] at hD
    cases e : tokD[i]? with
    | none => rw [e] at hD; cases hD
    | some p =>
      rw [e] at hD
      simp only [Option.map_some, Option.some.injEq, Prod.mk.injEq, PyData.str.injEq] at hD
      exact ⟨p.1, p.2, t, rfl, by rw [hD.1]⟩
  · rw [← hfl]; exact Nat.le_of_ble_eq_true rfl
  · obtain ⟨o, e, _⟩ := st.1; exact ⟨o, e⟩
  · intro i kvs' h h' o nw st e e' k N' hi
    exact ⟨by obtain ⟨o', q, r⟩ := st.1; rw [e] at q; cases q; exact ⟨o, e', r⟩, hat₀.at' fun o e => k _ _ e⟩
  · intro b hb
    show b < (s.heap.push _).objs.size
    rw [Heap.size_push]
    rcases List.mem_cons.mp hb with rfl | hb
    · exact Nat.lt_succ_self _
    · rw [List.mem_singleton.mp hb]; exact Nat.lt_succ_of_lt hat.lt_size
  · rw [← hfl]; exact turn _ _
  · rw [← hfl]; exact fin _
end
end
section
theorem st_canLayAll0 : ∀ ns : List Str, (∀ y ∈ ns, PyData.strOk y = true) → PyData.canLayAll0 (ns.map PyData.str) = true
  | [], _ => rfl
  | y :: r, h => by simp [PyData.canLayAll0, PyData.canLay0, st_canLayAll0 r (fun z hz => h z (.tail _ hz)), h y (.head _)]
theorem st_depthAll : ∀ ns : List Str, PyData.depthAll (ns.map PyData.str) = 0
  | [] => rfl
  | _ :: r => by simp [PyData.depthAll, PyData.depth, st_depthAll r]
theorem st_shaped (ns : List Str) (h : ∀ y ∈ ns, PyData.strOk y = true) : SeqAt.shaped (.list (ns.map PyData.str)) = true := by
  simp [SeqAt.shaped, PyData.canLay0, PyData.depth, st_canLayAll0 ns h, st_depthAll]
theorem st_sameNil : ∀ ns : List Str, PySem.Spec.same (.list (ns.map PyData.str)) (.list ([] : List PyData)) = decide (ns = [])
  | [] => by simp [PySem.Spec.same, PySem.Spec.sameAll]
  | _ :: _ => by simp [PySem.Spec.same, PySem.Spec.sameAll]
theorem st_carried : ∀ {vs : List Value} {ns : List Str}, StrsAre vs ns → CarriedAll vs (ns.map PyData.str)
  | _, _, .nil => .nil
  | _, _, .cons _ t r => .cons (.str _ t) (st_carried r)
section
variable {prog : Program} {w : World} {A : Around} {E : Value → Shared → Prop} {s : Shared} {a b : Addr} {xs ys : List Value} {ns : List Str} {Q : Value → Shared → Prop}
theorem ne_nil_strs (ha : s.heap.IsList a xs.toArray) (hb : s.heap.IsList b #[]) (hi : StrsAre xs ns) (hok : ∀ y ∈ ns, PyData.strOk y = true) (hu : A.units + 64 < cLine) (h : Q (.bool (!decide (ns = []))) s) :
    wpAny (model prog w) A (compareOp .NotEq (.ref a) (.ref b)) Q E s :=
  ne_dataH_same (reads_newData ha (st_carried hi)) (reads_newData hb (st_carried (ns := []) .nil)) (st_shaped _ hok) (st_shaped [] (fun _ h => nomatch h)) hu (SeqAt.noMix_of_shape (.list .str) rfl _ _ (list_map_has fun _ => rfl) (list_map_has (l := ([] : List Str)) fun _ => rfl)) (by rw [List.map_nil, st_sameNil]; exact h)
end
theorem join_strs {prog : Program} {w : World} {A : Around} {E : Value → Shared → Prop} {s : Shared} {D : Addr} {items : List Value} {ys : List Str} {x : Str} {t : Tok} {Q : Value → Shared → Prop} (hl : s.heap.IsList D items.toArray) (hi : StrsAre items ys) (hw : (ys.map (·.length)).sum + ys.length ≤ 1048576) (hs : x.length ≤ 16)
    (hq : ∀ t' k, Q (.str (Txt.join x ys) t') { s with toks := k }) : wpAny (model prog w) A (call (.builtin "str.join") [.str x t, .ref D]) Q E s := by
  obtain ⟨l, hv, ht⟩ := strsAre_values hi
  subst hv
  subst ht
  exact SC.join hl rfl (joinOk_of (total_of_weight hw hs)) hq
theorem ConX.use {prog : Program} {w : World} {K : Frag} {f : Addr} {dp un dp' un' : Nat} {vs : List Value} {news : List (Addr × Obj)} {post : Value → List (Addr × Obj) → Prop} {cls : String} {newsX : List (Addr × Obj)} (C : ConX prog w K f dp un vs news post cls newsX) (hd : dp' ≤ dp) (hu : un' ≤ un)
    {p : Program} {loose : List Str} {mean : ExcName → Option Value} {mg mb : Str → Option Value} {gd : Option (List Code)} {cn : Str} {cs : Scope} {a : Addr} {ccd : Value} {cl : List (Str × Addr)} {outer : List Env} {A₀ : Around} {base h₀ : Heap} {L : Addr} {m : Str → Option Value} {s : Shared} {Q E : Value → Shared → Prop}
    (B : Below A₀ base outer h₀) (F : Fr h₀ L s.heap m) (X : K.In h₀) (N : News h₀ L s.heap news) (T : Top p loose mean mg mb h₀) (hk : cs.kind = .function)
    (ret : ∀ v news' h' tk', post v news' → Fr h₀ L h' m → News h₀ L h' news' → Q v { s with heap := h', toks := tk' })
    (exc : ∀ e g h' tk', Fr h₀ L g m → RaisedN base (envX cn cs L a ccd cl :: outer) e (.type cls) newsX h' → g.UpToSlots h' → E (.ref e) { s with heap := h', toks := tk' }) :
    wpAny (model prog w) (ktrTop dp' un' gd cn cs L a ccd cl outer) (call (.ref f) vs) Q E s :=
  around_mono (C p loose mean mg mb gd cn cs a ccd cl outer A₀ base h₀ L m s Q E B F X N T hk ret exc) rfl hd rfl rfl hu
section
variable {prog : Program} {w : World} {A₀ : Around} {E : Value → Shared → Prop} {s' : Shared} {h₀ g2 : Heap} {outer : List Env} {L a e : Addr} {m : Str → Option Value} {name : Str} {scope : Scope} {cd : Value}
  {b₀ : Stmt} {suite : List Stmt} {pos np : Pos} {rest : List ExceptHandler} {Q : Flow → Shared → Prop} {news : List (Addr × Obj)}
  {p : Program} {loose : List Str} {mean : ExcName → Option Value} {mg mb : Str → Option Value}
theorem caught_K (hst : A₀.frames = some outer) (F : Fr h₀ L g2 m) (hsm : g2.UpToSlots s'.heap) (R : RaisedN h₀ (envOf name scope L a cd :: outer) e (.type "StopIteration") news s'.heap) (T : Top p loose mean mg mb h₀)
    (k : ∀ h', Fr h₀ L h' m → News h₀ L h' news → g2.UpToSlots h' → wpAny (model prog w) ((A₀.deeper (envOf name scope L a cd)).mark (some (.ref e))) (execs (b₀ :: suite) (envOf name scope L a cd)) Q E { s' with heap := h' })
    (hmg : mg (Str.ofString "StopIteration") = none)
    (hk : scope.kind = .function) (hx : (envOf name scope L a cd).kindOf (Str.ofString "StopIteration") = some .globalImplicit)
    (hE : PassesOwnAt (model prog w) ((A₀.deeper (envOf name scope L a cd)).mark (some (.ref e))) (A₀.deeper (envOf name scope L a cd)) (envOf name scope L a cd) E := by passes_own) :
    wpAny (model prog w) (A₀.deeper (envOf name scope L a cd)) (noteFrame (.ref e) (envOf name scope L a cd))
      (fun _ s₂ => wpAny (model prog w) (A₀.deeper (envOf name scope L a cd)) (setFlight (.ref e) none) (fun _ s₃ =>
        wpAny (model prog w) (A₀.deeper (envOf name scope L a cd)) (handleBy (.ref e) (envOf name scope L a cd) (.ExceptHandler (some (.Name (Str.ofString "StopIteration") np)) none (b₀ :: suite) pos :: rest)) Q E s₃) E s₂) E s' := by
  obtain ⟨B, a0, hB, hl, hfl⟩ := R
  have hL : B.get? L = none := by
    obtain ⟨_, ⟨L', _, hf, hn', _⟩, _⟩ := hfl.2.2.1
    obtain rfl : L = L' := Option.some.inj hf
    exact hn'
  refine wpAny_looks_onW (Around.frames_deeper hst) rfl hfl fun h₄ held₄ u₄ => ?_
  refine wpAny_landsW held₄ fun h₅ fly₅ u₅ => ?_
  have st₅ : g2.UpToSlots h₅ := hsm.trans (u₄.trans u₅)
  have F₅ : Fr h₀ L h₅ m := ⟨st₅.ns F.ns, fun b o q => fly₅.1 b o (hB b o q), F.above⟩
  obtain ⟨ob, hob, hobc⟩ := fly₅.there
  refine wpAny_handleBy_builtin (X := "StopIteration") (T := "StopIteration") (b := true) (isSubtype_of_subB (by decide +kernel)) (isSubtype_of_subB (by decide +kernel)) (isSubtype_of_subB (by decide +kernel))
    (ld_builtin_at F₅ T.g hmg T.b ((T.builtins _ (by decide +kernel)).trans PyProof.Rows.Boot.«StopIteration») ⟨rfl, ⟨ob, hob, hobc⟩, ?_⟩ hk hx (by decide))
  refine lands_againW fly₅ fun h₆ fly₆ u₆ => ?_
  have st₆ := st₅.trans u₆
  have F₆ : Fr h₀ L h₆ m := ⟨st₆.ns F.ns, fun b o q => fly₆.1 b o (hB b o q), F.above⟩
  exact wpAny_passesOwnAt hE (k h₆ F₆ (fun q hq => ⟨fly₆.1 _ _ (hl q hq).1, (fun z => by have := (hl q hq).1; rw [z, hL] at this; cases this), (hl q hq).2⟩) st₆)
end
end
section
open PyProof.Rows.LCg (NsObj Off3 Off1 FinE FinA CompRest CompEnd block_U lst CompSrc SrcAt)
section
variable {prog : Program} {w : World} {A : Around} {E : Value → Shared → Prop} {s : Shared} {h₀ : Heap} {L : Addr} {m : Str → Option Value} {env : Env}
/-- the turns of a list comprehension, by an invariant -/
theorem rest_ind {elt : PySem.Expr} {x : Str} {scope : Scope} {cl : List (Str × Addr)} {S : List (Addr × Obj) → Prop} {P : Nat → Value → Prop} {Fin : List Value → List (Addr × Obj) → Prop} (Inv : Nat → List Value → List (Addr × Obj) → Prop) (n : Nat)
    (fin : ∀ ys nw, Inv n ys nw → Fin ys nw)
    (turn : ∀ i ys nw v I oI C oC D m₂ h tk (E' : Value → Shared → Prop), i < n → Inv i ys nw → P i v → NsObj oC m₂ → m₂ x = some v → Fr h₀ L h m → News h₀ L h ((I, oI) :: (C, oC) :: (D, lst ys) :: nw) → Off3 I C D nw → ((@Ne Nat I C) ∧ (@Ne Nat I D) ∧ (@Ne Nat C D)) →
      wpAny (model prog w) A (eval elt (compEnvC scope cl C env)) (CompEnd h₀ L m { s with heap := h, toks := tk } I oI C oC D (lst ys) S (fun y nw' => Inv (i + 1) (ys ++ [y]) nw')) E' { s with heap := h, toks := tk }) :
    ∀ k i ys nw, i + k = n → Inv i ys nw → CompRest prog w A h₀ L m env elt x scope cl s S P Fin k i ys nw
  | 0, i, ys, nw, e, hI => CompRest.zero (fin ys nw (by rw [← e]; exact hI))
  | k + 1, i, ys, nw, e, hI => CompRest.succ fun v I oI C oC D m₂ h tk E' hv hC hx F N off hne => by
    refine wpAny_mono (turn i ys nw v I oI C oC D m₂ h tk E' (by omega) hI hv hC hx F N off hne) (fun y s₂ hE => ?_) fun _ _ e => e
    obtain ⟨h', tk', nw', rfl, F', N', off', hS, hr⟩ := hE
    exact ⟨h', tk', nw', rfl, F', N', off', hS, rest_ind Inv n fin turn k (i + 1) _ _ (by omega) hr⟩
def SrcS (prog : Program) (w : World) (A : Around) (h₀ : Heap) (L : Addr) (m : Str → Option Value) (env : Env) (elt : PySem.Expr) (x : Str) (scope : Scope) (cl : List (Str × Addr)) (Fin : Shared → List Value → List (Addr × Obj) → Prop) (xv : Value) (s₁ : Shared) : Prop :=
  ∃ y t news, xv = .str y t ∧ y.cps.all (· < 128) = true ∧ A.handled = none ∧ Fr h₀ L s₁.heap m ∧ News h₀ L s₁.heap news ∧ y.cps.size ≤ sizeLine ∧
    ∀ s₂ : Shared, (∃ g, s₂ = { s₁ with heap := g }) → CompRest prog w A h₀ L m env elt x scope cl s₂ (fun _ => True) (SignAt y) (Fin s₂) y.cps.size 0 [] news
theorem ListComp_S {elt iter : PySem.Expr} {x : Str} {px : Pos} {scope : Scope} {cl : List (Str × Addr)} {pos : Pos} {Q : Value → Shared → Prop} (F₀ : Fr h₀ L s.heap m)
    (hclos : closureFor scope env = pure cl) (hcell : ∀ y ∈ scope.names, y.2 ≠ .cell) (hkind : scope.kind = .function)
    (hnames : ∀ y ∈ scope.names, y.2 = .local → scope.names.lookup y.1 = some .local) (hx : scope.names.lookup x = some .local)
    (h : wpAny (model prog w) A (eval iter env) (SrcS prog w A h₀ L m env elt x scope cl (fun s₂ => FinE h₀ L m s₂ Q)) E s)
    (hs : ∀ x, foldedSetIterable iter env x = pure x := by intro _; rfl) :
    wpAny (model prog w) A (eval (.ListComp elt [⟨.Name x px, iter, [], 0⟩] scope pos) env) Q E s := by
  rw [eval_ListComp]
  refine wpAny_comprehension_free (use := none) rfl hs hclos hkind hnames (wpAny_mono h (fun xv s₁ h₁ => ?_) fun _ _ e => e)
  obtain ⟨y, t, news, rfl, ha, hh, F, N, hsz, R⟩ := h₁
  refine wpAny_pyIter_ascii ha ?_
  refine block_U (Walks.strAscii hh s₁.heap.objs.size y t) hsz (fun i h st => by obtain ⟨o, e, _⟩ := st; exact ⟨o, e⟩) (fun i h h' o nw st e e' _ _ _ => by obtain ⟨o', q, r⟩ := st; rw [e] at q; cases q; exact ⟨o, e', r⟩) hcell hkind hx ⟨_, Heap.get?_push_size _ rfl, rfl, rfl⟩ (fun b hb => ?_)
    (F.keeps fun _ _ e => Heap.get?_push_of_some _ e) (N.grown fun _ _ e => Heap.get?_push_of_some _ e) (Nat.ne_of_lt F.ns.lt) (next_is_new F) (fun p hp => Nat.ne_of_lt (Heap.lt_size (N p hp).1)) trivial (R _ ⟨_, rfl⟩) ?_
  · rw [List.mem_singleton.mp hb]
    show s₁.heap.objs.size < (s₁.heap.push _).objs.size
    rw [Heap.size_push]; exact Nat.lt_succ_self _
  · intro D C h tk m' ys news' F' N' o1 hn hC₀ hD₀ hCL hDL hCD offC fin
    refine ⟨m', hn, fun h'' hs'' => fin D h'' tk (F'.change hs'' hCL hC₀) (fun p hp => ?_) o1⟩
    refine ⟨hs''.extBut _ _ ?_ (N' p hp).1, (N' p hp).2⟩
    rcases List.mem_cons.mp hp with rfl | hp
    · exact Ne.symm hCD
    · exact offC p hp
end
end
section
open PyProof.Rows.LCg (NsObj Off3 Off1 FinE FinA CompEnd lst SrcAt)
section
variable {prog : Program} {w : World} {A : Around} {E : Value → Shared → Prop} {s : Shared} {h₀ : Heap} {L : Addr} {m : Str → Option Value} {env : Env}
/-- the turns of a list comprehension over pairs, by an invariant -/
theorem restP_ind {elt : PySem.Expr} {x x₂ : Str} {scope : Scope} {cl : List (Str × Addr)} {S : List (Addr × Obj) → Prop} {P : Nat → Value → Prop} {Fin : List Value → List (Addr × Obj) → Prop} (Inv : Nat → List Value → List (Addr × Obj) → Prop) (n : Nat)
    (fin : ∀ ys nw, Inv n ys nw → Fin ys nw)
    (turn : ∀ i ys nw v, i < n → Inv i ys nw → P i v → ∃ (t : Addr) (ot : Obj) (v₁ v₂ : Value) (nt : Nat), v = .ref t ∧ (t, ot) ∈ nw ∧ ot.cls = .type "tuple" ∧ ot.data = .seq #[v₁, v₂] nt ∧
      ∀ I oI C oC D m₂ h tk (E' : Value → Shared → Prop), NsObj oC m₂ → m₂ x = some v₁ → m₂ x₂ = some v₂ → Fr h₀ L h m → News h₀ L h ((I, oI) :: (C, oC) :: (D, lst ys) :: nw) → Off3 I C D nw → ((@Ne Nat I C) ∧ (@Ne Nat I D) ∧ (@Ne Nat C D)) →
      wpAny (model prog w) A (eval elt (compEnvC scope cl C env)) (CompEnd h₀ L m { s with heap := h, toks := tk } I oI C oC D (lst ys) S (fun y nw' => Inv (i + 1) (ys ++ [y]) nw')) E' { s with heap := h, toks := tk }) :
    ∀ k i ys nw, i + k = n → Inv i ys nw → LCp.CompRestP prog w A h₀ L m env elt x x₂ scope cl s S P Fin k i ys nw
  | 0, i, ys, nw, e, hI => LCp.CompRestP.zero (fin ys nw (by rw [← e]; exact hI))
  | k + 1, i, ys, nw, e, hI => LCp.CompRestP.succ fun v hv => by
    obtain ⟨t, ot, v₁, v₂, nt, h1, h2, h3, h4, ht⟩ := turn i ys nw v (by omega) hI hv
    refine ⟨t, ot, v₁, v₂, nt, h1, h2, h3, h4, fun I oI C oC D m₂ h tk E' hC hx hx2 F N off hne => ?_⟩
    refine wpAny_mono (ht I oI C oC D m₂ h tk E' hC hx hx2 F N off hne) (fun y s₂ hE => ?_) fun _ _ e => e
    obtain ⟨h', tk', nw', rfl, F', N', off', hS, hr⟩ := hE
    exact ⟨h', tk', nw', rfl, F', N', off', hS, restP_ind Inv n fin turn k (i + 1) _ _ (by omega) hr⟩
end
end
section
theorem lay_2 : True := by
  k_with "my:ne" => first | exact inferInstance | exact ne_world | exact ne_shared | (refine ne_prod ?_ ?_ <;> k_extra "my:ne")
  exact True.intro
local macro_rules | `(tactic| walk_at "g1") => `(tactic| (refine gen_all (ne := ?gN) (P := ?gP) ((?gf : ∀ a, ?gP a) (gen ?gN ?gP)); (case gN => k_extra "my:ne")))
local macro_rules | `(tactic| walk_at "g2") => `(tactic| (refine gen_all2 (ne := ?gN) (P := ?gP) ((?gf : ∀ a0 a1, ?gP a0 a1) (gen2 ?gN ?gP).1 (gen2 ?gN ?gP).2); (case gN => k_extra "my:ne")))
local macro_rules | `(tactic| walk_at "g3") => `(tactic| (refine gen_all3 (ne := ?gN) (P := ?gP) ((?gf : ∀ a0 a1 a2, ?gP a0 a1 a2) (gen3 ?gN ?gP).1 (gen3 ?gN ?gP).2.1 (gen3 ?gN ?gP).2.2); (case gN => k_extra "my:ne")))
local macro_rules | `(tactic| walk_at "g4") => `(tactic| (refine gen_all4 (ne := ?gN) (P := ?gP) ((?gf : ∀ a0 a1 a2 a3, ?gP a0 a1 a2 a3) (gen4 ?gN ?gP).1 (gen4 ?gN ?gP).2.1 (gen4 ?gN ?gP).2.2.1 (gen4 ?gN ?gP).2.2.2); (case gN => k_extra "my:ne")))
local macro_rules | `(tactic| walk_at "g5") => `(tactic| (refine gen_all5 (ne := ?gN) (P := ?gP) ((?gf : ∀ a0 a1 a2 a3 a4, ?gP a0 a1 a2 a3 a4) (gen5 ?gN ?gP).1 (gen5 ?gN ?gP).2.1 (gen5 ?gN ?gP).2.2.1 (gen5 ?gN ?gP).2.2.2.1 (gen5 ?gN ?gP).2.2.2.2); (case gN => k_extra "my:ne")))
local macro_rules | `(tactic| k_lt $h:ident) => `(tactic| skip)
theorem lay_3 : True := by
  k_with "my:k_ne" => (refine neN ?_; (try dsimp only); first | (refine ne_lo (o := _) (by assumption) (by k_extra "my:mem1")) | (refine ne_hi (o := _) (by assumption) (by k_extra "my:mem1")) | (refine ne_al (o := _) (by assumption) (by k_extra "my:mem1")) | (refine ne_ar (o := _) (by assumption) (by k_extra "my:mem1")) | assumption | exact Ne.symm (by assumption) | k_extra "my:ne2" | omega)
  k_with "my:k_all" => first | assumption | exact all_lo (by assumption) (by k_extra "my:sub")
  k_with "my:sub" => first | exact fun _ h => h | (refine fun p hp => List.mem_cons_of_mem _ ?_; revert hp; revert p; k_extra "my:sub")
  exact True.intro
theorem lay_4 : True := by
  k_with "my:execs cons" => ((with_reducible refine wpAny_execs_cons ?_); (try dsimp only); (try (with_reducible refine toks_gen ?_; walk_at "g1"; intro _)))
  k_with "my:storeName" => (k_here; k_dflt (refine storeX_L (by k_asm) (by k_asm) ?_ (by rfl) (by rfl); k_whole; walk_at "g1"; intro _ _ _; (try k_sweep)))
  k_with "my:newList" => (k_here; k_dflt (refine newList_K (by k_asm) (by k_asm) ?_; k_whole); walk_at "g2"; intros _ _; intro _ _ _; (try k_sweep))
  k_with "my:call builtin:list.append" => (k_here; (with_reducible show wpAny _ _ (call (Value.builtin _) [Value.ref _, _]) _ _ _); k_dflt (refine append_K (by k_asm) (by k_asm) (by k_upd) ?_ (by size_fits); k_whole); walk_at "g1"; intro _ _ _; (try k_sweep))
  k_with "my:setAttr ref" => (k_here; k_dflt (refine set_dict (by k_asm) (by k_asm) (by k_asm) (by k_inst) (by exact rfl) (by k_is) (by k_is) (by k_is) (by k_is) (by k_get) (by k_put) (by k_upd) (by exact Nat.le_of_ble_eq_true rfl) ?_; k_whole; walk_at "g1"; intro _ _ _; (try k_sweep)))
  k_with "my:storeC" => (k_dflt (refine storeX_C (by k_asm) (by k_asm) (by rfl) (by k_updF) (by k_asm) ?_ rfl rfl; k_whole; walk_at "g2"; intros _ _; walk_at "dsN"))
  k_with "my:storeName" => (k_here; first | k_dflt (refine storeX_L (by k_asm) (by k_asm) ?_ (by rfl) (by rfl); k_whole; walk_at "g1"; intro _ _ _; (try k_sweep)) | k_extra "my:storeC")
  k_with "my:eval Dict nil nil" => (k_here; k_dflt (refine newDict_K (by k_asm) (by k_asm) (TopRead.nolimit (by k_asm)) ?_; k_whole); walk_at "g3"; intros _ _ _; intro _ _ _ _ _ _ _ _; (try k_sweep))
  k_with "my:call builtin:str.split" => ((refine splitN2A (hsz := by size_fits) (by k_asm) (by k_asm) (by first | rfl | assumption) (by first | decide | exact fitsIdx (N := 9223372036854775808) (by omega) (by omega) (Int.le_refl _)) ?_); walk_at "g3"; intros _ _ _; intro _ _ _ _ _ _)
  k_with "my:binaryOp Add str str" => ((refine SBL.add (hsz := by size_fits) ?_); walk_at "g2"; intros _ _; intro _)
  k_with "my:formatField str" => (refine formatField_str ?_; walk_at "g2"; intros _ _)
  k_with "my:newTuple" => (k_here; kup_bare; k_dflt (refine kup_newTuple (by k_asm) (by k_asm) ?_ (by kmk_size)); walk_at "g2"; intros _ _; intro _ _ _; (try k_sweep))
  k_with "my:kbm" => (k_here; k_dflt (refine kbm_bound (by k_asm) (by k_asm) (by k_asm) (by k_inst) (by k_is) (by k_is) (by k_is) (by k_is) (by k_is) (by k_is) (by decide +kernel) (by k_get) ?_; k_whole); walk_at "g2"; intros _ _; intro _ _ _; (try k_sweep))
  k_with "my:rg1_0" => (rename_i a1; revert a1; walk_at "g1"; intro _)
  k_with "my:rg1_2" => (rename_i a1 b1 b2; revert a1 b1 b2; walk_at "g1"; intro _ _ _; (try k_sweep))
  k_with "my:rg1_5" => (rename_i a1 b1 b2 b3 b4 b5; revert a1 b1 b2 b3 b4 b5; walk_at "g1"; intro _ _ _ _ _ _; (try k_sweep))
  k_with "my:rg2_2" => (rename_i a1 a2 b1 b2; revert a1 a2 b1 b2; walk_at "g2"; intros _ _; intro _ _; (try k_sweep))
  k_with "my:rg5_4" => (rename_i a1 a2 a3 a4 a5 b1 b2 b3 b4; revert a1 a2 a3 a4 a5 b1 b2 b3 b4; walk_at "g5"; intros _ _ _ _ _; intro _ _ _ _; (try k_sweep))
  k_with "my:call builtin:min cons" => ((first | with_reducible walk_at "call builtin:min" | walk_at "call builtin:min"); k_extra "my:rg2_2")
  k_with "my:call type:range cons" => ((first | with_reducible walk_at "call type:range" | walk_at "call type:range"); k_extra "my:rg5_4")
  k_with "my:setItem ref int int" => ((first | with_reducible walk_at "setItem ref int" | walk_at "setItem ref int"); k_extra "my:rg1_5")
  k_with "my:unpackItems ref" => (k_here; k_dflt (refine unpackItemsN_ (by k_asm) (by k_asm) (by kun_tup) (by exact rfl) (by exact rfl) ?_; k_whole); walk_at "g1"; intro _ _ _; (try k_sweep))
  k_with "my:subscriptTail Name Slice str ref" => ((with_reducible show wpAny _ _ (subscriptTail _ (PySem.Expr.Slice none (some _) none _) _ _) _ _ _); refine slice_strN_ns_len (s := ⟨_, _, _, _, _⟩) (by k_asm) (by k_asm) ?_; walk_at "g3"; intros _ _ _; intro _ _ _)
  k_with "my:subscriptTail Name Slice str ref" => ((with_reducible show wpAny _ _ (subscriptTail _ (PySem.Expr.Slice (some _) none none _) _ _) _ _ _); refine slice_strN_sn_len (s := ⟨_, _, _, _, _⟩) (by k_asm) (by k_asm) ?_; walk_at "g3"; intros _ _ _; intro _ _ _)
  k_with "my:subscriptTail Name Slice str ref" => ((with_reducible show wpAny _ _ (subscriptTail _ (PySem.Expr.Slice none (some (PySem.Expr.BoolOp _ _ _)) none _) _ _) _ _ _); (refine slice_all_step (s := ⟨_, _, _, _, _⟩) (by k_asm) (by k_asm) ?_); walk_at "g3"; intros _ _ _; intro _ _)
  k_with "my:rg2_3" => (rename_i a1 a2 b1 b2 b3; revert a1 a2 b1 b2 b3; walk_at "g2"; intros _ _; intro _ _ _; (try k_sweep))
  k_with "my:assign Tuple cons ref" => ((first | with_reducible walk_at "assign Tuple" | walk_at "assign Tuple"); k_extra "my:rg1_2")
  k_with "my:call builtin:set.add cons" => ((first | with_reducible walk_at "call builtin:set.add" | walk_at "call builtin:set.add"); k_extra "my:rg2_3")
  k_with "my:truthy str" => (k_here; (with_reducible show wpAny _ _ (PySem.truthy (Value.str _ _)) _ _ _); (refine KXt.truthy (by k_dflt kxw_bool) (by decide +kernel) ?_); walk_at "g1"; intro _)
  exact True.intro
section
def subcost (x y : Str) : Int := if x == y then 0 else if Txt.lower x == Txt.lower y then 1 else 2
theorem con_sub (w : World) (x y : Str) (t u : Tok) (hx : x.length ≤ 100) (hy : y.length ≤ 100) (news : List (Addr × Obj)) :
    Con PySem.Challenge.rw_tv0054_01.row.prog w (Mine.hd0.heap_1_41 w.params) 76 700 6000 [.str x t, .str y u] news (fun v n => (∃ t, v = .int (subcost x y) t) ∧ n = news) := by
  revert w x y t u hx hy news
  walk_at "g5"
  intros w x y t u
  intro hx hy
  walk_at "g1"
  intro news
  w_top off
  k_fill
  refine' Con.of (binds := [("ch_a", .str x t), ("ch_b", .str y u)]) ?k6 ?k7 ?k8 ?k9 ?kB ?kN ?c2 ?c3 ?c4 ?c5 ?_
  (( (case k6 => k_is); (case k7 => k_is); (case k8 => decide); (case k9 => (intro s9 X9; first | exact BindsTo.of_eq rfl | exact binds_K X9 rfl (by k_is) rfl rfl rfl | (refine kp_binds X9 ?_; exact fun _ => rfl))); (case kB => exact locs rfl); (case kN => (simp only [List.map_cons, List.map_nil]; decide)); (case c2 => exact rfl); (case c3 => exact rfl); (case c4 => exact rfl); (case c5 => decide); k_with "WPost" => dsimp only [WPost]; k_with "FPost" => dsimp only [FPost]))
  ((refine gen_all10 (ne := ?gN_2) (P := ?gP_2) ((?gf_2 : ∀ a0 a1 a2 a3 a4 a5 a6 a7 a8 a9, ?gP_2 a0 a1 a2 a3 a4 a5 a6 a7 a8 a9) (gen10 ?gN_2 ?gP_2).1 (gen10 ?gN_2 ?gP_2).2.1 (gen10 ?gN_2 ?gP_2).2.2.1 (gen10 ?gN_2 ?gP_2).2.2.2.1 (gen10 ?gN_2 ?gP_2).2.2.2.2.1 (gen10 ?gN_2 ?gP_2).2.2.2.2.2.1 (gen10 ?gN_2 ?gP_2).2.2.2.2.2.2.1 (gen10 ?gN_2 ?gP_2).2.2.2.2.2.2.2.1 (gen10 ?gN_2 ?gP_2).2.2.2.2.2.2.2.2.1 (gen10 ?gN_2 ?gP_2).2.2.2.2.2.2.2.2.2); (case gN_2 => k_extra "my:ne")))
  intros p loose mean mg mb gd cn cs a ccd
  ((refine gen_all10 (ne := ?gN_3) (P := ?gP_3) ((?gf_3 : ∀ a0 a1 a2 a3 a4 a5 a6 a7 a8 a9, ?gP_3 a0 a1 a2 a3 a4 a5 a6 a7 a8 a9) (gen10 ?gN_3 ?gP_3).1 (gen10 ?gN_3 ?gP_3).2.1 (gen10 ?gN_3 ?gP_3).2.2.1 (gen10 ?gN_3 ?gP_3).2.2.2.1 (gen10 ?gN_3 ?gP_3).2.2.2.2.1 (gen10 ?gN_3 ?gP_3).2.2.2.2.2.1 (gen10 ?gN_3 ?gP_3).2.2.2.2.2.2.1 (gen10 ?gN_3 ?gP_3).2.2.2.2.2.2.2.1 (gen10 ?gN_3 ?gP_3).2.2.2.2.2.2.2.2.1 (gen10 ?gN_3 ?gP_3).2.2.2.2.2.2.2.2.2); (case gN_3 => k_extra "my:ne")))
  intros cl outer base g h₁ L' L₀ s tk R
  intro F' N' B' X' T'
  k_extra "my:go"
  all_goals ((((try dsimp only); refine ⟨_, _, _, _, _, _, rfl, by k_asm, by k_asm, (by first | (((try dsimp only); k_extra "my:inl")) | exact fun _ h => h), ?_⟩)); exact ⟨ktn_int (by simp [subcost, *]), rfl⟩)
end
section
section
variable {x y : Str} {k : Int}
theorem back_item (h0 : 0 ≤ k) (h : k < x.length) : Txt.item x ((x.length : Int) - 1 - k) = Txt.item x (-k - 1) := by
  rw [item_neg (x := x) (i := -k - 1) (by omega) (by omega)]
  congr 1
  omega
theorem back_more (h0 : 0 ≤ k) (hk : k ≤ cpl (chs x).reverse (chs y).reverse) (hx : k < x.length) (hy : k < y.length) (e : (Txt.item x ((x.length : Int) - 1 - k) == Txt.item y ((y.length : Int) - 1 - k)) = true) : k + 1 ≤ cpl (chs x).reverse (chs y).reverse := by
  rw [back_item h0 hx, back_item h0 hy] at e
  have := post_more (x := x) (y := y) (k := -k) (by omega) (by omega) (by omega) (by omega) e
  omega
theorem back_stop (h0 : 0 ≤ k) (hk : k ≤ cpl (chs x).reverse (chs y).reverse) (hx : k < x.length) (hy : k < y.length) (e : (Txt.item x ((x.length : Int) - 1 - k) == Txt.item y ((y.length : Int) - 1 - k)) = false) : k = cpl (chs x).reverse (chs y).reverse := by
  rw [back_item h0 hx, back_item h0 hy] at e
  have := post_stop (x := x) (y := y) (k := -k) (by omega) (by omega) (.inr (.inr ⟨by omega, by omega, e⟩))
  omega
end
theorem con_stretch (w : World) (x y : Str) (t u : Tok) (hx : x.length ≤ 2000) (hyx : y.length ≤ x.length) (news : List (Addr × Obj)) :
    Con PySem.Challenge.rw_tv0054_01.row.prog w (Mine.hd0.heap_1_41 w.params) 249 600 5000 [.str x t, .str y u] news (fun v n => (∃ t, v = .int (stretchL (chs x) (chs y)) t) ∧ n = news) := by
  revert w x y t u hx hyx news
  walk_at "g5"
  intros w x y t u
  intro hx hyx
  walk_at "g1"
  intro news
  w_top off
  k_fill
  refine' Con.of (binds := [("whole", .str x t), ("left", .str y u)]) ?k6 ?k7 ?k8 ?k9 ?kB ?kN ?c2 ?c3 ?c4 ?c5 ?_
  (( (case k6 => k_is); (case k7 => k_is); (case k8 => decide); (case k9 => (intro s9 X9; first | exact BindsTo.of_eq rfl | exact binds_K X9 rfl (by k_is) rfl rfl rfl | (refine kp_binds X9 ?_; exact fun _ => rfl))); (case kB => exact locs rfl); (case kN => (simp only [List.map_cons, List.map_nil]; decide)); (case c2 => exact rfl); (case c3 => exact rfl); (case c4 => exact rfl); (case c5 => decide); k_with "WPost" => dsimp only [WPost]; k_with "FPost" => dsimp only [FPost]))
  ((refine gen_all10 (ne := ?gN_7) (P := ?gP_7) ((?gf_7 : ∀ a0 a1 a2 a3 a4 a5 a6 a7 a8 a9, ?gP_7 a0 a1 a2 a3 a4 a5 a6 a7 a8 a9) (gen10 ?gN_7 ?gP_7).1 (gen10 ?gN_7 ?gP_7).2.1 (gen10 ?gN_7 ?gP_7).2.2.1 (gen10 ?gN_7 ?gP_7).2.2.2.1 (gen10 ?gN_7 ?gP_7).2.2.2.2.1 (gen10 ?gN_7 ?gP_7).2.2.2.2.2.1 (gen10 ?gN_7 ?gP_7).2.2.2.2.2.2.1 (gen10 ?gN_7 ?gP_7).2.2.2.2.2.2.2.1 (gen10 ?gN_7 ?gP_7).2.2.2.2.2.2.2.2.1 (gen10 ?gN_7 ?gP_7).2.2.2.2.2.2.2.2.2); (case gN_7 => k_extra "my:ne")))
  intros p loose mean mg mb gd cn cs a ccd
  ((refine gen_all10 (ne := ?gN_8) (P := ?gP_8) ((?gf_8 : ∀ a0 a1 a2 a3 a4 a5 a6 a7 a8 a9, ?gP_8 a0 a1 a2 a3 a4 a5 a6 a7 a8 a9) (gen10 ?gN_8 ?gP_8).1 (gen10 ?gN_8 ?gP_8).2.1 (gen10 ?gN_8 ?gP_8).2.2.1 (gen10 ?gN_8 ?gP_8).2.2.2.1 (gen10 ?gN_8 ?gP_8).2.2.2.2.1 (gen10 ?gN_8 ?gP_8).2.2.2.2.2.1 (gen10 ?gN_8 ?gP_8).2.2.2.2.2.2.1 (gen10 ?gN_8 ?gP_8).2.2.2.2.2.2.2.1 (gen10 ?gN_8 ?gP_8).2.2.2.2.2.2.2.2.1 (gen10 ?gN_8 ?gP_8).2.2.2.2.2.2.2.2.2); (case gN_8 => k_extra "my:ne")))
  intros cl outer base g h₁ L' L₀ s tk R
  intro F' N' B' X' T'
  simp only [kstB] at F'
  have hcl := cpl_le_left (chs x) (chs y)
  have hcr := cpl_le_right (chs x) (chs y)
  rw [chs_length] at hcl hcr
  k_extra "my:go"
  refine whileR (σ := Int × Tok) (fun _ => news) (fun c => [("whole", .str x t), ("left", .str y u), ("front", .int c.1 c.2)])
    (fun c => 0 ≤ c.1 ∧ c.1 ≤ (cpl (chs x) (chs y) : Int)) (fun c => c.1 = (cpl (chs x) (chs y) : Int)) (fun c => y.length - c.1.toNat) (0, _) (by assumption) (by assumption) (by k_extra "my:names") ?_ ?_ ?_
  · constructor <;> (dsimp only; omega)
  · walk_at "g4"
    intros c u' h tk
    rintro hp F' N'
    k_sweep
    simp only [kstB] at F'
    obtain ⟨hp0, hp1⟩ := hp
    k_extra "my:go"
    · (refine ⟨(_, _), _, _, _, _, rfl, by k_asm, by k_asm, by (((try dsimp only); k_extra "my:inl")), by (((try dsimp only); k_extra "my:inl")), by k_extra "my:names", ?_⟩)
      have := pre_more hp0 hp1 (by omega) (by omega) (by assumption)
      dsimp only
      omega
    · (refine ⟨(_, _), _, _, _, _, rfl, by k_asm, by k_asm, by (((try dsimp only); k_extra "my:inl")), by (((try dsimp only); k_extra "my:inl")), by k_extra "my:names", ?_⟩)
      exact pre_stop hp0 hp1 (.inr (.inr ⟨by omega, by omega, by assumption⟩))
    · (refine ⟨(_, _), _, _, _, _, rfl, by k_asm, by k_asm, by (((try dsimp only); k_extra "my:inl")), by (((try dsimp only); k_extra "my:inl")), by k_extra "my:names", ?_⟩)
      exact pre_stop hp0 hp1 (by omega)
  refine pr2 ?_
  walk_at "g5"
  intros f tf u' h tk
  rintro hX F' N'
  dsimp only at hX
  simp only [kstB] at F'
  k_sweep
  dsimp only
  k_extra "my:go"
  have hrl := cpl_le_left (chs x).reverse (chs y).reverse
  have hrr := cpl_le_right (chs x).reverse (chs y).reverse
  rw [List.length_reverse, chs_length] at hrl hrr
  refine whileR (σ := Int × Tok) (fun _ => news) (fun c => [("whole", .str x t), ("left", .str y u), ("front", .int f tf), ("back", .int c.1 c.2)])
    (fun c => 0 ≤ c.1 ∧ c.1 ≤ min (cpl (chs x).reverse (chs y).reverse : Int) (y.length - f)) (fun c => c.1 = min (cpl (chs x).reverse (chs y).reverse : Int) (y.length - f)) (fun c => y.length - c.1.toNat) (0, _) (by assumption) (by assumption) (by k_extra "my:names") ?_ ?_ ?_
  · constructor <;> (dsimp only; omega)
  · refine pr2 ?_
    walk_at "g5"
    intros k tk1 u' h tk
    rintro hp F' N'
    dsimp only at hp
    k_sweep
    simp only [kstB] at F'
    obtain ⟨hp0, hp1⟩ := hp
    k_extra "my:go"
    · (refine ⟨(_, _), _, _, _, _, rfl, by k_asm, by k_asm, by (((try dsimp only); k_extra "my:inl")), by (((try dsimp only); k_extra "my:inl")), by k_extra "my:names", ?_⟩)
      have := back_more (x := x) (y := y) (k := k) (by omega) (by omega) (by omega) (by omega) (by assumption)
      dsimp only
      omega
    · (refine ⟨(_, _), _, _, _, _, rfl, by k_asm, by k_asm, by (((try dsimp only); k_extra "my:inl")), by (((try dsimp only); k_extra "my:inl")), by k_extra "my:names", ?_⟩)
      have := back_stop (x := x) (y := y) (k := k) (by omega) (by omega) (by omega) (by omega) (by assumption)
      dsimp only
      omega
    · (refine ⟨(_, _), _, _, _, _, rfl, by k_asm, by k_asm, by (((try dsimp only); k_extra "my:inl")), by (((try dsimp only); k_extra "my:inl")), by k_extra "my:names", ?_⟩)
      dsimp only
      omega
  refine pr2 ?_
  walk_at "g5"
  intros k tk1 u' h tk
  rintro hY F' N'
  dsimp only at hY
  simp only [kstB] at F'
  k_sweep
  dsimp only
  k_extra "my:go"
  (((try dsimp only); refine ⟨_, _, _, _, _, _, rfl, by k_asm, by k_asm, by (((try dsimp only); k_extra "my:inl")), ?_, rfl⟩; refine ktn_int ?_))
  unfold stretchL
  rw [chs_length, chs_length]
  omega
end
section
def StopIf : Prop := True
theorem lay_5 : True := by
  k_with "my:exec If" => ((fail_if_success k_extra "off25"); ((with_reducible have mk9 : StopIf := by assumption); clear mk9; (with_reducible show wpAny _ _ (exec (PySem.Stmt.If _ [PySem.Stmt.Assign [PySem.Expr.Tuple _ _ _] _ _] _ _) _) _ _ _); (with_reducible refine stop_in ?_)))
  k_with "my:call type:list" => ((fail_if_success k_extra "off25"); (with_reducible refine stop_in ?_))
  k_with "my:pyIter ref" => ((fail_if_success k_extra "off25"); ((with_reducible show wpAny _ _ (pyIter (Value.ref _)) (fun it s₂ => LoopAtV _ _ _ _ _ _ _ _ _ it s₂) _ _); (with_reducible refine stop_in ?_)))
  k_with "my:last pyIter ref" => ((fail_if_success k_extra "off25"); ((with_reducible show wpAny _ _ (pyIter (Value.ref _)) (fun it s₂ => LoopAtV _ _ _ _ _ _ _ _ _ it s₂) _ _); (with_reducible refine stop_in ?_)))
  k_with "my:cs" => ((fail_if_success k_extra "off25"); (k_dflt refine Con.useT (con_sub _ _ _ _ _ (by omega) (by omega) _) (by k_extra "my:us1") (by k_extra "my:us1") (by k_asm) (by k_asm) (by k_asm) (by k_asm) (by k_asm) (by k_extra "my:us2") ?_; walk_at "g3"; intros _ _ _; intro _ _; k_sweep))
  k_with "my:call ref" => ((fail_if_success k_extra "off25"); ((with_reducible show wpAny _ _ (call (Value.ref _) [_, _]) _ _ _); k_extra "my:cs"))
  exact True.intro
theorem con_lev (w : World) (x y : Str) (b : Int) (t u tb : Tok) (hx : x.length ≤ 2000) (hy : y.length ≤ 2000) (hb : -1000 ≤ b ∧ b ≤ 100000) (news : List (Addr × Obj)) :
    Con PySem.Challenge.rw_tv0054_01.row.prog w (Mine.hd0.heap_1_41 w.params) 83 600 5000 [.str x t, .str y u, .int b tb] news (fun v n => (∃ t, v = .int (levD subcost (chs x) (chs y) b) t) ∧ n = news) := by
  revert w x y b t u tb hx hy hb news
  ((refine gen_all7 (ne := ?gN_29) (P := ?gP_29) ((?gf_29 : ∀ a0 a1 a2 a3 a4 a5 a6, ?gP_29 a0 a1 a2 a3 a4 a5 a6) (gen7 ?gN_29 ?gP_29).1 (gen7 ?gN_29 ?gP_29).2.1 (gen7 ?gN_29 ?gP_29).2.2.1 (gen7 ?gN_29 ?gP_29).2.2.2.1 (gen7 ?gN_29 ?gP_29).2.2.2.2.1 (gen7 ?gN_29 ?gP_29).2.2.2.2.2.1 (gen7 ?gN_29 ?gP_29).2.2.2.2.2.2); (case gN_29 => k_extra "my:ne")))
  intros w x y b t u tb
  intro hx hy hb
  walk_at "g1"
  intro news
  w_top off
  k_fill
  refine' Con.of (binds := [("a", .str x t), ("b", .str y u), ("max_cost", .int b tb)]) ?k6 ?k7 ?k8 ?k9 ?kB ?kN ?c2 ?c3 ?c4 ?c5 ?_
  (( (case k6 => k_is); (case k7 => k_is); (case k8 => decide); (case k9 => (intro s9 X9; first | exact BindsTo.of_eq rfl | exact binds_K X9 rfl (by k_is) rfl rfl rfl | (refine kp_binds X9 ?_; exact fun _ => rfl))); (case kB => exact locs rfl); (case kN => (simp only [List.map_cons, List.map_nil]; decide)); (case c2 => exact rfl); (case c3 => exact rfl); (case c4 => exact rfl); (case c5 => decide); k_with "WPost" => dsimp only [WPost]; k_with "FPost" => dsimp only [FPost]))
  ((refine gen_all10 (ne := ?gN_31) (P := ?gP_31) ((?gf_31 : ∀ a0 a1 a2 a3 a4 a5 a6 a7 a8 a9, ?gP_31 a0 a1 a2 a3 a4 a5 a6 a7 a8 a9) (gen10 ?gN_31 ?gP_31).1 (gen10 ?gN_31 ?gP_31).2.1 (gen10 ?gN_31 ?gP_31).2.2.1 (gen10 ?gN_31 ?gP_31).2.2.2.1 (gen10 ?gN_31 ?gP_31).2.2.2.2.1 (gen10 ?gN_31 ?gP_31).2.2.2.2.2.1 (gen10 ?gN_31 ?gP_31).2.2.2.2.2.2.1 (gen10 ?gN_31 ?gP_31).2.2.2.2.2.2.2.1 (gen10 ?gN_31 ?gP_31).2.2.2.2.2.2.2.2.1 (gen10 ?gN_31 ?gP_31).2.2.2.2.2.2.2.2.2); (case gN_31 => k_extra "my:ne")))
  intros p loose mean mg mb gd cn cs a ccd
  ((refine gen_all10 (ne := ?gN_32) (P := ?gP_32) ((?gf_32 : ∀ a0 a1 a2 a3 a4 a5 a6 a7 a8 a9, ?gP_32 a0 a1 a2 a3 a4 a5 a6 a7 a8 a9) (gen10 ?gN_32 ?gP_32).1 (gen10 ?gN_32 ?gP_32).2.1 (gen10 ?gN_32 ?gP_32).2.2.1 (gen10 ?gN_32 ?gP_32).2.2.2.1 (gen10 ?gN_32 ?gP_32).2.2.2.2.1 (gen10 ?gN_32 ?gP_32).2.2.2.2.2.1 (gen10 ?gN_32 ?gP_32).2.2.2.2.2.2.1 (gen10 ?gN_32 ?gP_32).2.2.2.2.2.2.2.1 (gen10 ?gN_32 ?gP_32).2.2.2.2.2.2.2.2.1 (gen10 ?gN_32 ?gP_32).2.2.2.2.2.2.2.2.2); (case gN_32 => k_extra "my:ne")))
  intros cl outer base g h₁ L' L₀ s tk R
  intro F' N' B' X' T'
  simp only [kstB] at F'
  k_extra "my:go"
  · have e : x = y := beq_iff_eq.mp (by assumption)
    (((try dsimp only); refine ⟨_, _, _, _, _, _, rfl, by k_asm, by k_asm, (by first | (((try dsimp only); k_extra "my:inl")) | exact fun _ h => h), ?_⟩))
    exact ⟨ktn_int (by simp [levD, e]), rfl⟩
  have hne : x ≠ y := by rename (x == y) = false => q; exact fun e => by rw [e] at q; simp at q
  have hcl := cpl_le_left (chs x) (chs y)
  have hcr := cpl_le_right (chs x) (chs y)
  rw [chs_length] at hcl hcr
  refine whileR (σ := Int × Tok) (fun _ => news) (fun c => [("a", .str x t), ("b", .str y u), ("max_cost", .int b tb), ("pre", .int c.1 c.2)])
    (fun c => 0 ≤ c.1 ∧ c.1 ≤ (cpl (chs x) (chs y) : Int)) (fun c => c.1 = (cpl (chs x) (chs y) : Int)) (fun c => x.length - c.1.toNat) (0, _) (by assumption) (by assumption) (by k_extra "my:names") ?_ ?_ ?_
  · constructor <;> (dsimp only; omega)
  · walk_at "g4"
    intros c u' h tk
    intro hp F' N'
    k_sweep
    simp only [kstB] at F'
    obtain ⟨hp0, hp1⟩ := hp
    k_extra "my:go"
    · (refine ⟨(_, _), _, _, _, _, rfl, by k_asm, by k_asm, by (((try dsimp only); k_extra "my:inl")), by (((try dsimp only); k_extra "my:inl")), by k_extra "my:names", ?_⟩)
      have := pre_more hp0 hp1 (by omega) (by omega) (by assumption)
      dsimp only
      omega
    · (refine ⟨(_, _), _, _, _, _, rfl, by k_asm, by k_asm, by (((try dsimp only); k_extra "my:inl")), by (((try dsimp only); k_extra "my:inl")), by k_extra "my:names", ?_⟩)
      exact pre_stop hp0 hp1 (.inr (.inr ⟨by omega, by omega, by assumption⟩))
    · (refine ⟨(_, _), _, _, _, _, rfl, by k_asm, by k_asm, by (((try dsimp only); k_extra "my:inl")), by (((try dsimp only); k_extra "my:inl")), by k_extra "my:names", ?_⟩)
      exact pre_stop hp0 hp1 (by omega)
    · (refine ⟨(_, _), _, _, _, _, rfl, by k_asm, by k_asm, by (((try dsimp only); k_extra "my:inl")), by (((try dsimp only); k_extra "my:inl")), by k_extra "my:names", ?_⟩)
      exact pre_stop hp0 hp1 (by omega)
  refine pr2 ?_
  walk_at "g5"
  intros pr tp u' h tk
  rintro hX F' N'
  dsimp only at hX
  simp only [kstB] at F'
  k_sweep
  subst hX
  k_extra "my:go"
  have e1 : chs (Txt.slice x (some (cpl (chs x) (chs y) : Int)) none) = (chs x).drop (cpl (chs x) (chs y)) := by rw [chs_slice_from (by omega)]; rfl
  have e2 : chs (Txt.slice y (some (cpl (chs x) (chs y) : Int)) none) = (chs y).drop (cpl (chs x) (chs y)) := by rw [chs_slice_from (by omega)]; rfl
  generalize hA : Txt.slice x (some (cpl (chs x) (chs y) : Int)) none = A at *
  generalize hB : Txt.slice y (some (cpl (chs x) (chs y) : Int)) none = B at *
  refine whileR (σ := Tok × Tok × Int × Tok) (fun _ => news) (fun c => [("a", .str A c.1), ("b", .str B c.2.1), ("max_cost", .int b tb), ("post", .int c.2.2.1 c.2.2.2)])
    (fun c => c.2.2.1 ≤ 0 ∧ -c.2.2.1 ≤ (cpl (chs A).reverse (chs B).reverse : Int)) (fun c => -c.2.2.1 = (cpl (chs A).reverse (chs B).reverse : Int)) (fun c => A.length - (-c.2.2.1).toNat) (_, _, 0, _) (by assumption) (by assumption) (by k_extra "my:names") ?_ ?_ ?_
  · constructor <;> (dsimp only; omega)
  · refine pr4 ?_
    ((refine gen_all7 (ne := ?gN_38) (P := ?gP_38) ((?gf_38 : ∀ a0 a1 a2 a3 a4 a5 a6, ?gP_38 a0 a1 a2 a3 a4 a5 a6) (gen7 ?gN_38 ?gP_38).1 (gen7 ?gN_38 ?gP_38).2.1 (gen7 ?gN_38 ?gP_38).2.2.1 (gen7 ?gN_38 ?gP_38).2.2.2.1 (gen7 ?gN_38 ?gP_38).2.2.2.2.1 (gen7 ?gN_38 ?gP_38).2.2.2.2.2.1 (gen7 ?gN_38 ?gP_38).2.2.2.2.2.2); (case gN_38 => k_extra "my:ne")))
    intros ta tb' po tp u' h tk
    rintro hp F' N'
    dsimp only at hp
    simp only [kstB] at F'
    k_sweep
    obtain ⟨hp0, hp1⟩ := hp
    have hcl := cpl_le_left (chs A).reverse (chs B).reverse
    have hcr := cpl_le_right (chs A).reverse (chs B).reverse
    rw [List.length_reverse, chs_length] at hcl hcr
    by_cases hpo : po = 0
    · subst hpo
      clear hp0
      k_extra "my:go"
      · (refine ⟨(_, _, _, _), _, _, _, _, rfl, by k_asm, by k_asm, by (((try dsimp only); k_extra "my:inl")), by (((try dsimp only); k_extra "my:inl")), by k_extra "my:names", ?_⟩)
        have := post_more (x := A) (y := B) (k := 0) (by omega) hp1 (by omega) (by omega) (by assumption)
        dsimp only
        omega
      · (refine ⟨(_, _, _, _), _, _, _, _, rfl, by k_asm, by k_asm, by (((try dsimp only); k_extra "my:inl")), by (((try dsimp only); k_extra "my:inl")), by k_extra "my:names", ?_⟩)
        exact post_stop (x := A) (y := B) (k := 0) (by omega) hp1 (.inr (.inr ⟨by omega, by omega, by assumption⟩))
      · (refine ⟨(_, _, _, _), _, _, _, _, rfl, by k_asm, by k_asm, by (((try dsimp only); k_extra "my:inl")), by (((try dsimp only); k_extra "my:inl")), by k_extra "my:names", ?_⟩)
        exact post_stop (x := A) (y := B) (k := 0) (by omega) hp1 (by omega)
      · (refine ⟨(_, _, _, _), _, _, _, _, rfl, by k_asm, by k_asm, by (((try dsimp only); k_extra "my:inl")), by (((try dsimp only); k_extra "my:inl")), by k_extra "my:names", ?_⟩)
        exact post_stop (x := A) (y := B) (k := 0) (by omega) hp1 (by omega)
    · have hsA : ((Txt.slice A none (some po)).length : Int) = po + A.length := by
        have := congrArg List.length (chs_slice_neg (x := A) (j := po) (by omega) (by omega))
        rw [chs_length, List.length_take, chs_length] at this
        omega
      have hsB : ((Txt.slice B none (some po)).length : Int) = po + B.length := by
        have := congrArg List.length (chs_slice_neg (x := B) (j := po) (by omega) (by omega))
        rw [chs_length, List.length_take, chs_length] at this
        omega
      k_extra "my:go"
      all_goals ((refine ⟨(_, _, _, _), _, _, _, _, rfl, by k_asm, by k_asm, by (((try dsimp only); k_extra "my:inl")), by (((try dsimp only); k_extra "my:inl")), by k_extra "my:names", ?_⟩); first
        | (exfalso; omega)
        | exact post_stop (x := A) (y := B) (k := po) (by omega) hp1 (by omega)
        | exact post_stop (x := A) (y := B) (k := po) (by omega) hp1 (.inr (.inr ⟨by omega, by omega, by assumption⟩))
        | ((have := post_more (x := A) (y := B) (k := po) (by omega) hp1 (by omega) (by omega) (by assumption)); dsimp only; omega))
  refine pr4 ?_
  ((refine gen_all7 (ne := ?gN_44) (P := ?gP_44) ((?gf_44 : ∀ a0 a1 a2 a3 a4 a5 a6, ?gP_44 a0 a1 a2 a3 a4 a5 a6) (gen7 ?gN_44 ?gP_44).1 (gen7 ?gN_44 ?gP_44).2.1 (gen7 ?gN_44 ?gP_44).2.2.1 (gen7 ?gN_44 ?gP_44).2.2.2.1 (gen7 ?gN_44 ?gP_44).2.2.2.2.1 (gen7 ?gN_44 ?gP_44).2.2.2.2.2.1 (gen7 ?gN_44 ?gP_44).2.2.2.2.2.2); (case gN_44 => k_extra "my:ne")))
  intros ta tb' po tp u' h tk
  rintro hX F' N'
  dsimp only at hX
  simp only [kstB] at F'
  k_sweep
  have hcl := cpl_le_left (chs A).reverse (chs B).reverse
  have hcr := cpl_le_right (chs A).reverse (chs B).reverse
  rw [List.length_reverse, chs_length] at hcl hcr
  have eA : ∀ A' : Str, (po = 0 → A' = A) → (po ≠ 0 → A' = Txt.slice A none (some po)) → chs A' = cutEnd (chs A) (chs B) := fun A' h0 h1 => by
    unfold cutEnd
    rw [chs_length]
    by_cases hpo : po = 0
    · rw [h0 hpo, List.take_of_length_le (by rw [chs_length]; omega)]
    · rw [h1 hpo, chs_slice_neg (by omega) (by omega)]
      congr 1
      omega
  have eB : ∀ B' : Str, (po = 0 → B' = B) → (po ≠ 0 → B' = Txt.slice B none (some po)) → chs B' = cutEnd (chs B) (chs A) := fun B' h0 h1 => by
    have hs := cpl_symm (chs A).reverse (chs B).reverse
    unfold cutEnd
    rw [chs_length]
    by_cases hpo : po = 0
    · rw [h0 hpo, List.take_of_length_le (by rw [chs_length]; omega)]
    · rw [h1 hpo, chs_slice_neg (by omega) (by omega)]
      congr 1
      omega
  dsimp only
  refine wpAny_execs_cons ?_
  refine cutR (by assumption) (σ := Str × Tok × Tok × Tok) (fun _ => news) (fun c => [("a", .str c.1 c.2.1), ("b", .str B c.2.2.1), ("max_cost", .int b tb), ("post", .int po c.2.2.2)]) (fun c => c.1.length ≤ 2000 ∧ chs c.1 = cutEnd (chs A) (chs B)) ?_ ?_
  · k_extra "my:go"
    all_goals (dsimp only; first
      | (exfalso; omega)
      | (refine ⟨(A, _, _, _), _, _, _, _, rfl, by k_asm, by k_asm, by (((try dsimp only); k_extra "my:inl")), by (((try dsimp only); k_extra "my:inl")), by k_extra "my:names", ?_⟩; exact ⟨by dsimp only; omega, eA _ (fun _ => rfl) (fun h => absurd ‹_› h)⟩)
      | (refine ⟨(Txt.slice A none (some po), _, _, _), _, _, _, _, rfl, by k_asm, by k_asm, by (((try dsimp only); k_extra "my:inl")), by (((try dsimp only); k_extra "my:inl")), by k_extra "my:names", ?_⟩; exact ⟨by dsimp only; omega, eA _ (fun h => absurd h ‹_›) (fun _ => rfl)⟩)
      | done)
  refine pr4 ?_
  ((refine gen_all7 (ne := ?gN_49) (P := ?gP_49) ((?gf_49 : ∀ a0 a1 a2 a3 a4 a5 a6, ?gP_49 a0 a1 a2 a3 a4 a5 a6) (gen7 ?gN_49 ?gP_49).1 (gen7 ?gN_49 ?gP_49).2.1 (gen7 ?gN_49 ?gP_49).2.2.1 (gen7 ?gN_49 ?gP_49).2.2.2.1 (gen7 ?gN_49 ?gP_49).2.2.2.2.1 (gen7 ?gN_49 ?gP_49).2.2.2.2.2.1 (gen7 ?gN_49 ?gP_49).2.2.2.2.2.2); (case gN_49 => k_extra "my:ne")))
  intros A2 ta tb' tp u' h tk
  rintro ⟨hA2, eA2⟩ F' N'
  dsimp only at eA2 hA2
  simp only [kstB] at F'
  k_sweep
  dsimp only
  refine wpAny_execs_cons ?_
  refine cutR (by assumption) (σ := Str × Tok × Tok × Tok) (fun _ => news) (fun c => [("a", .str A2 c.2.1), ("b", .str c.1 c.2.2.1), ("max_cost", .int b tb), ("post", .int po c.2.2.2)]) (fun c => c.1.length ≤ 2000 ∧ chs c.1 = cutEnd (chs B) (chs A)) ?_ ?_
  · k_extra "my:go"
    all_goals (dsimp only; first
      | (exfalso; omega)
      | (refine ⟨(B, _, _, _), _, _, _, _, rfl, by k_asm, by k_asm, by (((try dsimp only); k_extra "my:inl")), by (((try dsimp only); k_extra "my:inl")), by k_extra "my:names", ?_⟩; exact ⟨by dsimp only; omega, eB _ (fun _ => rfl) (fun h => absurd ‹_› h)⟩)
      | (refine ⟨(Txt.slice B none (some po), _, _, _), _, _, _, _, rfl, by k_asm, by k_asm, by (((try dsimp only); k_extra "my:inl")), by (((try dsimp only); k_extra "my:inl")), by k_extra "my:names", ?_⟩; exact ⟨by dsimp only; omega, eB _ (fun h => absurd h ‹_›) (fun _ => rfl)⟩)
      | done)
  refine pr4 ?_
  ((refine gen_all7 (ne := ?gN_54) (P := ?gP_54) ((?gf_54 : ∀ a0 a1 a2 a3 a4 a5 a6, ?gP_54 a0 a1 a2 a3 a4 a5 a6) (gen7 ?gN_54 ?gP_54).1 (gen7 ?gN_54 ?gP_54).2.1 (gen7 ?gN_54 ?gP_54).2.2.1 (gen7 ?gN_54 ?gP_54).2.2.2.1 (gen7 ?gN_54 ?gP_54).2.2.2.2.1 (gen7 ?gN_54 ?gP_54).2.2.2.2.2.1 (gen7 ?gN_54 ?gP_54).2.2.2.2.2.2); (case gN_54 => k_extra "my:ne")))
  intros B2 ta tb' tp u' h tk
  rintro ⟨hB2, eB2⟩ F' N'
  dsimp only at eB2 hB2
  simp only [kstB] at F'
  k_sweep
  have hlev : levD subcost (chs x) (chs y) b = levT subcost (chs A2) (chs B2) b := by
    unfold levD
    rw [if_neg (fun e => hne (chs_inj e)), eA2, eB2, ← e1, ← e2]
  rw [hlev]
  clear eA eB hcl hcr hX
  have mk : StopIf := trivial
  k_extra "my:go"
  all_goals first
    | ((((try dsimp only); refine ⟨_, _, _, _, _, _, rfl, by k_asm, by k_asm, (by first | (((try dsimp only); k_extra "my:inl")) | exact fun _ h => h), ?_⟩)); exact ⟨ktn_int (by rw [levT_str, if_pos (by omega)]), rfl⟩)
    | ((((try dsimp only); refine ⟨_, _, _, _, _, _, rfl, by k_asm, by k_asm, (by first | (((try dsimp only); k_extra "my:inl")) | exact fun _ h => h), ?_⟩)); exact ⟨ktn_int (by rw [levT_str, if_neg (by omega), if_pos (by omega)]), rfl⟩)
    | skip
  refine cutR (by assumption) (σ := Str × Tok × Str × Tok) (fun _ => news) (fun c => [("a", .str c.1 c.2.1), ("b", .str c.2.2.1 c.2.2.2), ("max_cost", .int b tb)])
    (fun c => 0 < c.1.length ∧ c.1.length ≤ c.2.2.1.length ∧ c.2.2.1.length ≤ 40 ∧ levT subcost (chs A2) (chs B2) b = levS subcost (chs c.1) (chs c.2.2.1) b) ?_ ?_
  · (rename StopIf => mk); clear mk
    k_extra "my:go"
    all_goals ((try dsimp only); (refine ⟨(_, _, _, _), _, _, _, _, rfl, by k_asm, by k_asm, by (((try dsimp only); k_extra "my:inl")), by (((try dsimp only); k_extra "my:inl")), by k_extra "my:names", ?_⟩); refine ⟨by dsimp only; omega, by dsimp only; omega, by dsimp only; omega, ?_⟩; rw [levT_str, if_neg (by omega), if_neg (by omega)]; first | rw [if_pos (by omega)] | rw [if_neg (by omega)])
  refine pr4 ?_
  ((refine gen_all7 (ne := ?gN_58) (P := ?gP_58) ((?gf_58 : ∀ a0 a1 a2 a3 a4 a5 a6, ?gP_58 a0 a1 a2 a3 a4 a5 a6) (gen7 ?gN_58 ?gP_58).1 (gen7 ?gN_58 ?gP_58).2.1 (gen7 ?gN_58 ?gP_58).2.2.1 (gen7 ?gN_58 ?gP_58).2.2.2.1 (gen7 ?gN_58 ?gP_58).2.2.2.2.1 (gen7 ?gN_58 ?gP_58).2.2.2.2.2.1 (gen7 ?gN_58 ?gP_58).2.2.2.2.2.2); (case gN_58 => k_extra "my:ne")))
  intros x3 ta y3 tb' u' h tk
  rintro ⟨hx0, hxy, hy4, hl3⟩ F' N'
  dsimp only at hx0 hxy hy4 hl3
  simp only [kstB] at F'
  k_sweep
  rw [hl3, levS_str]
  rename StopIf => mk
  clear mk hl3 hlev eA2 eB2 hA2 hB2 e1 e2 hne hA hB
  dsimp only
  k_extra "my:go"
  · dsimp only
    (((try dsimp only); refine ⟨_, _, _, _, _, _, rfl, by k_asm, by k_asm, (by first | (((try dsimp only); k_extra "my:inl")) | exact fun _ h => h), ?_⟩))
    exact ⟨ktn_int (by rw [if_pos (by omega)]), rfl⟩
  rw [if_neg (by omega)]
  rename IsRange _ _ _ _ _ _ _ _ => rgX
  with_reducible rename Fr _ _ _ _ => F'
  with_reducible rename News _ _ _ _ => N'
  with_unfolding_all refine list_row rfl F' N' rgX (by omega) (by omega) ?_
  walk_at "g5"
  intros D us cap h' tk'
  intro F' N' l1 hI
  k_sweep
  clear rgX
  k_extra "my:go"
  (((with_reducible rename Fr _ _ _ _ => lF'); (with_unfolding_all refine' For_invVF lF' ?k1_60 ?k2_60 ?_; (case k1_60 => exact rfl); (case k2_60 => exact rfl); k_whole); k_extra "my:go"))
  rename IsRange _ _ _ _ _ _ _ _ => rgX
  with_reducible rename Fr _ _ _ _ => F'
  with_reducible rename News _ _ _ _ => N'
  refine forRangeR (σ := List Value × Nat × List Int × Int × Tok) (n := y3.length) (fun c => (D, listOf (List.toArray c.1) c.2.1) :: news) (fun c => [("a", .str x3 ta), ("b", .str y3 tb'), ("max_cost", .int b tb), ("row", .ref D), ("result", .int c.2.2.2.1 c.2.2.2.2)])
    (fun i c => IntsAre c.1 c.2.2.1 ∧ c.2.2.1.length = x3.length ∧ Mine.outer subcost (chs x3) b (chs y3) 0 (row0 x3.length) 0 = Mine.outer subcost (chs x3) b ((chs y3).drop i) i c.2.2.1 c.2.2.2.1)
    (fun c => Mine.outer subcost (chs x3) b (chs y3) 0 (row0 x3.length) 0 = c.2.2.2.1) (us, cap, row0 x3.length, 0, _) rfl rgX (small_one (by omega) (by omega) (by omega) (by omega)) (by rw [rangeSize_nat]; omega) F' N' (by k_extra "my:names") ⟨hI, row0_length _, rfl⟩ ?_ ?_ ?_
  · walk_at "g2"
    intros i tI
    refine pr5 ?_
    ((refine gen_all9 (ne := ?gN_61) (P := ?gP_61) ((?gf_61 : ∀ a0 a1 a2 a3 a4 a5 a6 a7 a8, ?gP_61 a0 a1 a2 a3 a4 a5 a6 a7 a8) (gen9 ?gN_61 ?gP_61).1 (gen9 ?gN_61 ?gP_61).2.1 (gen9 ?gN_61 ?gP_61).2.2.1 (gen9 ?gN_61 ?gP_61).2.2.2.1 (gen9 ?gN_61 ?gP_61).2.2.2.2.1 (gen9 ?gN_61 ?gP_61).2.2.2.2.2.1 (gen9 ?gN_61 ?gP_61).2.2.2.2.2.2.1 (gen9 ?gN_61 ?gP_61).2.2.2.2.2.2.2.1 (gen9 ?gN_61 ?gP_61).2.2.2.2.2.2.2.2); (case gN_61 => k_extra "my:ne")))
    intros us1 cap1 row1 res1 tr1 u' h tk own
    rintro hi hown ⟨hI1, hl1, hT⟩ F' N'
    dsimp only at hI1 hl1 hT F' N'
    simp only [kstB, Int.zero_add] at F'
    simp only [List.cons_append] at N'
    clear hI rgX
    have hTH := hid_in hT
    clear hT
    k_sweep
    k_extra "my:go"
    (((with_reducible rename Fr _ _ _ _ => lF'); (with_unfolding_all refine' For_invVF lF' ?k1_62 ?k2_62 ?_; (case k1_62 => exact rfl); (case k2_62 => exact rfl); k_whole); k_extra "my:go"))
    rename IsRange _ _ _ _ _ _ _ _ => rgX
    with_reducible rename Fr _ _ _ _ => F'
    with_reducible rename News _ _ _ _ => N'
    have hbi : (chs y3)[i]? = some (Txt.item y3 i) := chs_get hi
    generalize hbc : Txt.item y3 (i : Int) = bc at *
    have hbl : bc.length = 1 := by rw [← hbc]; rfl
    generalize hTT : inner subcost bc (chs x3) row1 ((i : Int) * 2) ((i : Int) * 2) 9223372036854775807 = T
    have hTTH := hid_in hTT
    refine forRangeR (σ := List Value × Nat × List Int × Int × Tok × Int × Tok × Int × Tok × Tok) (n := x3.length) (fun c => (D, listOf (List.toArray c.1) c.2.1) :: (news ++ own))
      (fun c => [("a", .str x3 ta), ("b", .str y3 tb'), ("max_cost", .int b tb), ("row", .ref D), ("result", .int c.2.2.2.1 c.2.2.2.2.1), ("distance", .int c.2.2.2.2.2.1 c.2.2.2.2.2.2.1), ("minimum", .int c.2.2.2.2.2.2.2.1 c.2.2.2.2.2.2.2.2.1), ("bchar", .str bc c.2.2.2.2.2.2.2.2.2)])
      (fun k c => IntsAre c.1 c.2.2.1 ∧ c.2.2.1.length = x3.length ∧ T.1 = c.2.2.1.take k ++ (inner subcost bc ((chs x3).drop k) (c.2.2.1.drop k) c.2.2.2.2.2.1 c.2.2.2.1 c.2.2.2.2.2.2.2.1).1 ∧ T.2 = (inner subcost bc ((chs x3).drop k) (c.2.2.1.drop k) c.2.2.2.2.2.1 c.2.2.2.1 c.2.2.2.2.2.2.2.1).2)
      (fun c => IntsAre c.1 c.2.2.1 ∧ c.2.2.1.length = x3.length ∧ T = (c.2.2.1, c.2.2.2.1, c.2.2.2.2.2.2.2.1)) (us1, cap1, row1, (i : Int) * 2, _, (i : Int) * 2, _, 9223372036854775807, _, _) rfl rgX (small_one (by omega) (by omega) (by omega) (by omega)) (by rw [rangeSize_nat]; omega) F' N' (by k_extra "my:names") ⟨hI1, hl1, by rw [← hTT]; rfl, by rw [← hTT]; rfl⟩ ?_ ?_ ?_
    · walk_at "g2"
      intros k tk2
      refine pr10 ?_
      ((refine gen_all10 (ne := ?gN_63) (P := ?gP_63) ((?gf_63 : ∀ a0 a1 a2 a3 a4 a5 a6 a7 a8 a9, ?gP_63 a0 a1 a2 a3 a4 a5 a6 a7 a8 a9) (gen10 ?gN_63 ?gP_63).1 (gen10 ?gN_63 ?gP_63).2.1 (gen10 ?gN_63 ?gP_63).2.2.1 (gen10 ?gN_63 ?gP_63).2.2.2.1 (gen10 ?gN_63 ?gP_63).2.2.2.2.1 (gen10 ?gN_63 ?gP_63).2.2.2.2.2.1 (gen10 ?gN_63 ?gP_63).2.2.2.2.2.2.1 (gen10 ?gN_63 ?gP_63).2.2.2.2.2.2.2.1 (gen10 ?gN_63 ?gP_63).2.2.2.2.2.2.2.2.1 (gen10 ?gN_63 ?gP_63).2.2.2.2.2.2.2.2.2); (case gN_63 => k_extra "my:ne")))
      intros us2 cap2 row2 res2 tr2 di2 td2 mn2 tm2 tb2
      walk_at "g4"
      intros u' h tk own2
      rintro hk hown2 ⟨hI2, hl2, hT1, hT2⟩ F' N'
      dsimp only at hI2 hl2 hT1 hT2 F' N'
      simp only [kstB, Int.zero_add] at F'
      simp only [List.cons_append] at N'
      clear hI1 rgX
      k_sweep
      have hai : (chs x3)[k]? = some (Txt.item x3 k) := chs_get hk
      rw [drop_of_get hai] at hT1 hT2
      have hturn := inner_turn subcost bc (Txt.item x3 k) ((chs x3).drop (k + 1)) row2 k di2 res2 mn2 (by omega) T ⟨hT1, hT2⟩
      clear hT1 hT2 hTT
      k_extra "my:go"
      all_goals (try dsimp only)
      · rename IntsAre (List.set _ _ _) (List.set _ _ _) => hi9
        refine ⟨(us2.set (k : Int).toNat _, cap2, row2.set (k : Int).toNat (if di2 + subcost bc (Txt.item x3 k) < (if (row2.getD (k : Int).toNat 0) < res2 then (row2.getD (k : Int).toNat 0) else res2) + 2 then di2 + subcost bc (Txt.item x3 k) else (if (row2.getD (k : Int).toNat 0) < res2 then (row2.getD (k : Int).toNat 0) else res2) + 2), (if di2 + subcost bc (Txt.item x3 k) < (if (row2.getD (k : Int).toNat 0) < res2 then (row2.getD (k : Int).toNat 0) else res2) + 2 then di2 + subcost bc (Txt.item x3 k) else (if (row2.getD (k : Int).toNat 0) < res2 then (row2.getD (k : Int).toNat 0) else res2) + 2), _, (row2.getD (k : Int).toNat 0), _, (if di2 + subcost bc (Txt.item x3 k) < (if (row2.getD (k : Int).toNat 0) < res2 then (row2.getD (k : Int).toNat 0) else res2) + 2 then di2 + subcost bc (Txt.item x3 k) else (if (row2.getD (k : Int).toNat 0) < res2 then (row2.getD (k : Int).toNat 0) else res2) + 2), _, _), _, _, _, _, rfl, by k_asm, by k_asm, by (((try dsimp only); k_extra "my:inl")), by (((try dsimp only); k_extra "my:inl")), by k_extra "my:names", ?_⟩
        refine ⟨⟨hi9, by rw [List.length_set]; exact hl2, ?_⟩, same_old rfl⟩
        dsimp only
        refine hturn _ (by rw [Int.toNat_natCast]) _ (by rw [Int.toNat_natCast, mins]) _ ?_
        exact (if_pos ‹_›).symm
      · rename IntsAre (List.set _ _ _) (List.set _ _ _) => hi9
        refine ⟨(us2.set (k : Int).toNat _, cap2, row2.set (k : Int).toNat (if di2 + subcost bc (Txt.item x3 k) < (if (row2.getD (k : Int).toNat 0) < res2 then (row2.getD (k : Int).toNat 0) else res2) + 2 then di2 + subcost bc (Txt.item x3 k) else (if (row2.getD (k : Int).toNat 0) < res2 then (row2.getD (k : Int).toNat 0) else res2) + 2), (if di2 + subcost bc (Txt.item x3 k) < (if (row2.getD (k : Int).toNat 0) < res2 then (row2.getD (k : Int).toNat 0) else res2) + 2 then di2 + subcost bc (Txt.item x3 k) else (if (row2.getD (k : Int).toNat 0) < res2 then (row2.getD (k : Int).toNat 0) else res2) + 2), _, (row2.getD (k : Int).toNat 0), _, mn2, _, _), _, _, _, _, rfl, by k_asm, by k_asm, by (((try dsimp only); k_extra "my:inl")), by (((try dsimp only); k_extra "my:inl")), by k_extra "my:names", ?_⟩
        refine ⟨⟨hi9, by rw [List.length_set]; exact hl2, ?_⟩, same_old rfl⟩
        dsimp only
        refine hturn _ (by rw [Int.toNat_natCast]) _ (by rw [Int.toNat_natCast, mins]) _ ?_
        exact (if_neg ‹_›).symm
    · refine pr10 ?_
      ((refine gen_all10 (ne := ?gN_68) (P := ?gP_68) ((?gf_68 : ∀ a0 a1 a2 a3 a4 a5 a6 a7 a8 a9, ?gP_68 a0 a1 a2 a3 a4 a5 a6 a7 a8 a9) (gen10 ?gN_68 ?gP_68).1 (gen10 ?gN_68 ?gP_68).2.1 (gen10 ?gN_68 ?gP_68).2.2.1 (gen10 ?gN_68 ?gP_68).2.2.2.1 (gen10 ?gN_68 ?gP_68).2.2.2.2.1 (gen10 ?gN_68 ?gP_68).2.2.2.2.2.1 (gen10 ?gN_68 ?gP_68).2.2.2.2.2.2.1 (gen10 ?gN_68 ?gP_68).2.2.2.2.2.2.2.1 (gen10 ?gN_68 ?gP_68).2.2.2.2.2.2.2.2.1 (gen10 ?gN_68 ?gP_68).2.2.2.2.2.2.2.2.2); (case gN_68 => k_extra "my:ne")))
      intros us2 cap2 row2 res2 tr2 di2 td2 mn2 tm2 tb2
      walk_at "g3"
      intros u' h tk
      rintro ⟨hI2, hl2, hT2⟩ F' N'
      dsimp only at hI2 hl2 hT2 F' N'
      simp only [kstB] at F'
      k_sweep
      have hT' := hid_out hTH
      rw [drop_of_get hbi, outer_step, hTT, hT2] at hT'
      dsimp only at hT'
      have hTH' := hid_in hT'
      clear hT' hTT hT2
      dsimp only
      k_extra "my:go"
      · (try dsimp only)
        refine ⟨_, _, _, _, _, _, rfl, by k_asm, by k_asm, by (((try dsimp only); k_extra "my:inl")), ?_, rfl⟩
        refine ktn_int ?_
        rw [hid_out hTH', if_pos (by omega)]
      · (try dsimp only)
        refine ⟨(us2, cap2, row2, res2, tr2), _, _, _, _, rfl, by k_asm, by k_asm, by (((try dsimp only); k_extra "my:inl")), by (((try dsimp only); k_extra "my:inl")), by k_extra "my:names", ?_⟩
        refine ⟨⟨hI2, hl2, ?_⟩, same_old rfl⟩
        dsimp only
        rw [hid_out hTH', if_neg (by omega)]
        push_cast
        rfl
    · rintro ⟨us2, cap2, row2, res2, tr2, di2, td2, mn2, tm2, tb2⟩ ⟨hI2, hl2, hT1, hT2⟩
      dsimp only at hI2 hl2 hT1 hT2 ⊢
      refine ⟨hI2, hl2, Prod.ext ?_ ?_⟩
      · rw [hT1, List.drop_of_length_le (by simp [chs_length])]
        simp [inner, ← hl2]
      · rw [hT2, List.drop_of_length_le (by simp [chs_length])]
        rfl
  · refine pr5 ?_
    ((refine gen_all8 (ne := ?gN_72) (P := ?gP_72) ((?gf_72 : ∀ a0 a1 a2 a3 a4 a5 a6 a7, ?gP_72 a0 a1 a2 a3 a4 a5 a6 a7) (gen8 ?gN_72 ?gP_72).1 (gen8 ?gN_72 ?gP_72).2.1 (gen8 ?gN_72 ?gP_72).2.2.1 (gen8 ?gN_72 ?gP_72).2.2.2.1 (gen8 ?gN_72 ?gP_72).2.2.2.2.1 (gen8 ?gN_72 ?gP_72).2.2.2.2.2.1 (gen8 ?gN_72 ?gP_72).2.2.2.2.2.2.1 (gen8 ?gN_72 ?gP_72).2.2.2.2.2.2.2); (case gN_72 => k_extra "my:ne")))
    intros us1 cap1 row1 res1 tr1 u' h tk
    rintro hT F' N'
    dsimp only at hT F' N'
    simp only [kstB] at F'
    k_sweep
    dsimp only
    k_extra "my:go"
    (((try dsimp only); refine ⟨_, _, _, _, _, _, rfl, by k_asm, by k_asm, by (((try dsimp only); k_extra "my:inl")), ?_, rfl⟩; refine ktn_int ?_))
    exact hT.symm
  · rintro ⟨us1, cap1, row1, res1, tr1⟩ ⟨hI1, hl1, hT⟩
    dsimp only at hT ⊢
    rw [hT, List.drop_of_length_le (by simp [chs_length])]
    rfl
end
theorem lay_6 : True := by
  k_with "off25" => skip
  exact True.intro
section
def pvGo : Int → Int → List Int → Option (Int × List Int)
  | val, b, [] => if b / 64 % 2 = 1 then none else some (val, [])
  | val, b, c :: l => if b / 64 % 2 = 1 then pvGo (val * 64 + c % 64) c l else some (val, c :: l)
theorem bits_low {b : Int} (h0 : 0 ≤ b) (h1 : b < 256) : Builtin.bitAnd b 63 = b % 64 ∧ Builtin.bitAnd b 64 = 64 * (b / 64 % 2) := by
  have key : ∀ n : Fin 256, Builtin.bitAnd (n.val : Int) 63 = (n.val : Int) % 64 ∧ Builtin.bitAnd (n.val : Int) 64 = 64 * ((n.val : Int) / 64 % 2) := by decide +kernel
  have := key ⟨b.toNat, by omega⟩
  simpa [Int.toNat_of_nonneg h0] using this
theorem or_low {v c : Int} (hv : 0 ≤ v) (h0 : 0 ≤ c) (h1 : c < 64) : Builtin.bitOr (v * 64) c = v * 64 + c := by
  obtain ⟨a, rfl⟩ := Int.eq_ofNat_of_zero_le hv
  obtain ⟨d, rfl⟩ := Int.eq_ofNat_of_zero_le h0
  have e1 : decide (0 ≤ Builtin.bitNot ((a : Int) * 64)) = false := by simp [Builtin.bitNot]; omega
  have e2 : decide (0 ≤ Builtin.bitNot (d : Int)) = false := by simp [Builtin.bitNot]; omega
  have nn : ∀ x : Int, Builtin.bitNot (Builtin.bitNot x) = x := fun x => by simp only [Builtin.bitNot]; omega
  unfold Builtin.bitOr Builtin.bitAnd
  rw [e1, e2]
  dsimp only
  rw [nn, nn, nn]
  have := Nat.two_pow_add_eq_or_of_lt (i := 6) (b := d) (by omega) a
  have e3 : ((a : Int) * 64).toNat = 2 ^ 6 * a := by omega
  rw [e3, Int.toNat_natCast, ← this]
  push_cast
  omega
theorem pvGo_le : ∀ (l : List Int) (val b V : Int) (r : List Int), 0 ≤ val → pvGo val b l = some (V, r) → val ≤ V
  | [], val, b, V, r, h0, h => by
    simp only [pvGo] at h
    split at h
    · cases h
    · simp only [Option.some.injEq, Prod.mk.injEq] at h; omega
  | c :: l, val, b, V, r, h0, h => by
    simp only [pvGo] at h
    split at h
    · have := pvGo_le l _ _ _ _ (by omega) h; omega
    · simp only [Option.some.injEq, Prod.mk.injEq] at h; omega
theorem pvGo_more {l : List Int} {val b V : Int} {r : List Int} (h : pvGo val b l = some (V, r)) (hb : b / 64 % 2 = 1) : ∃ c l', l = c :: l' ∧ pvGo (val * 64 + c % 64) c l' = some (V, r) := by
  cases l with
  | nil => simp [pvGo, hb] at h
  | cons c l => simp only [pvGo, if_pos hb] at h; exact ⟨c, l, rfl, h⟩
theorem pvGo_stop {l : List Int} {val b V : Int} {r : List Int} (h : pvGo val b l = some (V, r)) (hb : ¬ b / 64 % 2 = 1) : val = V ∧ l = r := by
  cases l with
  | nil => simp only [pvGo, if_neg hb, Option.some.injEq, Prod.mk.injEq] at h; exact h
  | cons c l => simp only [pvGo, if_neg hb, Option.some.injEq, Prod.mk.injEq] at h; exact h
theorem ints_get {vs : List Value} {ns : List Int} (h : IntsAre vs ns) : ∀ {i : Nat} {n : Int}, ns[i]? = some n → ∃ t, vs[i]? = some (.int n t) := by
  induction h with
  | nil => intro i n e; simp at e
  | cons n t h ih =>
    intro i n' e
    cases i with
    | zero => simp at e; exact ⟨t, by simp [e]⟩
    | succ i => simpa using ih (by simpa using e)
theorem lay_7 : True := by
  k_with "my:call builtin:next" => ((fail_if_success k_extra "off26"); (with_reducible refine stop_in ?_))
  exact True.intro
theorem con_pv (w : World) (it oa : Addr) (io : Obj) (ovs : List Value) (ons : List Int) (k i : Nat) (V : Int) (r : List Int) (b0 : Int) (rest : List (Addr × Obj)) (hio : IntsAre ovs ons) (hoct : ∀ (j : Nat) (n : Int), ons[j]? = some n → 0 ≤ n ∧ n < 256) (hi : IterO io oa i)
    (h0 : ons[i]? = some b0) (hv : pvGo (b0 % 64) b0 (ons.drop (i + 1)) = some (V, r)) (hV : V < 1000000) (off : ∀ p ∈ (oa, listOf ovs.toArray k) :: rest, p.1 ≠ it) :
    Con PySem.Challenge.rw_tv0054_01.row.prog w (Mine.hd0.heap_1_41 w.params) 45 700 6000 [.ref it] ((it, io) :: (oa, listOf ovs.toArray k) :: rest)
      (fun v n => (∃ t, v = .int V t) ∧ ∃ io' j, IterO io' oa j ∧ r = ons.drop j ∧ n = (it, io') :: (oa, listOf ovs.toArray k) :: rest) := by
  revert w it oa io ovs ons k i V r b0 rest hio hoct hi h0 hv hV off
  ((refine gen_all8 (ne := ?gN_99) (P := ?gP_99) ((?gf_99 : ∀ a0 a1 a2 a3 a4 a5 a6 a7, ?gP_99 a0 a1 a2 a3 a4 a5 a6 a7) (gen8 ?gN_99 ?gP_99).1 (gen8 ?gN_99 ?gP_99).2.1 (gen8 ?gN_99 ?gP_99).2.2.1 (gen8 ?gN_99 ?gP_99).2.2.2.1 (gen8 ?gN_99 ?gP_99).2.2.2.2.1 (gen8 ?gN_99 ?gP_99).2.2.2.2.2.1 (gen8 ?gN_99 ?gP_99).2.2.2.2.2.2.1 (gen8 ?gN_99 ?gP_99).2.2.2.2.2.2.2); (case gN_99 => k_extra "my:ne")))
  intros w it oa io ovs ons k i
  walk_at "g4"
  intros V r b0 rest
  intro hio hoct hi h0 hv hV off
  w_top off
  k_fill
  refine' Con.of (binds := [("iterator", .ref it)]) ?k6 ?k7 ?k8 ?k9 ?kB ?kN ?c2 ?c3 ?c4 ?c5 ?_
  (( (case k6 => k_is); (case k7 => k_is); (case k8 => decide); (case k9 => (intro s9 X9; first | exact BindsTo.of_eq rfl | exact binds_K X9 rfl (by k_is) rfl rfl rfl | (refine kp_binds X9 ?_; exact fun _ => rfl))); (case kB => exact locs rfl); (case kN => (simp only [List.map_cons, List.map_nil]; decide)); (case c2 => exact rfl); (case c3 => exact rfl); (case c4 => exact rfl); (case c5 => decide); k_with "WPost" => dsimp only [WPost]; k_with "FPost" => dsimp only [FPost]))
  ((refine gen_all10 (ne := ?gN_101) (P := ?gP_101) ((?gf_101 : ∀ a0 a1 a2 a3 a4 a5 a6 a7 a8 a9, ?gP_101 a0 a1 a2 a3 a4 a5 a6 a7 a8 a9) (gen10 ?gN_101 ?gP_101).1 (gen10 ?gN_101 ?gP_101).2.1 (gen10 ?gN_101 ?gP_101).2.2.1 (gen10 ?gN_101 ?gP_101).2.2.2.1 (gen10 ?gN_101 ?gP_101).2.2.2.2.1 (gen10 ?gN_101 ?gP_101).2.2.2.2.2.1 (gen10 ?gN_101 ?gP_101).2.2.2.2.2.2.1 (gen10 ?gN_101 ?gP_101).2.2.2.2.2.2.2.1 (gen10 ?gN_101 ?gP_101).2.2.2.2.2.2.2.2.1 (gen10 ?gN_101 ?gP_101).2.2.2.2.2.2.2.2.2); (case gN_101 => k_extra "my:ne")))
  intros p loose mean mg mb gd cn cs a ccd
  ((refine gen_all10 (ne := ?gN_102) (P := ?gP_102) ((?gf_102 : ∀ a0 a1 a2 a3 a4 a5 a6 a7 a8 a9, ?gP_102 a0 a1 a2 a3 a4 a5 a6 a7 a8 a9) (gen10 ?gN_102 ?gP_102).1 (gen10 ?gN_102 ?gP_102).2.1 (gen10 ?gN_102 ?gP_102).2.2.1 (gen10 ?gN_102 ?gP_102).2.2.2.1 (gen10 ?gN_102 ?gP_102).2.2.2.2.1 (gen10 ?gN_102 ?gP_102).2.2.2.2.2.1 (gen10 ?gN_102 ?gP_102).2.2.2.2.2.2.1 (gen10 ?gN_102 ?gP_102).2.2.2.2.2.2.2.1 (gen10 ?gN_102 ?gP_102).2.2.2.2.2.2.2.2.1 (gen10 ?gN_102 ?gP_102).2.2.2.2.2.2.2.2.2); (case gN_102 => k_extra "my:ne")))
  intros cl outer base g h₁ L' L₀ s tk R
  intro F' N' B' X' T'
  simp only [kstB] at F'
  refine ex_in (ints_get hio h0) ?_
  walk_at "g1"
  intro t0 hx0
  have hb0 := hoct _ _ h0
  k_extra "my:go"
  refine next_item F' N' hi (List.Mem.head _) off hx0 ?_
  clear F' N'
  walk_at "g2"
  intros h' io1
  intro hi1 F' N'
  k_sweep
  k_extra "my:go"
  refine whileR (σ := Obj × Nat × Int × Tok × Int × Tok) (fun c => (it, c.1) :: (oa, listOf ovs.toArray k) :: rest) (fun c => [("iterator", .ref it), ("b", .int c.2.2.1 c.2.2.2.1), ("val", .int c.2.2.2.2.1 c.2.2.2.2.2)])
    (fun c => IterO c.1 oa c.2.1 ∧ (0 ≤ c.2.2.1 ∧ c.2.2.1 < 256) ∧ 0 ≤ c.2.2.2.2.1 ∧ c.2.2.2.2.1 < 1000000 ∧ pvGo c.2.2.2.2.1 c.2.2.1 (ons.drop c.2.1) = some (V, r)) (fun c => IterO c.1 oa c.2.1 ∧ c.2.2.2.2.1 = V ∧ ons.drop c.2.1 = r) (fun c => ons.length - c.2.1) (io1, i + 1, b0, _, Builtin.bitAnd b0 63, _) (by assumption) (by assumption) (by k_extra "my:names") ?_ ?_ ?_
  · dsimp only
    have := pvGo_le _ _ _ _ _ (by omega) hv
    rw [(bits_low hb0.1 hb0.2).1]
    exact ⟨hi1, hb0, by omega, by omega, hv⟩
  · refine pr6 ?_
    ((refine gen_all9 (ne := ?gN_103) (P := ?gP_103) ((?gf_103 : ∀ a0 a1 a2 a3 a4 a5 a6 a7 a8, ?gP_103 a0 a1 a2 a3 a4 a5 a6 a7 a8) (gen9 ?gN_103 ?gP_103).1 (gen9 ?gN_103 ?gP_103).2.1 (gen9 ?gN_103 ?gP_103).2.2.1 (gen9 ?gN_103 ?gP_103).2.2.2.1 (gen9 ?gN_103 ?gP_103).2.2.2.2.1 (gen9 ?gN_103 ?gP_103).2.2.2.2.2.1 (gen9 ?gN_103 ?gP_103).2.2.2.2.2.2.1 (gen9 ?gN_103 ?gP_103).2.2.2.2.2.2.2.1 (gen9 ?gN_103 ?gP_103).2.2.2.2.2.2.2.2); (case gN_103 => k_extra "my:ne")))
    intros io2 j b tb val tv u' h tk
    rintro hp F' N'
    dsimp only at hp N'
    simp only [kstB] at F'
    k_sweep
    obtain ⟨hi2, hb, hv0, hv1, hgo⟩ := hp
    have hb6 := (bits_low hb.1 hb.2).2
    k_extra "my:go"
    · refine ex_in2 (pvGo_more hgo (by omega)) ?_
      walk_at "g2"
      intros c l'
      rintro ⟨hl', hgo'⟩
      have hj : ons[j]? = some c := by
        have := congrArg (·[0]?) hl'
        simpa using this
      have hd1 : ons.drop (j + 1) = l' := by
        have := congrArg (·.drop 1) hl'
        simpa using this
      have hc := hoct _ _ hj
      have hle := pvGo_le _ _ _ _ _ (by omega) hgo'
      have hjl : j < ons.length := (List.getElem?_eq_some_iff.mp hj).1
      refine ex_in (ints_get hio hj) ?_
      walk_at "g1"
      intro tc hxc
      with_reducible rename Fr _ _ _ _ => F'
      with_reducible rename News _ _ _ _ => N'
      refine next_item F' N' hi2 (List.Mem.head _) off hxc ?_
      clear F' N'
      walk_at "g2"
      intros h' io3
      intro hi3 F' N'
      k_sweep
      k_extra "my:go"
      refine ⟨(io3, j + 1, c, _, Builtin.bitOr (val * 2 ^ (6 : Int).toNat) (Builtin.bitAnd c 63), _), _, _, _, _, rfl, by k_asm, by k_asm, by (((try dsimp only); k_extra "my:inl")), by (((try dsimp only); k_extra "my:inl")), by k_extra "my:names", ?_⟩
      dsimp only
      rw [(bits_low hc.1 hc.2).1]
      have e6 : val * 2 ^ (6 : Int).toNat = val * 64 := rfl
      rw [e6, or_low hv0 (by omega) (by omega), hd1]
      exact ⟨⟨hi3, hc, by omega, by omega, hgo'⟩, by omega⟩
    · obtain ⟨hs1, hs2⟩ := pvGo_stop hgo (by omega)
      refine ⟨(io2, j, b, tb, val, tv), _, _, _, _, rfl, by k_asm, by k_asm, by (((try dsimp only); k_extra "my:inl")), by (((try dsimp only); k_extra "my:inl")), by k_extra "my:names", ?_⟩
      exact ⟨hi2, hs1, hs2⟩
  refine pr6 ?_
  ((refine gen_all9 (ne := ?gN_108) (P := ?gP_108) ((?gf_108 : ∀ a0 a1 a2 a3 a4 a5 a6 a7 a8, ?gP_108 a0 a1 a2 a3 a4 a5 a6 a7 a8) (gen9 ?gN_108 ?gP_108).1 (gen9 ?gN_108 ?gP_108).2.1 (gen9 ?gN_108 ?gP_108).2.2.1 (gen9 ?gN_108 ?gP_108).2.2.2.1 (gen9 ?gN_108 ?gP_108).2.2.2.2.1 (gen9 ?gN_108 ?gP_108).2.2.2.2.2.1 (gen9 ?gN_108 ?gP_108).2.2.2.2.2.2.1 (gen9 ?gN_108 ?gP_108).2.2.2.2.2.2.2.1 (gen9 ?gN_108 ?gP_108).2.2.2.2.2.2.2.2); (case gN_108 => k_extra "my:ne")))
  intros io2 j b tb val tv u' h tk
  rintro hp F' N'
  dsimp only at hp N'
  simp only [kstB] at F'
  k_sweep
  obtain ⟨hi2, hvV, hr⟩ := hp
  subst hvV
  dsimp only
  k_extra "my:go"
  (((try dsimp only); refine ⟨_, _, _, _, _, _, rfl, by k_asm, by k_asm, (by first | (((try dsimp only); k_extra "my:inl")) | exact fun _ h => h), ?_⟩))
  exact ⟨⟨_, rfl⟩, io2, j, hi2, hr.symm, rfl⟩
theorem con_pvX (w : World) (it oa : Addr) (io : Obj) (ovs : List Value) (k i : Nat) (rest : List (Addr × Obj)) (hi : IterO io oa i) (h0 : ovs[i]? = none) (off : ∀ p ∈ (oa, listOf ovs.toArray k) :: rest, p.1 ≠ it) :
    ConX PySem.Challenge.rw_tv0054_01.row.prog w (Mine.hd0.heap_1_41 w.params) 45 700 6000 [.ref it] ((it, io) :: (oa, listOf ovs.toArray k) :: rest) (fun _ _ => False) "StopIteration" ((oa, listOf ovs.toArray k) :: rest) := by
  revert w it oa io ovs k i rest hi h0 off
  ((refine gen_all8 (ne := ?gN_110) (P := ?gP_110) ((?gf_110 : ∀ a0 a1 a2 a3 a4 a5 a6 a7, ?gP_110 a0 a1 a2 a3 a4 a5 a6 a7) (gen8 ?gN_110 ?gP_110).1 (gen8 ?gN_110 ?gP_110).2.1 (gen8 ?gN_110 ?gP_110).2.2.1 (gen8 ?gN_110 ?gP_110).2.2.2.1 (gen8 ?gN_110 ?gP_110).2.2.2.2.1 (gen8 ?gN_110 ?gP_110).2.2.2.2.2.1 (gen8 ?gN_110 ?gP_110).2.2.2.2.2.2.1 (gen8 ?gN_110 ?gP_110).2.2.2.2.2.2.2); (case gN_110 => k_extra "my:ne")))
  intros w it oa io ovs k i rest
  intro hi h0 off
  w_top off
  k_fill
  refine' ConX.of (binds := [("iterator", .ref it)]) ?k6 ?k7 ?k8 ?k9 ?kB ?kN ?c2 ?c3 ?c4 ?c5 ?_
  (( (case k6 => k_is); (case k7 => k_is); (case k8 => decide); (case k9 => (intro s9 X9; first | exact BindsTo.of_eq rfl | exact binds_K X9 rfl (by k_is) rfl rfl rfl | (refine kp_binds X9 ?_; exact fun _ => rfl))); (case kB => exact locs rfl); (case kN => (simp only [List.map_cons, List.map_nil]; decide)); (case c2 => exact rfl); (case c3 => exact rfl); (case c4 => exact rfl); (case c5 => decide); k_with "WPost" => dsimp only [WPost]; k_with "FPost" => dsimp only [FPost]))
  ((refine gen_all10 (ne := ?gN_112) (P := ?gP_112) ((?gf_112 : ∀ a0 a1 a2 a3 a4 a5 a6 a7 a8 a9, ?gP_112 a0 a1 a2 a3 a4 a5 a6 a7 a8 a9) (gen10 ?gN_112 ?gP_112).1 (gen10 ?gN_112 ?gP_112).2.1 (gen10 ?gN_112 ?gP_112).2.2.1 (gen10 ?gN_112 ?gP_112).2.2.2.1 (gen10 ?gN_112 ?gP_112).2.2.2.2.1 (gen10 ?gN_112 ?gP_112).2.2.2.2.2.1 (gen10 ?gN_112 ?gP_112).2.2.2.2.2.2.1 (gen10 ?gN_112 ?gP_112).2.2.2.2.2.2.2.1 (gen10 ?gN_112 ?gP_112).2.2.2.2.2.2.2.2.1 (gen10 ?gN_112 ?gP_112).2.2.2.2.2.2.2.2.2); (case gN_112 => k_extra "my:ne")))
  intros p loose mean mg mb gd cn cs a ccd
  ((refine gen_all10 (ne := ?gN_113) (P := ?gP_113) ((?gf_113 : ∀ a0 a1 a2 a3 a4 a5 a6 a7 a8 a9, ?gP_113 a0 a1 a2 a3 a4 a5 a6 a7 a8 a9) (gen10 ?gN_113 ?gP_113).1 (gen10 ?gN_113 ?gP_113).2.1 (gen10 ?gN_113 ?gP_113).2.2.1 (gen10 ?gN_113 ?gP_113).2.2.2.1 (gen10 ?gN_113 ?gP_113).2.2.2.2.1 (gen10 ?gN_113 ?gP_113).2.2.2.2.2.1 (gen10 ?gN_113 ?gP_113).2.2.2.2.2.2.1 (gen10 ?gN_113 ?gP_113).2.2.2.2.2.2.2.1 (gen10 ?gN_113 ?gP_113).2.2.2.2.2.2.2.2.1 (gen10 ?gN_113 ?gP_113).2.2.2.2.2.2.2.2.2); (case gN_113 => k_extra "my:ne")))
  intros cl outer base g h₁ L' L₀ s tk R
  intro F' N' B' X' T' hR
  simp only [kstB] at F'
  k_extra "my:go"
  refine next_end rfl F' N' hi (List.Mem.head _) off h0 ?_
  clear F' N'
  walk_at "g3"
  intros h1 h2 e
  intro F1 N1 hx
  refine leaves B' hx F1 N1 (fun h' hr hu => ?_) rfl
  exact hR _ _ _ hr hu
end
theorem lay_8 : True := by
  k_with "off26" => skip
  exact True.intro
section
theorem allLt_mem {d : Nat} : ∀ {l : List (Addr × Obj)}, AllLt d l → ∀ p ∈ l, @LT.lt Nat _ p.1 d
  | [], _, _, h => nomatch h
  | q :: r, x, p, h => by
    rcases List.mem_cons.mp h with rfl | h
    · exact x.1
    · exact allLt_mem x.2 p h
theorem pick_rev (items : List Value) : slicePick items.toArray none none (some (-1)) = items.reverse.toArray := by
  unfold slicePick
  have e : sliceBounds none none (some (-1)) items.toArray.size = ((items.length : Int) - 1, -1, -1) := rfl
  rw [e]
  dsimp only
  congr 1
  have hr : ∀ n : Nat, sliceRange ((n : Int) - 1) (-1) (-1) = (List.range n).map fun k => n - 1 - k := fun n => by
    unfold sliceRange
    have h0 : ¬ ((-1 : Int) > 0) := by decide
    simp only [h0, if_false]
    by_cases hn : 0 < n
    · have h1 : ((n : Int) - 1) > -1 := by omega
      have h2 : (((n : Int) - 1 - -1 - -1 - 1) / - -1) = (n : Int) := by rw [show (- -1 : Int) = 1 from rfl, Int.ediv_one]; omega
      rw [if_pos h1, h2, Int.toNat_natCast]
      apply List.map_congr_left
      intro k hk
      have := List.mem_range.mp hk
      omega
    · have : n = 0 := by omega
      subst this
      rfl
  rw [hr]
  rw [List.filterMap_map]
  apply List.ext_getElem?
  intro i
  have key : ∀ l : List Nat, (∀ k ∈ l, k < items.length) → l.filterMap (((fun x => items.toArray[x]?) ∘ fun k => items.length - 1 - k)) = l.map fun k => items.getD (items.length - 1 - k) .none := by
    intro l hl
    induction l with
    | nil => rfl
    | cons k l ih =>
      have hk := hl k (by simp)
      have e : items.toArray[items.length - 1 - k]? = some (items.getD (items.length - 1 - k) .none) := by
        have : items.length - 1 - k < items.length := by omega
        simp [List.getD_eq_getElem?_getD, this]
      rw [List.filterMap_cons]
      simp only [Function.comp, e, List.map_cons]
      rw [← ih fun j hj => hl j (by simp [hj])]
  rw [key _ fun k hk => List.mem_range.mp hk]
  rw [List.getElem?_map]
  by_cases hi : i < items.length
  · rw [List.getElem?_range hi, List.getElem?_reverse hi]
    have : items.length - 1 - i < items.length := by omega
    simp [List.getD_eq_getElem?_getD, this]
  · have h1 : (List.range items.length)[i]? = none := List.getElem?_eq_none (by simpa using hi)
    rw [h1, List.getElem?_eq_none (by simpa using hi)]
    rfl
section
variable {prog : Program} {w : World} {A : Around} {E : Value → Shared → Prop} {s : Shared} {h₀ : Heap} {L : Addr} {m : Str → Option Value} {news : List (Addr × Obj)}
theorem rev_step {value slice : PySem.Expr} {l : Addr} {items : List Value} {n : Nat} {t : Tok} {ops : List Value} {Q : Value → Shared → Prop} (F : Fr h₀ L s.heap m) (N : News h₀ L s.heap news) (hm : (l, listOf items.toArray n) ∈ news)
    (h : ∀ D h', Fr h₀ L h' m → News h₀ L h' ((D, listOf items.reverse.toArray 0) :: news) → (∀ p ∈ news, p.1 < D) → Q (.ref D) { s with heap := h' })
    (hs : subscripted slice false (.ref l) (.ref s.heap.objs.size) = operate ops (getItem (.ref l) (.ref s.heap.objs.size)) := by with_unfolding_all rfl)
    (ht : ∀ r, letTemporaryGo value (.ref l) r = pure () := by intro _; with_unfolding_all rfl) (hsz : items.length ≤ 1000) :
    wpAny (model prog w) A (subscriptTail value slice (.ref l) (.ref s.heap.objs.size)) Q E { s with heap := s.heap.push { cls := .type "slice", data := .fields #[.none, .none, .int (-1) t] } } := by
  refine slice_list3 F N (l := l) (items := items.toArray) ⟨_, (N _ hm).1, rfl, n, rfl⟩ .none .none (.int (-1) t) (by decide) (fun h' F' N' => ?_) hs ht (by rw [List.size_toArray]; exact Nat.le_trans hsz (Nat.le_of_ble_eq_true rfl))
  rw [pick_rev] at N'
  exact h _ h' F' N' fun p hp => Nat.lt_succ_of_lt (Heap.lt_size (N p hp).1)
end
theorem lay_9 : True := by
  k_with "my:pyIter ref" => ((fail_if_success k_extra "off27"); ((with_reducible show wpAny _ _ (pyIter (Value.ref _)) (fun it s₂ => LoopAtV _ _ _ _ _ _ _ _ _ it s₂) _ _); (with_reducible refine stop_in ?_)))
  k_with "my:last pyIter ref" => ((fail_if_success k_extra "off27"); ((with_reducible show wpAny _ _ (pyIter (Value.ref _)) (fun it s₂ => LoopAtV _ _ _ _ _ _ _ _ _ it s₂) _ _); (with_reducible refine stop_in ?_)))
  k_with "my:subscriptTail Name Slice ref ref" => ((fail_if_success k_extra "off27"); (with_reducible refine stop_in ?_))
  k_with "my:call builtin:list.extend" => ((fail_if_success k_extra "off27"); (with_reducible refine stop_in ?_))
  exact True.intro
theorem con_walk (w : World) (A l0 tp : Addr) (es : List Value) (cc c0 : Nat) (rest : List (Addr × Obj)) (hes : ∀ e ∈ es, ∃ a c, e = .ref a ∧ (a, listOf #[] c) ∈ rest) (h0 : (l0, listOf #[.ref tp] c0) ∈ rest) (hl : es.length ≤ 500) :
    Con PySem.Challenge.rw_tv0054_01.row.prog w (Mine.hd0.heap_1_41 w.params) 237 650 5500 [.ref A] ((A, listOf (Value.ref l0 :: es).toArray cc) :: rest)
      (fun v n => ∃ D c', v = .ref D ∧ (∀ p ∈ (A, listOf (Value.ref l0 :: es).toArray cc) :: rest, p.1 < D) ∧ n = (D, listOf #[.ref tp] c') :: (A, listOf (Value.ref l0 :: es).toArray cc) :: rest) := by
  revert w A l0 tp es cc c0 rest hes h0 hl
  ((refine gen_all8 (ne := ?gN_115) (P := ?gP_115) ((?gf_115 : ∀ a0 a1 a2 a3 a4 a5 a6 a7, ?gP_115 a0 a1 a2 a3 a4 a5 a6 a7) (gen8 ?gN_115 ?gP_115).1 (gen8 ?gN_115 ?gP_115).2.1 (gen8 ?gN_115 ?gP_115).2.2.1 (gen8 ?gN_115 ?gP_115).2.2.2.1 (gen8 ?gN_115 ?gP_115).2.2.2.2.1 (gen8 ?gN_115 ?gP_115).2.2.2.2.2.1 (gen8 ?gN_115 ?gP_115).2.2.2.2.2.2.1 (gen8 ?gN_115 ?gP_115).2.2.2.2.2.2.2); (case gN_115 => k_extra "my:ne")))
  intros w A l0 tp es cc c0 rest
  intro hes h0 hl
  w_top off
  k_fill
  refine' Con.of (binds := [("levels", .ref A)]) ?k6 ?k7 ?k8 ?k9 ?kB ?kN ?c2 ?c3 ?c4 ?c5 ?_
  (( (case k6 => k_is); (case k7 => k_is); (case k8 => decide); (case k9 => (intro s9 X9; first | exact BindsTo.of_eq rfl | exact binds_K X9 rfl (by k_is) rfl rfl rfl | (refine kp_binds X9 ?_; exact fun _ => rfl))); (case kB => exact locs rfl); (case kN => (simp only [List.map_cons, List.map_nil]; decide)); (case c2 => exact rfl); (case c3 => exact rfl); (case c4 => exact rfl); (case c5 => decide); k_with "WPost" => dsimp only [WPost]; k_with "FPost" => dsimp only [FPost]))
  ((refine gen_all10 (ne := ?gN_117) (P := ?gP_117) ((?gf_117 : ∀ a0 a1 a2 a3 a4 a5 a6 a7 a8 a9, ?gP_117 a0 a1 a2 a3 a4 a5 a6 a7 a8 a9) (gen10 ?gN_117 ?gP_117).1 (gen10 ?gN_117 ?gP_117).2.1 (gen10 ?gN_117 ?gP_117).2.2.1 (gen10 ?gN_117 ?gP_117).2.2.2.1 (gen10 ?gN_117 ?gP_117).2.2.2.2.1 (gen10 ?gN_117 ?gP_117).2.2.2.2.2.1 (gen10 ?gN_117 ?gP_117).2.2.2.2.2.2.1 (gen10 ?gN_117 ?gP_117).2.2.2.2.2.2.2.1 (gen10 ?gN_117 ?gP_117).2.2.2.2.2.2.2.2.1 (gen10 ?gN_117 ?gP_117).2.2.2.2.2.2.2.2.2); (case gN_117 => k_extra "my:ne")))
  intros p loose mean mg mb gd cn cs a ccd
  ((refine gen_all10 (ne := ?gN_118) (P := ?gP_118) ((?gf_118 : ∀ a0 a1 a2 a3 a4 a5 a6 a7 a8 a9, ?gP_118 a0 a1 a2 a3 a4 a5 a6 a7 a8 a9) (gen10 ?gN_118 ?gP_118).1 (gen10 ?gN_118 ?gP_118).2.1 (gen10 ?gN_118 ?gP_118).2.2.1 (gen10 ?gN_118 ?gP_118).2.2.2.1 (gen10 ?gN_118 ?gP_118).2.2.2.2.1 (gen10 ?gN_118 ?gP_118).2.2.2.2.2.1 (gen10 ?gN_118 ?gP_118).2.2.2.2.2.2.1 (gen10 ?gN_118 ?gP_118).2.2.2.2.2.2.2.1 (gen10 ?gN_118 ?gP_118).2.2.2.2.2.2.2.2.1 (gen10 ?gN_118 ?gP_118).2.2.2.2.2.2.2.2.2); (case gN_118 => k_extra "my:ne")))
  intros cl outer base g h₁ L' L₀ s tk R
  intro F' N' B' X' T'
  simp only [kstB] at F'
  k_extra "my:go"
  (((with_reducible rename Fr _ _ _ _ => lF'); (with_unfolding_all refine' For_invVF lF' ?k1_119 ?k2_119 ?_; (case k1_119 => exact rfl); (case k2_119 => exact rfl); k_whole); k_extra "my:go"))
  rename (Fr _ _ _ _) => F'
  rename (News _ _ _ _) => N'
  refine rev_step (s := ⟨_, _, _, _, _⟩) F' N' (.tail _ (.head _)) ?_ (hsz := by simp; omega)
  walk_at "g2"
  intros S h'
  intro F' N' l1
  k_sweep
  k_extra "my:go"
  rename (Fr _ _ _ _) => F'
  rename (News _ _ _ _) => N'
  refine forListR (σ := Addr × List Value × Nat) (l := S) (vs := (Value.ref l0 :: es).reverse) (nn := 0) (fun c => (S, listOf (Value.ref l0 :: es).reverse.toArray 0) :: (c.1, listOf c.2.1.toArray c.2.2) :: (A, listOf (Value.ref l0 :: es).toArray cc) :: rest) (fun c => [("pairs", .ref c.1), ("levels", .ref A)])
    (fun i c => (@LT.lt Nat _ c.1 S) ∧ (∀ p ∈ (A, listOf (Value.ref l0 :: es).toArray cc) :: rest, p.1 < c.1) ∧ (i ≤ es.length → c.2.1 = []) ∧ (i = es.length + 1 → c.2.1 = [.ref tp]))
    (fun c => (∀ p ∈ (A, listOf (Value.ref l0 :: es).toArray cc) :: rest, p.1 < c.1) ∧ c.2.1 = [.ref tp]) (_, [], 0) rfl (fun _ => .head _) F' N' (by k_extra "my:names") ?_ ?_ ?_ ?_
  · dsimp only
    refine ⟨l1 _ (.head _), fun p hp => ?_, fun _ => rfl, fun e => absurd e (by omega)⟩
    rename (∀ p ∈ (A, _) :: rest, p.1 < _) => l2
    exact l2 p hp
  · walk_at "g2"
    intros i v
    refine pr3 ?_
    ((refine gen_all7 (ne := ?gN_120) (P := ?gP_120) ((?gf_120 : ∀ a0 a1 a2 a3 a4 a5 a6, ?gP_120 a0 a1 a2 a3 a4 a5 a6) (gen7 ?gN_120 ?gP_120).1 (gen7 ?gN_120 ?gP_120).2.1 (gen7 ?gN_120 ?gP_120).2.2.1 (gen7 ?gN_120 ?gP_120).2.2.2.1 (gen7 ?gN_120 ?gP_120).2.2.2.2.1 (gen7 ?gN_120 ?gP_120).2.2.2.2.2.1 (gen7 ?gN_120 ?gP_120).2.2.2.2.2.2); (case gN_120 => k_extra "my:ne")))
    intros D its n u' h tk own
    rintro hv hown ⟨hDS, hlt, hi0, _⟩ F' N'
    dsimp only at hDS hlt hi0 F' N' hown
    simp only [kstB] at F'
    simp only [List.cons_append] at N'
    k_sweep
    have hA : @LT.lt Nat _ A D := hlt _ (.head _)
    have hR : ∀ p ∈ rest, p.1 < D := fun p hp => hlt p (.tail _ hp)
    have hii : i < es.length + 1 := by
      have := (List.getElem?_eq_some_iff.mp hv).1
      simpa using this
    have e0 := hi0 (by omega)
    subst e0
    by_cases hie : i < es.length
    · have hv' : v ∈ es := by
        have e : (Value.ref l0 :: es).reverse = es.reverse ++ [Value.ref l0] := by simp
        rw [e, List.getElem?_append_left (by simpa using hie)] at hv
        exact List.mem_reverse.mp (List.mem_of_getElem? hv)
      refine ex_in2 (hes v hv') ?_
      walk_at "g2"
      intros a' c'
      rintro ⟨rfl, hm⟩
      k_extra "my:go"
      rename (Fr _ _ _ _) => F'
      rename (News _ _ _ _) => N'
      k_dflt refine kxn_extend (its := #[]) (its2 := #[]) F' N' (by k_extra "my:mem") rfl (by k_upd) (by decide) (by decide) (by decide) ?_
      clear F' N'
      walk_at "g1"
      intro h' F' N'
      k_sweep
      k_extra "my:go"
      refine ⟨(D, [], n), _, _, _, _, rfl, by k_asm, by k_asm, by (((try dsimp only); k_extra "my:inl")), by (((try dsimp only); k_extra "my:inl")), by k_extra "my:names", ?_⟩
      refine ⟨⟨hDS, hlt, fun _ => rfl, fun e => absurd e (by omega)⟩, same_old rfl⟩
    · have hv' : v = Value.ref l0 := by
        have e : (Value.ref l0 :: es).reverse = es.reverse ++ [Value.ref l0] := by simp
        have hi2 : i = es.length := by omega
        rw [e, List.getElem?_append_right (by simp; omega)] at hv
        simp [hi2] at hv
        exact hv.symm
      subst hv'
      k_extra "my:go"
      rename (Fr _ _ _ _) => F'
      rename (News _ _ _ _) => N'
      k_dflt refine kl_extend (its := #[]) (its2 := #[.ref tp]) (l := [.ref tp]) F' N' (by k_extra "my:mem") rfl (Nat.succ_ne_zero _) (by k_upd) Bool.false_ne_true (by decide) (Nat.le_of_ble_eq_true rfl) ?_
      clear F' N'
      walk_at "g1"
      intro h' F' N'
      k_sweep
      k_extra "my:go"
      refine ⟨(D, [.ref tp], n + 1), _, _, _, _, rfl, by k_asm, by k_asm, by (((try dsimp only); k_extra "my:inl")), by (((try dsimp only); k_extra "my:inl")), by k_extra "my:names", ?_⟩
      refine ⟨⟨hDS, hlt, fun e => absurd e (by omega), fun _ => rfl⟩, same_old rfl⟩
  · refine pr3 ?_
    ((refine gen_all6 (ne := ?gN_125) (P := ?gP_125) ((?gf_125 : ∀ a0 a1 a2 a3 a4 a5, ?gP_125 a0 a1 a2 a3 a4 a5) (gen6 ?gN_125 ?gP_125).1 (gen6 ?gN_125 ?gP_125).2.1 (gen6 ?gN_125 ?gP_125).2.2.1 (gen6 ?gN_125 ?gP_125).2.2.2.1 (gen6 ?gN_125 ?gP_125).2.2.2.2.1 (gen6 ?gN_125 ?gP_125).2.2.2.2.2); (case gN_125 => k_extra "my:ne")))
    intros D its n u' h tk
    rintro ⟨hlt, hits⟩ F' N'
    dsimp only at hlt hits F' N'
    subst hits
    simp only [kstB] at F'
    k_sweep
    dsimp only
    k_extra "my:go"
    refine ⟨_, _, _, _, _, _, rfl, by k_asm, by k_asm, ?_, D, n, rfl, hlt, rfl⟩
    (((try dsimp only); k_extra "my:inl"))
  · rintro ⟨D, its, n⟩ ⟨_, hlt, _, hl⟩
    exact ⟨hlt, hl (by simp)⟩
end
theorem lay_10 : True := by
  k_with "off27" => skip
  exact True.intro
section
def rep1 (c : Nat) (z : List Nat) (l : List Nat) : List Nat := l.flatMap fun k => if k = c then z else [k]
theorem rep1_free {c : Nat} {z l : List Nat} (h : c ∉ l) : rep1 c z l = l := by
  induction l with
  | nil => rfl
  | cons k l ih =>
    have h1 : ¬ k = c := fun e => h (by simp [e])
    unfold rep1 at ih ⊢
    rw [List.flatMap_cons, if_neg h1, ih fun m => h (by simp [m])]
    rfl
theorem rep1_append (c : Nat) (z a b : List Nat) : rep1 c z (a ++ b) = rep1 c z a ++ rep1 c z b := by simp [rep1]
theorem rep1_one (c : Nat) (z : List Nat) : rep1 c z [c] = z := by simp [rep1]
theorem rep1_join (c : Nat) (z : Str) : ∀ parts : List Str, (∀ p ∈ parts, c ∉ p.cps.toList) → rep1 c z.cps.toList (Str.join ⟨#[c]⟩ parts).cps.toList = (Str.join z parts).cps.toList
  | [], _ => rfl
  | [p], h => rep1_free (h p (by simp))
  | p :: q :: r, h => by
    have ih := rep1_join c z (q :: r) fun a ha => h a (List.mem_cons_of_mem _ ha)
    show rep1 c z.cps.toList (p ++ ⟨#[c]⟩ ++ Str.join ⟨#[c]⟩ (q :: r)).cps.toList = (p ++ z ++ Str.join z (q :: r)).cps.toList
    simp only [Str.cps_append, Array.toList_append]
    rw [rep1_append, rep1_append, ih, rep1_free (h p (by simp))]
    show p.cps.toList ++ rep1 c z.cps.toList [c] ++ _ = _
    rw [rep1_one]
theorem replace_rep1 (x z : Str) (c : Nat) : Txt.replace x ⟨#[c]⟩ z = ⟨(rep1 c z.cps.toList x.cps.toList).toArray⟩ := by
  have h := rep1_join c z _ (StrLaws.split_free x c)
  rw [StrLaws.join_split] at h
  rw [StrLaws.replace_one, h]
theorem rep1_none {x : Str} {c : Nat} {z : List Nat} (h : (Builtin.Str.occurrences x ⟨#[c]⟩ 0 x.length 1).isEmpty = true) : rep1 c z x.cps.toList = x.cps.toList := by
  rw [empty_one] at h
  exact rep1_free (by simpa using h)
theorem rep1_len (c : Nat) (z l : List Nat) (n : Nat) (hz : z.length ≤ n) (hn : 1 ≤ n) : (rep1 c z l).length ≤ n * l.length := by
  induction l with
  | nil => simp [rep1]
  | cons k l ih =>
    have e : rep1 c z (k :: l) = (if k = c then z else [k]) ++ rep1 c z l := by simp [rep1]
    rw [e, List.length_append, List.length_cons, Nat.mul_succ]
    by_cases hk : k = c
    · rw [if_pos hk]; omega
    · rw [if_neg hk]; simp only [List.length_singleton]; omega
def esc1 (c : Nat) (z : Str) (x : Str) : Str := ⟨(rep1 c z.cps.toList x.cps.toList).toArray⟩
theorem esc1_len (c : Nat) (z x : Str) (hz : z.length ≤ 5) : (esc1 c z x).length ≤ 5 * x.length := by
  have := rep1_len c z.cps.toList x.cps.toList 5 (by simpa [Str.length] using hz) (by omega)
  simpa [esc1, Str.length] using this
def escT (x : Str) : Str := esc1 13 "&#xD;" (esc1 62 "&gt;" (esc1 60 "&lt;" (esc1 38 "&amp;" x)))
section
variable {prog : Program} {w : World} {A : Around} {E : Value → Shared → Prop} {s : Shared} {x y z : Str} {c : Nat} {t u v : Tok} {Q : Value → Shared → Prop}
theorem replace_esc1 (hy : y = ⟨#[c]⟩) (hu : u ≠ 0) (hv : v ≠ 0) (huv : u ≠ v) (hyz : ((⟨#[c]⟩ : Str) == z) = false) (hx : x.length ≤ 100000) (hz : z.length ≤ 5)
    (hq : ∀ t' k, Q (.str (esc1 c z x) t') { s with toks := k }) : wpAny (model prog w) A (call (.builtin "str.replace") [.str x t, .str y u, .str z v]) Q E s := by
  subst hy
  refine SC.replace hu hv huv hyz ?_ fun t' k => ?_
  · have h2 : (x.length + 1) * z.length ≤ (x.length + 1) * 5 := Nat.mul_le_mul_left _ hz
    omega
  · rw [replace_rep1]; exact hq t' k
end
theorem esc1_none {x y : Str} {c : Nat} {z : Str} (hy : y = ⟨#[c]⟩) (h : (Builtin.Str.occurrences x y 0 x.length 1).isEmpty = true) : esc1 c z x = x := by
  subst hy
  unfold esc1
  rw [rep1_none h]
def StopIf2 : Prop := True
theorem lay_11 : True := by
  k_with "my:execs cons" => ((fail_if_success k_extra "off28"); ((with_reducible refine wpAny_execs_cons ?_); (try dsimp only)))
  k_with "my:exec If" => ((fail_if_success k_extra "off28"); ((with_reducible have mk9 : StopIf2 := by assumption); clear mk9; (with_reducible refine stop_in ?_)))
  k_with "my:call builtin:str.replace" => ((fail_if_success k_extra "off28"); (with_reducible refine stop_in ?_))
  exact True.intro
theorem con_escape (w : World) (x : Str) (t : Tok) (hx : x.length ≤ 100) (news : List (Addr × Obj)) :
    Con PySem.Challenge.rw_tv0054_01.row.prog w (Mine.hd0.heap_1_41 w.params) 206 660 5600 [.str x t] news (fun v n => (∃ t, v = .str (escT x) t) ∧ n = news) := by
  revert w x t hx news
  walk_at "g3"
  intros w x t
  intro hx
  walk_at "g1"
  intro news
  w_top off
  k_fill
  refine' Con.of (binds := [("text", .str x t)]) ?k6 ?k7 ?k8 ?k9 ?kB ?kN ?c2 ?c3 ?c4 ?c5 ?_
  (( (case k6 => k_is); (case k7 => k_is); (case k8 => decide); (case k9 => (intro s9 X9; first | exact BindsTo.of_eq rfl | exact binds_K X9 rfl (by k_is) rfl rfl rfl | (refine kp_binds X9 ?_; exact fun _ => rfl))); (case kB => exact locs rfl); (case kN => (simp only [List.map_cons, List.map_nil]; decide)); (case c2 => exact rfl); (case c3 => exact rfl); (case c4 => exact rfl); (case c5 => decide); k_with "WPost" => dsimp only [WPost]; k_with "FPost" => dsimp only [FPost]))
  ((refine gen_all10 (ne := ?gN_128) (P := ?gP_128) ((?gf_128 : ∀ a0 a1 a2 a3 a4 a5 a6 a7 a8 a9, ?gP_128 a0 a1 a2 a3 a4 a5 a6 a7 a8 a9) (gen10 ?gN_128 ?gP_128).1 (gen10 ?gN_128 ?gP_128).2.1 (gen10 ?gN_128 ?gP_128).2.2.1 (gen10 ?gN_128 ?gP_128).2.2.2.1 (gen10 ?gN_128 ?gP_128).2.2.2.2.1 (gen10 ?gN_128 ?gP_128).2.2.2.2.2.1 (gen10 ?gN_128 ?gP_128).2.2.2.2.2.2.1 (gen10 ?gN_128 ?gP_128).2.2.2.2.2.2.2.1 (gen10 ?gN_128 ?gP_128).2.2.2.2.2.2.2.2.1 (gen10 ?gN_128 ?gP_128).2.2.2.2.2.2.2.2.2); (case gN_128 => k_extra "my:ne")))
  intros p loose mean mg mb gd cn cs a ccd
  ((refine gen_all10 (ne := ?gN_129) (P := ?gP_129) ((?gf_129 : ∀ a0 a1 a2 a3 a4 a5 a6 a7 a8 a9, ?gP_129 a0 a1 a2 a3 a4 a5 a6 a7 a8 a9) (gen10 ?gN_129 ?gP_129).1 (gen10 ?gN_129 ?gP_129).2.1 (gen10 ?gN_129 ?gP_129).2.2.1 (gen10 ?gN_129 ?gP_129).2.2.2.1 (gen10 ?gN_129 ?gP_129).2.2.2.2.1 (gen10 ?gN_129 ?gP_129).2.2.2.2.2.1 (gen10 ?gN_129 ?gP_129).2.2.2.2.2.2.1 (gen10 ?gN_129 ?gP_129).2.2.2.2.2.2.2.1 (gen10 ?gN_129 ?gP_129).2.2.2.2.2.2.2.2.1 (gen10 ?gN_129 ?gP_129).2.2.2.2.2.2.2.2.2); (case gN_129 => k_extra "my:ne")))
  intros cl outer base g h₁ L' L₀ s tk R
  intro F' N' B' X' T'
  simp only [kstB] at F'
  have mk : StopIf2 := trivial
  k_extra "my:go"
  refine cutR (by assumption) (σ := Tok) (fun _ => news) (fun c => [("text", .str (esc1 38 "&amp;" x) c)]) (fun c => True) ?_ ?_
  · (rename StopIf2 => mk); clear mk
    have hl : (x).length ≤ 12500 := by
      omega
    k_extra "my:go"
    all_goals first
      | ((try dsimp only)
         refine replace_esc1 (s := ⟨_, _, _, _, _⟩) (c := 38) (z := "&amp;") (by decide +kernel) (by first | omega | simp) (by first | omega | simp) (by first | omega | simp) (by decide +kernel) (by omega) (by decide +kernel) ?_
         walk_at "g2"
         intros t' k'
         k_extra "my:go"
         refine ⟨_, _, _, _, _, rfl, by k_asm, by k_asm, by (((try dsimp only); k_extra "my:inl")), by (((try dsimp only); k_extra "my:inl")), by k_extra "my:names", trivial⟩)
      | (rename ((Builtin.Str.occurrences _ _ _ _ _).isEmpty = true) => ho
         have he := esc1_none (c := 38) (z := "&amp;") (by decide +kernel) ho
         (try dsimp only)
         rw [he]
         refine ⟨_, _, _, _, _, rfl, by k_asm, by k_asm, by (((try dsimp only); k_extra "my:inl")), by (((try dsimp only); k_extra "my:inl")), by k_extra "my:names", trivial⟩)
  clear F' N'
  walk_at "g4"
  intros t0 u' h tk0
  rintro - F' N'
  (try dsimp only at F' N')
  simp only [kstB] at F'
  k_sweep
  (try dsimp only)
  k_extra "my:go"
  refine cutR (by assumption) (σ := Tok) (fun _ => news) (fun c => [("text", .str (esc1 60 "&lt;" (esc1 38 "&amp;" x)) c)]) (fun c => True) ?_ ?_
  · (rename StopIf2 => mk); clear mk
    have hl : (esc1 38 "&amp;" x).length ≤ 12500 := by
      have h1 := esc1_len 38 "&amp;" x (by decide +kernel)
      omega
    k_extra "my:go"
    all_goals first
      | ((try dsimp only)
         refine replace_esc1 (s := ⟨_, _, _, _, _⟩) (c := 60) (z := "&lt;") (by decide +kernel) (by first | omega | simp) (by first | omega | simp) (by first | omega | simp) (by decide +kernel) (by omega) (by decide +kernel) ?_
         walk_at "g2"
         intros t' k'
         k_extra "my:go"
         refine ⟨_, _, _, _, _, rfl, by k_asm, by k_asm, by (((try dsimp only); k_extra "my:inl")), by (((try dsimp only); k_extra "my:inl")), by k_extra "my:names", trivial⟩)
      | (rename ((Builtin.Str.occurrences _ _ _ _ _).isEmpty = true) => ho
         have he := esc1_none (c := 60) (z := "&lt;") (by decide +kernel) ho
         (try dsimp only)
         rw [he]
         refine ⟨_, _, _, _, _, rfl, by k_asm, by k_asm, by (((try dsimp only); k_extra "my:inl")), by (((try dsimp only); k_extra "my:inl")), by k_extra "my:names", trivial⟩)
  clear F' N'
  walk_at "g4"
  intros t0 u' h tk0
  rintro - F' N'
  (try dsimp only at F' N')
  simp only [kstB] at F'
  k_sweep
  (try dsimp only)
  k_extra "my:go"
  refine cutR (by assumption) (σ := Tok) (fun _ => news) (fun c => [("text", .str (esc1 62 "&gt;" (esc1 60 "&lt;" (esc1 38 "&amp;" x))) c)]) (fun c => True) ?_ ?_
  · (rename StopIf2 => mk); clear mk
    have hl : (esc1 60 "&lt;" (esc1 38 "&amp;" x)).length ≤ 12500 := by
      have h1 := esc1_len 38 "&amp;" x (by decide +kernel)
      have h2 := esc1_len 60 "&lt;" (esc1 38 "&amp;" x) (by decide +kernel)
      omega
    k_extra "my:go"
    all_goals first
      | ((try dsimp only)
         refine replace_esc1 (s := ⟨_, _, _, _, _⟩) (c := 62) (z := "&gt;") (by decide +kernel) (by first | omega | simp) (by first | omega | simp) (by first | omega | simp) (by decide +kernel) (by omega) (by decide +kernel) ?_
         walk_at "g2"
         intros t' k'
         k_extra "my:go"
         refine ⟨_, _, _, _, _, rfl, by k_asm, by k_asm, by (((try dsimp only); k_extra "my:inl")), by (((try dsimp only); k_extra "my:inl")), by k_extra "my:names", trivial⟩)
      | (rename ((Builtin.Str.occurrences _ _ _ _ _).isEmpty = true) => ho
         have he := esc1_none (c := 62) (z := "&gt;") (by decide +kernel) ho
         (try dsimp only)
         rw [he]
         refine ⟨_, _, _, _, _, rfl, by k_asm, by k_asm, by (((try dsimp only); k_extra "my:inl")), by (((try dsimp only); k_extra "my:inl")), by k_extra "my:names", trivial⟩)
  clear F' N'
  walk_at "g4"
  intros t0 u' h tk0
  rintro - F' N'
  (try dsimp only at F' N')
  simp only [kstB] at F'
  k_sweep
  (try dsimp only)
  k_extra "my:go"
  refine cutR (by assumption) (σ := Tok) (fun _ => news) (fun c => [("text", .str (esc1 13 "&#xD;" (esc1 62 "&gt;" (esc1 60 "&lt;" (esc1 38 "&amp;" x)))) c)]) (fun c => True) ?_ ?_
  · (rename StopIf2 => mk); clear mk
    have hl : (esc1 62 "&gt;" (esc1 60 "&lt;" (esc1 38 "&amp;" x))).length ≤ 12500 := by
      have h1 := esc1_len 38 "&amp;" x (by decide +kernel)
      have h2 := esc1_len 60 "&lt;" (esc1 38 "&amp;" x) (by decide +kernel)
      have h3 := esc1_len 62 "&gt;" (esc1 60 "&lt;" (esc1 38 "&amp;" x)) (by decide +kernel)
      omega
    k_extra "my:go"
    all_goals first
      | ((try dsimp only)
         refine replace_esc1 (s := ⟨_, _, _, _, _⟩) (c := 13) (z := "&#xD;") (by decide +kernel) (by first | omega | simp) (by first | omega | simp) (by first | omega | simp) (by decide +kernel) (by omega) (by decide +kernel) ?_
         walk_at "g2"
         intros t' k'
         k_extra "my:go"
         refine ⟨_, _, _, _, _, rfl, by k_asm, by k_asm, by (((try dsimp only); k_extra "my:inl")), by (((try dsimp only); k_extra "my:inl")), by k_extra "my:names", trivial⟩)
      | (rename ((Builtin.Str.occurrences _ _ _ _ _).isEmpty = true) => ho
         have he := esc1_none (c := 13) (z := "&#xD;") (by decide +kernel) ho
         (try dsimp only)
         rw [he]
         refine ⟨_, _, _, _, _, rfl, by k_asm, by k_asm, by (((try dsimp only); k_extra "my:inl")), by (((try dsimp only); k_extra "my:inl")), by k_extra "my:names", trivial⟩)
  clear F' N'
  walk_at "g4"
  intros t0 u' h tk0
  rintro - F' N'
  (try dsimp only at F' N')
  simp only [kstB] at F'
  k_sweep
  (try dsimp only)
  k_extra "my:go"
  (((try dsimp only); refine ⟨_, _, _, _, _, _, rfl, by k_asm, by k_asm, (by first | (((try dsimp only); k_extra "my:inl")) | exact fun _ h => h), ?_⟩))
  exact ⟨⟨_, rfl⟩, rfl⟩
end
theorem lay_12 : True := by
  k_with "off28" => skip
  exact True.intro
section
def esc0 (k : Nat) : List Nat := if k = 38 then [38, 97, 109, 112, 59] else if k = 60 then [38, 108, 116, 59] else if k = 62 then [38, 103, 116, 59] else if k = 13 then [38, 35, 120, 68, 59] else [k]
theorem rep1_flat (c : Nat) (z : List Nat) (f : Nat → List Nat) (l : List Nat) : rep1 c z (l.flatMap f) = l.flatMap (fun k => rep1 c z (f k)) := by
  induction l with
  | nil => rfl
  | cons k l ih => rw [List.flatMap_cons, List.flatMap_cons, rep1_append, ih]
theorem escT_cps (x : Str) : (escT x).cps.toList = x.cps.toList.flatMap esc0 := by
  show rep1 13 [38, 35, 120, 68, 59] (rep1 62 [38, 103, 116, 59] (rep1 60 [38, 108, 116, 59] (rep1 38 [38, 97, 109, 112, 59] x.cps.toList))) = _
  rw [show rep1 38 [38, 97, 109, 112, 59] x.cps.toList = x.cps.toList.flatMap (fun k => if k = 38 then [38, 97, 109, 112, 59] else [k]) from rfl, rep1_flat, rep1_flat, rep1_flat]
  congr 1
  funext k
  unfold esc0
  by_cases h1 : k = 38
  · simp [h1, rep1]
  · by_cases h2 : k = 60
    · simp [h2, rep1]
    · by_cases h3 : k = 62
      · simp [h3, rep1]
      · by_cases h4 : k = 13 <;> simp [h1, h2, h3, h4, rep1]
theorem esc0_len (k : Nat) : (esc0 k).length ≤ 5 := by
  unfold esc0
  repeat' split
  all_goals simp
theorem escT_len (x : Str) : (escT x).length ≤ 5 * x.length := by
  have h : ∀ l : List Nat, (l.flatMap esc0).length ≤ 5 * l.length := by
    intro l
    induction l with
    | nil => simp
    | cons k l ih =>
      have := esc0_len k
      rw [List.flatMap_cons, List.length_append, List.length_cons]; omega
  have := h x.cps.toList
  rw [← escT_cps] at this
  simpa [Str.length] using this
end
section
/-- a sign of the text that leaves out, and what it stands for in the whole -/
def mS (u v : Str) : Prop := u = v ∨ (u = Str.ofString "Y" ∧ v = Str.ofString "y")
def wtS (u : Str) : Int := if u = Str.ofString "Y" then 1 else 0
theorem wtS_0 (u : Str) : 0 ≤ wtS u := by unfold wtS; split <;> decide
theorem wtS_1 (u : Str) : wtS u ≤ 1 := by unfold wtS; split <;> decide
theorem subcost_0 (x y : Str) : 0 ≤ subcost x y := by unfold subcost; repeat' split
                                                      all_goals decide
theorem subcost_1 {x y : Str} (h : x ≠ y) : 1 ≤ subcost x y := by
  unfold subcost
  have : (x == y) = false := by simpa using h
  rw [this]
  simp only [Bool.false_eq_true, if_false]
  split <;> decide
theorem subcost_same (x : Str) : subcost x x = 0 := by simp [subcost]
theorem subcost_yY : subcost (Str.ofString "y") (Str.ofString "Y") = 1 := by decide +kernel
theorem cost_ok {u v : Str} (hv : v ≠ Str.ofString "Y") : wtS u ≤ subcost v u ∧ (mS u v → subcost v u ≤ wtS u) := by
  constructor
  · unfold wtS
    split
    · rename_i h
      exact subcost_1 (by rw [h]; exact hv)
    · exact subcost_0 _ _
  · rintro (h | ⟨h1, h2⟩)
    · rw [h, subcost_same]; exact wtS_0 _
    · rw [h1, h2, subcost_yY]; decide
section
variable {α : Type} [DecidableEq α]
theorem cpl_pre : ∀ (p a b : List α), cpl (p ++ a) (p ++ b) = p.length + cpl a b
  | [], a, b => by simp
  | x :: p, a, b => by
    simp only [List.cons_append, cpl, if_true, cpl_pre p a b, List.length_cons]
    omega
theorem cpl_take : ∀ (a b : List α), a.take (cpl a b) = b.take (cpl a b)
  | [], b => by simp [cpl]
  | x :: xs, [] => by simp [cpl]
  | x :: xs, y :: ys => by
    simp only [cpl]
    split
    · rename_i h
      rw [List.take_succ_cons, List.take_succ_cons, h, cpl_take xs ys]
    · simp
theorem cpl_app : ∀ (u v p q : List α), cpl u v < u.length → cpl u v < v.length → cpl (u ++ p) (v ++ q) = cpl u v
  | [], v, p, q, h, _ => by simp [cpl] at h
  | x :: xs, [], p, q, _, h => by simp [cpl] at h
  | x :: xs, y :: ys, p, q, h1, h2 => by
    by_cases h : x = y
    · simp only [List.cons_append, cpl, h, if_true] at h1 h2 ⊢
      rw [cpl_app xs ys p q (by simpa using h1) (by simpa using h2)]
    · simp only [List.cons_append, cpl, h, if_false]
end
theorem levT_cons {cost : Str → Str → Int} {x y : Str} {a b : List Str} {mx : Int} : levT cost (x :: a) (y :: b) mx = if 40 < a.length + 1 ∨ 40 < b.length + 1 then mx + 1 else if b.length + 1 < a.length + 1 then levS cost (y :: b) (x :: a) mx else levS cost (x :: a) (y :: b) mx := by
  unfold levT
  rw [if_neg (by simp)]
  rfl
theorem price_law {pre a b : List Str} {y Y : Str} (hm : mS Y y) (hY : Y = Str.ofString "Y") (hyn : y ≠ Str.ofString "Y") (hp : Part mS b a) (hn : Str.ofString "Y" ∉ pre ++ a) (hlt : b.length < a.length) (mx D price : Int)
    (hpr : price = 2 * ((a.length : Int) - b.length) + wsum wtS (pre ++ Y :: b)) (hmx : mx < 0 ∨ price - 1 ≤ mx)
    (hD : D = if mx < 0 ∨ 40 < stretchL (pre ++ y :: a) (pre ++ Y :: b) then mx + 1 else price) :
    levD subcost (pre ++ y :: a) (pre ++ Y :: b) mx = D ∧ levD subcost (pre ++ Y :: b) (pre ++ y :: a) mx = D := by
  have hYa : Y ∉ a := fun h => hn (List.mem_append_right _ (hY ▸ h))
  have hYp : Y ∉ pre := fun h => hn (List.mem_append_left _ (hY ▸ h))
  have hne : y ≠ Y := fun e => hyn (by rw [e, hY])
  have hf : cpl (pre ++ y :: a) (pre ++ Y :: b) = pre.length := by rw [cpl_pre]; simp [cpl, hne]
  obtain ⟨c, hc⟩ : ∃ c, c = cpl (y :: a).reverse (Y :: b).reverse := ⟨_, rfl⟩
  have hct : (y :: a).reverse.take c = (Y :: b).reverse.take c := by rw [hc]; exact cpl_take _ _
  have hcb : c ≤ b.length := by
    have h1 := cpl_le_right (y :: a).reverse (Y :: b).reverse
    rw [← hc, List.length_reverse, List.length_cons] at h1
    rcases (by omega : c ≤ b.length ∨ c = b.length + 1) with h | h
    · exact h
    · exfalso
      have h2 : Y ∈ (Y :: b).reverse.take c := by rw [List.take_of_length_le (by simp; omega)]; simp
      rw [← hct] at h2
      have h3 := List.mem_of_mem_take h2
      simp only [List.mem_reverse, List.mem_cons] at h3
      rcases h3 with h3 | h3
      · exact hne h3.symm
      · exact hYa h3
  have hcut1 : cutEnd (y :: a) (Y :: b) = y :: a.take (a.length - c) := by
    unfold cutEnd
    rw [← hc, List.length_cons, show a.length + 1 - c = a.length - c + 1 by omega, List.take_succ_cons]
  have hcut2 : cutEnd (Y :: b) (y :: a) = Y :: b.take (b.length - c) := by
    unfold cutEnd
    rw [cpl_symm, ← hc, List.length_cons, show b.length + 1 - c = b.length - c + 1 by omega, List.take_succ_cons]
  have hdrop : ∀ l : List Str, (pre ++ l).drop pre.length = l := fun l => List.drop_left' rfl
  have hst : stretchL (pre ++ y :: a) (pre ++ Y :: b) = (a.length : Int) + 1 - c := by
    unfold stretchL
    rw [hf, List.reverse_append, List.reverse_append, cpl_app _ _ _ _ (by rw [← hc]; simp; omega) (by rw [← hc]; simp; omega), ← hc]
    simp only [List.length_append, List.length_cons]
    omega
  have hpart : Part mS (b.take (b.length - c)) (a.take (a.length - c)) := Part.take_end c hcb hp
  have hla : (a.take (a.length - c)).length = a.length - c := by simp
  have hlb : (b.take (b.length - c)).length = b.length - c := by simp
  have hw0 : wsum wtS pre = 0 := wsum_zero fun x hx => by
    unfold wtS; rw [if_neg]; intro e; exact hYp (by rw [hY, ← e]; exact hx)
  have hwe : wsum wtS (b.drop (b.length - c)) = 0 := wsum_zero fun x hx => by
    unfold wtS; rw [if_neg]; intro e
    have h1 : x ∈ (b.drop (b.length - c)).reverse := List.mem_reverse.mpr hx
    have h2 : (b.drop (b.length - c)).reverse = (Y :: b).reverse.take c := by
      rw [List.reverse_cons, List.take_append_of_le_length (by simp; omega), List.reverse_drop]
      congr 1; omega
    rw [h2, ← hct] at h1
    have h3 := List.mem_of_mem_take h1
    simp only [List.mem_reverse, List.mem_cons] at h3
    rcases h3 with h3 | h3
    · exact hyn (by rw [← h3, e])
    · exact hYa (by rw [hY, ← e]; exact h3)
  have hwt : wsum wtS (Y :: b.take (b.length - c)) = wsum wtS (pre ++ Y :: b) := by
    rw [wsum_append, hw0, wsum_cons, wsum_cons]
    conv => rhs; rw [← List.take_append_drop (b.length - c) b, wsum_append, hwe]
    omega
  have hsum0 := wsum_nonneg wtS_0 (pre ++ Y :: b)
  have hS : levT subcost (y :: a.take (a.length - c)) (Y :: b.take (b.length - c)) mx = D ∧ levT subcost (Y :: b.take (b.length - c)) (y :: a.take (a.length - c)) mx = D := by
    rw [levT_cons, levT_cons, hla, hlb]
    rw [hst] at hD
    by_cases h40 : 40 < a.length - c + 1
    · rw [if_pos (.inl h40), if_pos (.inr h40), hD, if_pos (.inr (by omega))]
      exact ⟨rfl, rfl⟩
    · rw [if_neg (show ¬ (40 < a.length - c + 1 ∨ 40 < b.length - c + 1) by omega), if_neg (show ¬ (40 < b.length - c + 1 ∨ 40 < a.length - c + 1) by omega), if_pos (show b.length - c + 1 < a.length - c + 1 by omega), if_neg (show ¬ (a.length - c + 1 < b.length - c + 1) by omega)]
      suffices h : levS subcost (Y :: b.take (b.length - c)) (y :: a.take (a.length - c)) mx = D from ⟨h, h⟩
      rcases hmx with hmx | hmx
      · unfold levS
        rw [if_pos (by simp only [List.length_cons, hla, hlb]; omega), hD, if_pos (.inl hmx)]
      · have hs1 : wsum wtS (Y :: b.take (b.length - c)) = 1 + wsum wtS (b.take (b.length - c)) := by rw [wsum_cons]; unfold wtS; rw [if_pos hY]
        have hs2 := wsum_nonneg wtS_0 (b.take (b.length - c))
        rw [hD, if_neg (by omega)]
        refine levS_price subcost wtS wtS_0 wtS_1 Y y _ _ hm hpart mx price ?_ ?_ hmx (by unfold wtS; rw [if_pos hY])
        · intro u _ v hv
          refine cost_ok ?_
          rcases List.mem_cons.mp hv with rfl | hv
          · exact hyn
          · intro e; exact hYa (by rw [hY, ← e]; exact List.mem_of_mem_take hv)
        · rw [hwt, hpr, hla, hlb]; omega
  have hne9 : pre ++ y :: a ≠ pre ++ Y :: b := fun e => by
    have := List.append_cancel_left e
    injection this with e1 e2
    exact hne e1
  unfold levD
  rw [if_neg hne9, if_neg (Ne.symm hne9), cpl_symm (pre ++ Y :: b), hf, hdrop, hdrop, hcut1, hcut2]
  exact hS
end
section
open PySem.StrLaws PySem.Builtin PySem.Builtin.Str in
theorem occ_count (x : Str) (c limit : Nat) : ∀ (k lo : Nat) (acc : Array Nat) (free : Nat), lo + k = x.length + 1 → free ≤ lo → acc.size + k ≤ limit →
    (forIn (List.range' lo k) (acc, free) (occBody x ⟨#[c]⟩ x.length limit)).run.fst.size = acc.size + (x.cps.toList.drop lo).count c
  | 0, lo, acc, free, h1, h2, h3 => by
    have : x.cps.toList.drop lo = [] := List.drop_eq_nil_of_le (by have : x.length = x.cps.toList.length := by simp [Str.length]
                                                                   omega)
    rw [this]
    rfl
  | k + 1, lo, acc, free, h1, h2, h3 => by
    rw [List.range'_succ, List.forIn_cons]
    unfold occBody
    have hs := subAt_one x c lo
    by_cases hc : x.cps.toList[lo]? = some c
    · have h9 := hs.mpr hc
      rw [if_pos ⟨⟨⟨by show acc.size < limit; omega, by show free ≤ lo; exact h2⟩, h9.1⟩, h9.2⟩]
      have ih := occ_count x c limit k (lo + 1) (acc.push lo) (lo + (⟨#[c]⟩ : Str).length) (by omega) (by show lo + 1 ≤ _; omega) (by simp only [Array.size_push]; omega)
      have e : x.cps.toList.drop lo = c :: x.cps.toList.drop (lo + 1) := by
        obtain ⟨hl, he⟩ := List.getElem?_eq_some_iff.mp hc
        rw [List.drop_eq_getElem_cons hl, he]
      rw [e, List.count_cons_self]
      refine Eq.trans ih ?_
      simp only [Array.size_push]; omega
    · have h9 : ¬ (((acc.size < limit ∧ free ≤ lo) ∧ lo + (⟨#[c]⟩ : Str).length ≤ x.length) ∧ subAt x ⟨#[c]⟩ lo = true) := fun h => hc (hs.mp ⟨h.1.2, h.2⟩)
      rw [if_neg h9]
      have ih := occ_count x c limit k (lo + 1) acc free (by omega) (by omega) (by omega)
      have e : (x.cps.toList.drop lo).count c = (x.cps.toList.drop (lo + 1)).count c := by
        by_cases hl : lo < x.cps.toList.length
        · rw [List.drop_eq_getElem_cons hl, List.count_cons_of_ne]
          intro q
          exact hc (by rw [List.getElem?_eq_getElem hl, q])
        · rw [List.drop_eq_nil_of_le (by omega), List.drop_eq_nil_of_le (by omega)]
      rw [e]
      exact ih
theorem count_one (x : Str) (c : Nat) : Txt.count x ⟨#[c]⟩ = ((x.cps.toList.count c : Nat) : Int) := by
  unfold Txt.count
  rw [PySem.StrLaws.occ_eq, Array.length_toList]
  have := occ_count x c (x.length + 1) (x.length + 1) 0 #[] 0 (by omega) (Nat.le_refl _) (by simp)
  simp only [List.drop_zero] at this
  rw [show x.length + 1 - 0 = x.length + 1 from rfl, this]
  simp
theorem count_Y (x : Str) : Txt.count x (Str.ofString "Y") = wsum wtS (chs x) := by
  rw [show Str.ofString "Y" = (⟨#[89]⟩ : Str) by decide +kernel, count_one]
  unfold wsum chs
  rw [List.map_map]
  induction x.cps.toList with
  | nil => rfl
  | cons d l ih =>
    rw [List.map_cons, List.sum_cons, ← ih, List.count_cons]
    have e : (wtS ∘ fun c => (⟨#[c]⟩ : Str)) d = if d == 89 then 1 else 0 := by
      show wtS ⟨#[d]⟩ = _
      unfold wtS
      rw [show Str.ofString "Y" = (⟨#[89]⟩ : Str) by decide +kernel]
      by_cases h : d = 89
      · simp [h]
      · rw [if_neg, if_neg (by simpa using h)]
        intro q
        injection q with q
        exact h (by simpa using q)
    rw [e]
    split <;> push_cast <;> omega
end
section
section
variable {w : World} {E : Value → Shared → Prop} {s : Shared} {h₀ base : Heap} {L : Addr} {m : Str → Option Value} {news : List (Addr × Obj)} {dp' un' : Nat} {p : Program} {loose : List Str} {mean : ExcName → Option Value} {mg mb : Str → Option Value} {gd : Option (List Code)} {cn : Str} {cs : Scope} {a : Addr} {ccd : Value} {cl : List (Str × Addr)} {outer : List Env} {A₀ : Around} {Q : Value → Shared → Prop}
theorem use_walk {A l0 tp : Addr} {es : List Value} {cc c0 : Nat} (hm : (A, listOf (Value.ref l0 :: es).toArray cc) ∈ news) (hes : ∀ e ∈ es, ∃ a c, e = .ref a ∧ (a, listOf #[] c) ∈ news) (h0 : (l0, listOf #[.ref tp] c0) ∈ news) (hl : es.length ≤ 500) (hd : dp' ≤ 650) (hu : un' ≤ 5500)
    (B : Below A₀ base outer h₀) (F : Fr h₀ L s.heap m) (X : (Mine.hd0.heap_1_41 w.params).In h₀) (N : News h₀ L s.heap news) (T : Top p loose mean mg mb h₀) (hk : cs.kind = .function)
    (ret : ∀ D c' h' tk', Fr h₀ L h' m → News h₀ L h' ((D, listOf #[.ref tp] c') :: news) → (∀ p ∈ news, p.1 < D) → Q (.ref D) { s with heap := h', toks := tk' }) :
    wpAny (model PR w) (ktrTop dp' un' gd cn cs L a ccd cl outer) (call (.ref 237) [.ref A]) Q E s :=
  (con_walk w A l0 tp es cc c0 news hes h0 hl).use hd hu B F X (fun q hq => (List.mem_cons.mp hq).elim (fun e => e ▸ N _ hm) (N q)) T hk fun v n h' tk' hp F' N' => by
    obtain ⟨D, c', rfl, hlt, rfl⟩ := hp
    refine ret D c' h' tk' F' (fun q hq => ?_) fun q hq => hlt q (.tail _ hq)
    rcases List.mem_cons.mp hq with rfl | hq
    · exact N' _ (.head _)
    · exact N' q (.tail _ (.tail _ hq))
end
def ent (P : Params) (n : Str) (t : Tok) (v : Value) : DictEntry := { hash := PyData.keyHash P n, key := .str n t, val := v }
def wents (P : Params) (T : Nat → Tok) (q dl ds ns pm ps : Addr) (xv : Value) (rs rd : Bool) (ig : Int) (ti : Tok) : List DictEntry :=
  [ent P "_write" (T 0) (.ref q), ent P "_data" (T 1) (.ref dl), ent P "_with_comments" (T 2) (.bool false), ent P "_strip_text" (T 3) (.bool false), ent P "_exclude_attrs" (T 4) .none, ent P "_exclude_tags" (T 5) xv, ent P "_rewrite_prefixes" (T 6) (.bool false),
   ent P "_qname_aware_tags" (T 7) .none, ent P "_find_qname_aware_attrs" (T 8) .none, ent P "_declared_ns_stack" (T 9) (.ref ds), ent P "_ns_stack" (T 10) (.ref ns), ent P "_prefix_map" (T 11) (.ref pm), ent P "_preserve_space" (T 12) (.ref ps),
   ent P "_pending_start" (T 13) .none, ent P "_root_seen" (T 14) (.bool rs), ent P "_root_done" (T 15) (.bool rd), ent P "_ignored_depth" (T 16) (.int ig ti), ent P "_iter_namespaces" (T 17) (.ref 237)]
/-- where the writer's parts lie -/
structure WA where
  x : Addr
  dx : Addr
  q : Addr
  wa : Addr
  dl : Addr
  ds : Addr
  l0 : Addr
  tp : Addr
  ns : Addr
  pm : Addr
  ps : Addr
  c0 : Nat
  xv : Value
  u1 : Tok
  u2 : Tok
  T : Nat → Tok
/-- what the writer's parts hold -/
structure WS where
  rs : Bool
  rd : Bool
  ig : Int
  ti : Tok
  wr : List Value
  cw : Nat
  da : List Value
  cd : Nat
  es : List Value
  ce : Nat
  nv : List Value
  cn : Nat
  pv : List Value
  cp : Nat
def tupOf (a b : Str) (t u : Tok) : Obj := { cls := .type "tuple", data := .seq #[.str a t, .str b u] }
def WL (P : Params) (a : WA) (c : WS) : List (Addr × Obj) :=
  [(a.x, instObj 195 a.dx), (a.dx, dictOf (wents P a.T a.q a.dl a.ds a.ns a.pm a.ps a.xv c.rs c.rd c.ig c.ti) 18), (a.q, boundObj "list.append" (.ref a.wa)), (a.wa, listOf c.wr.toArray c.cw), (a.dl, listOf c.da.toArray c.cd),
   (a.ds, listOf (Value.ref a.l0 :: c.es).toArray c.ce), (a.l0, listOf #[.ref a.tp] a.c0), (a.tp, { cls := .type "tuple", data := .seq #[.str "http://www.w3.org/XML/1998/namespace" a.u1, .str "xml" a.u2] }), (a.ns, listOf c.nv.toArray c.cn), (a.ps, listOf c.pv.toArray c.cp)]
def WOrd (a : WA) : Prop := (@LT.lt Nat _ a.wa a.q) ∧ (@LT.lt Nat _ a.q a.dx) ∧ (@LT.lt Nat _ a.dx a.x) ∧ (@LT.lt Nat _ a.x a.dl) ∧ (@LT.lt Nat _ a.dl a.tp) ∧ (@LT.lt Nat _ a.tp a.l0) ∧ (@LT.lt Nat _ a.l0 a.ds) ∧ (@LT.lt Nat _ a.ds a.ns) ∧ (@LT.lt Nat _ a.ns a.pm) ∧ (@LT.lt Nat _ a.pm a.ps)
def WOut (a : WA) (rest : List (Addr × Obj)) : Prop := ∀ p ∈ rest, @LT.lt Nat _ p.1 a.wa ∨ @LT.lt Nat _ a.ps p.1 ∨ (@LT.lt Nat _ a.dl p.1 ∧ @LT.lt Nat _ p.1 a.tp)
end
section
theorem ne_WA : Nonempty WA := ⟨by constructor <;> exact default⟩
theorem ne_WS : Nonempty WS := ⟨by constructor <;> exact default⟩
/-- the writer's addresses from the lowest on -/
def wad (a : WA) : Nat → Addr
  | 0 => a.wa
  | 1 => a.q
  | 2 => a.dx
  | 3 => a.x
  | 4 => a.dl
  | 5 => a.tp
  | 6 => a.l0
  | 7 => a.ds
  | 8 => a.ns
  | 9 => a.pm
  | 10 => a.ps
  | k => a.ps + k
theorem wad_succ {a : WA} (h : WOrd a) : ∀ k, @LT.lt Nat _ (wad a k) (wad a (k + 1)) := by
  obtain ⟨h0, h1, h2, h3, h4, h5, h6, h7, h8, h9⟩ := h
  intro k
  match k with
  | 0 => exact h0
  | 1 => exact h1
  | 2 => exact h2
  | 3 => exact h3
  | 4 => exact h4
  | 5 => exact h5
  | 6 => exact h6
  | 7 => exact h7
  | 8 => exact h8
  | 9 => exact h9
  | 10 => exact Nat.lt_add_of_pos_right (by decide : 0 < 11)
  | k + 11 => exact Nat.lt_succ_self _
theorem wad_lt {a : WA} (h : WOrd a) (i : Nat) : ∀ d, @LT.lt Nat _ (wad a i) (wad a (i + (d + 1)))
  | 0 => wad_succ h i
  | d + 1 => Nat.lt_trans (wad_lt h i d) (wad_succ h _)
theorem wad_lt' {a : WA} (h : WOrd a) {i j : Nat} (hij : i < j) : @LT.lt Nat _ (wad a i) (wad a j) := by
  obtain ⟨d, rfl⟩ : ∃ d, j = i + (d + 1) := ⟨j - i - 1, by omega⟩
  exact wad_lt h i d
theorem wad_le {a : WA} (h : WOrd a) {i j : Nat} (hij : i ≤ j) : @LE.le Nat _ (wad a i) (wad a j) := by
  rcases Nat.eq_or_lt_of_le hij with rfl | hl
  · exact Nat.le_refl _
  · exact Nat.le_of_lt (wad_lt' h hl)
theorem w_ne {a : WA} {i j : Nat} {x y : Addr} (h : WOrd a) (hi : wad a i = x) (hj : wad a j = y) (hij : Nat.beq i j = false) : x ≠ y := by
  subst hi hj
  have hne : i ≠ j := fun e => by rw [e, Nat.beq_refl] at hij; cases hij
  rcases Nat.lt_or_gt_of_ne hne with hl | hl
  · exact Nat.ne_of_lt (wad_lt' h hl)
  · exact Nat.ne_of_gt (wad_lt' h hl)
theorem w_out {a : WA} {i : Nat} {d : Addr} {r : List (Addr × Obj)} (h : WOrd a) (hr : WOut a r) (hi : wad a i = d) (hb : Nat.ble i 10 = true) : ∀ p ∈ r, p.1 ≠ d := by
  subst hi
  intro p hp e
  have hb := Nat.le_of_ble_eq_true hb
  have e' : @Eq Nat p.1 (wad a i) := e
  have h0 : @LE.le Nat _ a.wa (wad a i) := wad_le h (Nat.zero_le i)
  have h1 : @LE.le Nat _ (wad a i) a.ps := wad_le h hb
  have h2 : @LE.le Nat _ (wad a i) a.dl ∨ @LE.le Nat _ a.tp (wad a i) := by
    rcases Nat.lt_or_ge i 5 with hl | hl
    · exact .inl (wad_le (j := 4) h (by omega))
    · exact .inr (wad_le (i := 5) h hl)
  rcases hr p hp with hq | hq | hq <;> omega
theorem w_ltq {a : WA} {i j : Nat} {x y : Addr} (h : WOrd a) (hi : wad a i = x) (hj : wad a j = y) (hij : Nat.blt i j = true) : @LT.lt Nat _ x y := by
  subst hi hj
  exact wad_lt' h (Nat.le_of_ble_eq_true hij)
theorem w_k {a : WA} {i k : Nat} {x : Addr} (h : WOrd a) (hk : @LT.lt Nat _ k a.wa) (hi : wad a i = x) : x ≠ k := by
  subst hi
  exact Nat.ne_of_gt (Nat.lt_of_lt_of_le hk (wad_le (i := 0) h (Nat.zero_le i)))
end
theorem lay_13 : True := by
  k_with "my:wix" => first | exact (rfl : wad _ 0 = _) | exact (rfl : wad _ 1 = _) | exact (rfl : wad _ 2 = _) | exact (rfl : wad _ 3 = _) | exact (rfl : wad _ 4 = _) | exact (rfl : wad _ 5 = _) | exact (rfl : wad _ 6 = _) | exact (rfl : wad _ 7 = _) | exact (rfl : wad _ 8 = _) | exact (rfl : wad _ 9 = _) | exact (rfl : wad _ 10 = _)
  k_with "my:ne2" => k_dflt exact w_ne (by assumption) (by k_extra "my:wix") (by k_extra "my:wix") (by exact rfl)
  k_with "my:k_all" => k_dflt exact w_out (by assumption) (by assumption) (by k_extra "my:wix") (by exact rfl)
  k_with "my:ne" => first | exact inferInstance | exact ne_WA | exact ne_WS | exact ne_world | exact ne_shared | (refine ne_prod ?_ ?_ <;> k_extra "my:ne")
  exact True.intro
section
def dataS (c : WS) (v : Value) : WS := if c.ig = 0 then { c with da := c.da ++ [v], cd := c.cd + 1 } else c
theorem con_data (w : World) (a : WA) (c : WS) (rest : List (Addr × Obj)) (y : Str) (t : Tok) (ho : WOrd a) (hr : WOut a rest) (hda : c.da.length ≤ 1000) :
    Con PySem.Challenge.rw_tv0054_01.row.prog w (Mine.hd0.heap_1_41 w.params) 142 640 5400 [.ref a.x, .str y t] (WL w.params a c ++ rest) (fun v n => v = .none ∧ n = WL w.params a (dataS c (.str y t)) ++ rest) := by
  revert w a c rest y t ho hr hda
  ((refine gen_all6 (ne := ?gN_148) (P := ?gP_148) ((?gf_148 : ∀ a0 a1 a2 a3 a4 a5, ?gP_148 a0 a1 a2 a3 a4 a5) (gen6 ?gN_148 ?gP_148).1 (gen6 ?gN_148 ?gP_148).2.1 (gen6 ?gN_148 ?gP_148).2.2.1 (gen6 ?gN_148 ?gP_148).2.2.2.1 (gen6 ?gN_148 ?gP_148).2.2.2.2.1 (gen6 ?gN_148 ?gP_148).2.2.2.2.2); (case gN_148 => k_extra "my:ne")))
  intros w a c rest y t
  intro ho hr hda
  w_top off
  k_fill
  refine' Con.of (binds := [("self", .ref a.x), ("data", .str y t)]) ?k6 ?k7 ?k8 ?k9 ?kB ?kN ?c2 ?c3 ?c4 ?c5 ?_
  (( (case k6 => k_is); (case k7 => k_is); (case k8 => decide); (case k9 => (intro s9 X9; first | exact BindsTo.of_eq rfl | exact binds_K X9 rfl (by k_is) rfl rfl rfl | (refine kp_binds X9 ?_; exact fun _ => rfl))); (case kB => exact locs rfl); (case kN => (simp only [List.map_cons, List.map_nil]; decide)); (case c2 => exact rfl); (case c3 => exact rfl); (case c4 => exact rfl); (case c5 => decide); k_with "WPost" => dsimp only [WPost]; k_with "FPost" => dsimp only [FPost]))
  ((refine gen_all10 (ne := ?gN_150) (P := ?gP_150) ((?gf_150 : ∀ a0 a1 a2 a3 a4 a5 a6 a7 a8 a9, ?gP_150 a0 a1 a2 a3 a4 a5 a6 a7 a8 a9) (gen10 ?gN_150 ?gP_150).1 (gen10 ?gN_150 ?gP_150).2.1 (gen10 ?gN_150 ?gP_150).2.2.1 (gen10 ?gN_150 ?gP_150).2.2.2.1 (gen10 ?gN_150 ?gP_150).2.2.2.2.1 (gen10 ?gN_150 ?gP_150).2.2.2.2.2.1 (gen10 ?gN_150 ?gP_150).2.2.2.2.2.2.1 (gen10 ?gN_150 ?gP_150).2.2.2.2.2.2.2.1 (gen10 ?gN_150 ?gP_150).2.2.2.2.2.2.2.2.1 (gen10 ?gN_150 ?gP_150).2.2.2.2.2.2.2.2.2); (case gN_150 => k_extra "my:ne")))
  intros p loose mean mg mb gd cn cs ad ccd
  ((refine gen_all10 (ne := ?gN_151) (P := ?gP_151) ((?gf_151 : ∀ a0 a1 a2 a3 a4 a5 a6 a7 a8 a9, ?gP_151 a0 a1 a2 a3 a4 a5 a6 a7 a8 a9) (gen10 ?gN_151 ?gP_151).1 (gen10 ?gN_151 ?gP_151).2.1 (gen10 ?gN_151 ?gP_151).2.2.1 (gen10 ?gN_151 ?gP_151).2.2.2.1 (gen10 ?gN_151 ?gP_151).2.2.2.2.1 (gen10 ?gN_151 ?gP_151).2.2.2.2.2.1 (gen10 ?gN_151 ?gP_151).2.2.2.2.2.2.1 (gen10 ?gN_151 ?gP_151).2.2.2.2.2.2.2.1 (gen10 ?gN_151 ?gP_151).2.2.2.2.2.2.2.2.1 (gen10 ?gN_151 ?gP_151).2.2.2.2.2.2.2.2.2); (case gN_151 => k_extra "my:ne")))
  intros cl outer base g h₁ L' L₀ s tk R
  intro F' N' B' X' T'
  simp only [kstB] at F'
  simp only [WL, wents, ent, List.cons_append, List.nil_append] at N'
  obtain ⟨o1, o2, o3, o4, o5, o6, o7, o8, o9, o10⟩ := id ho
  k_extra "my:go"
  · have e : dataS c (.str y t) = c := if_neg (by assumption)
    rw [e]
    refine ⟨_, _, _, _, _, _, rfl, by k_asm, by k_asm, ?_, rfl, rfl⟩
    simp only [WL, wents, ent, List.cons_append, List.nil_append]
    (((try dsimp only); k_extra "my:inl"))
  · have e : dataS c (.str y t) = { c with da := c.da ++ [.str y t], cd := c.cd + 1 } := if_pos (by omega)
    rw [e]
    rename (News _ _ _ _) => N'
    try simp only [List.push_toArray] at N'
    refine ⟨_, _, _, _, _, _, rfl, by k_asm, by k_asm, ?_, rfl, rfl⟩
    simp only [WL, wents, ent, List.cons_append, List.nil_append]
    (((try dsimp only); k_extra "my:inl"))
end
section
theorem lay_14 : True := by
  k_with "my:delItem ref ref" => ((fail_if_success k_extra "off35"); (with_reducible refine stop_in ?_))
  k_with "my:callWith ref" => ((fail_if_success k_extra "off35"); ((with_reducible show wpAny _ _ (callWith _ (Value.ref 143) _ _ _) _ _ _); k_dflt refine callWith_boundG (ob := boundObj "str.join" (.str (Str.ofString "") 704)) rfl rfl ?_))
  k_with "my:And" => ((fail_if_success k_extra "off35"); ((with_reducible show Heap.get? _ 143 = _ ∧ _); k_dflt (refine ⟨fr_at (by k_asm) (by k_asm) (by k_is), ?_⟩); (try dsimp only [List.nil_append, List.cons_append])))
  k_with "my:call ref" => ((fail_if_success k_extra "off35"); ((with_reducible show wpAny _ _ (call (Value.ref 143) [_]) _ _ _); (with_reducible refine stop_in ?_)))
  exact True.intro
theorem sum_le_of (ys : List Str) (B : Nat) (h : ∀ y ∈ ys, y.length ≤ B) : (ys.map (·.length)).sum ≤ B * ys.length := by
  induction ys with
  | nil => simp
  | cons y ys ih =>
    have h1 := h y (by simp)
    have h2 := ih fun z hz => h z (by simp [hz])
    simp only [List.map_cons, List.sum_cons, List.length_cons, Nat.mul_succ]
    omega
theorem strsAre_length {vs : List Value} {ys : List Str} (h : StrsAre vs ys) : vs.length = ys.length := by
  induction h with
  | nil => rfl
  | cons _ _ _ ih => simp [ih]
theorem join_cps (ys : List Str) : (Txt.join (Str.ofString "") ys).cps.toList = ys.flatMap (·.cps.toList) := by
  unfold Txt.join
  rw [StrLaws.glued_eq_join]
  induction ys with
  | nil => rfl
  | cons y r ih =>
    cases r with
    | nil => simp [Str.join]
    | cons z r =>
      show (y ++ Str.ofString "" ++ Str.join (Str.ofString "") (z :: r)).cps.toList = _
      simp only [Str.cps_append, Array.toList_append]
      rw [ih]
      simp [show (Str.ofString "").cps = #[] from rfl]
theorem join_len (ys : List Str) : (Txt.join (Str.ofString "") ys).length = (ys.map (·.length)).sum := by
  have h := congrArg List.length (join_cps ys)
  rw [List.length_flatMap] at h
  simpa [Str.length] using h
theorem use_escape {w : World} {E : Value → Shared → Prop} {s : Shared} {h₀ base : Heap} {L : Addr} {m : Str → Option Value} {news : List (Addr × Obj)} {dp' un' : Nat} {p : Program} {loose : List Str} {mean : ExcName → Option Value} {mg mb : Str → Option Value} {gd : Option (List Code)} {cn : Str} {cs : Scope} {a : Addr} {ccd : Value} {cl : List (Str × Addr)} {outer : List Env} {A₀ : Around} {Q : Value → Shared → Prop}
    {x : Str} {t : Tok} (hx : x.length ≤ 100) (hd : dp' ≤ 660) (hu : un' ≤ 5600) (B : Below A₀ base outer h₀) (F : Fr h₀ L s.heap m) (X : (Mine.hd0.heap_1_41 w.params).In h₀) (N : News h₀ L s.heap news) (T : Top p loose mean mg mb h₀) (hk : cs.kind = .function)
    (ret : ∀ t h' tk', Fr h₀ L h' m → News h₀ L h' news → Q (.str (escT x) t) { s with heap := h', toks := tk' }) :
    wpAny (model PR w) (ktrTop dp' un' gd cn cs L a ccd cl outer) (call (.ref 206) [.str x t]) Q E s :=
  Con.useT (con_escape w x t hx news) hd hu B F X N T hk ret
theorem lay_15 : True := by
  k_with "my:callWith ref" => ((fail_if_success k_extra "off35"); ((try dsimp only); (with_reducible show wpAny _ _ (callWith _ (Value.ref (WA.q _)) _ _ _) _ _ _); k_dflt refine callWith_boundN (by k_asm) (by k_mem) ?_))
  k_with "my:And" => ((fail_if_success k_extra "off35"); ((with_reducible show Heap.get? _ (WA.q _) = _ ∧ _); k_dflt (refine ⟨(News.get (by k_asm) (by k_mem)), ?_⟩); (try dsimp only [List.nil_append, List.cons_append])))
  k_with "my:call ref" => ((fail_if_success k_extra "off35"); ((with_reducible show wpAny _ _ (call (Value.ref (WA.q _)) [_]) _ _ _); (with_reducible refine stop_in ?_)))
  k_with "my:call ref" => ((fail_if_success k_extra "off35"); ((with_reducible show wpAny _ _ (call (Value.ref 206) [_]) _ _ _); (k_dflt refine use_escape (by omega) (by k_extra "my:us1") (by k_extra "my:us1") (by k_asm) (by k_asm) (by k_asm) (by k_asm) (by k_asm) (by k_extra "my:us2") ?_; walk_at "g3"; intros _ _ _; intro _ _; k_sweep)))
  exact True.intro
theorem con_flush (w : World) (a : WA) (c : WS) (rest : List (Addr × Obj)) (ys : List Str) (hy : StrsAre c.da ys) (ho : WOrd a) (hr : WOut a rest) (hda : c.da.length ≤ 30) (hlen : ∀ y ∈ ys, 1 ≤ y.length ∧ y.length ≤ 3) (hn : c.da ≠ []) (hrs : c.rs = true) (hwr : c.wr.length ≤ 1000) :
    Con PySem.Challenge.rw_tv0054_01.row.prog w (Mine.hd0.heap_1_41 w.params) 151 630 5300 [.ref a.x] (WL w.params a c ++ rest) 
      (fun v n => v = .none ∧ ∃ t, n = WL w.params a { c with wr := c.wr ++ [.str (escT (Txt.join (Str.ofString "") ys)) t], cw := c.cw + 1, da := [], cd := c.cd + 1 } ++ rest) := by
  revert w a c rest ys hy ho hr hda hlen hn hrs hwr
  walk_at "g5"
  intros w a c rest ys
  intro hy ho hr hda hlen hn hrs hwr
  w_top off
  k_fill
  refine' Con.of (binds := [("self", .ref a.x), ("_join_text", .ref 143)]) ?k6 ?k7 ?k8 ?k9 ?kB ?kN ?c2 ?c3 ?c4 ?c5 ?_
  (( (case k6 => k_is); (case k7 => k_is); (case k8 => decide); (case k9 => (intro s9 X9; first | exact BindsTo.of_eq rfl | exact binds_K X9 rfl (by k_is) rfl rfl rfl | (refine kp_binds X9 ?_; exact fun _ => rfl))); (case kB => exact locs rfl); (case kN => (simp only [List.map_cons, List.map_nil]; decide)); (case c2 => exact rfl); (case c3 => exact rfl); (case c4 => exact rfl); (case c5 => decide); k_with "WPost" => dsimp only [WPost]; k_with "FPost" => dsimp only [FPost]))
  ((refine gen_all10 (ne := ?gN_155) (P := ?gP_155) ((?gf_155 : ∀ a0 a1 a2 a3 a4 a5 a6 a7 a8 a9, ?gP_155 a0 a1 a2 a3 a4 a5 a6 a7 a8 a9) (gen10 ?gN_155 ?gP_155).1 (gen10 ?gN_155 ?gP_155).2.1 (gen10 ?gN_155 ?gP_155).2.2.1 (gen10 ?gN_155 ?gP_155).2.2.2.1 (gen10 ?gN_155 ?gP_155).2.2.2.2.1 (gen10 ?gN_155 ?gP_155).2.2.2.2.2.1 (gen10 ?gN_155 ?gP_155).2.2.2.2.2.2.1 (gen10 ?gN_155 ?gP_155).2.2.2.2.2.2.2.1 (gen10 ?gN_155 ?gP_155).2.2.2.2.2.2.2.2.1 (gen10 ?gN_155 ?gP_155).2.2.2.2.2.2.2.2.2); (case gN_155 => k_extra "my:ne")))
  intros p loose mean mg mb gd cn cs ad ccd
  ((refine gen_all10 (ne := ?gN_156) (P := ?gP_156) ((?gf_156 : ∀ a0 a1 a2 a3 a4 a5 a6 a7 a8 a9, ?gP_156 a0 a1 a2 a3 a4 a5 a6 a7 a8 a9) (gen10 ?gN_156 ?gP_156).1 (gen10 ?gN_156 ?gP_156).2.1 (gen10 ?gN_156 ?gP_156).2.2.1 (gen10 ?gN_156 ?gP_156).2.2.2.1 (gen10 ?gN_156 ?gP_156).2.2.2.2.1 (gen10 ?gN_156 ?gP_156).2.2.2.2.2.1 (gen10 ?gN_156 ?gP_156).2.2.2.2.2.2.1 (gen10 ?gN_156 ?gP_156).2.2.2.2.2.2.2.1 (gen10 ?gN_156 ?gP_156).2.2.2.2.2.2.2.2.1 (gen10 ?gN_156 ?gP_156).2.2.2.2.2.2.2.2.2); (case gN_156 => k_extra "my:ne")))
  intros cl outer base g h₁ L' L₀ s tk R
  intro F' N' B' X' T'
  simp only [kstB] at F'
  simp only [WL, wents, ent, List.cons_append, List.nil_append] at N'
  obtain ⟨o1, o2, o3, o4, o5, o6, o7, o8, o9, o10⟩ := id ho
  k_extra "my:go"
  have hyl := strsAre_length hy
  have hsum := sum_le_of ys 3 fun y hy => (hlen y hy).2
  rename (Fr _ _ _ _) => F'
  rename (News _ _ _ _) => N'
  refine bound_join (ob := boundObj "str.join" (.str (Str.ofString "") 704)) (items := c.da.toArray) (ys := ys) rfl rfl (fr_at X' F' (by k_is)) ⟨_, (N' (a.dl, listOf c.da.toArray c.cd) (by k_extra "my:mem")).1, rfl, _, rfl⟩ hy (by omega) (by decide) ?_
  walk_at "g2"
  intros t' k'
  have hjl : (Txt.join (Str.ofString "") ys).length ≤ 90 := by
    rw [join_len]; omega
  have hj0 : 1 ≤ (Txt.join (Str.ofString "") ys).length := by
    rw [join_len]
    cases ys with
    | nil => exact absurd (List.length_eq_zero_iff.mp (by simpa using hyl)) hn
    | cons y r =>
      have := (hlen y (by simp)).1
      simp only [List.map_cons, List.sum_cons]; omega
  generalize hJ : Txt.join (Str.ofString "") ys = J at *
  k_extra "my:go"
  rename (Fr _ _ _ _) => F'
  rename (News _ _ _ _) => N'
  refine del_all (s := ⟨_, _, _, _, _⟩) (items := c.da.toArray) (n := c.cd) F' N' (by k_upd) (by simpa using hn) (by simp; omega) ?_
  clear F' N'
  walk_at "g1"
  intro h' F' N'
  k_sweep
  k_extra "my:go"
  all_goals (
    rename (Fr _ _ _ _) => F'
    rename (News _ _ _ _) => N'
    subst hJ
    refine bound_append (D := a.wa) (its := c.wr.toArray) (n := c.cw) F' N' (by k_mem) (by k_upd) (by simp; omega) ?_
    clear F' N'
    walk_at "g1"
    intro h' F' N'
    k_sweep
    simp only [List.push_toArray] at N'
    k_extra "my:go"
    refine' ⟨_, _, _, _, _, _, rfl, by k_asm, by k_asm, ?_, rfl, _, rfl⟩
    simp only [WL, wents, ent, List.cons_append, List.nil_append]
    (((try dsimp only); k_extra "my:inl")))
end
theorem lay_16 : True := by
  k_with "off35" => skip
  exact True.intro
section
theorem lay_17 : True := by
  k_with "my:pyIter ref" => ((fail_if_success k_extra "off36"); ((with_reducible show wpAny _ _ (pyIter (Value.ref _)) (fun it s₂ => LoopAtV _ _ _ _ _ _ _ _ _ it s₂) _ _); (with_reducible refine stop_in ?_)))
  k_with "my:last pyIter ref" => ((fail_if_success k_extra "off36"); ((with_reducible show wpAny _ _ (pyIter (Value.ref _)) (fun it s₂ => LoopAtV _ _ _ _ _ _ _ _ _ it s₂) _ _); (with_reducible refine stop_in ?_)))
  k_with "my:pyIter ref" => ((fail_if_success k_extra "off36"); ((with_reducible show wpAny _ _ (pyIter (Value.ref _)) (fun it s₂ => TurnsAt _ _ _ _ _ _ _ _ _ it s₂) _ _); (with_reducible refine stop_in ?_)))
  k_with "my:last pyIter ref" => ((fail_if_success k_extra "off36"); ((with_reducible show wpAny _ _ (pyIter (Value.ref _)) (fun it s₂ => TurnsAt _ _ _ _ _ _ _ _ _ it s₂) _ _); (with_reducible refine stop_in ?_)))
  k_with "my:call ref" => ((fail_if_success k_extra "off36"); ((with_reducible show wpAny _ _ (call (Value.ref 237) [_]) _ _ _); (with_reducible refine stop_in ?_)))
  k_with "my:getMethod ref" => ((fail_if_success k_extra "off36"); ((with_reducible show wpAny _ _ (getMethod (Value.ref _) (Str.ofString "_iter_namespaces") _) _ _ _); k_dflt (refine gm_shadow (by k_asm) (by k_asm) (by k_inst) (by k_is) (by k_is) (by k_is) (by k_is) (by k_is) (by k_is) (by k_get) (by k_handed) ?_; k_whole)))
  k_with "my:call type:set nil nil" => ((fail_if_success k_extra "off36"); (with_reducible refine stop_in ?_))
  exact True.intro
theorem con_qnC (w : World) (a : WA) (c : WS) (rest : List (Addr × Obj)) (y : Str) (t : Tok) (hy : y.length = 1) (hy2 : (Txt.slice y none (some 1) == Str.ofString "{") = false) (hes : ∀ e ∈ c.es, ∃ a c, e = .ref a ∧ (a, listOf #[] c) ∈ rest) (hl : c.es.length ≤ 500) :
    ConC PySem.Challenge.rw_tv0054_01.row.prog w (Mine.hd0.heap_1_41 w.params) 135 640 5400 [.ref a.x, .str y t] (WL w.params a c ++ rest) 
      (fun v n => ∃ R t1 t2 t3, v = .ref R ∧ (∀ p ∈ WL w.params a c ++ rest, p.1 < R) ∧ n = (R, { cls := .type "tuple", data := .seq #[.str y t1, .str y t2, .str "" t3] }) :: (WL w.params a c ++ rest)) := by
  revert w a c rest y t hy hy2 hes hl
  ((refine gen_all6 (ne := ?gN_158) (P := ?gP_158) ((?gf_158 : ∀ a0 a1 a2 a3 a4 a5, ?gP_158 a0 a1 a2 a3 a4 a5) (gen6 ?gN_158 ?gP_158).1 (gen6 ?gN_158 ?gP_158).2.1 (gen6 ?gN_158 ?gP_158).2.2.1 (gen6 ?gN_158 ?gP_158).2.2.2.1 (gen6 ?gN_158 ?gP_158).2.2.2.2.1 (gen6 ?gN_158 ?gP_158).2.2.2.2.2); (case gN_158 => k_extra "my:ne")))
  intros w a c rest y t
  intro hy hy2 hes hl
  w_top off
  k_fill
  refine' ConC.of (binds := [("self", .ref a.x), ("qname", .str y t), ("uri", .none)]) ?k6 ?k7 ?k8 ?k9 ?kB ?kN ?c2 ?c3 ?c4 ?c5 ?_
  (( (case k6 => k_is); (case k7 => k_is); (case k8 => decide); (case k9 => (intro s9 X9; first | exact BindsTo.of_eq rfl | exact binds_K X9 rfl (by k_is) rfl rfl rfl | (refine kp_binds X9 ?_; exact fun _ => rfl))); (case kB => exact locs rfl); (case kN => (simp only [List.map_cons, List.map_nil]; decide)); (case c2 => exact rfl); (case c3 => exact rfl); (case c4 => exact rfl); (case c5 => decide); k_with "WPost" => dsimp only [WPost]; k_with "FPost" => dsimp only [FPost]))
  ((refine gen_all10 (ne := ?gN_160) (P := ?gP_160) ((?gf_160 : ∀ a0 a1 a2 a3 a4 a5 a6 a7 a8 a9, ?gP_160 a0 a1 a2 a3 a4 a5 a6 a7 a8 a9) (gen10 ?gN_160 ?gP_160).1 (gen10 ?gN_160 ?gP_160).2.1 (gen10 ?gN_160 ?gP_160).2.2.1 (gen10 ?gN_160 ?gP_160).2.2.2.1 (gen10 ?gN_160 ?gP_160).2.2.2.2.1 (gen10 ?gN_160 ?gP_160).2.2.2.2.2.1 (gen10 ?gN_160 ?gP_160).2.2.2.2.2.2.1 (gen10 ?gN_160 ?gP_160).2.2.2.2.2.2.2.1 (gen10 ?gN_160 ?gP_160).2.2.2.2.2.2.2.2.1 (gen10 ?gN_160 ?gP_160).2.2.2.2.2.2.2.2.2); (case gN_160 => k_extra "my:ne")))
  intros p loose mean mg mb gd cn cs ad ccd
  ((refine gen_all10 (ne := ?gN_161) (P := ?gP_161) ((?gf_161 : ∀ a0 a1 a2 a3 a4 a5 a6 a7 a8 a9, ?gP_161 a0 a1 a2 a3 a4 a5 a6 a7 a8 a9) (gen10 ?gN_161 ?gP_161).1 (gen10 ?gN_161 ?gP_161).2.1 (gen10 ?gN_161 ?gP_161).2.2.1 (gen10 ?gN_161 ?gP_161).2.2.2.1 (gen10 ?gN_161 ?gP_161).2.2.2.2.1 (gen10 ?gN_161 ?gP_161).2.2.2.2.2.1 (gen10 ?gN_161 ?gP_161).2.2.2.2.2.2.1 (gen10 ?gN_161 ?gP_161).2.2.2.2.2.2.2.1 (gen10 ?gN_161 ?gP_161).2.2.2.2.2.2.2.2.1 (gen10 ?gN_161 ?gP_161).2.2.2.2.2.2.2.2.2); (case gN_161 => k_extra "my:ne")))
  intros cl outer base g h₁ L' L₀ s tk R
  intro F' N' B' X' T'
  simp only [kstB] at F'
  simp only [WL, wents, ent, List.cons_append, List.nil_append] at N'
  k_extra "my:go"
  rename (Fr _ _ _ _) => F'
  rename (News _ _ _ _) => N'
  refine kse_new F' N' ?_
  clear F' N'
  walk_at "g3"
  intros SD h' led
  intro F' N' lS hs' hz'
  k_sweep
  k_extra "my:go"
  have hlS : ∀ p ∈ WL w.params a c ++ rest, p.1 < SD := fun p hp => lS p (.tail _ hp)
  have hSx : @LT.lt Nat _ a.tp SD := hlS (a.tp, _) (List.mem_append_left _ (by unfold WL; repeat (first | exact List.Mem.head _ | apply List.Mem.tail)))
  (((with_reducible rename Fr _ _ _ _ => lF'); (with_unfolding_all refine' For_turns lF' ?_; k_whole); k_extra "my:go"))
  rename (Fr _ _ _ _) => F'
  rename (News _ _ _ _) => N'
  refine use_walk (l0 := a.l0) (tp := a.tp) (es := c.es) (by k_extra "my:mem") (fun e he => ?_) (by k_extra "my:mem") hl (by k_extra "my:us1") (by k_extra "my:us1") (by k_asm) F' (by k_asm) N' (by k_asm) rfl ?_
  · obtain ⟨a', c', h1, h2⟩ := hes e he
    exact ⟨a', c', h1, by k_extra "my:mem"⟩
  clear F' N'
  walk_at "g4"
  intros D c' h' tk'
  intro F' N' l1
  have lD : @LT.lt Nat _ SD D := l1 (SD, _) (.head _)
  k_sweep
  k_extra "my:go"
  rename (Fr _ _ _ _) => F'
  rename (News _ _ _ _) => N'
  have NG : News g L' h' (WL w.params a c ++ rest) := fun p hp => N' p (.tail _ (.tail _ (.tail _ hp)))
  have htp : (a.tp, ({ cls := .type "tuple", data := .seq #[.str "http://www.w3.org/XML/1998/namespace" a.u1, .str "xml" a.u2] } : Obj)) ∈ WL w.params a c ++ rest := List.mem_append_left _ (by unfold WL; repeat (first | exact List.Mem.head _ | apply List.Mem.tail))
  generalize hG : WL w.params a c ++ rest = G at *
  refine forListT (σ := Obj) (l := D) (vs := [.ref a.tp]) (nn := c') (fun o => (D, listOf #[.ref a.tp] c') :: (a.tp, { cls := .type "tuple", data := .seq #[.str "http://www.w3.org/XML/1998/namespace" a.u1, .str "xml" a.u2] }) :: (SD, o) :: G) (fun _ => [("prefixes_seen", .ref SD), ("tag", .str y t), ("uri", .str "" _), ("self", .ref a.x)])
    (fun i o => (i = 0 → Obj.SetObjOf (PySem.strKind PR w) o (fun x => false) 0) ∧ (i = 1 → ∃ q, Obj.SetObjOf (PySem.strKind PR w) o q 1 ∧ q "" = false)) (fun o => ∃ q, Obj.SetObjOf (PySem.strKind PR w) o q 1 ∧ q "" = false)
    _ rfl (fun _ => .head _) F' (fun p hp => ?_) (by k_extra "my:names") ⟨fun _ => hz', fun e => absurd e (by decide)⟩ ?_ ?_ ?_
  · rcases List.mem_cons.mp hp with rfl | hp
    · exact N' _ (.head _)
    rcases List.mem_cons.mp hp with rfl | hp
    · exact NG _ htp
    rcases List.mem_cons.mp hp with rfl | hp
    · exact N' _ (.tail _ (.head _))
    · exact NG p hp
  · ((refine gen_all7 (ne := ?gN_163) (P := ?gP_163) ((?gf_163 : ∀ a0 a1 a2 a3 a4 a5 a6, ?gP_163 a0 a1 a2 a3 a4 a5 a6) (gen7 ?gN_163 ?gP_163).1 (gen7 ?gN_163 ?gP_163).2.1 (gen7 ?gN_163 ?gP_163).2.2.1 (gen7 ?gN_163 ?gP_163).2.2.2.1 (gen7 ?gN_163 ?gP_163).2.2.2.2.1 (gen7 ?gN_163 ?gP_163).2.2.2.2.2.1 (gen7 ?gN_163 ?gP_163).2.2.2.2.2.2); (case gN_163 => k_extra "my:ne")))
    intros i v o u' h tk own
    rintro hv hown ⟨hi0, _⟩ F' N'
    have hi : i = 0 ∧ v = Value.ref a.tp := by
      cases i with
      | zero => simp at hv; exact ⟨rfl, hv.symm⟩
      | succ i => simp at hv
    obtain ⟨rfl, rfl⟩ := hi
    have hso := hi0 rfl
    clear hi0 hs' hz'
    simp only [kstB] at F'
    simp only [List.cons_append] at N'
    k_sweep
    k_extra "my:go"
    rename (Obj.SetObjOf _ _ _ _) => hs9
    refine ⟨_, _, _, _, _, rfl, by k_asm, by k_asm, by (((try dsimp only); k_extra "my:inl")), by (((try dsimp only); k_extra "my:inl")), by k_extra "my:names", ?_⟩
    exact ⟨⟨fun e => absurd e (by decide), fun _ => ⟨_, hs9, by decide +kernel⟩⟩, same_old rfl⟩
  · walk_at "g4"
    intros o u' h tk
    intro hxq F' N'
    refine ex_in hxq ?_
    clear hxq
    walk_at "g1"
    rintro q ⟨hso, hq⟩
    simp only [kstB] at F'
    clear hs' hz'
    k_sweep
    subst hG
    simp only [WL, wents, ent, List.cons_append, List.nil_append] at N'
    dsimp only
    k_extra "my:go"
    rename (∀ p ∈ ((_, _) :: _ : List (Addr × Obj)), p.1 < _) => l9
    refine' ⟨_, _, _, _, _, _, rfl, by k_asm, by k_asm, ?_, _, t, t, _, rfl, fun p hp => l9 p (.tail _ (.tail _ (.tail _ hp))), rfl⟩
    simp only [WL, wents, ent, List.cons_append, List.nil_append]
    (((try dsimp only); k_extra "my:inl"))
  · rintro o ⟨_, h1⟩
    exact h1 rfl
theorem con_qn (w : World) (a : WA) (c : WS) (rest : List (Addr × Obj)) (y : Str) (t : Tok) (hy : y.length = 1) (hy2 : (Txt.slice y none (some 1) == Str.ofString "{") = false) (hes : ∀ e ∈ c.es, ∃ a c, e = .ref a ∧ (a, listOf #[] c) ∈ rest) (hl : c.es.length ≤ 500) :
    Con PySem.Challenge.rw_tv0054_01.row.prog w (Mine.hd0.heap_1_41 w.params) 135 640 5400 [.ref a.x, .str y t] (WL w.params a c ++ rest) 
      (fun v n => ∃ R t1 t2 t3, v = .ref R ∧ (∀ p ∈ WL w.params a c ++ rest, p.1 < R) ∧ n = (R, { cls := .type "tuple", data := .seq #[.str y t1, .str y t2, .str "" t3] }) :: (WL w.params a c ++ rest)) :=
  ConC.con (con_qnC w a c rest y t hy hy2 hes hl)
end
theorem lay_18 : True := by
  k_with "off36" => skip
  exact True.intro
section
theorem lay_19 : True := by
  k_with "my:setAdd str" => ((fail_if_success k_extra "off37"); with_reducible refine stop_in ?_)
  k_with "my:eval Set cons" => ((fail_if_success k_extra "off37"); with_reducible refine stop_in ?_)
  k_with "my:eval Lambda" => ((fail_if_success k_extra "off37"); with_reducible refine stop_in ?_)
  k_with "my:eval Lambda Call" => ((fail_if_success k_extra "off37"); with_reducible refine stop_in ?_)
  exact True.intro
section
variable {w : World} {M : Model} {A : Around} {E : Value → Shared → Prop} {s : Shared} {h₀ base : Heap} {L C : Addr} {m : Str → Option Value} {news : List (Addr × Obj)} {dp' un' : Nat} {p : Program} {loose : List Str} {mean : ExcName → Option Value} {mg mb : Str → Option Value} {gd : Option (List Code)} {cn : Str} {cs : Scope} {b : Addr} {ccd : Value} {cl : List (Str × Addr)} {outer : List Env} {A₀ : Around} {Q : Value → Shared → Prop}
theorem use_qn {a : WA} {c : WS} {y : Str} {t : Tok} (hy : y.length = 1) (hy2 : (Txt.slice y none (some 1) == Str.ofString "{") = false) (hes : ∀ e ∈ c.es, ∃ a c, e = .ref a ∧ (a, listOf #[] c) ∈ news) (hl : c.es.length ≤ 500) (hW : ∀ q ∈ WL w.params a c, q ∈ news) (hd : dp' ≤ 640) (hu : un' ≤ 5400)
    (B : Below A₀ base outer h₀) (F : Fr h₀ L s.heap m) (X : (Mine.hd0.heap_1_41 w.params).In h₀) (N : News h₀ L s.heap news) (T : Top p loose mean mg mb h₀) (hk : cs.kind = .function)
    (ret : ∀ R t1 t2 t3 h' tk', Fr h₀ L h' m → News h₀ L h' ((R, { cls := .type "tuple", data := .seq #[.str y t1, .str y t2, .str "" t3] }) :: news) → (∀ p ∈ news, p.1 < R) → Q (.ref R) { s with heap := h', toks := tk' }) :
    wpAny (model PR w) (ktrTop dp' un' gd cn cs L b ccd cl outer) (call (.ref 135) [.ref a.x, .str y t]) Q E s :=
  (con_qn w a c news y t hy hy2 hes hl).use hd hu B F X (fun q hq => (List.mem_append.mp hq).elim (fun e => N _ (hW q e)) (N q)) T hk fun v n h' tk' hp F' N' => by
    obtain ⟨R, t1, t2, t3, rfl, hlt, rfl⟩ := hp
    refine ret R t1 t2 t3 h' tk' F' (fun q hq => ?_) fun q hq => hlt q (List.mem_append_right _ hq)
    rcases List.mem_cons.mp hq with rfl | hq
    · exact N' _ (.head _)
    · exact N' q (.tail _ (List.mem_append_right _ hq))
theorem use_qnM {q : Addr} {a : WA} {c : WS} {y : Str} {t : Tok} (hy : y.length = 1) (hy2 : (Txt.slice y none (some 1) == Str.ofString "{") = false) (hes : ∀ e ∈ c.es, ∃ a c, e = .ref a ∧ (a, listOf #[] c) ∈ news) (hl : c.es.length ≤ 500) (hW : ∀ q ∈ WL w.params a c, q ∈ news) (hq : (q, methodObj (.ref 135) (.ref a.x)) ∈ news) (hd : dp' ≤ 640) (hu : un' ≤ 5400)
    (B : Below A₀ base outer h₀) (F : Fr h₀ L s.heap m) (X : (Mine.hd0.heap_1_41 w.params).In h₀) (N : News h₀ L s.heap news) (T : Top p loose mean mg mb h₀) (hk : cs.kind = .function)
    (ret : ∀ R t1 t2 t3 h' tk', Fr h₀ L h' m → News h₀ L h' ((R, { cls := .type "tuple", data := .seq #[.str y t1, .str y t2, .str "" t3] }) :: news) → (∀ p ∈ news, p.1 < R) → Q (.ref R) { s with heap := h', toks := tk' }) :
    wpAny (model PR w) (ktrTop dp' un' gd cn cs L b ccd cl outer) (call (.ref q) [.str y t]) Q E s :=
  (con_qnC w a c news y t hy hy2 hes hl).useM hd hu N hq B F X (fun q hq => (List.mem_append.mp hq).elim (fun e => N _ (hW q e)) (N q)) T hk fun v n h' tk' hp F' N' => by
    obtain ⟨R, t1, t2, t3, rfl, hlt, rfl⟩ := hp
    refine ret R t1 t2 t3 h' tk' F' (fun q hq => ?_) fun q hq => hlt q (List.mem_append_right _ hq)
    rcases List.mem_cons.mp hq with rfl | hq
    · exact N' _ (.head _)
    · exact N' q (.tail _ (List.mem_append_right _ hq))
theorem ld_cell {env : Env} {scope : Scope} {x : Str} {pos : Pos} {c : Addr} {o : Obj} {v : Value} (N : News h₀ L s.heap news) (hc : cl.lookup x = some c) (hm : (c, o) ∈ news) (hd : o.data = .cell (some v)) (h : Q v s)
    (hk : (compEnvC scope cl C env).scope.kind = .function := by rfl) (hl : (compEnvC scope cl C env).kindOf x = some .cell := by rfl) (hb : (x == ("__debug__" : Str)) = false := by decide) :
    wpAny M A (eval (.Name x pos) (compEnvC scope cl C env)) Q E s := wpAny_Name (wpAny_loadName_cell hk hl hc ⟨o, N.get hm, hd⟩ h) hb
theorem item_list_neg {prog : Program} {A : Around} {value slice : PySem.Expr} {l : Addr} {items : Array Value} {k : Int} {u : Tok} {x : Value} (hl : s.heap.IsList l items)
    (h0 : k < 0) (h1 : -(items.size : Int) ≤ k) (hfit : -(2 ^ 63) ≤ k) (hx : items[(k + items.size).toNat]? = some x) (h : Q x s)
    (hs : subscripted slice false (.ref l) (.int k u) = operate [.ref l, .int k u] (getItem (.ref l) (.int k u)) := by with_unfolding_all rfl) (hg : ∀ r, letTemporaryGo value (.ref l) r = pure () := by intro _; with_unfolding_all rfl) :
    wpAny (model prog w) A (subscriptTail value slice (.ref l) (.int k u)) Q E s :=
  subscriptTail_builtin hl.typeIs slot_list_getitem.lookup (wpAny_getItem_list_neg hl h0 h1 hfit hx h) hs hg
theorem named {l : List (Addr × Obj)} {h : Heap} (N : News h₀ L h l) : ∃ b, b = l ∧ News h₀ L h b := ⟨l, rfl, N⟩
end
theorem lay_20 : True := by
  k_with "my:callWith ref" => ((fail_if_success k_extra "off37"); ((try dsimp only); (with_reducible show wpAny _ _ (callWith _ (Value.ref (WA.q _)) _ _ _) _ _ _); k_dflt refine callWith_boundN (by k_asm) (by k_mem) ?_))
  k_with "my:And" => ((fail_if_success k_extra "off37"); ((with_reducible show Heap.get? _ (WA.q _) = _ ∧ _); k_dflt (refine ⟨(News.get (by k_asm) (by k_mem)), ?_⟩); (try dsimp only [List.nil_append, List.cons_append])))
  k_with "my:call ref" => ((fail_if_success k_extra "off37"); ((with_reducible show wpAny _ _ (call (Value.ref _) [Value.str _ _]) _ _ _); (with_reducible refine stop_in ?_)))
  k_with "my:eval Name" => ((fail_if_success k_extra "off37"); (k_here; (with_reducible show wpAny _ _ (eval (Expr.Name _ _) (compEnvC _ _ _ _)) _ _ _); k_dflt (refine ld_cell (by k_asm) (by rfl) (by k_extra "my:mem") (by k_asm) ?_)))
  exact True.intro
def startS (c : WS) (y : Str) (t1 t2 : Tok) (E : Addr) : WS :=
  { c with rs := true, wr := c.wr ++ [.str (Str.ofString "<" ++ y) t1] ++ [.str (Str.ofString ">") t2], cw := c.cw + 1 + 1, nv := c.nv ++ [.ref E], cn := c.cn + 1, pv := c.pv ++ [.bool false], cp := c.cp + 1 }
theorem news_head {h₀ h : Heap} {L l : Addr} {o : Obj} {r : List (Addr × Obj)} (_ : News h₀ L h ((l, o) :: r)) : ∃ E, E = l := ⟨l, rfl⟩
theorem lay_21 : True := by
  k_with "my:newList" => ((fail_if_success k_extra "off37"); with_reducible refine stop_in ?_)
  k_with "my:getAttr ref" => ((fail_if_success k_extra "off37"); (with_reducible show wpAny _ _ (getAttr (Value.ref _) (Str.ofString "_qname") _) _ _ _; k_extra "my:kbm"))
  exact True.intro
theorem con_st (w : World) (a : WA) (c : WS) (tb : Option (Addr × Obj)) (htb : TabOk tb) (rest : List (Addr × Obj)) (y : Str) (t : Tok) (ae nn : Addr) (oe : Obj) (hoe : oe.IsDictOf (PySem.strKind PySem.Challenge.rw_tv0054_01.row.prog w) []) (has : (ae == sysModules) = false) (kn : Nat) (hy : y.length = 1) (hy2 : (Txt.slice y none (some 1) == Str.ofString "{") = false) (ho : WOrd a) (hr : WOut a (tabS tb ++ rest)) (h168 : ∀ p ∈ rest, p.1 ≠ 168) (hwa : @LT.lt Nat _ 168 a.wa) (hm1 : (ae, oe) ∈ rest) (hm2 : (nn, listOf #[] kn) ∈ rest) (hes : ∀ e ∈ c.es, ∃ a c, e = .ref a ∧ (a, listOf #[] c) ∈ rest) (hl : c.es.length ≤ 500) (pv0 : List Value) (hpv : c.pv = pv0 ++ [.bool false]) (hpl : pv0.length ≤ 500) (hnv : c.nv.length ≤ 500) (hwl : c.wr.length ≤ 1000) :
    Con PySem.Challenge.rw_tv0054_01.row.prog w (Mine.hd0.heap_1_41 w.params) 171 620 5200 [.ref a.x, .str y t, .ref ae, .ref nn] (WL w.params a c ++ (tabS tb ++ rest))
      (fun v n => v = .none ∧ ∃ t1 t2 E c' oc, TabOk (some (c', oc)) ∧ WOut a (tabS (some (c', oc)) ++ (E, listOf #[] 0) :: rest) ∧ (@LT.lt Nat _ a.ps E) ∧ ((∀ p ∈ tabS (some (c', oc)) ++ rest, @LT.lt Nat _ p.1 E) ∧ (tb = some (c', oc) ∨ ∀ p ∈ rest, @LT.lt Nat _ p.1 c')) ∧ n = WL w.params a (startS c y t1 t2 E) ++ (tabS (some (c', oc)) ++ (E, listOf #[] 0) :: rest)) := by
  revert w a c tb htb rest y t ae nn oe hoe has kn hy hy2 ho hr h168 hwa hm1 hm2 hes hl pv0 hpv hpl hnv hwl
  walk_at "g4"
  intros w a c tb
  intro htb
  ((refine gen_all6 (ne := ?gN_167) (P := ?gP_167) ((?gf_167 : ∀ a0 a1 a2 a3 a4 a5, ?gP_167 a0 a1 a2 a3 a4 a5) (gen6 ?gN_167 ?gP_167).1 (gen6 ?gN_167 ?gP_167).2.1 (gen6 ?gN_167 ?gP_167).2.2.1 (gen6 ?gN_167 ?gP_167).2.2.2.1 (gen6 ?gN_167 ?gP_167).2.2.2.2.1 (gen6 ?gN_167 ?gP_167).2.2.2.2.2); (case gN_167 => k_extra "my:ne")))
  intros rest y t ae nn oe
  intro hoe has
  walk_at "g1"
  intro kn hy hy2 ho hr h168 hwa hm1 hm2 hes hl
  walk_at "g1"
  intro pv0 hpv hpl hnv hwl
  have hout := hr
  w_top off
  k_fill
  refine' Con.ofC (binds := [("self", .ref a.x), ("tag", .str y t), ("attrs", .ref ae), ("new_namespaces", .ref nn), ("qname_text", .none)]) ?k6 ?k7 ?k8 ?k9 ?kB ?kD ?c2 ?c3 ?c4 ?_
  (( (case k6 => k_is); (case k7 => k_is); (case k8 => decide); (case k9 => (intro s9 X9; first | exact BindsTo.of_eq rfl | exact binds_K X9 rfl (by k_is) rfl rfl rfl | (refine kp_binds X9 ?_; exact fun _ => rfl))); (case kB => exact rfl); (case kD => decide +kernel); (case c2 => exact rfl); (case c3 => exact rfl); (case c4 => exact rfl); k_with "WPost" => dsimp only [WPost]; k_with "FPost" => dsimp only [FPost]))
  ((refine gen_all7 (ne := ?gN_169) (P := ?gP_169) ((?gf_169 : ∀ a0 a1 a2 a3 a4 a5 a6, ?gP_169 a0 a1 a2 a3 a4 a5 a6) (gen7 ?gN_169 ?gP_169).1 (gen7 ?gN_169 ?gP_169).2.1 (gen7 ?gN_169 ?gP_169).2.2.1 (gen7 ?gN_169 ?gP_169).2.2.2.1 (gen7 ?gN_169 ?gP_169).2.2.2.2.1 (gen7 ?gN_169 ?gP_169).2.2.2.2.2.1 (gen7 ?gN_169 ?gP_169).2.2.2.2.2.2); (case gN_169 => k_extra "my:ne")))
  intros p loose mean mg mb gd cn
  ((refine gen_all7 (ne := ?gN_170) (P := ?gP_170) ((?gf_170 : ∀ a0 a1 a2 a3 a4 a5 a6, ?gP_170 a0 a1 a2 a3 a4 a5 a6) (gen7 ?gN_170 ?gP_170).1 (gen7 ?gN_170 ?gP_170).2.1 (gen7 ?gN_170 ?gP_170).2.2.1 (gen7 ?gN_170 ?gP_170).2.2.2.1 (gen7 ?gN_170 ?gP_170).2.2.2.2.1 (gen7 ?gN_170 ?gP_170).2.2.2.2.2.1 (gen7 ?gN_170 ?gP_170).2.2.2.2.2.2); (case gN_170 => k_extra "my:ne")))
  intros cs ad ccd cl outer base g
  ((refine gen_all7 (ne := ?gN_171) (P := ?gP_171) ((?gf_171 : ∀ a0 a1 a2 a3 a4 a5 a6, ?gP_171 a0 a1 a2 a3 a4 a5 a6) (gen7 ?gN_171 ?gP_171).1 (gen7 ?gN_171 ?gP_171).2.1 (gen7 ?gN_171 ?gP_171).2.2.1 (gen7 ?gN_171 ?gP_171).2.2.2.1 (gen7 ?gN_171 ?gP_171).2.2.2.2.1 (gen7 ?gN_171 ?gP_171).2.2.2.2.2.1 (gen7 ?gN_171 ?gP_171).2.2.2.2.2.2); (case gN_171 => k_extra "my:ne")))
  intros h₁ L' L₀ s tk cells R
  intro F' N' Y' B' X' T' l1
  refine ex_in2 (CellsAre.two Y') ?_
  walk_at "g2"
  intros o' o2'
  rintro ⟨hE', d1', d2'⟩
  subst hE'
  clear Y'
  simp only [WL, wents, ent, List.cons_append, List.nil_append] at N' l1
  have hc1 := lt_up l1
  have hc2 := lt_cons (o := o') hc1
  obtain ⟨o1, o2, o3, o4, o5, o6, o7, o8, o9, o10⟩ := id ho
  unfold WOut at hr
  k_extra "my:go"
  rename (Fr _ _ _ _) => F'
  rename (News _ _ _ _) => N'
  refine set_star (k := 0) F' N' (by k_asm) (by first | k_is | kernel_rfl!) rfl rfl ?_
  clear F' N'
  walk_at "g3"
  intros D h' led
  intro hled F' N' lD
  k_extra "my:go"
  refine' add_fresh hled F' N' ?u ?_
  case u => k_updF
  clear F' N'
  walk_at "g3"
  intros h' so' kk
  intro F' N' hone
  try dsimp only at N'
  k_extra "my:go"
  refine star_empty rfl F' N' (by k_extra "my:mem") (by k_extra "my:mem") hoe has hone ?_
  clear F' N'
  walk_at "g1"
  intro h' F' N'
  k_extra "my:go"
  refine stop_out ?_
  rename (Fr _ _ _ _) => F'
  rename (News _ _ _ _) => N'
  k_dflt refine Assign_DictComp_U (PySem.strKind _ w) F' rfl (by with_unfolding_all rfl) (by with_unfolding_all rfl) (by decide) rfl (by decide) rfl rfl rfl (Top.nolimit T') ?_
  k_extra "my:go"
  refine stop_out ?_
  k_dflt refine kla_eval rfl ?_
  rename (Fr _ _ _ _) => F'
  rename (News _ _ _ _) => N'
  have N2 : News _ _ _ (List.take 15 _ ++ List.drop 15 _) := (by rw [List.take_append_drop]; exact N')
  simp only [List.take_succ_cons, List.take_zero, List.drop_succ_cons, List.drop_zero] at N2
  refine lam_start F' N2 T' (codeHd_of_K X' (by first | k_is | kernel_rfl!)) ?hpre h168 htb (by with_unfolding_all rfl) ?_
  case hpre => (repeat' (refine List.forall_mem_cons.mpr ⟨?_, ?_⟩)) <;> first | exact List.forall_mem_nil _ | (dsimp only; exact w_k ho hwa (by k_extra "my:wix")) | (dsimp only; (refine' ne_k (o := _) hwa ?nh ?nm; (case nh => assumption); (case nm => k_extra "my:mem1"))) | (show @Ne Nat _ _; omega)
  clear F' N' N2
  ((refine gen_all6 (ne := ?gN_172) (P := ?gP_172) ((?gf_172 : ∀ a0 a1 a2 a3 a4 a5, ?gP_172 a0 a1 a2 a3 a4 a5) (gen6 ?gN_172 ?gP_172).1 (gen6 ?gN_172 ?gP_172).2.1 (gen6 ?gN_172 ?gP_172).2.2.1 (gen6 ?gN_172 ?gP_172).2.2.2.1 (gen6 ?gN_172 ?gP_172).2.2.2.2.1 (gen6 ?gN_172 ?gP_172).2.2.2.2.2); (case gN_172 => k_extra "my:ne")))
  intros f c' oc ctv h' tk
  intro F' N' hok lf hcase
  have hr2 : ∀ p ∈ tabS (some (c', oc)) ++ rest, @LT.lt Nat _ p.1 a.wa ∨ @LT.lt Nat _ a.ps p.1 ∨ (@LT.lt Nat _ a.dl p.1 ∧ @LT.lt Nat _ p.1 a.tp) := by
    intro p hp
    rcases List.mem_append.mp hp with hp | hp
    · simp only [tabS, List.mem_cons, List.not_mem_nil, or_false] at hp
      rcases hp with rfl | rfl
      · exact .inl hwa
      · rcases hcase with e | e
        · subst e
          exact hr (c', oc) (List.mem_append_left _ (.tail _ (.head _)))
        · exact .inr (.inl (e (a.ps, _) (List.mem_append_left _ (by k_mem))))
    · exact hr p (List.mem_append_right _ hp)
  have hmc : (c', oc) ∈ tabS (some (c', oc)) ++ rest := List.mem_append_left _ (.tail _ (.head _))
  have hm1' : (ae, oe) ∈ tabS (some (c', oc)) ++ rest := List.mem_append_right _ hm1
  have hm2' : (nn, listOf #[] kn) ∈ tabS (some (c', oc)) ++ rest := List.mem_append_right _ hm2
  have hes' : ∀ e ∈ c.es, ∃ a c1, e = .ref a ∧ (a, listOf #[] c1) ∈ tabS (some (c', oc)) ++ rest := fun e he => let ⟨a, c1, h1, h2⟩ := hes e he; ⟨a, c1, h1, List.mem_append_right _ h2⟩
  refine ex_in (⟨_, rfl⟩ : ∃ r, r = tabS (some (c', oc)) ++ rest) ?_
  walk_at "g1"
  intro rest2 hrest2
  rw [← hrest2] at N' lf hr2 hmc hm1' hm2' hes'
  simp only [List.cons_append, List.nil_append] at N' lf
  have hcase2 : Hid (tb = some (c', oc) ∨ ∀ p ∈ rest, @LT.lt Nat _ p.1 c') := hcase.elim (fun e => .inl e) (fun e => .inr fun p hp => e p (List.mem_append_right _ (List.mem_append_right _ hp)))
  clear hr hcase
  k_extra "my:go"
  rename (Fr _ _ _ _) => F'
  rename (News _ _ _ _) => N'
  show wpAny _ _ (call (.builtin "sorted") [.ref D] [(Str.ofString "key", .ref f)]) _ _ _
  refine sorted_one rfl hone F' N' (by k_extra "my:mem") ?turn ?_
  case turn =>
    clear F'
    walk_at "g3"
    intros h9 tk9 own
    intro F' N9 off
    refine wpAny_call ?_
    refine' kla_code B' F' X' N9 T' ?kA ?kF ?kK ?k6 ?k7 ?k8 ?k9 ?kB ?_ ?c2 ?c3 ?c4 ?c5
    case kA => exact rfl
    case kF => exact rfl
    case kK => exact rfl
    case k6 => exact List.mem_append_right _ (.head _)
    case k7 =>
      obtain ⟨vs9, t9, hoc1, hoc2⟩ := id hok
      exact codeRec_news N9 (List.mem_append_right _ (by k_extra "my:mem")) hoc1 hoc2
    case k8 => k_room
    case k9 => exact rfl
    case c5 => decide
    case kB => exact locs rfl
    case c2 => exact rfl
    case c3 => exact rfl
    case c4 => exact rfl
    clear F' N'
    walk_at "g3"
    intros g' L9 h'
    intro FG' F' N' B9 X9 T9
    (try dsimp only)
    k_extra "my:go"
    all_goals first | assumption | exact News.tail' (by assumption)
  clear F' N'
  walk_at "g4"
  intros lq cq h' tk
  intro F' N' lL
  k_extra "my:go"
  rename (Fr _ _ _ _) => F'
  rename (News _ _ _ _) => N'
  refine ex_in (named N') ?_
  walk_at "g1"
  rintro nl ⟨hnl, Nb⟩
  refine DSrc.list (nn := cq) (fun i kvs nw => (i = 0 ∧ kvs = [] ∧ nw = nl) ∨ (i = 1 ∧ ∃ T t1 t2 t3, kvs = [(y, .ref T)] ∧ nw = (T, { cls := .type "tuple", data := .seq #[.str y t1, .str y t2, .str "" t3] }) :: nl ∧ ∀ p ∈ nl, p.1 < T)) rfl F' Nb (by simp [sizeLine_eq]) (l := lq) (vs := [.str y t]) (by rw [hnl]; exact .head _) ?_ ?_ (.inl ⟨rfl, rfl, rfl⟩) ?_ ?_
  · rintro i kvs nw (⟨_, _, rfl⟩ | ⟨_, T, t1, t2, t3, _, rfl, _⟩)
    · rw [hnl]; exact .head _
    · rw [hnl]; exact .tail _ (.head _)
  · rintro i kvs nw (⟨rfl, rfl, _⟩ | ⟨rfl, T, t1, t2, t3, rfl, _⟩) <;> simp
  · walk_at "g2"
    intros I hI
    unfold DTurn
    ((refine gen_all7 (ne := ?gN_173) (P := ?gP_173) ((?gf_173 : ∀ a0 a1 a2 a3 a4 a5 a6, ?gP_173 a0 a1 a2 a3 a4 a5 a6) (gen7 ?gN_173 ?gP_173).1 (gen7 ?gN_173 ?gP_173).2.1 (gen7 ?gN_173 ?gP_173).2.2.1 (gen7 ?gN_173 ?gP_173).2.2.2.1 (gen7 ?gN_173 ?gP_173).2.2.2.2.1 (gen7 ?gN_173 ?gP_173).2.2.2.2.2.1 (gen7 ?gN_173 ?gP_173).2.2.2.2.2.2); (case gN_173 => k_extra "my:ne")))
    intros i kvs nw v C oC D2
    ((refine gen_all6 (ne := ?gN_174) (P := ?gP_174) ((?gf_174 : ∀ a0 a1 a2 a3 a4 a5, ?gP_174 a0 a1 a2 a3 a4 a5) (gen6 ?gN_174 ?gP_174).1 (gen6 ?gN_174 ?gP_174).2.1 (gen6 ?gN_174 ?gP_174).2.2.1 (gen6 ?gN_174 ?gP_174).2.2.2.1 (gen6 ?gN_174 ?gP_174).2.2.2.2.1 (gen6 ?gN_174 ?gP_174).2.2.2.2.2); (case gN_174 => k_extra "my:ne")))
    intros oD oI m2 h9 tk9 E9
    intro hi hv hinv hC hx hdD F9 N9 off hne
    have hi0 : i = 0 := by simp at hi; exact hi
    subst hi0
    simp only [List.getElem?_cons_zero, Option.some.injEq] at hv
    subst hv
    obtain ⟨rfl, rfl⟩ : kvs = [] ∧ nw = nl := by
      rcases hinv with ⟨_, h1, h2⟩ | ⟨h1, _⟩
      · exact ⟨h1, h2⟩
      · cases h1
    clear F' N' Nb
    rw [hnl] at N9
    k_extra "my:go"
    k_dflt refine use_qnM (c := c) hy hy2 (fun e he => ?_) hl ?_ (by k_extra "my:mem") (by k_extra "my:us1") (by k_extra "my:us1") (by k_asm) F9 (by k_asm) N9 (by k_asm) rfl ?_
    · obtain ⟨a1, c1, h1, h2⟩ := hes' e he
      exact ⟨a1, c1, h1, by k_extra "my:mem"⟩
    · simp only [WL, wents, ent]
      (((try dsimp only); k_extra "my:inl"))
    clear F9
    ((refine gen_all6 (ne := ?gN_176) (P := ?gP_176) ((?gf_176 : ∀ a0 a1 a2 a3 a4 a5, ?gP_176 a0 a1 a2 a3 a4 a5) (gen6 ?gN_176 ?gP_176).1 (gen6 ?gN_176 ?gP_176).2.1 (gen6 ?gN_176 ?gP_176).2.2.1 (gen6 ?gN_176 ?gP_176).2.2.2.1 (gen6 ?gN_176 ?gP_176).2.2.2.2.1 (gen6 ?gN_176 ?gP_176).2.2.2.2.2); (case gN_176 => k_extra "my:ne")))
    intros R t1 t2 t3 h9 tk9
    intro F9 N9 lR
    rw [← hnl] at N9 lR
    refine ⟨y, _, _, (R, _) :: nw, strKind_is _ _ _ _, rfl, F9, (fun q hq => ?_), ⟨⟨?_, ?_, ?_⟩, off⟩, .inr ⟨rfl, R, t1, t2, t3, by simp [stored], rfl, fun q hq => lR q (.tail _ (.tail _ (.tail _ hq)))⟩⟩
    · apply N9
      rcases List.mem_cons.mp hq with rfl | hq
      · exact .tail _ (.head _)
      · rcases List.mem_cons.mp hq with rfl | hq
        · exact .tail _ (.tail _ (.head _))
        · rcases List.mem_cons.mp hq with rfl | hq
          · exact .tail _ (.tail _ (.tail _ (.head _)))
          · rcases List.mem_cons.mp hq with rfl | hq
            · exact .head _
            · exact .tail _ (.tail _ (.tail _ (.tail _ hq)))
    · exact Nat.ne_of_gt (lR (I, oI) (.head _))
    · exact Nat.ne_of_gt (lR (C, oC) (.tail _ (.head _)))
    · exact Nat.ne_of_gt (lR (D2, oD) (.tail _ (.tail _ (.head _))))
  clear F' N' Nb
  ((refine gen_all7 (ne := ?gN_177) (P := ?gP_177) ((?gf_177 : ∀ a0 a1 a2 a3 a4 a5 a6, ?gP_177 a0 a1 a2 a3 a4 a5 a6) (gen7 ?gN_177 ?gP_177).1 (gen7 ?gN_177 ?gP_177).2.1 (gen7 ?gN_177 ?gP_177).2.2.1 (gen7 ?gN_177 ?gP_177).2.2.2.1 (gen7 ?gN_177 ?gP_177).2.2.2.2.1 (gen7 ?gN_177 ?gP_177).2.2.2.2.2.1 (gen7 ?gN_177 ?gP_177).2.2.2.2.2.2); (case gN_177 => k_extra "my:ne")))
  intros H9 D3 oD3 h' tk' kvs news'
  intro F' N' hD3 hoff hsys hinv
  have hT9 : ∃ T t1 t2 t3, kvs = [(y, .ref T)] ∧ news' = (T, { cls := .type "tuple", data := .seq #[.str y t1, .str y t2, .str "" t3] }) :: nl ∧ ∀ p ∈ nl, p.1 < T := by
    rcases hinv with ⟨h1, _⟩ | ⟨_, h⟩
    · cases h1
    · exact h
  refine ex_in4 hT9 ?_
  clear hT9
  walk_at "g4"
  intros T t1 t2 t3
  rintro ⟨hkv, hnw, lT⟩
  subst hkv hnw
  subst hnl
  replace hoff := off1_all hoff
  k_extra "my:go"
  rename (Fr _ _ _ _) => F'
  rename (News _ _ _ _) => N'
  refine wpAny_truthy_list (l := nn) (items := #[]) ⟨_, (N' _ (show (nn, listOf #[] kn) ∈ _ by k_extra "my:mem")).1, rfl, _, rfl⟩ (by decide) ?_
  dsimp only
  k_extra "my:go"
  refine stop_out ?_
  rename (Fr _ _ _ _) => F'
  rename (News _ _ _ _) => N'
  k_dflt refine newList_K F' N' ?_
  walk_at "g2"
  intros al h'
  clear F' N'
  intro F' N' lal
  k_sweep
  k_extra "my:go"
  rename (Fr _ _ _ _) => F'
  rename (News _ _ _ _) => N'
  refine wpAny_truthy_dict (knd := PySem.strKind _ w) (kvs := []) has (Heap.dictOf_iff.mpr ⟨oe, (N' _ (show (ae, oe) ∈ _ by k_extra "my:mem")).1, hoe⟩) (by decide) ?_
  k_extra "my:go"
  rename (Fr _ _ _ _) => F'
  rename (News _ _ _ _) => N'
  refine kdg_method N' (show (ae, oe) ∈ _ by k_extra "my:mem") hoe ?_
  k_extra "my:go"
  rename (Fr _ _ _ _) => F'
  rename (News _ _ _ _) => N'
  refine kdg_get1 N' (show (ae, oe) ∈ _ by k_extra "my:mem") hoe has (strKind_is _ _ _ _) none rfl ?_
  dsimp only [Option.getD_none]
  k_extra "my:go"
  rename (Fr _ _ _ _) => F'
  rename (News _ _ _ _) => N'
  have hpvl : c.pv.length ≤ 501 := by rw [hpv]; simp; omega
  have hpsz : (c.pv.toArray.size : Int) = pv0.length + 1 := by rw [hpv]; simp
  refine item_list_neg (l := a.ps) (items := c.pv.toArray) (x := .bool false) ⟨_, (N' _ (show (a.ps, listOf c.pv.toArray c.cp) ∈ _ by k_extra "my:mem")).1, rfl, _, rfl⟩ (by decide) (by omega) (by decide) (by rw [hpsz, hpv, show (-1 + ((pv0.length : Int) + 1)).toNat = pv0.length by omega]; simp) ?_
  k_extra "my:go"
  rename (Fr _ _ _ _) => F'
  rename (News _ _ _ _) => N'
  refine kdt_tail (knd := PySem.strKind _ w) N' (show (D3, oD3) ∈ _ by k_extra "my:mem") hD3 ?_
  refine kdt_getItem (knd := PySem.strKind _ w) N' (show (D3, oD3) ∈ _ by k_extra "my:mem") hD3 (strKind_is _ _ _ _) (v := .ref T) (by simp [valueAt]) ?_
  k_extra "my:go"
  rename (Fr _ _ _ _) => F'
  rename (News _ _ _ _) => N'
  refine bound_append (D := a.wa) (its := c.wr.toArray) (n := c.cw) F' N' (by k_mem) (by k_upd) (by simp; omega) ?_
  clear F' N'
  walk_at "g1"
  intro h' F' N'
  k_sweep
  simp only [List.push_toArray] at N'
  k_extra "my:go"
  rename (Fr _ _ _ _) => F'
  rename (News _ _ _ _) => N'
  refine bound_append (D := a.wa) (its := _) (n := _) F' N' (by k_mem) (by k_upd) (by simp; omega) ?_
  clear F' N'
  walk_at "g1"
  intro h' F' N'
  k_sweep
  simp only [List.push_toArray] at N'
  k_extra "my:go"
  refine stop_out ?_
  rename (Fr _ _ _ _) => F'
  rename (News _ _ _ _) => N'
  k_dflt refine newList_K F' N' ?_
  walk_at "g2"
  intros E h'
  clear F' N'
  intro F' N' lE
  k_sweep
  k_extra "my:go"
  rename (Fr _ _ _ _) => F'
  rename (News _ _ _ _) => N'
  simp only [List.push_toArray] at N'
  refine' ⟨_, _, _, _, _, _, rfl, by k_asm, by k_asm, ?mm, rfl, _, _, E, c', oc, hok, ?wo, ?lt, ⟨?fr, hid_out hcase2⟩, rfl⟩
  case mm =>
    subst hrest2
    simp only [WL, wents, ent, startS, List.cons_append, List.nil_append]
    (((try dsimp only); k_extra "my:inl"))
  case wo =>
    subst hrest2
    intro p hp
    rcases List.mem_append.mp hp with hp | hp
    · exact hr2 p (List.mem_append_left _ hp)
    · rcases List.mem_cons.mp hp with rfl | hp
      · right; left; exact lt_in lE (show (a.ps, listOf _ _) ∈ _ by k_extra "my:mem")
      · exact hr2 p (List.mem_append_right _ hp)
  case lt => exact lt_in lE (show (a.ps, listOf _ _) ∈ _ by k_extra "my:mem")
  case fr =>
    rw [← hrest2]
    exact fun p hp => lE p (by repeat (first | exact hp | with_reducible refine List.mem_cons_of_mem _ ?_))
end
theorem lay_22 : True := by
  k_with "off37" => skip
  exact True.intro
section
theorem lay_23 : True := by
  k_with "my:execs cons If cons" => ((fail_if_success k_extra "off38"); with_reducible refine stop_in ?_)
  k_with "my:call ref" => ((fail_if_success k_extra "off38"); ((with_reducible show wpAny _ _ (call (Value.ref 151) _) _ _ _); (with_reducible refine stop_in ?_)))
  k_with "my:call ref" => ((fail_if_success k_extra "off38"); ((with_reducible show wpAny _ _ (call (Value.ref 171) _) _ _ _); (with_reducible refine stop_in ?_)))
  exact True.intro
theorem News.sub {h₀ h : Heap} {L : Addr} {l l' : List (Addr × Obj)} (N : News h₀ L h l) (hs : ∀ p ∈ l', p ∈ l) : News h₀ L h l' := fun p hp => N p (hs p hp)
def XOk (w : World) (a : WA) (rest : List (Addr × Obj)) (ex : Bool) : Prop :=
  match ex with
  | false => a.xv = .none
  | true => ∃ sx so, a.xv = .ref sx ∧ (sx, so) ∈ rest ∧ so.SetObjOf (PySem.strKind PySem.Challenge.rw_tv0054_01.row.prog w) (fun k => decide (k = Str.ofString "x")) 1
/-- what a writer has been told, and wrote -/
structure AS where
  wr : List Str
  da : List Str
  dep : Nat
  ig : Nat
  rs : Bool
structure WInv (w : World) (a : WA) (ex : Bool) (A : AS) (c : WS) (tb : Option (Addr × Obj)) (rest : List (Addr × Obj)) : Prop where
  tab : TabOk tb
  off : ∀ p ∈ rest, p.1 ≠ 168
  out : WOut a (tabS tb ++ rest)
  wr : StrsAre c.wr A.wr
  da : StrsAre c.da A.da
  es : ∀ e ∈ c.es, ∃ a c, e = .ref a ∧ (a, listOf #[] c) ∈ rest
  esl : c.es.length = A.dep
  pv : c.pv = List.replicate (A.dep + 1) (.bool false)
  nv : c.nv.length = A.dep + 2
  ig : c.ig = A.ig
  rs : c.rs = A.rs
  xs : XOk w a rest ex
def aFlush (A : AS) : AS := if A.da = [] then A else { A with wr := A.wr ++ [escT (Txt.join (Str.ofString "") A.da)], da := [] }
def aStart (ex : Bool) (A : AS) (y : Str) : AS := if ex = true ∧ (A.ig ≠ 0 ∨ y = Str.ofString "x") then { A with ig := A.ig + 1 } else { aFlush A with wr := (aFlush A).wr ++ [Str.ofString "<" ++ y] ++ [Str.ofString ">"], dep := A.dep + 1, rs := true }
def aEnd (A : AS) (y : Str) : AS := if A.ig ≠ 0 then { A with ig := A.ig - 1 } else { aFlush A with wr := (aFlush A).wr ++ [Str.ofString "</" ++ y ++ Str.ofString ">"], dep := A.dep - 1 }
def aData (A : AS) (d : Str) : AS := if A.ig = 0 then { A with da := A.da ++ [d] } else A
/-- a state that the writer can take more in -/
structure ASOk (A : AS) : Prop where
  wr : A.wr.length ≤ 900
  da : A.da.length ≤ 30
  dl : ∀ y ∈ A.da, 1 ≤ y.length ∧ y.length ≤ 3
  dep : A.dep ≤ 400
  rs : A.da ≠ [] → A.rs = true
  ig : A.ig ≤ 400
theorem aFlush_dep (A : AS) : (aFlush A).dep = A.dep ∧ (aFlush A).ig = A.ig ∧ (aFlush A).rs = A.rs ∧ (aFlush A).da = [] := by
  unfold aFlush; split
  · rename_i h; exact ⟨rfl, rfl, rfl, h⟩
  · exact ⟨rfl, rfl, rfl, rfl⟩
theorem in_set_mem {prog : Program} {w : World} {A : Around} {E : Value → Shared → Prop} {s : Shared} {h₀ : Heap} {L sa : Addr} {news : List (Addr × Obj)} {so : Obj} {S : Str → Bool} {n : Nat} {y : Str} {t : Tok} {Q : Value → Shared → Prop} (N : News h₀ L s.heap news) (hm : (sa, so) ∈ news) (hso : so.SetObjOf (PySem.strKind prog w) S n) (hb : n < scanBound) (h : Q (.bool (S y)) { s with toks := s.toks + 1 }) :
    wpAny (model prog w) A (compareOp .In (.str y t) (.ref sa)) Q E s := by
  obtain ⟨l1, l2, rfl⟩ := List.append_of_mem hm
  exact in_sl1 N hso hb (strKind_is _ _ _ _) rfl h
theorem strsAre_snoc {vs : List Value} {ys : List Str} {y : Str} {t : Tok} : StrsAre vs ys → StrsAre (vs ++ [.str y t]) (ys ++ [y]) := fun h => by
  induction h with
  | nil => exact .cons _ _ .nil
  | cons _ _ _ ih => exact .cons _ _ ih
theorem XOk.mono {w : World} {a : WA} {rest rest' : List (Addr × Obj)} {ex : Bool} (h : XOk w a rest ex) (hs : ∀ p ∈ rest, p ∈ rest') : XOk w a rest' ex := by
  cases ex with
  | false => exact h
  | true => obtain ⟨sx, so, h1, h2, h3⟩ := h; exact ⟨sx, so, h1, hs _ h2, h3⟩
theorem aFlush_wr (A : AS) : (aFlush A).wr.length ≤ A.wr.length + 1 := by
  unfold aFlush; split
  · omega
  · simp
theorem ne_AS : Nonempty AS := ⟨by constructor <;> exact default⟩
theorem lay_24 : True := by
  k_with "my:ne" => ((fail_if_success k_extra "off38"); exact ne_AS)
  k_with "my:newList" => ((fail_if_success k_extra "off38"); with_reducible refine stop_in ?_)
  exact True.intro
theorem con_start (w : World) (a : WA) (ex : Bool) (A : AS) (c : WS) (tb : Option (Addr × Obj)) (R rest : List (Addr × Obj)) (I : WInv w a ex A c tb R) (hs : ∀ p ∈ R, p ∈ rest) (hout : WOut a (tabS tb ++ rest)) (hoff : ∀ p ∈ rest, p.1 ≠ 168) (ok : ASOk A) (ho : WOrd a) (y : Str) (t : Tok) (ae : Addr) (oe : Obj) (hoe : oe.IsDictOf (PySem.strKind PySem.Challenge.rw_tv0054_01.row.prog w) []) (has : (ae == sysModules) = false) (hm1 : (ae, oe) ∈ rest) (hy : y.length = 1) (hy2 : (Txt.slice y none (some 1) == Str.ofString "{") = false) (hwa : @LT.lt Nat _ 168 a.wa) :
    Con PySem.Challenge.rw_tv0054_01.row.prog w (Mine.hd0.heap_1_41 w.params) 165 610 5100 [.ref a.x, .str y t, .ref ae] (WL w.params a c ++ (tabS tb ++ rest))
      (fun v n => v = .none ∧ ∃ c' tb' nw, WInv w a ex (aStart ex A y) c' tb' (nw ++ R) ∧ (∀ q ∈ nw, ∀ p ∈ rest, @LT.lt Nat _ p.1 q.1) ∧ (tb' = tb ∨ ∃ c' oc, tb' = some (c', oc) ∧ ∀ p ∈ rest, @LT.lt Nat _ p.1 c') ∧ n = WL w.params a c' ++ (tabS tb' ++ (nw ++ rest))) := by
  revert w a ex A c tb R rest I hs hout hoff ok ho y t ae oe hoe has hm1 hy hy2 hwa
  ((refine gen_all8 (ne := ?gN_179) (P := ?gP_179) ((?gf_179 : ∀ a0 a1 a2 a3 a4 a5 a6 a7, ?gP_179 a0 a1 a2 a3 a4 a5 a6 a7) (gen8 ?gN_179 ?gP_179).1 (gen8 ?gN_179 ?gP_179).2.1 (gen8 ?gN_179 ?gP_179).2.2.1 (gen8 ?gN_179 ?gP_179).2.2.2.1 (gen8 ?gN_179 ?gP_179).2.2.2.2.1 (gen8 ?gN_179 ?gP_179).2.2.2.2.2.1 (gen8 ?gN_179 ?gP_179).2.2.2.2.2.2.1 (gen8 ?gN_179 ?gP_179).2.2.2.2.2.2.2); (case gN_179 => k_extra "my:ne")))
  intros w a ex A c tb R rest
  intro I hs hout hoff ok ho
  walk_at "g4"
  intros y t ae oe
  intro hoe has hm1 hy hy2 hwa
  w_top off
  k_fill
  refine' Con.of (binds := [("self", .ref a.x), ("tag", .str y t), ("attrs", .ref ae)]) ?k6 ?k7 ?k8 ?k9 ?kB ?kN ?c2 ?c3 ?c4 ?c5 ?_
  (( (case k6 => k_is); (case k7 => k_is); (case k8 => decide); (case k9 => (intro s9 X9; first | exact BindsTo.of_eq rfl | exact binds_K X9 rfl (by k_is) rfl rfl rfl | (refine kp_binds X9 ?_; exact fun _ => rfl))); (case kB => exact locs rfl); (case kN => (simp only [List.map_cons, List.map_nil]; decide)); (case c2 => exact rfl); (case c3 => exact rfl); (case c4 => exact rfl); (case c5 => decide); k_with "WPost" => dsimp only [WPost]; k_with "FPost" => dsimp only [FPost]))
  ((refine gen_all10 (ne := ?gN_181) (P := ?gP_181) ((?gf_181 : ∀ a0 a1 a2 a3 a4 a5 a6 a7 a8 a9, ?gP_181 a0 a1 a2 a3 a4 a5 a6 a7 a8 a9) (gen10 ?gN_181 ?gP_181).1 (gen10 ?gN_181 ?gP_181).2.1 (gen10 ?gN_181 ?gP_181).2.2.1 (gen10 ?gN_181 ?gP_181).2.2.2.1 (gen10 ?gN_181 ?gP_181).2.2.2.2.1 (gen10 ?gN_181 ?gP_181).2.2.2.2.2.1 (gen10 ?gN_181 ?gP_181).2.2.2.2.2.2.1 (gen10 ?gN_181 ?gP_181).2.2.2.2.2.2.2.1 (gen10 ?gN_181 ?gP_181).2.2.2.2.2.2.2.2.1 (gen10 ?gN_181 ?gP_181).2.2.2.2.2.2.2.2.2); (case gN_181 => k_extra "my:ne")))
  intros p loose mean mg mb gd cn cs ad ccd
  ((refine gen_all10 (ne := ?gN_182) (P := ?gP_182) ((?gf_182 : ∀ a0 a1 a2 a3 a4 a5 a6 a7 a8 a9, ?gP_182 a0 a1 a2 a3 a4 a5 a6 a7 a8 a9) (gen10 ?gN_182 ?gP_182).1 (gen10 ?gN_182 ?gP_182).2.1 (gen10 ?gN_182 ?gP_182).2.2.1 (gen10 ?gN_182 ?gP_182).2.2.2.1 (gen10 ?gN_182 ?gP_182).2.2.2.2.1 (gen10 ?gN_182 ?gP_182).2.2.2.2.2.1 (gen10 ?gN_182 ?gP_182).2.2.2.2.2.2.1 (gen10 ?gN_182 ?gP_182).2.2.2.2.2.2.2.1 (gen10 ?gN_182 ?gP_182).2.2.2.2.2.2.2.2.1 (gen10 ?gN_182 ?gP_182).2.2.2.2.2.2.2.2.2); (case gN_182 => k_extra "my:ne")))
  intros cl outer base g h₁ L' L₀ s tk RR
  intro F' N' B' X' T'
  simp only [kstB] at F'
  simp only [WL, wents, ent, List.cons_append, List.nil_append] at N'
  have ho' := ho
  obtain ⟨o1, o2, o3, o4, o5, o6, o7, o8, o9, o10⟩ := ho'
  have hr := hout
  unfold WOut at hr
  rcases Classical.em (ex = true ∧ (A.ig ≠ 0 ∨ y = Str.ofString "x")) with hskip | hskip
  · have eA : aStart ex A y = { A with ig := A.ig + 1 } := if_pos hskip
    obtain ⟨hex, hs2⟩ := hskip
    subst hex
    refine ex_in2 I.xs ?_
    walk_at "g2"
    intros sx so
    rintro ⟨hxv, hms, hso⟩
    replace hms := hs _ hms
    simp only [hxv] at N'
    have hIig := I.ig
    k_extra "my:go"
    refine stop_out (wpAny_execs_cons ?_)
    k_extra "my:go"
    all_goals try dsimp only
    any_goals (
      rename (Fr _ _ _ _) => F'
      rename (News _ _ _ _) => N'
      refine in_set_mem N' (show (sx, so) ∈ _ by k_extra "my:mem") hso (by decide) ?_
      have hyx : y = Str.ofString "x" := hs2.resolve_left (fun h => h (by omega))
      rw [show decide (y = Str.ofString "x") = true from decide_eq_true hyx]
      k_extra "my:go"
      try dsimp only)
    all_goals refine' ⟨_, _, _, _, _, _, rfl, by k_asm, by k_asm, ?_, rfl, { c with ig := c.ig + 1, ti := _ }, tb, [], ?_, (fun q hq => nomatch hq), .inl rfl, rfl⟩
    any_goals (simp only [WL, wents, ent, List.cons_append, List.nil_append, hxv]; (((try dsimp only); k_extra "my:inl")))
    all_goals (rw [eA]; exact ⟨I.tab, I.off, I.out, I.wr, I.da, I.es, I.esl, I.pv, I.nv, by show c.ig + 1 = ((A.ig + 1 : Nat) : Int); omega, I.rs, I.xs⟩)
  · have eA : aStart ex A y = { aFlush A with wr := (aFlush A).wr ++ [Str.ofString "<" ++ y] ++ [Str.ofString ">"], dep := A.dep + 1, rs := true } := if_neg hskip
    by_cases hexx : ex = true
    all_goals have hxs := I.xs
    case' neg =>
      have hexf : ex = false := by cases ex; rfl; exact absurd rfl hexx
      rw [hexf] at hxs
      have hxv : a.xv = .none := hxs
      simp only [hxv] at N'
      k_extra "my:go"
      refine stop_out (wpAny_execs_cons ?_)
      k_extra "my:go"
    case' pos =>
      rw [hexx] at hxs
      refine ex_in2 hxs ?_
      walk_at "g2"
      intros sx so
      rintro ⟨hxv, hms, hso⟩
      replace hms := hs _ hms
      have hig : A.ig = 0 := by
        by_cases h : A.ig = 0
        · exact h
        · exact absurd ⟨hexx, .inl h⟩ hskip
      have hyx : y ≠ Str.ofString "x" := fun h => hskip ⟨hexx, .inr h⟩
      have hci : c.ig = 0 := by rw [I.ig, hig]; rfl
      simp only [hxv, hci] at N'
      k_extra "my:go"
      refine stop_out (wpAny_execs_cons ?_)
      k_extra "my:go"
      rename (Fr _ _ _ _) => F'
      rename (News _ _ _ _) => N'
      refine in_set_mem N' (show (sx, so) ∈ _ by k_extra "my:mem") hso (by decide) ?_
      rw [show decide (y = Str.ofString "x") = false from decide_eq_false hyx]
      k_extra "my:go"
    all_goals (
      refine stop_out (wpAny_execs_cons ?_)
      dsimp only
      rename (Fr _ _ _ _) => F'
      rename (News _ _ _ _) => N'
      refine cutR F' (fun c1 => WL w.params a c1 ++ (tabS tb ++ rest)) (fun _ => [("self", .ref a.x), ("tag", .str y t), ("attrs", .ref ae)]) (fun c1 => WInv w a ex (aFlush A) c1 tb R) ?_ ?_
      · k_extra "my:go"
        rename (Fr _ _ _ _) => F'
        rename (News _ _ _ _) => N'
        refine wpAny_truthy_list (l := a.dl) (items := c.da.toArray) ⟨_, (N' _ (show (a.dl, listOf c.da.toArray c.cd) ∈ _ by k_extra "my:mem")).1, rfl, _, rfl⟩ (by have := strsAre_length I.da; have := ok.da; simp; omega) ?_
        by_cases hda : A.da = []
        · have hcd : c.da = [] := by have := strsAre_length I.da; rw [hda] at this; simpa using this
          have hb : (!c.da.toArray.isEmpty) = false := by rw [hcd]; rfl
          rw [hb]
          k_extra "my:go"
          refine ⟨c, _, _, _, _, rfl, by k_asm, by k_asm, ?_, by (((try dsimp only); k_extra "my:inl")), by k_extra "my:names", ?_⟩
          · simp only [WL, wents, ent, List.cons_append, List.nil_append, hxv]
            try simp only [hci]
            (((try dsimp only); k_extra "my:inl"))
          · have e : aFlush A = A := if_pos hda
            rw [e]; exact I
        · have hcd : c.da ≠ [] := fun h => hda (by have := strsAre_length I.da; rw [h] at this; exact List.length_eq_zero_iff.mp this.symm)
          have hb : (!c.da.toArray.isEmpty) = true := by simpa using hcd
          rw [hb]
          k_extra "my:go"
          rename (Fr _ _ _ _) => F'
          rename (News _ _ _ _) => N'
          have Nw : News g L' _ (WL w.params a c ++ (tabS tb ++ rest)) := News.sub N' (by simp only [WL, wents, ent, List.cons_append, List.nil_append, hxv]; (try simp only [hci]); (((try dsimp only); k_extra "my:inl")))
          refine (con_flush w a c (tabS tb ++ rest) A.da I.da ho hout (by have := strsAre_length I.da; have := ok.da; omega) ok.dl hcd (by rw [I.rs]; exact ok.rs hda) (by have := strsAre_length I.wr; have := ok.wr; omega)).use (by k_extra "my:us1") (by k_extra "my:us1") (by k_asm) F' (by k_asm) Nw (by k_asm) rfl ?_
          clear F' N' Nw
          walk_at "g4"
          intros v n h9 tk9
          rintro ⟨hv, hp⟩
          subst hv
          refine ex_in hp ?_
          walk_at "g1"
          intro t1 hn F' N'
          subst hn
          k_sweep
          k_extra "my:go"
          refine ⟨{ c with wr := c.wr ++ [.str (escT (Txt.join (Str.ofString "") A.da)) t1], cw := c.cw + 1, da := [], cd := c.cd + 1 }, _, _, _, _, rfl, by k_asm, by k_asm, by (((try dsimp only); k_extra "my:inl")), by (((try dsimp only); k_extra "my:inl")), by k_extra "my:names", ?_⟩
          have e : aFlush A = { A with wr := A.wr ++ [escT (Txt.join (Str.ofString "") A.da)], da := [] } := if_neg hda
          rw [e]
          exact ⟨I.tab, I.off, I.out, strsAre_snoc I.wr, .nil, I.es, I.esl, I.pv, I.nv, I.ig, I.rs, I.xs⟩
      · walk_at "g4"
        intros c1 u h tk
        intro I1 F' N'
        dsimp only
        simp only [kstB] at F'
        simp only [WL, wents, ent, List.cons_append, List.nil_append] at N'
        have hesl : (Value.ref a.l0 :: c1.es).length ≤ 401 := by have h1 := I1.esl; have h2 := (aFlush_dep A).1; have h3 := ok.dep; simp only [List.length_cons]; omega
        k_extra "my:go"
        refine stop_out ?_
        rename (Fr _ _ _ _) => F'
        rename (News _ _ _ _) => N'
        k_dflt refine newList_K F' N' ?_
        walk_at "g2"
        intros E2 h'
        clear F' N'
        intro F' N' l1
        k_lt l1
        k_sweep
        k_extra "my:go"
        refine stop_out (wpAny_execs_cons ?_)
        dsimp only
        k_extra "my:go"
        rename (Fr _ _ _ _) => F'
        rename (News _ _ _ _) => N'
        simp only [List.push_toArray] at N'
        have hE2a : @LT.lt Nat _ a.ps E2 := lt_in l1 (show (a.ps, listOf c1.pv.toArray c1.cp) ∈ _ by k_extra "my:mem")
        have hE2r : ∀ p ∈ rest, @LT.lt Nat _ p.1 E2 := fun p hp => l1 p (by (repeat with_reducible refine List.mem_cons_of_mem _ ?_); exact List.mem_append_right _ hp)
        have hf := aFlush_dep A
        have hpv := I1.pv
        rw [hf.1, List.replicate_succ'] at hpv
        have hr2 : WOut a (tabS tb ++ (E2, listOf #[] 0) :: rest) := by
          intro p hp
          rcases List.mem_append.mp hp with hp | hp
          · exact hout p (List.mem_append_left _ hp)
          · rcases List.mem_cons.mp hp with rfl | hp
            · exact .inr (.inl hE2a)
            · exact hout p (List.mem_append_right _ hp)
        have h168 : ∀ p ∈ (E2, listOf #[] 0) :: rest, p.1 ≠ 168 := by
          intro p hp
          rcases List.mem_cons.mp hp with rfl | hp
          · show @Ne Nat _ _; omega
          · exact hoff p hp
        have hes2 : ∀ e ∈ c1.es ++ [.ref E2], ∃ a c, e = .ref a ∧ (a, listOf #[] c) ∈ (E2, listOf #[] 0) :: rest := by
          intro e he
          rcases List.mem_append.mp he with he | he
          · obtain ⟨a1, b1, h1, h2⟩ := I1.es e he
            exact ⟨a1, b1, h1, .tail _ (hs _ h2)⟩
          · rw [List.mem_singleton.mp he]
            exact ⟨E2, 0, rfl, .head _⟩
        have Nw : News g L' _ (WL w.params a { c1 with es := c1.es ++ [.ref E2], ce := c1.ce + 1 } ++ (tabS tb ++ (E2, listOf #[] 0) :: rest)) := News.sub N' (by simp only [WL, wents, ent, List.cons_append, List.nil_append]; (((try dsimp only); k_extra "my:inl")))
        refine (con_st w a { c1 with es := c1.es ++ [.ref E2], ce := c1.ce + 1 } tb I1.tab ((E2, listOf #[] 0) :: rest) y t ae E2 oe hoe has 0 hy hy2 ho hr2 h168 hwa (.tail _ hm1) (.head _) hes2
          (by have h1 := I1.esl; have h3 := ok.dep; simp only [List.length_append, List.length_singleton]; omega) (List.replicate A.dep (.bool false)) hpv (by have h3 := ok.dep; simp; omega) (by have h1 := I1.nv; have h3 := ok.dep; show c1.nv.length ≤ 500; omega)
          (by have h1 := strsAre_length I1.wr; have h2 := aFlush_wr A; have h3 := ok.wr; show c1.wr.length ≤ 1000; omega)).use (by k_extra "my:us1") (by k_extra "my:us1") (by k_asm) F' (by k_asm) Nw (by k_asm) rfl ?_
        clear F' N' Nw
        walk_at "g4"
        intros v n h9 tk9
        rintro ⟨hv, hp⟩
        subst hv
        refine ex_in5 hp ?_
        walk_at "g5"
        intros t1 t2 E3 c' oc
        rintro ⟨hok, hWo, hlt, ⟨hf3, hc3⟩, hn⟩ F' N'
        subst hn
        k_extra "my:go"
        refine ⟨_, _, _, _, _, _, rfl, by k_asm, by k_asm, fun _ h => h, rfl, startS { c1 with es := c1.es ++ [.ref E2], ce := c1.ce + 1 } y t1 t2 E3, some (c', oc), [(E3, listOf #[] 0), (E2, listOf #[] 0)], ?_, ?_, hc3.imp (fun e => e.symm) (fun e => ⟨c', oc, rfl, fun p hp => e p (.tail _ hp)⟩), rfl⟩
        case' refine_2 =>
          intro q hq p hp
          rcases List.mem_cons.mp hq with rfl | hq
          · exact hf3 p (List.mem_append_right _ (.tail _ hp))
          · rw [List.mem_singleton.mp hq]
            exact hE2r p hp
        rw [eA]
        refine ⟨hok, ?_, ?_, strsAre_snoc (strsAre_snoc I1.wr), I1.da, ?_, ?_, ?_, ?_, I1.ig, rfl, I1.xs.mono fun p hp => .tail _ (.tail _ hp)⟩
        · intro p hp
          rcases List.mem_cons.mp hp with rfl | hp
          · show @Ne Nat _ _; omega
          · rcases List.mem_cons.mp hp with rfl | hp
            · exact h168 _ (.head _)
            · exact h168 p (.tail _ (hs _ hp))
        · intro p hp
          rcases List.mem_append.mp hp with hp | hp
          · exact hWo p (List.mem_append_left _ hp)
          · refine hWo p (List.mem_append_right _ ?_)
            rcases List.mem_cons.mp hp with rfl | hp
            · exact .head _
            · rcases List.mem_cons.mp hp with rfl | hp
              · exact .tail _ (.head _)
              · exact .tail _ (.tail _ (hs _ hp))
        · intro e he
          rcases List.mem_append.mp he with he | he
          · obtain ⟨a1, b1, h1, h2⟩ := I1.es e he
            exact ⟨a1, b1, h1, .tail _ (.tail _ h2)⟩
          · rw [List.mem_singleton.mp he]
            exact ⟨E2, 0, rfl, .tail _ (.head _)⟩
        · show (c1.es ++ [Value.ref E2]).length = A.dep + 1
          have h1 := I1.esl
          simp only [List.length_append, List.length_singleton]; omega
        · show c1.pv ++ [Value.bool false] = List.replicate (A.dep + 1 + 1) (.bool false)
          rw [hpv, List.replicate_succ' (n := A.dep + 1), List.replicate_succ']
        · show (c1.nv ++ [Value.ref E3]).length = A.dep + 1 + 2
          have h1 := I1.nv
          simp only [List.length_append, List.length_singleton]; omega)
end
theorem lay_25 : True := by
  k_with "off38" => skip
  exact True.intro
section
theorem lay_26 : True := by
  k_with "my:execs cons If cons" => ((fail_if_success k_extra "off39"); with_reducible refine stop_in ?_)
  k_with "my:callWith ref" => ((fail_if_success k_extra "off39"); ((try dsimp only); (with_reducible show wpAny _ _ (callWith _ (Value.ref (WA.q _)) _ _ _) _ _ _); k_dflt refine callWith_boundN (by k_asm) (by k_mem) ?_))
  k_with "my:And" => ((fail_if_success k_extra "off39"); ((with_reducible show Heap.get? _ (WA.q _) = _ ∧ _); k_dflt (refine ⟨(News.get (by k_asm) (by k_mem)), ?_⟩); (try dsimp only [List.nil_append, List.cons_append])))
  k_with "my:call ref" => ((fail_if_success k_extra "off39"); ((with_reducible show wpAny _ _ (call (Value.ref (WA.q _)) _) _ _ _); (with_reducible refine stop_in ?_)))
  k_with "my:call ref" => ((fail_if_success k_extra "off39"); ((with_reducible show wpAny _ _ (call (Value.ref 151) _) _ _ _); (with_reducible refine stop_in ?_)))
  k_with "my:call ref" => ((fail_if_success k_extra "off39"); ((with_reducible show wpAny _ _ (call (Value.ref 135) _) _ _ _); (with_reducible refine stop_in ?_)))
  k_with "my:ne" => ((fail_if_success k_extra "off39"); exact ne_AS)
  exact True.intro
theorem con_end (w : World) (a : WA) (ex : Bool) (A : AS) (c : WS) (tb : Option (Addr × Obj)) (R rest : List (Addr × Obj)) (I : WInv w a ex A c tb R) (hs : ∀ p ∈ R, p ∈ rest) (hout : WOut a (tabS tb ++ rest)) (hoff : ∀ p ∈ rest, p.1 ≠ 168) (ok : ASOk A) (ho : WOrd a) (y : Str) (t : Tok) (hy : y.length = 1) (hy2 : (Txt.slice y none (some 1) == Str.ofString "{") = false) (hwa : @LT.lt Nat _ 168 a.wa) (hdep : A.ig = 0 → 1 ≤ A.dep) :
    Con PySem.Challenge.rw_tv0054_01.row.prog w (Mine.hd0.heap_1_41 w.params) 178 610 5100 [.ref a.x, .str y t] (WL w.params a c ++ (tabS tb ++ rest))
      (fun v n => v = .none ∧ ∃ c', WInv w a ex (aEnd A y) c' tb R ∧ n = WL w.params a c' ++ (tabS tb ++ rest)) := by
  revert w a ex A c tb R rest I hs hout hoff ok ho y t hy hy2 hwa hdep
  ((refine gen_all8 (ne := ?gN_190) (P := ?gP_190) ((?gf_190 : ∀ a0 a1 a2 a3 a4 a5 a6 a7, ?gP_190 a0 a1 a2 a3 a4 a5 a6 a7) (gen8 ?gN_190 ?gP_190).1 (gen8 ?gN_190 ?gP_190).2.1 (gen8 ?gN_190 ?gP_190).2.2.1 (gen8 ?gN_190 ?gP_190).2.2.2.1 (gen8 ?gN_190 ?gP_190).2.2.2.2.1 (gen8 ?gN_190 ?gP_190).2.2.2.2.2.1 (gen8 ?gN_190 ?gP_190).2.2.2.2.2.2.1 (gen8 ?gN_190 ?gP_190).2.2.2.2.2.2.2); (case gN_190 => k_extra "my:ne")))
  intros w a ex A c tb R rest
  intro I hs hout hoff ok ho
  walk_at "g2"
  intros y t
  intro hy hy2 hwa hdep
  w_top off
  k_fill
  refine' Con.of (binds := [("self", .ref a.x), ("tag", .str y t)]) ?k6 ?k7 ?k8 ?k9 ?kB ?kN ?c2 ?c3 ?c4 ?c5 ?_
  (( (case k6 => k_is); (case k7 => k_is); (case k8 => decide); (case k9 => (intro s9 X9; first | exact BindsTo.of_eq rfl | exact binds_K X9 rfl (by k_is) rfl rfl rfl | (refine kp_binds X9 ?_; exact fun _ => rfl))); (case kB => exact locs rfl); (case kN => (simp only [List.map_cons, List.map_nil]; decide)); (case c2 => exact rfl); (case c3 => exact rfl); (case c4 => exact rfl); (case c5 => decide); k_with "WPost" => dsimp only [WPost]; k_with "FPost" => dsimp only [FPost]))
  ((refine gen_all10 (ne := ?gN_192) (P := ?gP_192) ((?gf_192 : ∀ a0 a1 a2 a3 a4 a5 a6 a7 a8 a9, ?gP_192 a0 a1 a2 a3 a4 a5 a6 a7 a8 a9) (gen10 ?gN_192 ?gP_192).1 (gen10 ?gN_192 ?gP_192).2.1 (gen10 ?gN_192 ?gP_192).2.2.1 (gen10 ?gN_192 ?gP_192).2.2.2.1 (gen10 ?gN_192 ?gP_192).2.2.2.2.1 (gen10 ?gN_192 ?gP_192).2.2.2.2.2.1 (gen10 ?gN_192 ?gP_192).2.2.2.2.2.2.1 (gen10 ?gN_192 ?gP_192).2.2.2.2.2.2.2.1 (gen10 ?gN_192 ?gP_192).2.2.2.2.2.2.2.2.1 (gen10 ?gN_192 ?gP_192).2.2.2.2.2.2.2.2.2); (case gN_192 => k_extra "my:ne")))
  intros p loose mean mg mb gd cn cs ad ccd
  ((refine gen_all10 (ne := ?gN_193) (P := ?gP_193) ((?gf_193 : ∀ a0 a1 a2 a3 a4 a5 a6 a7 a8 a9, ?gP_193 a0 a1 a2 a3 a4 a5 a6 a7 a8 a9) (gen10 ?gN_193 ?gP_193).1 (gen10 ?gN_193 ?gP_193).2.1 (gen10 ?gN_193 ?gP_193).2.2.1 (gen10 ?gN_193 ?gP_193).2.2.2.1 (gen10 ?gN_193 ?gP_193).2.2.2.2.1 (gen10 ?gN_193 ?gP_193).2.2.2.2.2.1 (gen10 ?gN_193 ?gP_193).2.2.2.2.2.2.1 (gen10 ?gN_193 ?gP_193).2.2.2.2.2.2.2.1 (gen10 ?gN_193 ?gP_193).2.2.2.2.2.2.2.2.1 (gen10 ?gN_193 ?gP_193).2.2.2.2.2.2.2.2.2); (case gN_193 => k_extra "my:ne")))
  intros cl outer base g h₁ L' L₀ s tk RR
  intro F' N' B' X' T'
  simp only [kstB] at F'
  simp only [WL, wents, ent, List.cons_append, List.nil_append] at N'
  have ho' := ho
  obtain ⟨o1, o2, o3, o4, o5, o6, o7, o8, o9, o10⟩ := ho'
  have hr := hout
  unfold WOut at hr
  have hIig := I.ig
  k_extra "my:go"
  refine stop_out (wpAny_execs_cons ?_)
  k_extra "my:go"
  all_goals try dsimp only
  · have hne : A.ig ≠ 0 := by omega
    have eA : aEnd A y = { A with ig := A.ig - 1 } := if_pos hne
    refine' ⟨_, _, _, _, _, _, rfl, by k_asm, by k_asm, ?mm, rfl, { c with ig := c.ig - 1, ti := _ }, ?iv, rfl⟩
    case mm => simp only [WL, wents, ent, List.cons_append, List.nil_append]; (((try dsimp only); k_extra "my:inl"))
    case iv =>
      rw [eA]
      exact ⟨I.tab, I.off, I.out, I.wr, I.da, I.es, I.esl, I.pv, I.nv, by show c.ig - 1 = ((A.ig - 1 : Nat) : Int); omega, I.rs, I.xs⟩
  · have he : A.ig = 0 := by omega
    have eA : aEnd A y = { aFlush A with wr := (aFlush A).wr ++ [Str.ofString "</" ++ y ++ Str.ofString ">"], dep := A.dep - 1 } := if_neg (by omega)
    have hd1 := hdep he
    refine stop_out (wpAny_execs_cons ?_)
    try dsimp only
    rename (Fr _ _ _ _) => F'
    rename (News _ _ _ _) => N'
    refine cutR F' (fun c1 => WL w.params a c1 ++ (tabS tb ++ rest)) (fun _ => [("self", .ref a.x), ("tag", .str y t)]) (fun c1 => WInv w a ex (aFlush A) c1 tb R) ?_ ?_
    · k_extra "my:go"
      rename (Fr _ _ _ _) => F'
      rename (News _ _ _ _) => N'
      refine wpAny_truthy_list (l := a.dl) (items := c.da.toArray) ⟨_, (N' _ (show (a.dl, listOf c.da.toArray c.cd) ∈ _ by k_extra "my:mem")).1, rfl, _, rfl⟩ (by have := strsAre_length I.da; have := ok.da; simp; omega) ?_
      by_cases hda : A.da = []
      · have hcd : c.da = [] := by have := strsAre_length I.da; rw [hda] at this; simpa using this
        have hb : (!c.da.toArray.isEmpty) = false := by rw [hcd]; rfl
        rw [hb]
        k_extra "my:go"
        refine ⟨c, _, _, _, _, rfl, by k_asm, by k_asm, ?_, by (((try dsimp only); k_extra "my:inl")), by k_extra "my:names", ?_⟩
        · simp only [WL, wents, ent, List.cons_append, List.nil_append]
          (((try dsimp only); k_extra "my:inl"))
        · have e : aFlush A = A := if_pos hda
          rw [e]; exact I
      · have hcd : c.da ≠ [] := fun h => hda (by have := strsAre_length I.da; rw [h] at this; exact List.length_eq_zero_iff.mp this.symm)
        have hb : (!c.da.toArray.isEmpty) = true := by simpa using hcd
        rw [hb]
        k_extra "my:go"
        rename (Fr _ _ _ _) => F'
        rename (News _ _ _ _) => N'
        have Nw : News g L' _ (WL w.params a c ++ (tabS tb ++ rest)) := News.sub N' (by simp only [WL, wents, ent, List.cons_append, List.nil_append]; (((try dsimp only); k_extra "my:inl")))
        refine (con_flush w a c (tabS tb ++ rest) A.da I.da ho hout (by have := strsAre_length I.da; have := ok.da; omega) ok.dl hcd (by rw [I.rs]; exact ok.rs hda) (by have := strsAre_length I.wr; have := ok.wr; omega)).use (by k_extra "my:us1") (by k_extra "my:us1") (by k_asm) F' (by k_asm) Nw (by k_asm) rfl ?_
        clear F' N' Nw
        walk_at "g4"
        intros v n h9 tk9
        rintro ⟨hv, hp⟩
        subst hv
        refine ex_in hp ?_
        walk_at "g1"
        intro t1 hn F' N'
        subst hn
        k_sweep
        k_extra "my:go"
        refine ⟨{ c with wr := c.wr ++ [.str (escT (Txt.join (Str.ofString "") A.da)) t1], cw := c.cw + 1, da := [], cd := c.cd + 1 }, _, _, _, _, rfl, by k_asm, by k_asm, by (((try dsimp only); k_extra "my:inl")), by (((try dsimp only); k_extra "my:inl")), by k_extra "my:names", ?_⟩
        have e : aFlush A = { A with wr := A.wr ++ [escT (Txt.join (Str.ofString "") A.da)], da := [] } := if_neg hda
        rw [e]
        exact ⟨I.tab, I.off, I.out, strsAre_snoc I.wr, .nil, I.es, I.esl, I.pv, I.nv, I.ig, I.rs, I.xs⟩
    · walk_at "g4"
      intros c1 u h tk
      intro I1 F' N'
      dsimp only
      simp only [kstB] at F'
      have hf := aFlush_dep A
      have hpv := I1.pv
      have hesl := I1.esl
      have hnvl := I1.nv
      rw [hf.1] at hpv hesl hnvl
      rw [List.replicate_succ'] at hpv
      have hx1 : ∃ es0 e0, c1.es = es0 ++ [e0] := by
        rcases List.eq_nil_or_concat c1.es with h | ⟨l, x, h⟩
        · rw [h] at hesl; simp at hesl; omega
        · exact ⟨l, x, by rw [h]; simp⟩
      refine ex_in2 hx1 ?_
      walk_at "g2"
      intros es0 e0
      intro hes0
      have hx2 : ∃ nv0 n0, c1.nv = nv0 ++ [n0] := by
        rcases List.eq_nil_or_concat c1.nv with h | ⟨l, x, h⟩
        · rw [h] at hnvl; simp at hnvl
        · exact ⟨l, x, by rw [h]; simp⟩
      refine ex_in2 hx2 ?_
      walk_at "g2"
      intros nv0 n0
      intro hnv0
      clear hx1 hx2
      simp only [WL, wents, ent, List.cons_append, List.nil_append] at N'
      k_extra "my:go"
      rename (Fr _ _ _ _) => F'
      rename (News _ _ _ _) => N'
      refine use_qn (c := c1) hy hy2 (fun e he => ?_) (by have h3 := ok.dep; omega) ?_ (by k_extra "my:us1") (by k_extra "my:us1") (by k_asm) F' (by k_asm) N' (by k_asm) rfl ?_
      · obtain ⟨a1, b1, h1, h2⟩ := I1.es e he
        replace h2 := hs _ h2
        exact ⟨a1, b1, h1, by k_extra "my:mem"⟩
      · simp only [WL, wents, ent, List.cons_append, List.nil_append]
        (((try dsimp only); k_extra "my:inl"))
      clear F' N'
      ((refine gen_all6 (ne := ?gN_201) (P := ?gP_201) ((?gf_201 : ∀ a0 a1 a2 a3 a4 a5, ?gP_201 a0 a1 a2 a3 a4 a5) (gen6 ?gN_201 ?gP_201).1 (gen6 ?gN_201 ?gP_201).2.1 (gen6 ?gN_201 ?gP_201).2.2.1 (gen6 ?gN_201 ?gP_201).2.2.2.1 (gen6 ?gN_201 ?gP_201).2.2.2.2.1 (gen6 ?gN_201 ?gP_201).2.2.2.2.2); (case gN_201 => k_extra "my:ne")))
      intros Rt t1 t2 t3 h' tk'
      intro F' N' lR
      k_extra "my:go"
      have hwrl : c1.wr.length ≤ 1000 := by have h1 := strsAre_length I1.wr; have h2 := aFlush_wr A; have h3 := ok.wr; omega
      rename (Fr _ _ _ _) => F'
      rename (News _ _ _ _) => N'
      refine bound_append (D := a.wa) (its := c1.wr.toArray) (n := c1.cw) F' N' (by k_mem) (by k_upd) (by simp; omega) ?_
      clear F' N'
      walk_at "g1"
      intro h' F' N'
      k_sweep
      simp only [List.push_toArray] at N'
      k_extra "my:go"
      rename (Fr _ _ _ _) => F'
      rename (News _ _ _ _) => N'
      refine kl_pop (its := c1.pv.toArray) (n := c1.cp) (p := List.replicate A.dep (.bool false)) (y := .bool false) F' N' (by show kl_last c1.pv = _; rw [hpv]; exact kpa_last _ _) (by k_upd) (by have h3 := ok.dep; show c1.pv.length ≤ _; rw [hpv, sizeLine_eq]; simp; omega) ?_
      clear F' N'
      walk_at "g1"
      intro h' F' N'
      k_sweep
      k_extra "my:go"
      rename (Fr _ _ _ _) => F'
      rename (News _ _ _ _) => N'
      refine len_list (l := a.ps) (items := (List.replicate A.dep (Value.bool false)).toArray) ⟨_, (N' _ (show (a.ps, listOf (List.replicate A.dep (Value.bool false)).toArray (c1.cp + 1)) ∈ _ by k_extra "my:mem")).1, rfl, _, rfl⟩ (by have h3 := ok.dep; simp; omega) ?_
      k_extra "my:go"
      rename (Fr _ _ _ _) => F'
      rename (News _ _ _ _) => N'
      refine kl_pop (its := (Value.ref a.l0 :: c1.es).toArray) (n := c1.ce) (p := Value.ref a.l0 :: es0) (y := e0) F' N' (by show kl_last (Value.ref a.l0 :: c1.es) = _; rw [hes0, ← List.cons_append]; exact kpa_last _ _) (by k_upd) (by have h3 := ok.dep; show (Value.ref a.l0 :: c1.es).length ≤ _; rw [sizeLine_eq]; simp only [List.length_cons]; omega) ?_
      clear F' N'
      walk_at "g1"
      intro h' F' N'
      k_sweep
      k_extra "my:go"
      rename (Fr _ _ _ _) => F'
      rename (News _ _ _ _) => N'
      refine kl_pop (its := c1.nv.toArray) (n := c1.cn) (p := nv0) (y := n0) F' N' (by show kl_last c1.nv = _; rw [hnv0]; exact kpa_last _ _) (by k_upd) (by have h3 := ok.dep; show c1.nv.length ≤ _; rw [sizeLine_eq]; omega) ?_
      clear F' N'
      walk_at "g1"
      intro h' F' N'
      k_sweep
      k_extra "my:go"
      refine' ⟨_, _, _, _, _, _, rfl, by k_asm, by k_asm, ?mm, rfl, { c1 with rd := _, wr := c1.wr ++ [.str _ _], cw := c1.cw + 1, es := es0, ce := c1.ce + 1, nv := nv0, cn := c1.cn + 1, pv := List.replicate A.dep (.bool false), cp := c1.cp + 1 }, ?iv, rfl⟩
      case mm => simp only [WL, wents, ent, List.cons_append, List.nil_append]; (((try dsimp only); k_extra "my:inl"))
      case iv =>
        rw [eA]
        have hd2 : A.dep - 1 + 1 = A.dep := by omega
        refine ⟨I1.tab, I1.off, I1.out, strsAre_snoc I1.wr, I1.da, ?_, ?_, ?_, ?_, I1.ig, I1.rs, I1.xs⟩
        · intro e he
          exact I1.es e (by rw [hes0]; exact List.mem_append_left _ he)
        · show es0.length = A.dep - 1
          rw [hes0, List.length_append, List.length_singleton] at hesl; omega
        · show List.replicate A.dep (Value.bool false) = List.replicate (A.dep - 1 + 1) (.bool false)
          rw [hd2]
        · show nv0.length = A.dep - 1 + 2
          rw [hnv0, List.length_append, List.length_singleton] at hnvl; omega
end
theorem lay_27 : True := by
  k_with "off39" => skip
  exact True.intro
section
/-- what the octets tell: an end, a branch, an operator -/
inductive Sy where
  | en
  | st (k : Nat)
  | op (i : Nat)
def Sy.code : Sy → Int
  | .en => 0
  | .st k => (k : Int) + 256
  | .op i => (i : Int) + 7
structure TS where
  wt : List Str
  A : AS
def tStep (ex : Bool) (tg : Nat → Str) (T : TS) : Sy → TS
  | .en => ⟨T.wt.dropLast, aEnd T.A (T.wt.getLastD (Str.ofString ""))⟩
  | .st k => ⟨T.wt ++ [tg k], aStart ex T.A (tg k)⟩
  | .op i => ⟨T.wt, aData T.A (ops.getD i (Str.ofString ""))⟩
def SyOk (T : TS) : Sy → Prop
  | .en => T.wt ≠ []
  | .st k => k < 3
  | .op i => i < 48 ∧ T.A.rs = true
def RunOk (ex : Bool) (tg : Nat → Str) : TS → List Sy → Prop
  | _, [] => True
  | T, s :: ss => SyOk T s ∧ RunOk ex tg (tStep ex tg T s) ss
/-- octets that read as symbols -/
inductive Codes : List Int → List Sy → Prop
  | nil : Codes [] []
  | cons {b0 : Int} {l r : List Int} {s : Sy} {ss : List Sy} (h : pvGo (b0 % 64) b0 l = some (s.code, r)) (t : Codes r ss) : Codes (b0 :: l) (s :: ss)
def GoodTag (y : Str) : Prop := y.length = 1 ∧ (Txt.slice y none (some 1) == Str.ofString "{") = false ∧ PyData.strOk y = true
structure TOk (ex : Bool) (tg : Nat → Str) (T : TS) (ss : List Sy) : Prop where
  len : T.wt.length = T.A.dep + T.A.ig
  tag : ∀ y ∈ T.wt, GoodTag y
  wr : T.A.wr.length + 3 * ss.length ≤ 900
  da : T.A.da.length + ss.length ≤ 30
  dl : ∀ y ∈ T.A.da, 1 ≤ y.length ∧ y.length ≤ 3
  dep : T.A.dep + ss.length ≤ 400
  ig : T.A.ig + ss.length ≤ 400
  rs : T.A.da ≠ [] → T.A.rs = true
  wl : ∀ y ∈ T.A.wr, y.length ≤ 500
  run : RunOk ex tg T ss
theorem TOk.ok {ex : Bool} {tg : Nat → Str} {T : TS} {ss : List Sy} (h : TOk ex tg T ss) : ASOk T.A :=
  ⟨by have := h.wr; omega, by have := h.da; omega, h.dl, by have := h.dep; omega, h.rs, by have := h.ig; omega⟩
theorem ops_len : ops.length = 48 := rfl
theorem ops_bound : ∀ y ∈ ops, 1 ≤ y.length ∧ y.length ≤ 3 := by decide +kernel
theorem aFlush_wl {A : AS} (h : ∀ y ∈ A.wr, y.length ≤ 500) (hd : A.da.length ≤ 30) (hl : ∀ y ∈ A.da, 1 ≤ y.length ∧ y.length ≤ 3) : ∀ y ∈ (aFlush A).wr, y.length ≤ 500 := by
  unfold aFlush
  split
  · exact h
  · intro y hy
    rcases List.mem_append.mp hy with hy | hy
    · exact h y hy
    · rw [List.mem_singleton.mp hy]
      have h1 := escT_len (Txt.join (Str.ofString "") A.da)
      have h2 := sum_le_of A.da 3 fun y hy => (hl y hy).2
      rw [join_len] at h1
      omega
theorem TOk.step {ex : Bool} {tg : Nat → Str} {T : TS} {s : Sy} {ss : List Sy} (htg : ∀ k < 3, GoodTag (tg k)) (h : TOk ex tg T (s :: ss)) : TOk ex tg (tStep ex tg T s) ss := by
  obtain ⟨h1, h2, h3, h4, h5, h6, h7, h8, hwl, hs, hr⟩ := h
  have hfl := aFlush_wl hwl (by simp only [List.length_cons] at h4; omega) h5
  simp only [List.length_cons] at h3 h4 h6 h7
  have hf := aFlush_dep T.A
  have hw := aFlush_wr T.A
  cases s with
  | en =>
    have hne : T.wt ≠ [] := hs
    have hl : T.wt.dropLast.length = T.wt.length - 1 := List.length_dropLast
    have hp : 1 ≤ T.wt.length := List.length_pos_iff.mpr hne
    have ht : ∀ y ∈ T.wt.dropLast, GoodTag y := fun y hy => h2 y (List.dropLast_subset _ hy)
    by_cases hi : T.A.ig ≠ 0
    · have e : aEnd T.A (T.wt.getLastD (Str.ofString "")) = { T.A with ig := T.A.ig - 1 } := if_pos hi
      refine ⟨?_, ht, ?_, ?_, ?_, ?_, ?_, ?_, ?_, hr⟩ <;> (simp only [tStep, e]; first | assumption | omega)
    · have hn : ∀ y ∈ (aFlush T.A).wr ++ [Str.ofString "</" ++ T.wt.getLastD (Str.ofString "") ++ Str.ofString ">"], y.length ≤ 500 := by
        intro y hy
        rcases List.mem_append.mp hy with hy | hy
        · exact hfl y hy
        · rw [List.mem_singleton.mp hy]
          have hg : (T.wt.getLastD (Str.ofString "")).length ≤ 1 := by
            rw [List.getLastD_eq_getLast?, List.getLast?_eq_some_getLast hne]
            exact Nat.le_of_eq (h2 _ (List.getLast_mem hne)).1
          rw [Str.length_append, Str.length_append]
          have e1 : (Str.ofString "</").length = 2 := rfl
          have e2 : (Str.ofString ">").length = 1 := rfl
          omega
      have e : aEnd T.A (T.wt.getLastD (Str.ofString "")) = { aFlush T.A with wr := (aFlush T.A).wr ++ [Str.ofString "</" ++ T.wt.getLastD (Str.ofString "") ++ Str.ofString ">"], dep := T.A.dep - 1 } := if_neg hi
      refine ⟨?_, ht, ?_, ?_, ?_, ?_, ?_, ?_, ?_, hr⟩ <;> (simp only [tStep, e, hf.2.2.2, hf.2.1, List.length_append, List.length_singleton, List.length_nil]; first | omega | exact hn | (intro y hy; exact absurd hy (List.not_mem_nil)) | (intro h; exact absurd rfl h))
  | st k =>
    have ht : ∀ y ∈ T.wt ++ [tg k], GoodTag y := fun y hy => by
      rcases List.mem_append.mp hy with hy | hy
      · exact h2 y hy
      · rw [List.mem_singleton.mp hy]; exact htg k hs
    have hl : (T.wt ++ [tg k]).length = T.wt.length + 1 := by simp
    by_cases hi : ex = true ∧ (T.A.ig ≠ 0 ∨ tg k = Str.ofString "x")
    · have e : aStart ex T.A (tg k) = { T.A with ig := T.A.ig + 1 } := if_pos hi
      refine ⟨?_, ht, ?_, ?_, ?_, ?_, ?_, ?_, ?_, hr⟩ <;> (simp only [tStep, e]; first | assumption | omega)
    · have hn : ∀ y ∈ (aFlush T.A).wr ++ [Str.ofString "<" ++ tg k] ++ [Str.ofString ">"], y.length ≤ 500 := by
        intro y hy
        rcases List.mem_append.mp hy with hy | hy
        · rcases List.mem_append.mp hy with hy | hy
          · exact hfl y hy
          · rw [List.mem_singleton.mp hy, Str.length_append]
            have e1 : (Str.ofString "<").length = 1 := rfl
            have e2 := (htg k hs).1
            omega
        · rw [List.mem_singleton.mp hy]; decide
      have e : aStart ex T.A (tg k) = { aFlush T.A with wr := (aFlush T.A).wr ++ [Str.ofString "<" ++ tg k] ++ [Str.ofString ">"], dep := T.A.dep + 1, rs := true } := if_neg hi
      refine ⟨?_, ht, ?_, ?_, ?_, ?_, ?_, ?_, ?_, hr⟩ <;> (simp only [tStep, e, hf.2.2.2, hf.2.1, List.length_append, List.length_singleton, List.length_nil]; first | omega | exact hn | (intro y hy; exact absurd hy (List.not_mem_nil)) | (intro h; exact absurd rfl h))
  | op i =>
    obtain ⟨hi, hrs⟩ := hs
    by_cases hg : T.A.ig = 0
    · have e : aData T.A (ops.getD i (Str.ofString "")) = { T.A with da := T.A.da ++ [ops.getD i (Str.ofString "")] } := if_pos hg
      have hm : ops.getD i (Str.ofString "") ∈ ops := by
        rw [List.getD_eq_getElem?_getD, List.getElem?_eq_getElem (by rw [ops_len]; exact hi)]
        exact List.getElem_mem _
      refine ⟨?_, h2, ?_, ?_, ?_, ?_, ?_, ?_, ?_, hr⟩ <;> (simp only [tStep, e, List.length_append, List.length_singleton]; first | omega | exact hwl | (intro _; exact hrs) | (intro y hy; rcases List.mem_append.mp hy with hy | hy; exact h5 y hy; rw [List.mem_singleton.mp hy]; exact ops_bound _ hm))
    · have e : aData T.A (ops.getD i (Str.ofString "")) = T.A := if_neg hg
      refine ⟨?_, h2, ?_, ?_, ?_, ?_, ?_, ?_, ?_, hr⟩ <;> (simp only [tStep, e]; first | assumption | omega)
/-- the rest of the ledger may grow -/
theorem WInv.more {w : World} {a : WA} {ex : Bool} {A : AS} {c : WS} {tb : Option (Addr × Obj)} {R R' : List (Addr × Obj)} (I : WInv w a ex A c tb R) (hs : ∀ p ∈ R, p ∈ R') (ho : ∀ p ∈ R', p.1 ≠ 168) (hw : WOut a (tabS tb ++ R')) : WInv w a ex A c tb R' :=
  ⟨I.tab, ho, hw, I.wr, I.da, fun e he => let ⟨a, c, h1, h2⟩ := I.es e he; ⟨a, c, h1, hs _ h2⟩, I.esl, I.pv, I.nv, I.ig, I.rs, I.xs.mono hs⟩
theorem WL_between {P : Params} {a : WA} {c : WS} (ho : WOrd a) : ∀ p ∈ WL P a c, @LE.le Nat _ a.wa p.1 ∧ @LE.le Nat _ p.1 a.ps := by
  obtain ⟨o1, o2, o3, o4, o5, o6, o7, o8, o9, o10⟩ := ho
  unfold WL
  simp only [List.forall_mem_cons]
  refine ⟨?_, ?_, ?_, ?_, ?_, ?_, ?_, ?_, ?_, ?_, fun p hp => nomatch hp⟩ <;> (constructor <;> omega)
theorem codes_nil {l : List Int} (h : Codes l []) : l = [] := by cases h; rfl
theorem codes_cons {l : List Int} {s : Sy} {ss : List Sy} (h : Codes l (s :: ss)) : ∃ b0 l' r, l = b0 :: l' ∧ pvGo (b0 % 64) b0 l' = some (s.code, r) ∧ Codes r ss := by
  cases h with
  | cons h t => exact ⟨_, _, _, rfl, h, t⟩
theorem SyOk.small {T : TS} {s : Sy} (h : SyOk T s) : s.code < 1000000 := by
  cases s with
  | en => decide
  | st k =>
    have : k < 3 := h
    show (k : Int) + 256 < _
    omega
  | op i =>
    have : i < 48 := h.1
    show (i : Int) + 7 < _
    omega
theorem strsAre_last {vs : List Value} {ys : List Str} (h : StrsAre vs ys) (hn : ys ≠ []) : ∃ p t, vs = p ++ [.str (ys.getLastD (Str.ofString "")) t] ∧ StrsAre p ys.dropLast := by
  induction h with
  | nil => exact absurd rfl hn
  | @cons y t vs ys h ih =>
    cases ys with
    | nil =>
      cases h
      exact ⟨[], t, rfl, .nil⟩
    | cons z zs =>
      obtain ⟨p, t', h1, h2⟩ := ih (by simp)
      refine ⟨.str y t :: p, t', by rw [h1]; rfl, .cons _ _ h2⟩
theorem WInv.data {w : World} {a : WA} {ex : Bool} {A : AS} {c : WS} {tb : Option (Addr × Obj)} {R : List (Addr × Obj)} (I : WInv w a ex A c tb R) (y : Str) (t : Tok) : WInv w a ex (aData A y) (dataS c (.str y t)) tb R := by
  unfold aData dataS
  by_cases h : A.ig = 0
  · have h1 : c.ig = 0 := by rw [I.ig, h]; rfl
    rw [if_pos h, if_pos h1]
    exact ⟨I.tab, I.off, I.out, I.wr, strsAre_snoc I.da, I.es, I.esl, I.pv, I.nv, I.ig, I.rs, I.xs⟩
  · have h1 : ¬ c.ig = 0 := by rw [I.ig]; omega
    rw [if_neg h, if_neg h1]
    exact I
end
section
theorem lay_28 : True := by
  k_with "my:getMethod ref" => ((fail_if_success k_extra "off41"); ((with_reducible show wpAny _ _ (getMethod (Value.ref 89) _ _) _ _ _); k_dflt refine gm_items (by k_asm) (by k_asm) ?_))
  k_with "my:call builtin:dict.items" => ((fail_if_success k_extra "off41"); ((with_reducible show wpAny _ _ (call _ [Value.ref 89]) _ _ _); k_dflt refine call_ns_items (by k_asm) (by k_asm) (by k_asm) ?_; walk_at "g3"; intros _ _ _; intro _ _ _ _ _))
  k_with "my:call type:list" => ((fail_if_success k_extra "off41"); ((with_reducible show wpAny _ _ (call _ [Value.ref _]) _ _ _); k_dflt refine list_ns_items rfl (by assumption) (by assumption) (by k_asm) (by k_asm) (by k_asm) ?_; walk_at "g3"; intros _ _ _; intro _ _ _))
  k_with "my:getAttr ref" => ((fail_if_success k_extra "off41"); ((with_reducible show wpAny _ _ (getAttr (Value.ref _) (Str.ofString "append") _) _ _ _); k_dflt refine get_append (by k_asm) (by k_asm) (by k_mem) ?_; walk_at "g2"; intros _ _; intro _ _ _))
  k_with "my:subscriptTail" => ((fail_if_success k_extra "off41"); ((with_reducible show wpAny _ _ (subscriptTail _ _ (Value.ref 46) _) _ _ _); (with_reducible refine stop_in ?_)))
  k_with "my:execs cons Assign cons" => ((fail_if_success k_extra "off41"); ((with_reducible show wpAny _ _ (execs (Stmt.Assign _ (PySem.Expr.IfExp (PySem.Expr.Name (Str.ofString "exclude_tags") _) _ _ _) _ :: _) _) _ _ _); (with_reducible refine stop_in ?_)))
  k_with "my:execs cons Assign cons" => ((fail_if_success k_extra "off41"); ((with_reducible show wpAny _ _ (execs (Stmt.Assign [PySem.Expr.Attribute _ (Str.ofString "_write") _] (PySem.Expr.Name (Str.ofString "write") _) _ :: _) _) _ _ _); (with_reducible refine stop_in ?_)))
  k_with "my:Exists" => ((fail_if_success k_extra "off41"); with_reducible refine stop_in ?_)
  exact True.intro
theorem news_head4 {h₀ h : Heap} {L l1 l2 l3 l4 : Addr} {o1 o2 o3 o4 : Obj} {r : List (Addr × Obj)} (_ : News h₀ L h ((l1, o1) :: (l2, o2) :: (l3, o3) :: (l4, o4) :: r)) : ∃ a b c d, a = l1 ∧ b = l2 ∧ c = l3 ∧ d = l4 := ⟨_, _, _, _, rfl, rfl, rfl, rfl⟩
theorem fr_names {h₀ h : Heap} {L : Addr} {m : Str → Option Value} (F : Fr h₀ L h m) (ps : List (Str × Value)) (hk : ∀ p ∈ ps, m p.1 = some p.2) : ∃ u, Fr h₀ L h (kstB u ps) := ⟨m, by rw [kstB_self hk]; exact F⟩
/-- what a writer leaves out, as the list handed in -/
def LeftOk (ex : Bool) (lv : Value) (rest : List (Addr × Obj)) : Prop :=
  match ex with
  | false => lv = .none
  | true => ∃ la tx kx, lv = .ref la ∧ (la, listOf #[.str "x" tx] kx) ∈ rest
def XV (w : World) (xv : Value) (R : List (Addr × Obj)) (ex : Bool) : Prop :=
  match ex with
  | false => xv = .none
  | true => ∃ sx so, xv = .ref sx ∧ (sx, so) ∈ R ∧ so.SetObjOf (PySem.strKind PySem.Challenge.rw_tv0054_01.row.prog w) (fun k => decide (k = Str.ofString "x")) 1
theorem news_hd_ {h₀ h : Heap} {L l : Addr} {o : Obj} {r : List (Addr × Obj)} (_ : News h₀ L h ((l, o) :: r)) : ∃ E, E = l := ⟨l, rfl⟩
open PyProof.Rows.LCg (ns_obj)
theorem news_both {h₀ h : Heap} {L l : Addr} {o : Obj} {r : List (Addr × Obj)} (_ : News h₀ L h ((l, o) :: r)) : ∃ E O, E = l ∧ O = o := ⟨l, o, rfl, rfl⟩
theorem tok_gen {M : Model} {A : Around} {Q E : Value → Shared → Prop} {s : Shared} {f x ae : Value} {h₀ h : Heap} {L l : Addr} {vs : List Value} {y : Str} {n : Nat} {t0 : Tok} {news : List (Addr × Obj)} (_ : News h₀ L h news) (hm : (l, listOf (vs ++ [Value.str y t0]).toArray n) ∈ news)
    (H : ∀ t, (l, listOf (vs ++ [Value.str y t]).toArray n) ∈ news → wpAny M A (call f [x, Value.str y t, ae]) Q E s) : wpAny M A (call f [x, Value.str y t0, ae]) Q E s := H t0 hm
theorem news_hd2 {h₀ h : Heap} {L l1 l2 : Addr} {o1 o2 : Obj} {r : List (Addr × Obj)} (_ : News h₀ L h ((l1, o1) :: (l2, o2) :: r)) : ∃ a b, a = l1 ∧ b = l2 := ⟨_, _, rfl, rfl⟩
theorem news_hd9 {h₀ h : Heap} {L l1 l2 l3 l4 l5 l6 l7 l8 : Addr} {o1 o2 o3 o4 o5 o6 o7 o8 : Obj} {r : List (Addr × Obj)} (_ : News h₀ L h ((l1, o1) :: (l2, o2) :: (l3, o3) :: (l4, o4) :: (l5, o5) :: (l6, o6) :: (l7, o7) :: (l8, o8) :: r)) : ∃ a b c d e f g i, a = l1 ∧ b = l2 ∧ c = l3 ∧ d = l4 ∧ e = l5 ∧ f = l6 ∧ g = l7 ∧ i = l8 := ⟨_, _, _, _, _, _, _, _, rfl, rfl, rfl, rfl, rfl, rfl, rfl, rfl⟩
/-- the writer, made, its ways not yet set -/
def WL0 (P : Params) (a : WA) (c : WS) : List (Addr × Obj) :=
  [(a.x, instObj 195 a.dx), (a.dx, dictOf ((wents P a.T a.q a.dl a.ds a.ns a.pm a.ps a.xv c.rs c.rd c.ig c.ti).take 17) 17), (a.q, boundObj "list.append" (.ref a.wa)), (a.wa, listOf c.wr.toArray c.cw), (a.dl, listOf c.da.toArray c.cd),
   (a.ds, listOf (Value.ref a.l0 :: c.es).toArray c.ce), (a.l0, listOf #[.ref a.tp] a.c0), (a.tp, { cls := .type "tuple", data := .seq #[.str "http://www.w3.org/XML/1998/namespace" a.u1, .str "xml" a.u2] }), (a.ns, listOf c.nv.toArray c.cn), (a.ps, listOf c.pv.toArray c.cp)]
def tk18 (a b c d e f g h i j k l m n o p q : Tok) : Nat → Tok
  | 0 => a
  | 1 => b
  | 2 => c
  | 3 => d
  | 4 => e
  | 5 => f
  | 6 => g
  | 7 => h
  | 8 => i
  | 9 => j
  | 10 => k
  | 11 => l
  | 12 => m
  | 13 => n
  | 14 => o
  | 15 => p
  | _ => q
/-- a writer as it is made -/
theorem XV.left {w : World} {xv : Value} {xs R0 : List (Addr × Obj)} {ex : Bool} (h : XV w xv xs ex) : XV w xv (xs ++ R0) ex := by
  cases ex with
  | false => exact h
  | true =>
    obtain ⟨sx, so, h1, h2, h3⟩ := h
    exact ⟨sx, so, h1, List.mem_append_left _ h2, h3⟩
structure Made (w : World) (ex : Bool) (NN rest xs R : List (Addr × Obj)) (a : WA) (c : WS) : Prop where
  R : R = xs ++ rest
  xl : ∀ p ∈ xs, @LT.lt Nat _ a.dl p.1 ∧ @LT.lt Nat _ p.1 a.tp
  xv : XV w a.xv xs ex
  lo : ∀ p ∈ NN, @LT.lt Nat _ p.1 a.wa
  ord : WOrd a
  rs : c.rs = false
  ig : c.ig = 0
  wr : c.wr = []
  da : c.da = []
  es : c.es = []
  nv : c.nv.length = 2
  pv : c.pv = [.bool false]
def tk6 (a b c d e f : Tok) : Nat → Tok
  | 0 => a
  | 1 => b
  | 2 => c
  | 3 => d
  | 4 => e
  | _ => f
theorem lay_29 : True := by
  k_with "my:execs cons Assign cons" => ((fail_if_success k_extra "off41"); ((with_reducible show wpAny _ _ (execs (Stmt.Assign [PySem.Expr.Name (Str.ofString "writer") _] _ _ :: _) _) _ _ _); (with_reducible refine stop_in ?_)))
  exact True.intro
def TS0 : TS := ⟨[], ⟨[], [], 0, 0, false⟩⟩
def toldOf (ex : Bool) (tg : Nat → Str) (ss : List Sy) : List Str := (ss.foldl (tStep ex tg) TS0).A.wr
structure LS where
  T : TS
  ss : List Sy
  c : WS
  tb : Option (Addr × Obj)
  R : List (Addr × Obj)
  io : Obj
  i : Nat
  wv : List Value
  wc : Nat
theorem prLS {P : LS → Prop} (h : ∀ T ss c tb R io i wv wc, P ⟨T, ss, c, tb, R, io, i, wv, wc⟩) : ∀ z, P z := fun ⟨T, ss, c, tb, R, io, i, wv, wc⟩ => h T ss c tb R io i wv wc
theorem ne_TS : Nonempty TS := ⟨TS0⟩
theorem ne_Sy : Nonempty Sy := ⟨.en⟩
theorem ne_PD : Nonempty PyData := ⟨.int 0⟩
theorem list_two {α : Type} (l : List α) : l = [] ∨ ∃ a r, l = a :: r := by cases l with | nil => exact .inl rfl | cons a r => exact .inr ⟨a, r, rfl⟩
theorem sy_three (s : Sy) : s = .en ∨ (∃ k, s = .st k) ∨ ∃ i, s = .op i := by cases s with | en => exact .inl rfl | st k => exact .inr (.inl ⟨k, rfl⟩) | op i => exact .inr (.inr ⟨i, rfl⟩)
structure LInv (w : World) (a : WA) (ex : Bool) (tg : Nat → Str) (ons : List Int) (oa wl it : Addr) (R0 : List (Addr × Obj)) (W : List Str) (c : LS) : Prop where
  itr : IterO c.io oa c.i
  co : Codes (ons.drop c.i) c.ss
  wi : WInv w a ex c.T.A c.c c.tb c.R
  st : StrsAre c.wv c.T.wt
  ok : TOk ex tg c.T c.ss
  fin : (c.ss.foldl (tStep ex tg) c.T).A.wr = W
  rl : ∀ p ∈ tabS c.tb ++ c.R, @LT.lt Nat _ p.1 wl ∨ @LT.lt Nat _ it p.1
  r0 : ∀ p ∈ R0, p ∈ c.R
theorem lay_30 : True := by
  k_with "my:call ref" => ((fail_if_success k_extra "off41"); ((with_reducible show wpAny _ _ (call (Value.ref 45) _) _ _ _); (with_reducible refine stop_in ?_)))
  k_with "my:ite" => ((fail_if_success k_extra "off41"); first | (refine ite_yes (by simp only [beq_iff_eq, decide_eq_true_eq]; omega) ?_) | (refine ite_no (by simp only [beq_iff_eq, decide_eq_true_eq]; omega) ?_))
  k_with "my:call ref" => ((fail_if_success k_extra "off41"); ((with_reducible show wpAny _ _ (call (Value.ref 178) _) _ _ _); (with_reducible refine stop_in ?_)))
  k_with "my:call ref" => ((fail_if_success k_extra "off41"); ((with_reducible show wpAny _ _ (call (Value.ref 165) _) _ _ _); (with_reducible refine stop_in ?_)))
  k_with "my:call ref" => ((fail_if_success k_extra "off41"); ((with_reducible show wpAny _ _ (call (Value.ref 142) _) _ _ _); (with_reducible refine stop_in ?_)))
  k_with "my:newList nil" => ((fail_if_success k_extra "off41"); ((with_reducible have mk9 : StopIf2 := by assumption); clear mk9; (with_reducible refine stop_in ?_)))
  k_with "my:compareOp NotEq ref ref" => ((fail_if_success k_extra "off41"); with_reducible refine stop_in ?_)
  exact True.intro
theorem off1_mem {D : Addr} : ∀ {l : List (Addr × Obj)}, PyProof.Rows.LCg.Off1 D l → ∀ p ∈ l, @Ne Nat p.1 D
  | [], _, _, h => nomatch h
  | q :: r, x, p, h => by
    rcases List.mem_cons.mp h with rfl | h
    · exact x.1
    · exact off1_mem x.2 p h
theorem lay_31 : True := by
  k_with "my:compareOp In int ref" => ((fail_if_success k_extra "off41"); with_reducible refine stop_in ?_)
  k_with "my:subscriptTail" => ((fail_if_success k_extra "off41"); ((with_reducible show wpAny _ _ (subscriptTail (PySem.Expr.Name (Str.ofString "words") _) _ _ _) _ _ _); (with_reducible refine stop_in ?_)))
  k_with "my:subscriptTail" => ((fail_if_success k_extra "off41"); ((with_reducible show wpAny _ _ (subscriptTail (PySem.Expr.Name (Str.ofString "tags") _) _ _ _) _ _ _); (with_reducible refine stop_in ?_)))
  k_with "my:subscriptTail" => ((fail_if_success k_extra "off41"); ((with_reducible show wpAny _ _ (subscriptTail (PySem.Expr.Name (Str.ofString "waiting") _) _ _ _) _ _ _); (with_reducible refine stop_in ?_)))
  k_with "my:call builtin:list.pop" => ((fail_if_success k_extra "off41"); (with_reducible refine stop_in ?_))
  k_with "my:go" => ((fail_if_success k_extra "off41"); ((repeat' (first | (k_unfold; (try dsimp only)) | ((with_reducible refine use_q (by with_reducible assumption) ?_); (try dsimp only)) | (k_extra "my:hook"; first | walk1 | (dsimp only; walk1) | (leave1; try dsimp only)))) <;> (try (with_reducible refine stop_out ?_))))
  exact True.intro
local macro_rules | `(tactic| k_enter) => `(tactic| first | k_extra "my:k_enter" | fail)
local macro_rules | `(tactic| walk_at "entE") => `(tactic| (intro FG' F' N' B' X' T'; (refine nm_qe (by passes_own) ?_); walk_at "g2"; intros qk ek; intro hE9 hq9 he9; (try dsimp only); (try k_lift B')))
theorem lay_32 : True := by
  k_with "my:k_enter" => ((fail_if_success k_extra "off41"); (refine code_def (by k_asm) (by k_asm) (by k_asm) (by k_asm) (by k_asm) rfl rfl rfl (by k_is) (by k_is) (by k_room) (by first | exact BindsTo.of_eq rfl | exact binds_K (by k_in) rfl (by k_is) rfl rfl rfl | (refine kp_binds (by k_in) (by exact fun _ => rfl))) (by exact locs rfl) ?_ (by exact rfl) (by exact rfl) (by exact rfl) (by decide); k_whole; walk_at "g3"; intros _ _ _; walk_at "entE"))
  k_with "my:subscriptTail Name UnaryOp ref int" => ((fail_if_success k_extra "off41"); (with_reducible refine stop_in ?_))
  k_with "my:rg1_1" => ((fail_if_success k_extra "off41"); (rename_i a1 b1; revert a1 b1; walk_at "g1"; intro _ _))
  k_with "my:subscriptTail Name BinOp str int" => ((fail_if_success k_extra "off41"); ((first | with_reducible walk_at "subscriptTail" | walk_at "subscriptTail"); k_extra "my:rg1_1"))
  k_with "my:call ref" => ((fail_if_success k_extra "off41"); (k_here; (with_reducible show wpAny _ _ (call (Value.ref 195) _ _) _ _ _); k_dflt (refine call_cls (by k_asm) (by k_asm) (by k_asm) (by k_is) (by k_is) (by k_is) ?_; k_whole; walk_at "g3"; intros _ _ _; walk_at "clsE"; k_enter)))
  k_with "my:ne" => ((fail_if_success k_extra "off41"); first | exact ne_TS | exact ne_Sy | exact ne_PD)
  exact True.intro
theorem con_told (w : World) (ex : Bool) (lv : Value) (tg : Nat → Str) (oa : Addr) (ovs : List Value) (ons : List Int) (k : Nat) (hio : IntsAre ovs ons) (hoct : ∀ (j : Nat) (n : Int), ons[j]? = some n → 0 ≤ n ∧ n < 256) (tags : Str) (tt : Tok) (htl : tags.length = 3) (htt : ∀ k : Nat, k < 3 → Txt.item tags (k : Int) = tg k) (htg : ∀ k < 3, GoodTag (tg k)) (tb : Option (Addr × Obj)) (htb : TabOk tb) (R0 : List (Addr × Obj)) (h168 : ∀ p ∈ R0, p.1 ≠ 168) (ho168 : oa ≠ 168) (hlv : LeftOk ex lv R0) (ss : List Sy) (hco : Codes ons ss) (hok : TOk ex tg TS0 ss) :
    ConT PySem.Challenge.rw_tv0054_01.row.prog w (Mine.hd0.heap_1_41 w.params) 242 400 2000 [.ref oa, .str tags tt, lv] ((oa, listOf ovs.toArray k) :: (tabS tb ++ R0))
      (fun v n => (∃ t, v = .str (Txt.join (Str.ofString "") (toldOf ex tg ss)) t) ∧ ∃ tb', TabOk tb' ∧ n = (oa, listOf ovs.toArray k) :: (tabS tb' ++ R0)) := by
  revert w ex lv tg oa ovs ons k hio hoct tags tt htl htt htg tb htb R0 h168 ho168 hlv ss hco hok
  ((refine gen_all8 (ne := ?gN_203) (P := ?gP_203) ((?gf_203 : ∀ a0 a1 a2 a3 a4 a5 a6 a7, ?gP_203 a0 a1 a2 a3 a4 a5 a6 a7) (gen8 ?gN_203 ?gP_203).1 (gen8 ?gN_203 ?gP_203).2.1 (gen8 ?gN_203 ?gP_203).2.2.1 (gen8 ?gN_203 ?gP_203).2.2.2.1 (gen8 ?gN_203 ?gP_203).2.2.2.2.1 (gen8 ?gN_203 ?gP_203).2.2.2.2.2.1 (gen8 ?gN_203 ?gP_203).2.2.2.2.2.2.1 (gen8 ?gN_203 ?gP_203).2.2.2.2.2.2.2); (case gN_203 => k_extra "my:ne")))
  intros w ex lv tg oa ovs ons k
  intro hio hoct
  walk_at "g2"
  intros tags tt
  intro htl htt htg
  walk_at "g1"
  intro tb htb
  walk_at "g1"
  intro R0 h168 ho168 hlv
  walk_at "g1"
  intro ss hco hok
  refine ex_in (⟨_, rfl⟩ : ∃ r, r = tabS tb ++ R0) ?_
  walk_at "g1"
  intro rest hrest
  rw [← hrest]
  replace hlv : LeftOk ex lv rest := by
    cases ex with
    | false => exact hlv
    | true =>
      obtain ⟨la, tx, kx, h1, h2⟩ := hlv
      exact ⟨la, tx, kx, h1, by rw [hrest]; exact List.mem_append_right _ h2⟩
  w_top off
  k_fill
  refine' ConT.of (binds := [("octets", .ref oa), ("tags", .str tags tt), ("left_out", lv)]) ?k6 ?k7 ?k8 ?k9 ?kB ?kN ?c2 ?c3 ?c4 ?c5 ?_
  (( (case k6 => k_is); (case k7 => k_is); (case k8 => decide); (case k9 => (intro s9 X9; first | exact BindsTo.of_eq rfl | exact binds_K X9 rfl (by k_is) rfl rfl rfl | (refine kp_binds X9 ?_; exact fun _ => rfl))); (case kB => exact locs rfl); (case kN => (simp only [List.map_cons, List.map_nil]; decide)); (case c2 => exact rfl); (case c3 => exact rfl); (case c4 => exact rfl); (case c5 => decide); k_with "WPost" => dsimp only [WPost]; k_with "FPost" => dsimp only [FPost]))
  ((refine gen_all10 (ne := ?gN_205) (P := ?gP_205) ((?gf_205 : ∀ a0 a1 a2 a3 a4 a5 a6 a7 a8 a9, ?gP_205 a0 a1 a2 a3 a4 a5 a6 a7 a8 a9) (gen10 ?gN_205 ?gP_205).1 (gen10 ?gN_205 ?gP_205).2.1 (gen10 ?gN_205 ?gP_205).2.2.1 (gen10 ?gN_205 ?gP_205).2.2.2.1 (gen10 ?gN_205 ?gP_205).2.2.2.2.1 (gen10 ?gN_205 ?gP_205).2.2.2.2.2.1 (gen10 ?gN_205 ?gP_205).2.2.2.2.2.2.1 (gen10 ?gN_205 ?gP_205).2.2.2.2.2.2.2.1 (gen10 ?gN_205 ?gP_205).2.2.2.2.2.2.2.2.1 (gen10 ?gN_205 ?gP_205).2.2.2.2.2.2.2.2.2); (case gN_205 => k_extra "my:ne")))
  intros p loose mean mg mb gd cn cs ad ccd
  ((refine gen_all10 (ne := ?gN_206) (P := ?gP_206) ((?gf_206 : ∀ a0 a1 a2 a3 a4 a5 a6 a7 a8 a9, ?gP_206 a0 a1 a2 a3 a4 a5 a6 a7 a8 a9) (gen10 ?gN_206 ?gP_206).1 (gen10 ?gN_206 ?gP_206).2.1 (gen10 ?gN_206 ?gP_206).2.2.1 (gen10 ?gN_206 ?gP_206).2.2.2.1 (gen10 ?gN_206 ?gP_206).2.2.2.2.1 (gen10 ?gN_206 ?gP_206).2.2.2.2.2.1 (gen10 ?gN_206 ?gP_206).2.2.2.2.2.2.1 (gen10 ?gN_206 ?gP_206).2.2.2.2.2.2.2.1 (gen10 ?gN_206 ?gP_206).2.2.2.2.2.2.2.2.1 (gen10 ?gN_206 ?gP_206).2.2.2.2.2.2.2.2.2); (case gN_206 => k_extra "my:ne")))
  intros cl h₀ g h₁ L' L₀ m s tk RR
  intro FG hab hnn X₀ T₀ F' N' B' X' T'
  simp only [kstB] at F'
  k_extra "my:go"
  refine stop_out ?_
  k_dflt refine Assign_DictComp_U (PySem.intKind _ w) F' rfl (by with_unfolding_all rfl) (by with_unfolding_all rfl) (by decide) rfl (by decide) rfl rfl rfl (Top.nolimit T') ?_
  k_extra "my:go"
  rename (News _ _ _ _) => N'
  refine DSrc.tok (fun i kvs nw => nw = (oa, listOf ovs.toArray k) :: rest ∧ WordsTo i kvs) rfl F' X' N' (fun i kvs nw h => h.2.len) ⟨rfl, by simp, fun j hj => absurd hj (Nat.not_lt_zero _)⟩ ?_ ?_
  · walk_at "g2"
    intros I hI
    unfold DTurn
    ((refine gen_all7 (ne := ?gN_207) (P := ?gP_207) ((?gf_207 : ∀ a0 a1 a2 a3 a4 a5 a6, ?gP_207 a0 a1 a2 a3 a4 a5 a6) (gen7 ?gN_207 ?gP_207).1 (gen7 ?gN_207 ?gP_207).2.1 (gen7 ?gN_207 ?gP_207).2.2.1 (gen7 ?gN_207 ?gP_207).2.2.2.1 (gen7 ?gN_207 ?gP_207).2.2.2.2.1 (gen7 ?gN_207 ?gP_207).2.2.2.2.2.1 (gen7 ?gN_207 ?gP_207).2.2.2.2.2.2); (case gN_207 => k_extra "my:ne")))
    intros i kvs nw v C oC D2
    ((refine gen_all6 (ne := ?gN_208) (P := ?gP_208) ((?gf_208 : ∀ a0 a1 a2 a3 a4 a5, ?gP_208 a0 a1 a2 a3 a4 a5) (gen6 ?gN_208 ?gP_208).1 (gen6 ?gN_208 ?gP_208).2.1 (gen6 ?gN_208 ?gP_208).2.2.1 (gen6 ?gN_208 ?gP_208).2.2.2.1 (gen6 ?gN_208 ?gP_208).2.2.2.2.1 (gen6 ?gN_208 ?gP_208).2.2.2.2.2); (case gN_208 => k_extra "my:ne")))
    intros oD oI m2 h9 tk9 E9
    intro hi hv hinv hC hx hdD F9 N9 off hne
    refine ex_in3 hv ?_
    clear hv
    walk_at "g3"
    intros k9 dv t9
    rintro ⟨htk, hv⟩
    rw [hv] at hx
    clear hv
    obtain ⟨hnw, hW⟩ := hinv
    rw [hnw] at N9 off
    clear F' N' hnw
    refine ex_in (tok_lookup _ (List.mem_of_getElem? htk)) ?_
    walk_at "g1"
    rintro n9 ⟨hdv, hlk⟩
    dsimp only at hdv hlk
    rw [hdv] at htk
    clear hdv
    k_extra "my:go"
    refine stop_out ?_
    refine item_strTab ((tok_tab X').keep F9.keep) hlk ?_
    walk_at "g1"
    intro v9 hv9
    refine ex_in (Flat.int_inv hv9) ?_
    walk_at "g1"
    intro t8 hv8
    subst hv8
    dsimp only
    k_extra "my:go"
    refine stop_out ?_
    exact ⟨n9, _, _, _, intKind_is _ _ _ _, rfl, F9, N9, off, rfl, hW.step htk⟩
  clear F' N'
  ((refine gen_all7 (ne := ?gN_209) (P := ?gP_209) ((?gf_209 : ∀ a0 a1 a2 a3 a4 a5 a6, ?gP_209 a0 a1 a2 a3 a4 a5 a6) (gen7 ?gN_209 ?gP_209).1 (gen7 ?gN_209 ?gP_209).2.1 (gen7 ?gN_209 ?gP_209).2.2.1 (gen7 ?gN_209 ?gP_209).2.2.2.1 (gen7 ?gN_209 ?gP_209).2.2.2.2.1 (gen7 ?gN_209 ?gP_209).2.2.2.2.2.1 (gen7 ?gN_209 ?gP_209).2.2.2.2.2.2); (case gN_209 => k_extra "my:ne")))
  intros H9 wd wo h' tk' kvs news'
  intro F' N' hD3 hoff hsys
  rintro ⟨hnw, hW⟩
  subst hnw
  replace hoff := off1_all hoff
  k_extra "my:go"
  refine stop_out ?_
  refine wpAny_execs_cons ?_
  (try dsimp only)
  refine toks_gen ?_
  walk_at "g1"
  intro tkA
  rename (Fr _ _ _ _) => F'
  rename (News _ _ _ _) => N'
  rename_i wa h7 lwa h8
  refine cutR F' (fun c : WA × WS × List (Addr × Obj) × List (Addr × Obj) => WL0 w.params c.1 c.2.1 ++ ((wd, wo) :: (oa, listOf ovs.toArray k) :: c.2.2.2)) (fun c => [("octets", .ref oa), ("tags", .str tags tt), ("words", .ref wd), ("written", .ref c.1.wa), ("writer", .ref c.1.x)])
    (fun c => Made w ex ((wd, wo) :: (oa, listOf ovs.toArray k) :: rest) rest c.2.2.1 c.2.2.2 c.1 c.2.1) ?_ ?_
  · k_extra "my:go"
    refine stop_out ?_
    rename (Fr _ _ _ _) => F'
    rename (News _ _ _ _) => N'
    rename_i q hq1 lq x dx hx1 F5 N5 ldx lxd g5 L5 h5 FG5 B5 X5 T5 qk ek hE9 hq9 he9
    clear he9
    refine ex_in (fr_names F' [("self", .ref x), ("write", .ref q), ("with_comments", .bool false), ("strip_text", .bool false), ("rewrite_prefixes", .bool false), ("qname_aware_tags", .none), ("qname_aware_attrs", .none), ("exclude_attrs", .none), ("exclude_tags", lv)] (by k_extra "my:names")) ?_
    walk_at "g1"
    intro u1 F2
    clear F'
    simp only [kstB] at F2
    refine wpAny_execs_cons ?_
    (try dsimp only)
    refine toks_gen ?_
    walk_at "g1"
    intro tkB
    k_extra "my:go"
    refine stop_out ?_
    refine wpAny_execs_cons ?_
    (try dsimp only)
    refine toks_gen ?_
    walk_at "g1"
    intro tk9
    rename (Fr _ _ _ _) => F'
    rename (News _ _ _ _) => N'
    rename_i dl hd1 ldl hd2 td1 hd3 td2 hd4 td3 hd5
    refine cutR F' (fun c : Value × List (Addr × Obj) × List (Addr × Obj) × (Nat → Tok) => (dl, listOf #[] 0) :: (x, instObj 195 dx) :: (dx, dictOf [ent w.params "_write" (c.2.2.2 0) (.ref q), ent w.params "_data" (c.2.2.2 1) (.ref dl), ent w.params "_with_comments" (c.2.2.2 2) (.bool false), ent w.params "_strip_text" (c.2.2.2 3) (.bool false), ent w.params "_exclude_attrs" (c.2.2.2 4) .none, ent w.params "_exclude_tags" (c.2.2.2 5) c.1] 6) :: (q, boundObj "list.append" (.ref wa)) :: (wa, listOf #[] 0) :: (wd, wo) :: (oa, listOf ovs.toArray k) :: c.2.2.1)
      (fun _ => [("self", .ref x), ("rewrite_prefixes", .bool false), ("qname_aware_tags", .none), ("qname_aware_attrs", .none)])
      (fun c => c.2.2.1 = c.2.1 ++ rest ∧ (∀ p ∈ c.2.1, @LT.lt Nat _ dl p.1) ∧ XV w c.1 c.2.1 ex) ?_ ?_
    · refine Or.elim (Bool.eq_false_or_eq_true ex) (fun hex => ?_) (fun hex => ?_)
      · have hlx := hlv
        rw [hex] at hlx
        refine ex_in3 hlx ?_
        clear hlx
        walk_at "g3"
        intros la tx kx
        rintro ⟨hl, hla⟩
        rw [hl] at F'
        k_extra "my:go"
        rename (Fr _ _ _ _) => F'
        rename (News _ _ _ _) => N'
        refine wpAny_truthy_list (l := la) (items := #[.str "x" tx]) ⟨_, (N' _ (show (la, listOf #[.str "x" tx] kx) ∈ _ by k_extra "my:mem")).1, rfl, _, rfl⟩ (by first | exact Nat.le_of_ble_eq_true rfl | simp) ?_
        rw [show (!(#[Value.str (Str.ofString "x") tx] : Array Value).isEmpty) = true from rfl]
        k_extra "my:go"
        rename (Fr _ _ _ _) => F'
        rename (News _ _ _ _) => N'
        apply set_one (y := "x") (ty := tx) (l := la) (kn := kx)
        case hh => rfl
        case F => exact F'
        case N => exact N'
        case hl => k_extra "my:mem"
        clear F' N'
        walk_at "g4"
        intros sx h8 tk8 so
        intro F' N' l1 hso
        k_extra "my:go"
        dsimp only
        refine' ⟨(.ref sx, [(sx, so)], (sx, so) :: rest, tk6 _ _ _ _ _ _), _, _, _, _, rfl, by k_asm, by k_asm, ?mm, by (((try dsimp only); k_extra "my:inl")), by k_extra "my:names", rfl, ?xx, ?hx⟩
        case mm => simp only [ent, tk6]; (((try dsimp only); k_extra "my:inl"))
        case hx => rw [hex]; exact ⟨sx, so, rfl, .head _, hso⟩
        case xx =>
          intro p hp
          rw [List.mem_singleton.mp hp]
          exact lt_in l1 (show (dl, listOf #[] 0) ∈ _ by k_extra "my:mem")
      · have hl := hlv
        rw [hex] at hl
        rw [show lv = .none from hl] at F'
        clear hl
        k_extra "my:go"
        dsimp only
        refine' ⟨(.none, [], rest, tk6 _ _ _ _ _ _), _, _, _, _, rfl, by k_asm, by k_asm, ?mm, by (((try dsimp only); k_extra "my:inl")), by k_extra "my:names", rfl, (by intro p hp; cases hp), by rw [hex]; exact rfl⟩
        case mm => simp only [ent, tk6]; (((try dsimp only); k_extra "my:inl"))
    · clear F' N'
      try dsimp only
      clear F5 N5 hio hoct htl htt htg htb h168 ho168 hco hok hrest hlv FG hab hnn X₀ T₀ hD3 hsys hW hoff
      as_aux_lemma =>
      revert B' X' T' lwa lq ldx lxd FG5 B5 X5 T5 hE9 hq9 ldl
      revert w ex lv oa ovs k tags tt rest p loose mean mg mb gd cn cs ad ccd cl h₀ g L' L₀ m s tk RR wd wo wa h8 tkA q x dx g5 L5 h5 qk ek tkB dl
      ((refine gen_all10 (ne := ?gN_214) (P := ?gP_214) ((?gf_214 : ∀ a0 a1 a2 a3 a4 a5 a6 a7 a8 a9, ?gP_214 a0 a1 a2 a3 a4 a5 a6 a7 a8 a9) (gen10 ?gN_214 ?gP_214).1 (gen10 ?gN_214 ?gP_214).2.1 (gen10 ?gN_214 ?gP_214).2.2.1 (gen10 ?gN_214 ?gP_214).2.2.2.1 (gen10 ?gN_214 ?gP_214).2.2.2.2.1 (gen10 ?gN_214 ?gP_214).2.2.2.2.2.1 (gen10 ?gN_214 ?gP_214).2.2.2.2.2.2.1 (gen10 ?gN_214 ?gP_214).2.2.2.2.2.2.2.1 (gen10 ?gN_214 ?gP_214).2.2.2.2.2.2.2.2.1 (gen10 ?gN_214 ?gP_214).2.2.2.2.2.2.2.2.2); (case gN_214 => k_extra "my:ne")))
      intros w ex lv oa ovs k tags tt rest p
      ((refine gen_all10 (ne := ?gN_215) (P := ?gP_215) ((?gf_215 : ∀ a0 a1 a2 a3 a4 a5 a6 a7 a8 a9, ?gP_215 a0 a1 a2 a3 a4 a5 a6 a7 a8 a9) (gen10 ?gN_215 ?gP_215).1 (gen10 ?gN_215 ?gP_215).2.1 (gen10 ?gN_215 ?gP_215).2.2.1 (gen10 ?gN_215 ?gP_215).2.2.2.1 (gen10 ?gN_215 ?gP_215).2.2.2.2.1 (gen10 ?gN_215 ?gP_215).2.2.2.2.2.1 (gen10 ?gN_215 ?gP_215).2.2.2.2.2.2.1 (gen10 ?gN_215 ?gP_215).2.2.2.2.2.2.2.1 (gen10 ?gN_215 ?gP_215).2.2.2.2.2.2.2.2.1 (gen10 ?gN_215 ?gP_215).2.2.2.2.2.2.2.2.2); (case gN_215 => k_extra "my:ne")))
      intros loose mean mg mb gd cn cs ad ccd cl
      ((refine gen_all10 (ne := ?gN_216) (P := ?gP_216) ((?gf_216 : ∀ a0 a1 a2 a3 a4 a5 a6 a7 a8 a9, ?gP_216 a0 a1 a2 a3 a4 a5 a6 a7 a8 a9) (gen10 ?gN_216 ?gP_216).1 (gen10 ?gN_216 ?gP_216).2.1 (gen10 ?gN_216 ?gP_216).2.2.1 (gen10 ?gN_216 ?gP_216).2.2.2.1 (gen10 ?gN_216 ?gP_216).2.2.2.2.1 (gen10 ?gN_216 ?gP_216).2.2.2.2.2.1 (gen10 ?gN_216 ?gP_216).2.2.2.2.2.2.1 (gen10 ?gN_216 ?gP_216).2.2.2.2.2.2.2.1 (gen10 ?gN_216 ?gP_216).2.2.2.2.2.2.2.2.1 (gen10 ?gN_216 ?gP_216).2.2.2.2.2.2.2.2.2); (case gN_216 => k_extra "my:ne")))
      intros h₀ g L' L₀ m s tk RR wd wo
      ((refine gen_all10 (ne := ?gN_217) (P := ?gP_217) ((?gf_217 : ∀ a0 a1 a2 a3 a4 a5 a6 a7 a8 a9, ?gP_217 a0 a1 a2 a3 a4 a5 a6 a7 a8 a9) (gen10 ?gN_217 ?gP_217).1 (gen10 ?gN_217 ?gP_217).2.1 (gen10 ?gN_217 ?gP_217).2.2.1 (gen10 ?gN_217 ?gP_217).2.2.2.1 (gen10 ?gN_217 ?gP_217).2.2.2.2.1 (gen10 ?gN_217 ?gP_217).2.2.2.2.2.1 (gen10 ?gN_217 ?gP_217).2.2.2.2.2.2.1 (gen10 ?gN_217 ?gP_217).2.2.2.2.2.2.2.1 (gen10 ?gN_217 ?gP_217).2.2.2.2.2.2.2.2.1 (gen10 ?gN_217 ?gP_217).2.2.2.2.2.2.2.2.2); (case gN_217 => k_extra "my:ne")))
      intros wa h8 tkA q x dx g5 L5 h5 qk
      walk_at "g3"
      intros ek tkB dl
      intro B' X' T' lwa lq ldx lxd FG5 B5 X5 T5 hE9 hq9 ldl
      refine pr4 ?_
      ((refine gen_all7 (ne := ?gN_218) (P := ?gP_218) ((?gf_218 : ∀ a0 a1 a2 a3 a4 a5 a6, ?gP_218 a0 a1 a2 a3 a4 a5 a6) (gen7 ?gN_218 ?gP_218).1 (gen7 ?gN_218 ?gP_218).2.1 (gen7 ?gN_218 ?gP_218).2.2.1 (gen7 ?gN_218 ?gP_218).2.2.2.1 (gen7 ?gN_218 ?gP_218).2.2.2.2.1 (gen7 ?gN_218 ?gP_218).2.2.2.2.2.1 (gen7 ?gN_218 ?gP_218).2.2.2.2.2.2); (case gN_218 => k_extra "my:ne")))
      intros xv xs R2 T u h9 tk9
      rintro ⟨hR2, hxs, hxv⟩ F' N'
      dsimp only at hR2 hxs hxv N'
      simp only [kstB] at F'
      simp only [ent] at N'
      have hr3 : ∀ p ∈ R2, @LT.lt Nat _ p.1 wa ∨ @LT.lt Nat _ dl p.1 := by
        intro p hp
        rw [hR2] at hp
        rcases List.mem_append.mp hp with hp | hp
        · exact .inr (hxs p hp)
        · exact .inl (lwa p (.tail _ (.tail _ hp)))
      (try dsimp only)
      have ha2 : @LT.lt Nat _ wa dx := lt_in ldx (show (wa, listOf #[] 0) ∈ _ by k_extra "my:mem")
      have ha3 : @LT.lt Nat _ dx dl := lt_in ldl (show (dx, dictOf _ _) ∈ _ by k_extra "my:mem")
      have hdx2 : ∀ p ∈ R2, p.1 ≠ dx := ne_of_out hr3 (Nat.le_of_lt ha2) (Nat.le_of_lt ha3)
      k_extra "my:go"
      rename (Fr _ _ _ _) => F'
      rename (News _ _ _ _) => N'
      rename_i tp _ ltp l0 _ ll0 ds _ lds _ _ ns _ lns _ _ _ _ _ _ _ _ _ _ _ _ _ _ _ _ _ _ _ _ pm _ _ lpm _ _ _ _ _ _ _ ps _ lps _ _ _ _ _ _ _ _ _ _ _ _ _ _
      simp only [List.push_toArray] at N'
      have hxtp : ∀ p ∈ xs, @LT.lt Nat _ p.1 tp := by
        intro p hp
        have hm : p ∈ R2 := by rw [hR2]; exact List.mem_append_left _ hp
        exact ltp p (by repeat (first | exact hm | refine List.mem_cons_of_mem _ ?_))
      refine' ⟨(⟨x, dx, q, wa, dl, ds, l0, tp, ns, pm, ps, _, xv, _, _, tk18 _ _ _ _ _ _ _ _ _ _ _ _ _ _ _ _ _⟩, ⟨false, false, 0, _, [], _, [], _, [], _, _, _, [.bool false], _⟩, xs, R2), _, _, _, _, rfl, by k_asm, by k_asm, ?mm, by (((try dsimp only); k_extra "my:inl")), by k_extra "my:names", ?M⟩
      case mm =>
        simp only [WL0, wents, ent, List.cons_append, List.nil_append, List.take_succ_cons, List.take_zero]
        (((try dsimp only); k_extra "my:inl"))
      case M =>
        refine ⟨hR2, ?_, hxv, lwa, ?_, rfl, rfl, rfl, rfl, rfl, rfl, rfl⟩
        · exact fun p hp => ⟨hxs p hp, hxtp p hp⟩
        · exact ⟨lt_in lq (show (wa, _) ∈ _ by k_extra "my:mem"), lt_in ldx (show (q, _) ∈ _ by k_extra "my:mem"), lxd, lt_in ldl (show (x, _) ∈ _ by k_extra "my:mem"), lt_in ltp (show (dl, _) ∈ _ by k_extra "my:mem"), lt_in ll0 (show (tp, _) ∈ _ by k_extra "my:mem"), lt_in lds (show (l0, _) ∈ _ by k_extra "my:mem"), lt_in lns (show (ds, _) ∈ _ by k_extra "my:mem"), lt_in lpm (show (ns, _) ∈ _ by k_extra "my:mem"), lt_in lps (show (pm, _) ∈ _ by k_extra "my:mem")⟩
  · clear F' N'
    try dsimp only
    clear lwa hlv
    as_aux_lemma =>
    revert hio hoct htl htt htg htb h168 ho168 hco hok hrest FG hab hnn X₀ T₀ B' X' T' hD3 hsys hW hoff
    revert w ex lv tg oa ovs ons k tags tt tb R0 ss rest p loose mean mg mb gd cn cs ad ccd cl h₀ g L' L₀ m s tk RR wd wo kvs
    ((refine gen_all10 (ne := ?gN_221) (P := ?gP_221) ((?gf_221 : ∀ a0 a1 a2 a3 a4 a5 a6 a7 a8 a9, ?gP_221 a0 a1 a2 a3 a4 a5 a6 a7 a8 a9) (gen10 ?gN_221 ?gP_221).1 (gen10 ?gN_221 ?gP_221).2.1 (gen10 ?gN_221 ?gP_221).2.2.1 (gen10 ?gN_221 ?gP_221).2.2.2.1 (gen10 ?gN_221 ?gP_221).2.2.2.2.1 (gen10 ?gN_221 ?gP_221).2.2.2.2.2.1 (gen10 ?gN_221 ?gP_221).2.2.2.2.2.2.1 (gen10 ?gN_221 ?gP_221).2.2.2.2.2.2.2.1 (gen10 ?gN_221 ?gP_221).2.2.2.2.2.2.2.2.1 (gen10 ?gN_221 ?gP_221).2.2.2.2.2.2.2.2.2); (case gN_221 => k_extra "my:ne")))
    intros w ex lv tg oa ovs ons k tags tt
    ((refine gen_all10 (ne := ?gN_222) (P := ?gP_222) ((?gf_222 : ∀ a0 a1 a2 a3 a4 a5 a6 a7 a8 a9, ?gP_222 a0 a1 a2 a3 a4 a5 a6 a7 a8 a9) (gen10 ?gN_222 ?gP_222).1 (gen10 ?gN_222 ?gP_222).2.1 (gen10 ?gN_222 ?gP_222).2.2.1 (gen10 ?gN_222 ?gP_222).2.2.2.1 (gen10 ?gN_222 ?gP_222).2.2.2.2.1 (gen10 ?gN_222 ?gP_222).2.2.2.2.2.1 (gen10 ?gN_222 ?gP_222).2.2.2.2.2.2.1 (gen10 ?gN_222 ?gP_222).2.2.2.2.2.2.2.1 (gen10 ?gN_222 ?gP_222).2.2.2.2.2.2.2.2.1 (gen10 ?gN_222 ?gP_222).2.2.2.2.2.2.2.2.2); (case gN_222 => k_extra "my:ne")))
    intros tb R0 ss rest p loose mean mg mb gd
    ((refine gen_all10 (ne := ?gN_223) (P := ?gP_223) ((?gf_223 : ∀ a0 a1 a2 a3 a4 a5 a6 a7 a8 a9, ?gP_223 a0 a1 a2 a3 a4 a5 a6 a7 a8 a9) (gen10 ?gN_223 ?gP_223).1 (gen10 ?gN_223 ?gP_223).2.1 (gen10 ?gN_223 ?gP_223).2.2.1 (gen10 ?gN_223 ?gP_223).2.2.2.1 (gen10 ?gN_223 ?gP_223).2.2.2.2.1 (gen10 ?gN_223 ?gP_223).2.2.2.2.2.1 (gen10 ?gN_223 ?gP_223).2.2.2.2.2.2.1 (gen10 ?gN_223 ?gP_223).2.2.2.2.2.2.2.1 (gen10 ?gN_223 ?gP_223).2.2.2.2.2.2.2.2.1 (gen10 ?gN_223 ?gP_223).2.2.2.2.2.2.2.2.2); (case gN_223 => k_extra "my:ne")))
    intros cn cs ad ccd cl h₀ g L' L₀ m
    ((refine gen_all6 (ne := ?gN_224) (P := ?gP_224) ((?gf_224 : ∀ a0 a1 a2 a3 a4 a5, ?gP_224 a0 a1 a2 a3 a4 a5) (gen6 ?gN_224 ?gP_224).1 (gen6 ?gN_224 ?gP_224).2.1 (gen6 ?gN_224 ?gP_224).2.2.1 (gen6 ?gN_224 ?gP_224).2.2.2.1 (gen6 ?gN_224 ?gP_224).2.2.2.2.1 (gen6 ?gN_224 ?gP_224).2.2.2.2.2); (case gN_224 => k_extra "my:ne")))
    intros s tk RR wd wo kvs
    intro hio hoct htl htt htg htb h168 ho168 hco hok hrest FG hab hnn X₀ T₀ B' X' T' hD3 hsys hW hoff
    refine pr4 ?_
    ((refine gen_all7 (ne := ?gN_225) (P := ?gP_225) ((?gf_225 : ∀ a0 a1 a2 a3 a4 a5 a6, ?gP_225 a0 a1 a2 a3 a4 a5 a6) (gen7 ?gN_225 ?gP_225).1 (gen7 ?gN_225 ?gP_225).2.1 (gen7 ?gN_225 ?gP_225).2.2.1 (gen7 ?gN_225 ?gP_225).2.2.2.1 (gen7 ?gN_225 ?gP_225).2.2.2.2.1 (gen7 ?gN_225 ?gP_225).2.2.2.2.2.1 (gen7 ?gN_225 ?gP_225).2.2.2.2.2.2); (case gN_225 => k_extra "my:ne")))
    intros a c xs R2 u hc tkc
    intro M F' N'
    try dsimp only at M N'
    simp only [kstB] at F'
    simp only [WL0, wents, ent, List.take_succ_cons, List.take_zero, List.cons_append, List.nil_append] at N'
    obtain ⟨hR2, hxs, hxv, hlo, ho, hrs, hig, hwr, hda, hes, hnv, hpv⟩ := M
    have hr3 : ∀ p ∈ R2, @LT.lt Nat _ p.1 a.wa ∨ @LT.lt Nat _ a.ps p.1 ∨ (@LT.lt Nat _ a.dl p.1 ∧ @LT.lt Nat _ p.1 a.tp) := by
      intro p hp
      rw [hR2] at hp
      rcases List.mem_append.mp hp with hp | hp
      · exact .inr (.inr (hxs p hp))
      · exact .inl (hlo p (.tail _ (.tail _ hp)))
    obtain ⟨o1, o2, o3, o4, o5, o6, o7, o8, o9, o10⟩ := id ho
    have hwda : @LT.lt Nat _ wd a.wa := hlo _ (.head _)
    have hoaa : @LT.lt Nat _ oa a.wa := hlo _ (.tail _ (.head _))
    have hrdx : ∀ p ∈ R2, p.1 ≠ a.dx := ne_of_out3 hr3 (by omega) (by omega) (by omega)
    try dsimp only
    k_extra "my:go"
    rename (Fr _ _ _ _) => F'
    rename (News _ _ _ _) => N'
    rename_i wl hw1 lwl hw2 tw1
    refine iter_list F' N' (by k_extra "my:mem") ?_
    clear F' N'
    walk_at "g3"
    intros it io h8
    intro hio1 F' N' l1
    k_sweep
    k_extra "my:go"
    refine stop_out ?_
    rename (Fr _ _ _ _) => F'
    rename (News _ _ _ _) => N'
    rename_i hz tz1 tz2
    have hRL : ∀ p ∈ R2, @LT.lt Nat _ p.1 wl := fun p hp => lwl p (by repeat (first | exact hp | refine List.mem_cons_of_mem _ ?_))
    have h168a : @LT.lt Nat _ 168 a.wa := by
      have hm : (168, (tabS tb).head!.2) ∈ rest := by
        rw [hrest]; cases tb with
        | none => exact .head _
        | some q => exact .head _
      exact hlo _ (.tail _ (.tail _ hm))
    have hb9 : ∃ b : WA, b.x = a.x ∧ b.wa = a.wa ∧ WOrd b ∧ (∀ p ∈ R2, @LT.lt Nat _ p.1 b.wa ∨ @LT.lt Nat _ b.ps p.1 ∨ (@LT.lt Nat _ b.dl p.1 ∧ @LT.lt Nat _ p.1 b.tp)) ∧ (@LT.lt Nat _ 168 b.wa) ∧ XV w b.xv xs ex ∧ (@LT.lt Nat _ wd b.wa) ∧ (@LT.lt Nat _ oa b.wa) ∧ (@LT.lt Nat _ b.ps wl) ∧
        News g L' hz (WL w.params b c ++ ((it, io) :: (oa, listOf ovs.toArray k) :: (wl, listOf #[] 0) :: (wd, wo) :: R2)) := by
      refine' ⟨{ a with T := fun i => if i = 17 then _ else a.T i }, rfl, rfl, ho, hr3, h168a, hxv, hlo _ (.head _), hlo _ (.tail _ (.head _)), lt_in lwl (show (a.ps, listOf _ _) ∈ _ by k_extra "my:mem"), News.sub N' ?mn⟩
      case mn =>
        simp only [WL, wents, ent, List.cons_append, List.nil_append, Nat.reduceEqDiff, reduceIte]
        (((try dsimp only); k_extra "my:inl"))
    refine ex_in hb9 ?_
    clear hb9
    walk_at "g1"
    rintro b ⟨e1, e2, hob, hoR, h168b, hxvb, hwdb, hoab, hwlb, Nw⟩
    simp only [← e1, ← e2] at F'
    have hwit : @LT.lt Nat _ wl it := lt_in l1 (show (wl, listOf #[] 0) ∈ _ by k_extra "my:mem")
    have hxs8 : ∀ p ∈ xs, p.1 ≠ 168 := by
      intro p hp e
      have h9 := (hxs p hp).1
      have e' : @Eq Nat p.1 168 := e
      omega
    have hwd8 : @Ne Nat wd 168 := by
      have hm : (168, (tabS tb).head!.2) ∈ rest := by
        rw [hrest]; cases tb with
        | none => exact .head _
        | some q => exact .head _
      exact Ne.symm (hoff _ (.tail _ hm))
    clear N' e1 e2 hr3 h168a ho o1 o2 o3 o4 o5 o6 o7 o8 o9 o10 hxv l1 lwl
    (try k_sweep)
    have hne : ∀ p ∈ xs ++ R0, p.1 ≠ 168 := by
      intro p hp
      rcases List.mem_append.mp hp with hp | hp
      · exact hxs8 p hp
      · exact h168 p hp
    have hsubR : ∀ p ∈ tabS tb ++ (xs ++ R0), p ∈ R2 := by
      intro p hp
      rw [hR2, hrest]
      rcases List.mem_append.mp hp with hp | hp
      · exact List.mem_append_right _ (List.mem_append_left _ hp)
      · rcases List.mem_append.mp hp with hp | hp
        · exact List.mem_append_left _ hp
        · exact List.mem_append_right _ (List.mem_append_right _ hp)
    refine whileR (σ := LS) (fun c => WL w.params b c.c ++ ((it, c.io) :: (oa, listOf ovs.toArray k) :: (wl, listOf c.wv.toArray c.wc) :: (wd, wo) :: (tabS c.tb ++ c.R)))
      (fun _ => [("octets", .ref oa), ("tags", .str tags tt), ("words", .ref wd), ("written", .ref b.wa), ("writer", .ref b.x), ("waiting", .ref wl), ("source", .ref it)])
      (LInv w b ex tg ons oa wl it R0 (toldOf ex tg ss)) (fun _ => False) (fun c => c.ss.length) ⟨TS0, ss, c, tb, xs ++ R0, io, 0, [], 0⟩ F' ?_ (by k_extra "my:names") ?_ ?_ ?_
    · refine News.sub Nw ?_
      intro p hp
      rcases List.mem_append.mp hp with hp | hp
      · exact List.mem_append_left _ hp
      · refine List.mem_append_right _ ?_
        rcases List.mem_cons.mp hp with rfl | hp
        · exact .head _
        · rcases List.mem_cons.mp hp with rfl | hp
          · exact .tail _ (.head _)
          · rcases List.mem_cons.mp hp with rfl | hp
            · exact .tail _ (.tail _ (.head _))
            · rcases List.mem_cons.mp hp with rfl | hp
              · exact .tail _ (.tail _ (.tail _ (.head _)))
              · exact .tail _ (.tail _ (.tail _ (.tail _ (hsubR p hp))))
    · refine ⟨hio1, hco, ⟨htb, hne, fun p hp => hoR p (hsubR p hp), ?_, ?_, ?_, ?_, ?_, ?_, ?_, ?_, ?_⟩, .nil, hok, rfl, fun p hp => .inl (hRL p (hsubR p hp)), fun p hp => List.mem_append_right _ hp⟩
      · rw [hwr]; exact .nil
      · rw [hda]; exact .nil
      · rw [hes]; intro e he; cases he
      · rw [hes]; rfl
      · rw [hpv]; rfl
      · rw [hnv]; rfl
      · rw [hig]; rfl
      · rw [hrs]; rfl
      · exact XV.left hxvb
    · clear F' hrs hig hwr hda hes hnv hpv hio1 hR2 hxs hRL hoR hxvb hxs8 hne hsubR Nw hlo hwda hoaa hrdx hoff hco hok hrest htb h168
      as_aux_lemma =>
      revert hio hoct htl htt htg ho168 FG hab hnn X₀ T₀ B' X' T' hD3 hsys hW hob h168b hwdb hoab hwlb hwit hwd8
      revert w ex tg oa ovs ons k tags tt R0 ss rest p loose mean mg mb gd cn cs ad ccd cl h₀ g L' L₀ m s tk RR wd wo kvs wl it hz tz2 b
      ((refine gen_all10 (ne := ?gN_227) (P := ?gP_227) ((?gf_227 : ∀ a0 a1 a2 a3 a4 a5 a6 a7 a8 a9, ?gP_227 a0 a1 a2 a3 a4 a5 a6 a7 a8 a9) (gen10 ?gN_227 ?gP_227).1 (gen10 ?gN_227 ?gP_227).2.1 (gen10 ?gN_227 ?gP_227).2.2.1 (gen10 ?gN_227 ?gP_227).2.2.2.1 (gen10 ?gN_227 ?gP_227).2.2.2.2.1 (gen10 ?gN_227 ?gP_227).2.2.2.2.2.1 (gen10 ?gN_227 ?gP_227).2.2.2.2.2.2.1 (gen10 ?gN_227 ?gP_227).2.2.2.2.2.2.2.1 (gen10 ?gN_227 ?gP_227).2.2.2.2.2.2.2.2.1 (gen10 ?gN_227 ?gP_227).2.2.2.2.2.2.2.2.2); (case gN_227 => k_extra "my:ne")))
      intros w ex tg oa ovs ons k tags tt R0
      ((refine gen_all10 (ne := ?gN_228) (P := ?gP_228) ((?gf_228 : ∀ a0 a1 a2 a3 a4 a5 a6 a7 a8 a9, ?gP_228 a0 a1 a2 a3 a4 a5 a6 a7 a8 a9) (gen10 ?gN_228 ?gP_228).1 (gen10 ?gN_228 ?gP_228).2.1 (gen10 ?gN_228 ?gP_228).2.2.1 (gen10 ?gN_228 ?gP_228).2.2.2.1 (gen10 ?gN_228 ?gP_228).2.2.2.2.1 (gen10 ?gN_228 ?gP_228).2.2.2.2.2.1 (gen10 ?gN_228 ?gP_228).2.2.2.2.2.2.1 (gen10 ?gN_228 ?gP_228).2.2.2.2.2.2.2.1 (gen10 ?gN_228 ?gP_228).2.2.2.2.2.2.2.2.1 (gen10 ?gN_228 ?gP_228).2.2.2.2.2.2.2.2.2); (case gN_228 => k_extra "my:ne")))
      intros ss rest p loose mean mg mb gd cn cs
      ((refine gen_all10 (ne := ?gN_229) (P := ?gP_229) ((?gf_229 : ∀ a0 a1 a2 a3 a4 a5 a6 a7 a8 a9, ?gP_229 a0 a1 a2 a3 a4 a5 a6 a7 a8 a9) (gen10 ?gN_229 ?gP_229).1 (gen10 ?gN_229 ?gP_229).2.1 (gen10 ?gN_229 ?gP_229).2.2.1 (gen10 ?gN_229 ?gP_229).2.2.2.1 (gen10 ?gN_229 ?gP_229).2.2.2.2.1 (gen10 ?gN_229 ?gP_229).2.2.2.2.2.1 (gen10 ?gN_229 ?gP_229).2.2.2.2.2.2.1 (gen10 ?gN_229 ?gP_229).2.2.2.2.2.2.2.1 (gen10 ?gN_229 ?gP_229).2.2.2.2.2.2.2.2.1 (gen10 ?gN_229 ?gP_229).2.2.2.2.2.2.2.2.2); (case gN_229 => k_extra "my:ne")))
      intros ad ccd cl h₀ g L' L₀ m s tk
      ((refine gen_all9 (ne := ?gN_230) (P := ?gP_230) ((?gf_230 : ∀ a0 a1 a2 a3 a4 a5 a6 a7 a8, ?gP_230 a0 a1 a2 a3 a4 a5 a6 a7 a8) (gen9 ?gN_230 ?gP_230).1 (gen9 ?gN_230 ?gP_230).2.1 (gen9 ?gN_230 ?gP_230).2.2.1 (gen9 ?gN_230 ?gP_230).2.2.2.1 (gen9 ?gN_230 ?gP_230).2.2.2.2.1 (gen9 ?gN_230 ?gP_230).2.2.2.2.2.1 (gen9 ?gN_230 ?gP_230).2.2.2.2.2.2.1 (gen9 ?gN_230 ?gP_230).2.2.2.2.2.2.2.1 (gen9 ?gN_230 ?gP_230).2.2.2.2.2.2.2.2); (case gN_230 => k_extra "my:ne")))
      intros RR wd wo kvs wl it hz tz2 b
      intro hio hoct htl htt htg ho168 FG hab hnn X₀ T₀ B' X' T' hD3 hsys hW hob h168b hwdb hoab hwlb hwit hwd8
      refine prLS ?_
      ((refine gen_all9 (ne := ?gN_231) (P := ?gP_231) ((?gf_231 : ∀ a0 a1 a2 a3 a4 a5 a6 a7 a8, ?gP_231 a0 a1 a2 a3 a4 a5 a6 a7 a8) (gen9 ?gN_231 ?gP_231).1 (gen9 ?gN_231 ?gP_231).2.1 (gen9 ?gN_231 ?gP_231).2.2.1 (gen9 ?gN_231 ?gP_231).2.2.2.1 (gen9 ?gN_231 ?gP_231).2.2.2.2.1 (gen9 ?gN_231 ?gP_231).2.2.2.2.2.1 (gen9 ?gN_231 ?gP_231).2.2.2.2.2.2.1 (gen9 ?gN_231 ?gP_231).2.2.2.2.2.2.2.1 (gen9 ?gN_231 ?gP_231).2.2.2.2.2.2.2.2); (case gN_231 => k_extra "my:ne")))
      intros T ts c1 tb1 R io1 i wv wc
      walk_at "g3"
      intros u2 h2 tk2
      intro I F' N'
      dsimp only at I N'
      simp only [kstB] at F'
      obtain ⟨Iit, Ico, Iwi, Ist, Iok, Ifin, Irl, Ir0⟩ := I
      dsimp only at Iit Ico Iwi Ist Iok Ifin Irl Ir0
      have hrt : ∀ p ∈ tabS tb1, @LT.lt Nat _ p.1 wl ∨ @LT.lt Nat _ it p.1 := fun p hp => Irl p (List.mem_append_left _ hp)
      have hrr : ∀ p ∈ R, @LT.lt Nat _ p.1 wl ∨ @LT.lt Nat _ it p.1 := fun p hp => Irl p (List.mem_append_right _ hp)
      obtain ⟨o1, o2, o3, o4, o5, o6, o7, o8, o9, o10⟩ := id hob
      dsimp only
      k_extra "my:go"
      refine stop_out ?_
      rename (Fr _ _ _ _) => F'
      rename (News _ _ _ _) => N'
      have Np : News g L' _ ((it, io1) :: (oa, listOf ovs.toArray k) :: (WL w.params b c1 ++ ((wl, listOf wv.toArray wc) :: (wd, wo) :: (tabS tb1 ++ R)))) := News.sub N' (by (((try dsimp only); k_extra "my:inl")))
      have hoff9 : ∀ p ∈ (oa, listOf ovs.toArray k) :: (WL w.params b c1 ++ ((wl, listOf wv.toArray wc) :: (wd, wo) :: (tabS tb1 ++ R))), p.1 ≠ it := by
        refine List.forall_mem_cons.mpr ⟨?_, List.forall_mem_append.mpr ⟨?_, List.forall_mem_cons.mpr ⟨?_, List.forall_mem_cons.mpr ⟨?_, List.forall_mem_append.mpr ⟨?_, ?_⟩⟩⟩⟩⟩
        · show @Ne Nat _ _; omega
        · intro p hp e
          have h9 := WL_between hob p hp
          have e' : @Eq Nat p.1 it := e
          omega
        · show @Ne Nat _ _; omega
        · show @Ne Nat _ _; omega
        · exact ne_of_out hrt (by omega) (by omega)
        · exact ne_of_out hrr (by omega) (by omega)
      clear N'
      refine Or.elim (list_two ts) (fun hts => ?_) (fun hts => ?_)
      · rw [hts] at Ico Iok Ifin
        clear hts
        have hnil := codes_nil Ico
        have hov : ovs[i]? = none := by
          have h1 := hio.length
          have h2 := congrArg List.length hnil
          rw [List.length_drop, List.length_nil] at h2
          rw [List.getElem?_eq_none_iff]
          omega
        refine (con_pvX w it oa io1 ovs k i _ Iit hov hoff9).use (by k_extra "my:us1") (by k_extra "my:us1") (by k_asm) F' (by k_asm) Np (by k_asm) rfl (fun _ _ _ _ h => h.elim) ?_
        walk_at "g4"
        intros e g2 h9 tk9
        intro hF hR hU
        have hL0 : ∀ p ∈ (oa, listOf ovs.toArray k) :: (WL w.params b c1 ++ ((wl, listOf wv.toArray wc) :: (wd, wo) :: (tabS tb1 ++ R))), p.1 ≠ L₀ := by
          intro p hp e
          have h9 := (Np p (.tail _ hp)).2.2
          obtain ⟨oL, _, _, hL, _⟩ := FG.ns
          rw [e, hL] at h9
          cases h9
        have hLL : L₀ ≠ L' := Nat.ne_of_lt (Nat.lt_of_lt_of_le FG.ns.lt F'.above)
        have F9 : Fr h₀ L' g2 _ := ⟨hF.ns, fun b o e => hF.keep _ _ (FG.keep _ _ e), hab⟩
        refine caught_K rfl F9 hU hR T₀ ?_ (mg_none_of X₀ T₀.g (by k_is)) rfl rfl
        walk_at "g1"
        intro h7 F7 N7 hU7
        refine ex_in (ns_obj (hU7.ns (FG.ns.at' fun o q => hF.keep _ _ q))) ?_
        walk_at "g1"
        rintro oL ⟨hoL, hnL⟩
        have N8 : News h₀ L' h7 ((L₀, oL) :: (oa, listOf ovs.toArray k) :: (WL w.params b c1 ++ ((wl, listOf wv.toArray wc) :: (wd, wo) :: (tabS tb1 ++ R)))) := fun p hp => by
          rcases List.mem_cons.mp hp with rfl | hp
          · exact ⟨hoL, hLL, Heap.get?_none_of_le FG.above⟩
          · exact N7 p hp
        have N8u := N8
        clear F' Np N7 F9
        simp only [WL, wents, ent, List.cons_append, List.nil_append] at N8
        k_extra "my:go"
        rename (Fr _ _ _ _) => F'
        have Fq : T.A.wr = toldOf ex tg ss := Ifin
        refine join_strs (ys := T.A.wr) ⟨_, (N8 (b.wa, listOf c1.wr.toArray c1.cw) (by k_extra "my:mem")).1, rfl, _, rfl⟩ Iwi.wr ?_ (by decide) ?_
        · have h1 := sum_le_of T.A.wr 500 Iok.wl
          have h2 := Iok.wr
          omega
        walk_at "g2"
        intros t8 k8
        k_extra "my:go"
        refine outX_of (L := L') (oL := oL) rfl F' N8u (.head _) (fun h e => hnL.ns e) FG.above ?_ ⟨⟨_, by rw [Fq]⟩, tb1, Iwi.tab, rfl⟩
        intro p hp
        have hp9 : p ∈ (oa, listOf ovs.toArray k) :: (WL w.params b c1 ++ ((wl, listOf wv.toArray wc) :: (wd, wo) :: (tabS tb1 ++ R))) := by
          rcases List.mem_cons.mp hp with rfl | hp
          · exact .head _
          · refine .tail _ (List.mem_append_right _ ?_)
            rcases List.mem_append.mp hp with hp | hp
            · exact .tail _ (.tail _ (List.mem_append_left _ hp))
            · exact .tail _ (.tail _ (List.mem_append_right _ (Ir0 p hp)))
        exact ⟨.tail _ hp9, hL0 p hp9⟩
      · refine ex_in2 hts ?_
        clear hts
        walk_at "g2"
        intros sy ts'
        intro hts
        rw [hts] at Ico Iok Ifin
        refine ex_in3 (codes_cons Ico) ?_
        walk_at "g3"
        intros b0 l9 r9
        rintro ⟨hdr, hpv, hco9⟩
        have h0 : ons[i]? = some b0 := by
          have := congrArg (·[0]?) hdr
          simpa using this
        have hd1 : ons.drop (i + 1) = l9 := by
          have := congrArg (·.drop 1) hdr
          simpa using this
        rw [← hd1] at hpv
        have hsok := Iok.run.1
        have hsm := hsok.small
        refine ex_in (⟨_, rfl⟩ : ∃ V, V = sy.code) ?_
        walk_at "g1"
        intro V hV
        rw [← hV] at hpv hsm
        refine (con_pv w it oa io1 ovs ons k i V r9 b0 _ hio hoct Iit h0 hpv hsm hoff9).use (by k_extra "my:us1") (by k_extra "my:us1") (by k_asm) F' (by k_asm) Np (by k_asm) rfl ?_
        clear F' Np
        walk_at "g4"
        intros v n h9 tk9
        rintro ⟨hv, hx⟩
        refine ex_in hv ?_
        clear hv
        walk_at "g1"
        intro t9 hv
        subst hv
        refine ex_in2 hx ?_
        clear hx
        walk_at "g2"
        intros io2 j
        rintro ⟨hio2, hrj, hn⟩
        subst hn
        intro F' N'
        k_sweep
        simp only [WL, wents, ent, List.cons_append, List.nil_append] at N'
        have Iok2 := Iok.step htg
        clear hdr hpv h0 hd1 hoff9 Iit Ico
        rw [hrj] at hco9
        have hwvl : wv.length ≤ 800 := by
          have h1 := strsAre_length Ist
          have h2 := Iok.len
          have h3 := Iok.dep
          have h4 := Iok.ig
          omega
        have hdep9 : T.wt ≠ [] → T.A.ig = 0 → 1 ≤ T.A.dep := by
          intro h1 h2
          have h3 := List.length_pos_iff.mpr h1
          have h4 := Iok.len
          omega
        have hout9 : ∀ o1 o2 : Obj, WOut b (tabS tb1 ++ ((it, o1) :: (oa, listOf ovs.toArray k) :: (wl, o2) :: (wd, wo) :: R)) := by
          intro z1 z2 p hp
          rcases List.mem_append.mp hp with hp | hp
          · exact Iwi.out p (List.mem_append_left _ hp)
          · rcases List.mem_cons.mp hp with rfl | hp
            · right; left; show @LT.lt Nat _ _ _; omega
            · rcases List.mem_cons.mp hp with rfl | hp
              · left; show @LT.lt Nat _ _ _; omega
              · rcases List.mem_cons.mp hp with rfl | hp
                · right; left; show @LT.lt Nat _ _ _; omega
                · rcases List.mem_cons.mp hp with rfl | hp
                  · left; show @LT.lt Nat _ _ _; omega
                  · exact Iwi.out p (List.mem_append_right _ hp)
        have hoff9 : ∀ (o1 o2 : Obj), ∀ p ∈ (it, o1) :: (oa, listOf ovs.toArray k) :: (wl, o2) :: (wd, wo) :: R, p.1 ≠ 168 := by
          intro z1 z2 p hp
          rcases List.mem_cons.mp hp with rfl | hp
          · show @Ne Nat _ _; omega
          · rcases List.mem_cons.mp hp with rfl | hp
            · exact ho168
            · rcases List.mem_cons.mp hp with rfl | hp
              · show @Ne Nat _ _; omega
              · rcases List.mem_cons.mp hp with rfl | hp
                · exact hwd8
                · exact Iwi.off p hp
        have hsub9 : ∀ (o1 o2 : Obj), ∀ p ∈ R, p ∈ (it, o1) :: (oa, listOf ovs.toArray k) :: (wl, o2) :: (wd, wo) :: R := fun _ _ p hp => .tail _ (.tail _ (.tail _ (.tail _ hp)))
        rename_i tky
        clear hio hoct FG hab hnn X₀ T₀ hrj
        as_aux_lemma =>
        revert htl htt htg ho168 B' X' T' hD3 hsys hW hob h168b hwdb hoab hwlb hwit hwd8 Iwi Ist Irl Ir0 hrt hrr o1 o2 o3 o4 o5 o6 o7 o8 o9 o10 Ifin Iok hts hsok hsm hV hco9 hio2 F' N' Iok2 hwvl hdep9 hout9 hoff9 hsub9
        revert w ex tg oa ovs ons k tags tt R0 ss p loose mean mg mb gd cn cs ad ccd cl h₀ g L' L₀ m s tk RR wd wo kvs wl it hz tz2 b T ts c1 tb1 R wv wc u2 h2 tky sy ts' V h9 tk9 t9 io2 j
        ((refine gen_all10 (ne := ?gN_233) (P := ?gP_233) ((?gf_233 : ∀ a0 a1 a2 a3 a4 a5 a6 a7 a8 a9, ?gP_233 a0 a1 a2 a3 a4 a5 a6 a7 a8 a9) (gen10 ?gN_233 ?gP_233).1 (gen10 ?gN_233 ?gP_233).2.1 (gen10 ?gN_233 ?gP_233).2.2.1 (gen10 ?gN_233 ?gP_233).2.2.2.1 (gen10 ?gN_233 ?gP_233).2.2.2.2.1 (gen10 ?gN_233 ?gP_233).2.2.2.2.2.1 (gen10 ?gN_233 ?gP_233).2.2.2.2.2.2.1 (gen10 ?gN_233 ?gP_233).2.2.2.2.2.2.2.1 (gen10 ?gN_233 ?gP_233).2.2.2.2.2.2.2.2.1 (gen10 ?gN_233 ?gP_233).2.2.2.2.2.2.2.2.2); (case gN_233 => k_extra "my:ne")))
        intros w ex tg oa ovs ons k tags tt R0
        ((refine gen_all10 (ne := ?gN_234) (P := ?gP_234) ((?gf_234 : ∀ a0 a1 a2 a3 a4 a5 a6 a7 a8 a9, ?gP_234 a0 a1 a2 a3 a4 a5 a6 a7 a8 a9) (gen10 ?gN_234 ?gP_234).1 (gen10 ?gN_234 ?gP_234).2.1 (gen10 ?gN_234 ?gP_234).2.2.1 (gen10 ?gN_234 ?gP_234).2.2.2.1 (gen10 ?gN_234 ?gP_234).2.2.2.2.1 (gen10 ?gN_234 ?gP_234).2.2.2.2.2.1 (gen10 ?gN_234 ?gP_234).2.2.2.2.2.2.1 (gen10 ?gN_234 ?gP_234).2.2.2.2.2.2.2.1 (gen10 ?gN_234 ?gP_234).2.2.2.2.2.2.2.2.1 (gen10 ?gN_234 ?gP_234).2.2.2.2.2.2.2.2.2); (case gN_234 => k_extra "my:ne")))
        intros ss p loose mean mg mb gd cn cs ad
        ((refine gen_all10 (ne := ?gN_235) (P := ?gP_235) ((?gf_235 : ∀ a0 a1 a2 a3 a4 a5 a6 a7 a8 a9, ?gP_235 a0 a1 a2 a3 a4 a5 a6 a7 a8 a9) (gen10 ?gN_235 ?gP_235).1 (gen10 ?gN_235 ?gP_235).2.1 (gen10 ?gN_235 ?gP_235).2.2.1 (gen10 ?gN_235 ?gP_235).2.2.2.1 (gen10 ?gN_235 ?gP_235).2.2.2.2.1 (gen10 ?gN_235 ?gP_235).2.2.2.2.2.1 (gen10 ?gN_235 ?gP_235).2.2.2.2.2.2.1 (gen10 ?gN_235 ?gP_235).2.2.2.2.2.2.2.1 (gen10 ?gN_235 ?gP_235).2.2.2.2.2.2.2.2.1 (gen10 ?gN_235 ?gP_235).2.2.2.2.2.2.2.2.2); (case gN_235 => k_extra "my:ne")))
        intros ccd cl h₀ g L' L₀ m s tk RR
        ((refine gen_all10 (ne := ?gN_236) (P := ?gP_236) ((?gf_236 : ∀ a0 a1 a2 a3 a4 a5 a6 a7 a8 a9, ?gP_236 a0 a1 a2 a3 a4 a5 a6 a7 a8 a9) (gen10 ?gN_236 ?gP_236).1 (gen10 ?gN_236 ?gP_236).2.1 (gen10 ?gN_236 ?gP_236).2.2.1 (gen10 ?gN_236 ?gP_236).2.2.2.1 (gen10 ?gN_236 ?gP_236).2.2.2.2.1 (gen10 ?gN_236 ?gP_236).2.2.2.2.2.1 (gen10 ?gN_236 ?gP_236).2.2.2.2.2.2.1 (gen10 ?gN_236 ?gP_236).2.2.2.2.2.2.2.1 (gen10 ?gN_236 ?gP_236).2.2.2.2.2.2.2.2.1 (gen10 ?gN_236 ?gP_236).2.2.2.2.2.2.2.2.2); (case gN_236 => k_extra "my:ne")))
        intros wd wo kvs wl it hz tz2 b T ts
        ((refine gen_all10 (ne := ?gN_237) (P := ?gP_237) ((?gf_237 : ∀ a0 a1 a2 a3 a4 a5 a6 a7 a8 a9, ?gP_237 a0 a1 a2 a3 a4 a5 a6 a7 a8 a9) (gen10 ?gN_237 ?gP_237).1 (gen10 ?gN_237 ?gP_237).2.1 (gen10 ?gN_237 ?gP_237).2.2.1 (gen10 ?gN_237 ?gP_237).2.2.2.1 (gen10 ?gN_237 ?gP_237).2.2.2.2.1 (gen10 ?gN_237 ?gP_237).2.2.2.2.2.1 (gen10 ?gN_237 ?gP_237).2.2.2.2.2.2.1 (gen10 ?gN_237 ?gP_237).2.2.2.2.2.2.2.1 (gen10 ?gN_237 ?gP_237).2.2.2.2.2.2.2.2.1 (gen10 ?gN_237 ?gP_237).2.2.2.2.2.2.2.2.2); (case gN_237 => k_extra "my:ne")))
        intros c1 tb1 R wv wc u2 h2 tky sy ts'
        ((refine gen_all6 (ne := ?gN_238) (P := ?gP_238) ((?gf_238 : ∀ a0 a1 a2 a3 a4 a5, ?gP_238 a0 a1 a2 a3 a4 a5) (gen6 ?gN_238 ?gP_238).1 (gen6 ?gN_238 ?gP_238).2.1 (gen6 ?gN_238 ?gP_238).2.2.1 (gen6 ?gN_238 ?gP_238).2.2.2.1 (gen6 ?gN_238 ?gP_238).2.2.2.2.1 (gen6 ?gN_238 ?gP_238).2.2.2.2.2); (case gN_238 => k_extra "my:ne")))
        intros V h9 tk9 t9 io2 j
        intro htl htt htg ho168 B' X' T' hD3 hsys hW hob h168b hwdb hoab hwlb hwit hwd8 Iwi Ist Irl Ir0 hrt hrr o1 o2 o3 o4 o5 o6 o7 o8 o9 o10 Ifin Iok hts hsok hsm hV hco9 hio2 F' N' Iok2 hwvl hdep9 hout9 hoff9 hsub9
        refine Or.elim (sy_three sy) (fun hs => ?_) (fun hs => Or.elim hs (fun hs => ?_) (fun hs => ?_))
        · rw [hs] at hsok Iok2 Ifin
          have hV0 : V = 0 := by rw [hV, hs]; rfl
          have hne : T.wt ≠ [] := hsok
          refine ex_in2 (strsAre_last Ist hne) ?_
          walk_at "g2"
          intros p9 t8
          rintro ⟨hwv9, hp9⟩
          rw [hwv9] at N'
          have hgt : GoodTag (T.wt.getLastD (Str.ofString "")) := Iok.tag _ (by rw [List.getLastD_eq_getLast?, List.getLast?_eq_some_getLast hne]; exact List.getLast_mem hne)
          have mk : StopIf2 := trivial
          k_extra "my:go"
          refine stop_out ?_
          rename StopIf2 => mk
          clear mk
          rename (Fr _ _ _ _) => F'
          rename (News _ _ _ _) => N'
          rename_i z1 F0 N0 t1 g1 L1 z2 FG1 F1 N1 B1 X1 T1 q1 k1 E1 hq1 he1 t2 Tc1 kX1
          clear F0 N0 FG1 F1 N1 B1 X1 T1 E1 hq1 he1 Tc1 kX1
          (try dsimp only at F')
          (try dsimp only at N')
          (try dsimp only)
          k_dflt refine newList_K (s := ⟨z2, _, _, _, _⟩) F' N' ?_
          walk_at "g2"
          intros e9 h9
          clear F' N'
          intro F' N' le9
          k_sweep
          k_extra "my:go"
          refine stop_out ?_
          rename (Fr _ _ _ _) => F'
          rename (News _ _ _ _) => N'
          refine ne_nil_strs (ns := T.wt) ⟨_, (N' (wl, listOf (p9 ++ [Value.str (T.wt.getLastD (Str.ofString "")) t8]).toArray wc) (by k_extra "my:mem")).1, rfl, _, rfl⟩ ⟨_, (N' (e9, listOf #[] 0) (by k_extra "my:mem")).1, rfl, _, rfl⟩ (by rw [← hwv9]; exact Ist) (fun y hy => (Iok.tag y hy).2.2) (by ke_room) ?_
          rw [show (!decide (T.wt = [])) = true by simp [hne]]
          k_extra "my:go"
          refine stop_out ?_
          rename (Fr _ _ _ _) => F'
          rename (News _ _ _ _) => N'
          dsimp only
          refine kl_pop (its := (p9 ++ [Value.str (T.wt.getLastD (Str.ofString "")) t8]).toArray) (n := wc) (p := p9) (y := Value.str (T.wt.getLastD (Str.ofString "")) t8) F' N' (kpa_last _ _) (by k_upd) (by rw [sizeLine_eq]; show (p9 ++ [Value.str (T.wt.getLastD (Str.ofString "")) t8]).length ≤ _; rw [← hwv9]; omega) ?_
          clear F' N'
          walk_at "g1"
          intro h' F' N'
          k_sweep
          k_extra "my:go"
          refine stop_out ?_
          rename (Fr _ _ _ _) => F'
          rename (News _ _ _ _) => N'
          refine (con_end w b ex T.A c1 tb1 R ((it, io2) :: (oa, listOf ovs.toArray k) :: (wl, listOf p9.toArray (wc + 1)) :: (wd, wo) :: R) Iwi (hsub9 _ _) (hout9 _ _) (hoff9 _ _) Iok.ok hob _ t8 hgt.1 hgt.2.1 h168b (hdep9 hne)).use (by k_extra "my:us1") (by k_extra "my:us1") (by k_asm) F' (by k_asm) (News.sub N' (by simp only [WL, wents, ent, List.cons_append, List.nil_append]; (((try dsimp only); k_extra "my:inl")))) (by k_asm) rfl ?_
          clear F' N'
          walk_at "g4"
          intros v n h8 tk8
          rintro ⟨hv, hx⟩
          subst hv
          refine ex_in hx ?_
          clear hx
          walk_at "g1"
          rintro c2 ⟨I2, hn⟩
          subst hn
          intro F' N'
          k_sweep
          k_extra "my:go"
          refine ⟨⟨tStep ex tg T .en, ts', c2, tb1, R, io2, j, p9, wc + 1⟩, _, _, _, _, rfl, by k_asm, by k_asm, by (((try dsimp only); k_extra "my:inl")), by (((try dsimp only); k_extra "my:inl")), by k_extra "my:names", ⟨hio2, hco9, I2, hp9, Iok2, Ifin, Irl, Ir0⟩, (by rw [hts]; exact Nat.lt_succ_self _)⟩
        · refine ex_in hs ?_
          clear hs
          walk_at "g1"
          intro kk hs
          rw [hs] at hsok Iok2 Ifin
          have hV0 : V = (kk : Int) + 256 := by rw [hV, hs]; rfl
          have hk3 : kk < 3 := hsok
          k_extra "my:go"
          refine stop_out ?_
          rename (Fr _ _ _ _) => F'
          rename (News _ _ _ _) => N'
          simp only [List.push_toArray, show V - 256 = (kk : Int) by omega, htt kk hk3] at N'
          refine item_list_neg (l := wl) (items := (wv ++ [Value.str (tg kk) _]).toArray) (x := .str (tg kk) _) ⟨_, (N' _ (show (wl, listOf (wv ++ [Value.str (tg kk) _]).toArray (wc + 1)) ∈ _ by k_extra "my:mem")).1, rfl, _, rfl⟩ (by decide) (by simp; omega) (by decide) (by simp only [List.size_toArray, List.length_append, List.length_singleton, List.getElem?_toArray]; rw [show (-1 + ((wv.length + 1 : Nat) : Int)).toNat = wv.length by omega]; exact List.getElem?_concat_length) ?_
          k_extra "my:go"
          refine stop_out ?_
          rename (Fr _ _ _ _) => F'
          rename (News _ _ _ _) => N'
          rename (Obj.IsDictOf (PySem.strKind _ _) _ []) => hs9
          rename ((_ == sysModules) = false) => lo9
          rename_i ae _ oe lae _ _ _
          refine tok_gen (l := wl) (vs := wv) (y := tg kk) (n := wc + 1) N' ?_ ?_
          · k_extra "my:mem"
          walk_at "g1"
          intro t6 hm6
          have hgt : GoodTag (tg kk) := htg kk hk3
          have haeb : @LT.lt Nat _ b.ps ae := lt_in lae (show (b.ps, listOf _ _) ∈ _ by k_extra "my:mem")
          refine (con_start w b ex T.A c1 tb1 R ((ae, oe) :: (it, io2) :: (oa, listOf ovs.toArray k) :: (wl, listOf (wv ++ [Value.str (tg kk) t6]).toArray (wc + 1)) :: (wd, wo) :: R) Iwi (fun p hp => .tail _ (hsub9 _ _ p hp)) ?ho ?hf Iok.ok hob (tg kk) t6 ae oe hs9 lo9 (.head _) hgt.1 hgt.2.1 h168b).use (by k_extra "my:us1") (by k_extra "my:us1") (by k_asm) F' (by k_asm) (News.sub N' ?hn) (by k_asm) rfl ?_
          case ho =>
            intro p hp
            rcases List.mem_append.mp hp with hp | hp
            · exact hout9 io2 wo p (List.mem_append_left _ hp)
            · rcases List.mem_cons.mp hp with rfl | hp
              · exact .inr (.inl haeb)
              · exact hout9 _ _ p (List.mem_append_right _ hp)
          case hf =>
            intro p hp
            rcases List.mem_cons.mp hp with rfl | hp
            · show @Ne Nat _ _; omega
            · exact hoff9 _ _ p hp
          case hn =>
            simp only [WL, wents, ent, List.cons_append, List.nil_append]
            (((try dsimp only); k_extra "my:inl"))
          clear F' N'
          walk_at "g4"
          intros v n h8 tk8
          rintro ⟨hv, hx⟩
          subst hv
          refine ex_in3 hx ?_
          clear hx
          walk_at "g3"
          intros c2 tb2 nw
          rintro ⟨I2, hnw, htb2, hn⟩
          subst hn
          intro F' N'
          k_sweep
          k_extra "my:go"
          refine ⟨⟨tStep ex tg T (.st kk), ts', c2, tb2, nw ++ R, io2, j, wv ++ [Value.str (tg kk) t6], wc + 1⟩, _, _, _, _, rfl, by k_asm, by k_asm, ?hm, by (((try dsimp only); k_extra "my:inl")), by k_extra "my:names", ⟨hio2, hco9, I2, strsAre_snoc Ist, Iok2, Ifin, ?hr, fun p hp => List.mem_append_right _ (Ir0 p hp)⟩, (by rw [hts]; exact Nat.lt_succ_self _)⟩
          case hm =>
            dsimp only
            intro p hp
            rcases List.mem_append.mp hp with hp | hp
            · exact List.mem_append_left _ hp
            · refine List.mem_append_right _ ?_
              rcases List.mem_cons.mp hp with rfl | hp
              · exact List.mem_append_right _ (List.mem_append_right _ (.tail _ (.head _)))
              · rcases List.mem_cons.mp hp with rfl | hp
                · exact List.mem_append_right _ (List.mem_append_right _ (.tail _ (.tail _ (.head _))))
                · rcases List.mem_cons.mp hp with rfl | hp
                  · exact List.mem_append_right _ (List.mem_append_right _ (.tail _ (.tail _ (.tail _ (.head _)))))
                  · rcases List.mem_cons.mp hp with rfl | hp
                    · exact List.mem_append_right _ (List.mem_append_right _ (.tail _ (.tail _ (.tail _ (.tail _ (.head _))))))
                    · rcases List.mem_append.mp hp with hp | hp
                      · exact List.mem_append_left _ hp
                      · refine List.mem_append_right _ ?_
                        rcases List.mem_append.mp hp with hp | hp
                        · exact List.mem_append_left _ hp
                        · exact List.mem_append_right _ (.tail _ (.tail _ (.tail _ (.tail _ (.tail _ hp)))))
          case hr =>
            dsimp only
            intro p hp
            rcases List.mem_append.mp hp with hp | hp
            · rcases htb2 with rfl | ⟨c', oc, rfl, hc9⟩
              · exact hrt p hp
              · simp only [tabS, List.mem_cons, List.not_mem_nil, or_false] at hp
                rcases hp with rfl | rfl
                · left; show @LT.lt Nat _ _ _; omega
                · right; exact hc9 _ (.tail _ (.head _))
            · rcases List.mem_append.mp hp with hp | hp
              · right; exact hnw p hp _ (.tail _ (.head _))
              · exact hrr p hp
        · refine ex_in hs ?_
          clear hs
          walk_at "g1"
          intro ii hs
          rw [hs] at hsok Iok2 Ifin
          have hk3 : ii < 48 := hsok.1
          refine ex_in (⟨_, List.getElem?_eq_getElem (by rw [ops_len]; exact hk3)⟩ : ∃ y, ops[ii]? = some y) ?_
          walk_at "g1"
          intro y9 hy9
          have hgd : ops.getD ii (Str.ofString "") = y9 := by rw [List.getD_eq_getElem?_getD, hy9]; rfl
          refine ex_in (WordsTo.word (show WordsTo 48 kvs from hW) hy9) ?_
          walk_at "g1"
          intro t7 hval
          have hV0 : V = (ii : Int) + 7 := by rw [hV, hs]; rfl
          rw [← hV0] at hval
          k_extra "my:go"
          refine stop_out ?_
          rename (Fr _ _ _ _) => F'
          rename (News _ _ _ _) => N'
          refine kda_in N' (show (wd, wo) ∈ _ by k_extra "my:mem") hD3 hsys (intKind_is _ _ _ _) true (by rw [hval]; rfl) ?_
          k_extra "my:go"
          refine stop_out ?_
          rename (Fr _ _ _ _) => F'
          rename (News _ _ _ _) => N'
          refine kda_item N' (show (wd, wo) ∈ _ by k_extra "my:mem") hD3 (intKind_is _ _ _ _) hval ?_
          k_extra "my:go"
          refine stop_out ?_
          rename (Fr _ _ _ _) => F'
          rename (News _ _ _ _) => N'
          refine (con_data w b c1 (tabS tb1 ++ ((it, io2) :: (oa, listOf ovs.toArray k) :: (wl, listOf wv.toArray wc) :: (wd, wo) :: R)) y9 t7 hob (hout9 _ _) (by have h1 := strsAre_length Iwi.da; have h2 := Iok.da; omega)).use (by k_extra "my:us1") (by k_extra "my:us1") (by k_asm) F' (by k_asm) (News.sub N' (by simp only [WL, wents, ent, List.cons_append, List.nil_append]; (((try dsimp only); k_extra "my:inl")))) (by k_asm) rfl ?_
          clear F' N'
          walk_at "g4"
          intros v n h8 tk8
          rintro ⟨hv, hn⟩
          subst hv hn
          intro F' N'
          k_sweep
          k_extra "my:go"
          refine ⟨⟨tStep ex tg T (.op ii), ts', dataS c1 (.str y9 t7), tb1, R, io2, j, wv, wc⟩, _, _, _, _, rfl, by k_asm, by k_asm, by (((try dsimp only); k_extra "my:inl")), by (((try dsimp only); k_extra "my:inl")), by k_extra "my:names", ⟨hio2, hco9, ?_, Ist, Iok2, Ifin, Irl, Ir0⟩, (by rw [hts]; exact Nat.lt_succ_self _)⟩
          show WInv w b ex (aData T.A (ops.getD ii (Str.ofString ""))) _ tb1 R
          rw [hgd]
          exact Iwi.data y9 t7
    · intro c u h tk h9
      exact h9.elim
end
theorem lay_33 : True := by
  k_with "off41" => skip
  exact True.intro
section
open PyProof.Rows.LCg (FinE CompEnd lst)
theorem lay_34 : True := by
  k_with "my:eval ListComp" => ((fail_if_success k_extra "off42"); with_reducible refine stop_in ?_)
  k_with "my:compareOp In" => ((fail_if_success k_extra "off42"); with_reducible refine stop_in ?_)
  k_with "my:subscriptTail" => ((fail_if_success k_extra "off42"); ((with_reducible show wpAny _ _ (subscriptTail _ _ (Value.ref _) _) _ _ _); (with_reducible refine stop_in ?_)))
  k_with "my:CompEnd str" => ((fail_if_success k_extra "off42"); with_reducible refine stop_in ?_)
  k_with "my:eval Name" => ((fail_if_success k_extra "off42"); (k_here; (with_reducible show wpAny _ _ (eval (Expr.Name _ _) (compEnvC _ _ _ _)) _ _ _); k_dflt (refine ld_cell (by k_asm) (by rfl) (by k_extra "my:mem") (by k_asm) ?_)))
  exact True.intro
def spK (t1 t2 t3 : Tok) : List (Str × Value) := [(Str.ofString "&", .str (Str.ofString "&amp;") t1), (Str.ofString "<", .str (Str.ofString "&lt;") t2), (Str.ofString ">", .str (Str.ofString "&gt;") t3)]
def sgn (c : Nat) : Str := ⟨#[c]⟩
def spO (c : Nat) : Str := ⟨(esc0 c).toArray⟩
theorem amp_cps : (Str.ofString "&") = sgn 38 ∧ (Str.ofString "<") = sgn 60 ∧ (Str.ofString ">") = sgn 62 ∧ Str.ofString "&amp;" = spO 38 ∧ Str.ofString "&lt;" = spO 60 ∧ Str.ofString "&gt;" = spO 62 := by decide +kernel
theorem sgn_inj {a b : Nat} (h : sgn a = sgn b) : a = b := by
  have := congrArg (fun s : Str => s.cps.toList) h
  simpa [sgn] using this
theorem spK_at (t1 t2 t3 : Tok) (c : Nat) (h13 : c ≠ 13) : (∃ t, valueAt (spK t1 t2 t3) (sgn c) = some (.str (spO c) t)) ∨ (valueAt (spK t1 t2 t3) (sgn c) = none ∧ sgn c = spO c) := by
  obtain ⟨e1, e2, e3, e4, e5, e6⟩ := amp_cps
  unfold spK
  rw [e1, e2, e3, e4, e5, e6]
  unfold valueAt
  by_cases h1 : c = 38
  · subst h1; left; exact ⟨t1, by simp⟩
  · have n1 : ¬ sgn 38 = sgn c := fun e => h1 (sgn_inj e).symm
    by_cases h2 : c = 60
    · subst h2; left; exact ⟨t2, by simp [n1]⟩
    · have n2 : ¬ sgn 60 = sgn c := fun e => h2 (sgn_inj e).symm
      by_cases h3 : c = 62
      · subst h3; left; exact ⟨t3, by simp [n1, n2]⟩
      · have n3 : ¬ sgn 62 = sgn c := fun e => h3 (sgn_inj e).symm
        right
        exact ⟨by simp [n1, n2, n3], by simp [sgn, spO, esc0, h1, h2, h3, h13]⟩
theorem str_ext2 {a b : Str} (h : a.cps.toList = b.cps.toList) : a = b := by
  cases a; cases b
  congr 1
  exact Array.toList_inj.mp h
theorem lay_35 : True := by
  k_with "my:Exists" => ((fail_if_success k_extra "off42"); (k_dflt refine kdp_made_str (by k_asm) (by k_asm) (Top.nolimit (by k_asm)) (by rfl) (of_decide_eq_true (by rfl)) (by rfl) ?_; walk_at "g2"; intros _ _; intro _ _ _ _ _ _ _))
  exact True.intro
theorem con_spelled (w : World) (y : Str) (t : Tok) (hy : y.length ≤ 3) (hasc : y.cps.all (· < 128) = true) (h13 : ∀ c ∈ y.cps.toList, c ≠ 13) (news : List (Addr × Obj)) : Con PySem.Challenge.rw_tv0054_01.row.prog w (Mine.hd0.heap_1_41 w.params) 225 640 5400 [.str y t] news (fun v n => (∃ t', v = .str (escT y) t') ∧ n = news) := by
  revert w y t hy hasc h13 news
  walk_at "g3"
  intros w y t
  intro hy hasc h13
  walk_at "g1"
  intro news
  w_top off
  k_fill
  refine' Con.ofC (binds := [("word", .str y t)]) ?k6 ?k7 ?k8 ?k9 ?kB ?kD ?c2 ?c3 ?c4 ?_
  (( (case k6 => k_is); (case k7 => k_is); (case k8 => decide); (case k9 => (intro s9 X9; first | exact BindsTo.of_eq rfl | exact binds_K X9 rfl (by k_is) rfl rfl rfl | (refine kp_binds X9 ?_; exact fun _ => rfl))); (case kB => exact rfl); (case kD => decide +kernel); (case c2 => exact rfl); (case c3 => exact rfl); (case c4 => exact rfl); k_with "WPost" => dsimp only [WPost]; k_with "FPost" => dsimp only [FPost]))
  ((refine gen_all7 (ne := ?gN_248) (P := ?gP_248) ((?gf_248 : ∀ a0 a1 a2 a3 a4 a5 a6, ?gP_248 a0 a1 a2 a3 a4 a5 a6) (gen7 ?gN_248 ?gP_248).1 (gen7 ?gN_248 ?gP_248).2.1 (gen7 ?gN_248 ?gP_248).2.2.1 (gen7 ?gN_248 ?gP_248).2.2.2.1 (gen7 ?gN_248 ?gP_248).2.2.2.2.1 (gen7 ?gN_248 ?gP_248).2.2.2.2.2.1 (gen7 ?gN_248 ?gP_248).2.2.2.2.2.2); (case gN_248 => k_extra "my:ne")))
  intros p loose mean mg mb gd cn
  ((refine gen_all7 (ne := ?gN_249) (P := ?gP_249) ((?gf_249 : ∀ a0 a1 a2 a3 a4 a5 a6, ?gP_249 a0 a1 a2 a3 a4 a5 a6) (gen7 ?gN_249 ?gP_249).1 (gen7 ?gN_249 ?gP_249).2.1 (gen7 ?gN_249 ?gP_249).2.2.1 (gen7 ?gN_249 ?gP_249).2.2.2.1 (gen7 ?gN_249 ?gP_249).2.2.2.2.1 (gen7 ?gN_249 ?gP_249).2.2.2.2.2.1 (gen7 ?gN_249 ?gP_249).2.2.2.2.2.2); (case gN_249 => k_extra "my:ne")))
  intros cs ad ccd cl outer base g
  ((refine gen_all7 (ne := ?gN_250) (P := ?gP_250) ((?gf_250 : ∀ a0 a1 a2 a3 a4 a5 a6, ?gP_250 a0 a1 a2 a3 a4 a5 a6) (gen7 ?gN_250 ?gP_250).1 (gen7 ?gN_250 ?gP_250).2.1 (gen7 ?gN_250 ?gP_250).2.2.1 (gen7 ?gN_250 ?gP_250).2.2.2.1 (gen7 ?gN_250 ?gP_250).2.2.2.2.1 (gen7 ?gN_250 ?gP_250).2.2.2.2.2.1 (gen7 ?gN_250 ?gP_250).2.2.2.2.2.2); (case gN_250 => k_extra "my:ne")))
  intros h₁ L' L₀ s tk cells R
  intro F' N' Y' B' X' T' l1
  refine ex_in (CellsAre.one Y') ?_
  walk_at "g1"
  rintro o' ⟨hE', d1'⟩
  subst hE'
  clear Y'
  simp only [List.cons_append, List.nil_append] at N'
  have l2 : ∀ p ∈ news, @LT.lt Nat _ p.1 (L' + 1) := fun p hp => Nat.lt_succ_of_lt (l1 p hp)
  k_extra "my:go"
  refine stop_out ?_
  rename (Fr _ _ _ _) => F'
  rename (News _ _ _ _) => N'
  rename (Obj.IsDictOf (PySem.strKind _ _) _ _) => hd9
  rename (_ = Data.cell (some (Value.ref _))) => hc9
  rename ((_ == sysModules) = false) => lo9
  dsimp only at hc9
  generalize hnd : h₁.objs.size = nd at N' hc9 lo9
  refine ex_in3 (⟨_, _, _, hd9⟩ : ∃ t1 t2 t3, Obj.IsDictOf (PySem.strKind _ w) _ (spK t1 t2 t3)) ?_
  walk_at "g3"
  intros t1 t2 t3
  intro hd2
  clear hd9
  refine ex_in (named N') ?_
  walk_at "g1"
  rintro nl ⟨hnl, Nb⟩
  k_dflt refine ListComp_S F' (by with_unfolding_all rfl) (by decide) rfl (by decide) rfl ?_
  k_extra "my:go"
  refine ⟨y, t, nl, rfl, hasc, rfl, F', Nb, by rw [sizeLine_eq]; simp only [Str.length] at hy; omega, ?_⟩
  walk_at "g1"
  intro s2 hs2
  refine ex_in hs2 ?_
  clear hs2
  walk_at "g1"
  intro g2 hs2
  subst hs2
  refine rest_ind (fun i ys nw => nw = nl ∧ StrsAre ys ((y.cps.toList.take i).map spO)) _ ?_ ?_ _ 0 [] _ (Nat.zero_add _) ?_
  · walk_at "g2"
    intros ys nw
    rintro ⟨rfl, hS⟩
    walk_at "g3"
    intros D h9 tk9
    intro F9 N9 o9
    clear F' N' Nb
    k_extra "my:go"
    rename (Fr _ _ _ _) => F'
    rename (News _ _ _ _) => N'
    have hzl : ys.length ≤ 3 := by
      have := strsAre_length hS
      simp only [List.length_map, List.length_take] at this
      simp only [Str.length] at hy
      have h2 := Array.length_toList (xs := y.cps)
      omega
    have hzs : ∀ z ∈ (y.cps.toList.take y.cps.size).map spO, z.length ≤ 5 := by
      intro z hz
      obtain ⟨c, _, rfl⟩ := List.mem_map.mp hz
      have := esc0_len c
      simpa [spO, Str.length] using this
    have hzn : ((y.cps.toList.take y.cps.size).map spO).length ≤ 3 := by have := strsAre_length hS; omega
    refine join_strs (ys := (y.cps.toList.take y.cps.size).map spO) ⟨_, (N' (D, lst ys) (by k_extra "my:mem")).1, rfl, _, rfl⟩ hS ?_ (by decide) ?_
    · have := sum_le_of _ 5 hzs
      omega
    walk_at "g2"
    intros t8 k8
    k_extra "my:go"
    refine ⟨_, _, _, _, _, _, rfl, by k_asm, by k_asm, ?mm, ⟨t8, ?ee⟩, rfl⟩
    case mm => rw [hnl]; (((try dsimp only); k_extra "my:inl"))
    case ee =>
      congr 1
      have hj := join_cps ((y.cps.toList.take y.cps.size).map spO)
      have he := escT_cps y
      have e2 : (Txt.join (Str.ofString "") ((y.cps.toList.take y.cps.size).map spO)).cps.toList = (escT y).cps.toList := by
        rw [hj, he, ← Array.length_toList, List.take_length, List.flatMap_map]
        rfl
      exact str_ext2 e2
  · ((refine gen_all7 (ne := ?gN_252) (P := ?gP_252) ((?gf_252 : ∀ a0 a1 a2 a3 a4 a5 a6, ?gP_252 a0 a1 a2 a3 a4 a5 a6) (gen7 ?gN_252 ?gP_252).1 (gen7 ?gN_252 ?gP_252).2.1 (gen7 ?gN_252 ?gP_252).2.2.1 (gen7 ?gN_252 ?gP_252).2.2.2.1 (gen7 ?gN_252 ?gP_252).2.2.2.2.1 (gen7 ?gN_252 ?gP_252).2.2.2.2.2.1 (gen7 ?gN_252 ?gP_252).2.2.2.2.2.2); (case gN_252 => k_extra "my:ne")))
    intros i ys nw v I oI C
    ((refine gen_all6 (ne := ?gN_253) (P := ?gP_253) ((?gf_253 : ∀ a0 a1 a2 a3 a4 a5, ?gP_253 a0 a1 a2 a3 a4 a5) (gen6 ?gN_253 ?gP_253).1 (gen6 ?gN_253 ?gP_253).2.1 (gen6 ?gN_253 ?gP_253).2.2.1 (gen6 ?gN_253 ?gP_253).2.2.2.1 (gen6 ?gN_253 ?gP_253).2.2.2.2.1 (gen6 ?gN_253 ?gP_253).2.2.2.2.2); (case gN_253 => k_extra "my:ne")))
    intros oC D m2 h9 tk9 E9
    intro hi hI hv hC hx F9 N9 off hne
    refine ex_in2 hv ?_
    clear hv
    walk_at "g2"
    intros c9 u9
    rintro ⟨hcc, hv⟩
    subst hv
    obtain ⟨rfl, hS⟩ := hI
    have hmem : c9 ∈ y.cps.toList := by
      rw [← Array.getElem?_toList] at hcc
      exact List.mem_of_getElem? hcc
    have htk : (y.cps.toList.take (i + 1)).map spO = (y.cps.toList.take i).map spO ++ [spO c9] := by
      rw [← Array.getElem?_toList] at hcc
      rw [List.take_add_one, hcc]; simp
    clear F' N' Nb
    rw [hnl] at N9
    k_extra "my:go"
    refine stop_out ?_
    rename (Fr _ _ _ _) => F'
    rename (News _ _ _ _) => N'
    rcases spK_at t1 t2 t3 c9 (h13 c9 hmem) with ht9 | ⟨hv9, hsp⟩
    · refine ex_in ht9 ?_
      walk_at "g1"
      intro t9 hv9
      refine kda_in N' (by k_extra "my:mem") hd2 lo9 (strKind_is _ _ _ _) true (by rw [show (⟨#[c9]⟩ : Str) = sgn c9 from rfl, hv9]; rfl) ?_
      k_extra "my:go"
      refine stop_out ?_
      rename (Fr _ _ _ _) => F'
      rename (News _ _ _ _) => N'
      refine kda_item N' (by k_extra "my:mem") hd2 (strKind_is _ _ _ _) hv9 ?_
      k_extra "my:go"
      refine stop_out ?_
      refine ⟨_, _, nw, rfl, by k_asm, by rw [hnl]; k_asm, off, trivial, rfl, ?_⟩
      rw [htk]
      exact strsAre_snoc hS
    · refine kda_in N' (by k_extra "my:mem") hd2 lo9 (strKind_is _ _ _ _) false (by rw [show (⟨#[c9]⟩ : Str) = sgn c9 from rfl, hv9]; rfl) ?_
      k_extra "my:go"
      refine stop_out ?_
      refine ⟨_, _, nw, rfl, by k_asm, by rw [hnl]; k_asm, off, trivial, rfl, ?_⟩
      rw [htk, ← hsp]
      exact strsAre_snoc hS
  · exact ⟨rfl, .nil⟩
end
theorem lay_36 : True := by
  k_with "off42" => skip
  exact True.intro
section
/-- the tree as the law builds it: octets, pieces, the branches that stand -/
structure BS where
  os : List Int
  ps : List (Str × Str)
  wt : List Str
def pairOf (wt : List Str) (tx u : Str) : Str × Str := (tx, if Str.ofString "x" ∈ wt then Str.ofString "" else u)
def xyOf (x : Int) : Str := Txt.item (Str.ofString "xy") (x % 4)
def opOf (x : Int) : Str := ops.getD (x / 4 % 48).toNat (Str.ofString "")
def begT (y : Str) : Str := Str.ofString "<" ++ y ++ Str.ofString ">"
def endT (y : Str) : Str := Str.ofString "</" ++ y ++ Str.ofString ">"
def bEnd (B : BS) : BS := ⟨B.os ++ [0], B.ps ++ [pairOf B.wt (endT (B.wt.getLastD (Str.ofString ""))) (Txt.upper (endT (B.wt.getLastD (Str.ofString ""))))], B.wt.dropLast⟩
def bStep (B : BS) (x : Int) : BS :=
  if x % 4 < 2 then ⟨B.os ++ [68, 1 + x % 4], B.ps ++ [pairOf (B.wt ++ [xyOf x]) (begT (xyOf x)) (Txt.upper (begT (xyOf x)))], B.wt ++ [xyOf x]⟩
  else if x % 4 = 2 ∧ 1 < B.wt.length then bEnd B
  else ⟨B.os ++ [7 + x / 4 % 48], B.ps ++ [pairOf B.wt (escT (opOf x)) (escT (opOf x))], B.wt⟩
def bClose : Nat → BS → BS
  | 0, B => B
  | k + 1, B => if 1 < B.wt.length then bClose k (bEnd B) else B
def BS0 : BS := ⟨[68, 0], [(Str.ofString "<s>", Str.ofString "<s>")], [Str.ofString "s"]⟩
def bItems (ns : List Int) : List Int := [1, 2, 0, 51, 2] ++ ns.take 4
def bTree (ns : List Int) : BS := bClose 10 ((bItems ns).foldl bStep BS0)
/-- a list of pairs of texts, its tuples in the ledger -/
def PairsAre (pt : List (Addr × Obj)) (vs : List Value) (ps : List (Str × Str)) : Prop :=
  vs.length = ps.length ∧ ∀ (i : Nat) (a b : Str), ps[i]? = some (a, b) → ∃ t u v, vs[i]? = some (Value.ref t) ∧ (t, tupOf a b u v) ∈ pt
theorem PairsAre.snoc {pt : List (Addr × Obj)} {vs : List Value} {ps : List (Str × Str)} {a b : Str} {t : Addr} {u v : Tok} (h : PairsAre pt vs ps) : PairsAre ((t, tupOf a b u v) :: pt) (vs ++ [Value.ref t]) (ps ++ [(a, b)]) := by
  refine ⟨by simp [h.1], fun i a' b' e => ?_⟩
  by_cases hi : i < ps.length
  · rw [List.getElem?_append_left hi] at e
    obtain ⟨t', u', v', h1, h2⟩ := h.2 i a' b' e
    exact ⟨t', u', v', by rw [List.getElem?_append_left (by rw [h.1]; exact hi)]; exact h1, .tail _ h2⟩
  · have hi2 : i = ps.length := by
      have := (List.getElem?_eq_some_iff.mp e).1
      simp only [List.length_append, List.length_singleton] at this
      omega
    subst hi2
    rw [List.getElem?_concat_length] at e
    cases e
    exact ⟨t, u, v, by rw [← h.1]; exact List.getElem?_concat_length, .head _⟩
theorem PairsAre.mono {pt pt' : List (Addr × Obj)} {vs : List Value} {ps : List (Str × Str)} (h : PairsAre pt vs ps) (hs : ∀ p ∈ pt, p ∈ pt') : PairsAre pt' vs ps :=
  ⟨h.1, fun i a b e => let ⟨t, u, v, h1, h2⟩ := h.2 i a b e; ⟨t, u, v, h1, hs _ h2⟩⟩
structure BC where
  B : BS
  ov : List Value
  ok : Nat
  pv : List Value
  pk : Nat
  wv : List Value
  wk : Nat
  pt : List (Addr × Obj)
/-- the walk's state holds a tree -/
structure BInv (L oa t0 pa wl cl : Addr) (B : BS) (c : BC) : Prop where
  eq : c.B = B
  os : IntsAre c.ov B.os
  ps : PairsAre c.pt c.pv B.ps
  wt : StrsAre c.wv B.wt
  ne : 1 ≤ B.wt.length
  tg : ∀ y ∈ B.wt, y = Str.ofString "s" ∨ y = Str.ofString "x" ∨ y = Str.ofString "y"
  p1 : ∀ p ∈ c.pt, @LT.lt Nat _ oa p.1
  p2 : ∀ p ∈ c.pt, @LT.lt Nat _ p.1 pa ∨ @LT.lt Nat _ wl p.1
  tu : ∀ p ∈ c.pt, p.2.cls = .type "tuple"
theorem ops_split : Txt.split (Str.ofString "( ) [ ] : , ; + - * / | & < > = . % { } == != <= >= ~ ^ << >> ** += -= *= /= %= &= |= ^= <<= >>= **= // //= @ @= -> ... := !") (Str.ofString " ") = ops := by decide +kernel
theorem bEnd_len (B : BS) : (bEnd B).os.length = B.os.length + 1 ∧ (bEnd B).ps.length = B.ps.length + 1 ∧ (bEnd B).wt.length = B.wt.length - 1 := by
  refine ⟨?_, ?_, ?_⟩ <;> simp [bEnd]
theorem bStep_len (B : BS) (x : Int) : (bStep B x).os.length ≤ B.os.length + 2 ∧ (bStep B x).ps.length = B.ps.length + 1 ∧ (bStep B x).wt.length ≤ B.wt.length + 1 := by
  unfold bStep
  split
  · simp
  · split
    · have := bEnd_len B
      omega
    · simp
theorem fold_len : ∀ (l : List Int) (B : BS), (l.foldl bStep B).os.length ≤ B.os.length + 2 * l.length ∧ (l.foldl bStep B).ps.length = B.ps.length + l.length ∧ (l.foldl bStep B).wt.length ≤ B.wt.length + l.length
  | [], B => by simp
  | x :: l, B => by
    have h1 := fold_len l (bStep B x)
    have h2 := bStep_len B x
    simp only [List.foldl_cons, List.length_cons]
    omega
theorem items_len (ns : List Int) : (bItems ns).length ≤ 9 := by
  simp [bItems]; omega
theorem fm4 (x : Int) : x.fmod 4 = x % 4 := Int.fmod_eq_emod_of_nonneg x (by decide)
theorem xy_cases {x : Int} (h : x % 4 < 2) : xyOf x = Str.ofString "x" ∨ xyOf x = Str.ofString "y" := by
  unfold xyOf
  rcases (by omega : x % 4 = 0 ∨ x % 4 = 1) with e | e <;> rw [e]
  · left; decide +kernel
  · right; decide +kernel
theorem up_fit {y : Str} (h : y = Str.ofString "s" ∨ y = Str.ofString "x" ∨ y = Str.ofString "y") : Builtin.Str.tooLong (Txt.upper (begT y)).length = false ∧ Builtin.Str.tooLong (Txt.upper (endT y)).length = false := by
  rcases h with rfl | rfl | rfl <;> decide +kernel
theorem any_x (l : List Str) : (l.any (· == Str.ofString "x")) = decide (Str.ofString "x" ∈ l) := by
  rw [Bool.eq_iff_iff, List.any_eq_true, decide_eq_true_eq]
  constructor
  · rintro ⟨y, hy, e⟩
    rw [← (beq_iff_eq.mp e)]; exact hy
  · intro h
    exact ⟨_, h, beq_self_eq_true _⟩
/-- the walk's ledger -/
def TLed (cl wl pa oa wds c2 c1 : Addr) (ws opv : List Value) (o2 o1 : Obj) (news : List (Addr × Obj)) (c : BC) : List (Addr × Obj) :=
  (cl, listOf ws.toArray 0) :: (wl, listOf c.wv.toArray c.wk) :: (pa, listOf c.pv.toArray c.pk) :: (oa, listOf c.ov.toArray c.ok) :: (wds, listOf opv.toArray 0) :: (c2, o2) :: (c1, o1) :: (c.pt ++ news)
theorem TLed_cls {cl wl pa oa wds c2 c1 : Addr} {ws opv : List Value} {o2 o1 : Obj} {news : List (Addr × Obj)} {c c' : BC} {T : Addr} {o : Obj} (hp : c'.pt = (T, o) :: c.pt) (ho : o.cls ≠ .type "list_iterator") :
    ∀ p ∈ TLed cl wl pa oa wds c2 c1 ws opv o2 o1 news c', p.1 ∈ (TLed cl wl pa oa wds c2 c1 ws opv o2 o1 news c).map (·.1) ∨ p.2.cls ≠ .type "list_iterator" := by
  unfold TLed
  rw [hp]
  simp only [List.map_cons, List.map_append]
  refine List.forall_mem_cons.mpr ⟨.inl (.head _), List.forall_mem_cons.mpr ⟨.inl (.tail _ (.head _)), List.forall_mem_cons.mpr ⟨.inl (.tail _ (.tail _ (.head _))), List.forall_mem_cons.mpr ⟨.inl (.tail _ (.tail _ (.tail _ (.head _)))), List.forall_mem_cons.mpr ⟨.inl (.tail _ (.tail _ (.tail _ (.tail _ (.head _))))), List.forall_mem_cons.mpr ⟨.inl (.tail _ (.tail _ (.tail _ (.tail _ (.tail _ (.head _)))))), List.forall_mem_cons.mpr ⟨.inl (.tail _ (.tail _ (.tail _ (.tail _ (.tail _ (.tail _ (.head _))))))), ?_⟩⟩⟩⟩⟩⟩⟩
  intro p hp
  rcases List.mem_append.mp hp with hp | hp
  · rcases List.mem_cons.mp hp with rfl | hp
    · exact .inr ho
    · exact .inl (.tail _ (.tail _ (.tail _ (.tail _ (.tail _ (.tail _ (.tail _ (List.mem_append_left _ (List.mem_map_of_mem hp)))))))))
  · exact .inl (.tail _ (.tail _ (.tail _ (.tail _ (.tail _ (.tail _ (.tail _ (List.mem_append_right _ (List.mem_map_of_mem hp)))))))))
theorem BInv.next {L oa t0 pa wl cl T : Addr} {B B' : BS} {pv : List Value} {pt : List (Addr × Obj)} {ov' wv' : List Value} {ok' pk' wk' : Nat} {a b : Str} {u v : Tok}
    (ips : PairsAre pt pv B.ps) (ip1 : ∀ p ∈ pt, @LT.lt Nat _ oa p.1) (ip2 : ∀ p ∈ pt, @LT.lt Nat _ p.1 pa ∨ @LT.lt Nat _ wl p.1) (itu : ∀ p ∈ pt, p.2.cls = .type "tuple")
    (hos : IntsAre ov' B'.os) (hps : B'.ps = B.ps ++ [(a, b)]) (hwt : StrsAre wv' B'.wt) (hne : 1 ≤ B'.wt.length) (htg : ∀ y ∈ B'.wt, y = Str.ofString "s" ∨ y = Str.ofString "x" ∨ y = Str.ofString "y") (h1 : @LT.lt Nat _ oa T) (h2 : @LT.lt Nat _ wl T) :
    BInv L oa t0 pa wl cl B' ⟨B', ov', ok', pv ++ [Value.ref T], pk', wv', wk', (T, tupOf a b u v) :: pt⟩ := by
  refine ⟨rfl, hos, by rw [hps]; exact ips.snoc, hwt, hne, htg, ?_, ?_, ?_⟩
  · intro p hp
    rcases List.mem_cons.mp hp with rfl | hp
    · exact h1
    · exact ip1 p hp
  · intro p hp
    rcases List.mem_cons.mp hp with rfl | hp
    · exact .inr h2
    · exact ip2 p hp
  · intro p hp
    rcases List.mem_cons.mp hp with rfl | hp
    · rfl
    · exact itu p hp
theorem ints_two {vs : List Value} {ns : List Int} {a b : Int} {t u : Tok} (h : IntsAre vs ns) : IntsAre (vs ++ [Value.int a t, Value.int b u]) (ns ++ [a, b]) := by
  induction h with
  | nil => exact .cons _ _ (.cons _ _ .nil)
  | cons _ _ _ ih => exact .cons _ _ ih
theorem ints_one {vs : List Value} {ns : List Int} {a : Int} {t : Tok} (h : IntsAre vs ns) : IntsAre (vs ++ [Value.int a t]) (ns ++ [a]) := by
  induction h with
  | nil => exact .cons _ _ .nil
  | cons _ _ _ ih => exact .cons _ _ ih
theorem tup_no (a b : Str) (t u : Tok) : (tupOf a b t u).cls ≠ .type "list_iterator" := by
  show Value.type "tuple" ≠ .type "list_iterator"
  decide
theorem TLed_cls2 {cl wl pa oa wds c2 c1 : Addr} {ws opv : List Value} {o2 o1 : Obj} {news : List (Addr × Obj)} {T : Addr} {B B' : BS} {ov ov' pv pv' wv wv' : List Value} {ok ok' pk pk' wk wk' : Nat} {pt : List (Addr × Obj)} {a b : Str} {u v : Tok} :
    ∀ p ∈ TLed cl wl pa oa wds c2 c1 ws opv o2 o1 news ⟨B', ov', ok', pv', pk', wv', wk', (T, tupOf a b u v) :: pt⟩, p.1 ∈ (TLed cl wl pa oa wds c2 c1 ws opv o2 o1 news ⟨B, ov, ok, pv, pk, wv, wk, pt⟩).map (·.1) ∨ p.2.cls ≠ .type "list_iterator" :=
  TLed_cls rfl (tup_no a b u v)
theorem ops_asc : ∀ y ∈ ops, y.length ≤ 3 ∧ y.cps.all (· < 128) = true ∧ (∀ c ∈ y.cps.toList, c ≠ 13) := by decide +kernel
theorem ops_at {k : Nat} (h : k < 48) : ops.getD k (Str.ofString "") ∈ ops := by
  rw [List.getD_eq_getElem?_getD, List.getElem?_eq_getElem (by rw [show ops.length = 48 from rfl]; exact h)]
  exact List.getElem_mem _
theorem bClose_step {B : BS} {F : BS} (h : ∀ k, B.wt.length ≤ k → bClose k B = F) (h1 : 1 < B.wt.length) : ∀ k, (bEnd B).wt.length ≤ k → bClose k (bEnd B) = F := by
  intro k hk
  have hl := (bEnd_len B).2.2
  have := h (k + 1) (by omega)
  rw [← this]
  show _ = if 1 < B.wt.length then bClose k (bEnd B) else B
  rw [if_pos h1]
theorem bClose_end {B : BS} {F : BS} (h : ∀ k, B.wt.length ≤ k → bClose k B = F) (h1 : ¬ 1 < B.wt.length) : B = F := by
  have := h (B.wt.length + 1) (by omega)
  rw [← this]
  show B = if 1 < B.wt.length then _ else B
  rw [if_neg h1]
theorem bClose_any : ∀ (n : Nat) (B : BS) (k j : Nat), B.wt.length ≤ n → B.wt.length ≤ k → B.wt.length ≤ j → bClose k B = bClose j B
  | 0, B, k, j, h0, _, _ => by
    have e : ∀ m, bClose m B = B := fun m => by
      cases m with
      | zero => rfl
      | succ m => show (if 1 < B.wt.length then _ else B) = B; rw [if_neg (by omega)]
    rw [e, e]
  | n + 1, B, k, j, h0, hk, hj => by
    by_cases h1 : 1 < B.wt.length
    · have hl := (bEnd_len B).2.2
      obtain ⟨k, rfl⟩ : ∃ m, k = m + 1 := ⟨k - 1, by omega⟩
      obtain ⟨j, rfl⟩ : ∃ m, j = m + 1 := ⟨j - 1, by omega⟩
      show (if 1 < B.wt.length then bClose k (bEnd B) else B) = if 1 < B.wt.length then bClose j (bEnd B) else B
      rw [if_pos h1, if_pos h1]
      exact bClose_any n (bEnd B) k j (by omega) (by omega) (by omega)
    · have e : ∀ m, bClose m B = B := fun m => by
        cases m with
        | zero => rfl
        | succ m => show (if 1 < B.wt.length then _ else B) = B; rw [if_neg h1]
      rw [e, e]
/-- the octets as the law keeps them -/
def octs (os : List Int) (l : Nat) : List Int := (List.range os.length).map fun k => os.getD k 0 + 128 * (((k : Int) + (l : Int) % 2) % 2)
theorem octs_take {os : List Int} {l i : Nat} {n : Int} (h : os[i]? = some n) : (octs os l).take (i + 1) = (octs os l).take i ++ [n + 128 * (((i : Int) + (l : Int) % 2) % 2)] := by
  have hi := (List.getElem?_eq_some_iff.mp h).1
  rw [List.take_add_one]
  congr 1
  unfold octs
  rw [List.getElem?_map, List.getElem?_range hi]
  simp [List.getD_eq_getElem?_getD, h]
theorem ne_of_gtA {l : List (Addr × Obj)} {a d : Addr} (h : ∀ p ∈ l, @LT.lt Nat _ a p.1) (h1 : @LE.le Nat _ d a) : ∀ p ∈ l, p.1 ≠ d := fun p hp e => by
  have := h p hp
  have e' : @Eq Nat p.1 d := e
  omega
def twoOf (a b : Addr) : Obj := { cls := .type "tuple", data := .seq #[.ref a, .ref b] }
/-- a fact that no rule sees -/
structure Box (P : Prop) : Prop where
  out : P
end
section
theorem lay_37 : True := by
  k_with "my:call ref" => ((fail_if_success k_extra "off44"); ((with_reducible show wpAny _ _ (call (Value.ref 225) _) _ _ _); (with_reducible refine stop_in ?_)))
  k_with "my:pyIter ref" => ((fail_if_success k_extra "off44"); with_reducible refine stop_in ?_)
  exact True.intro
theorem tree_names {h₀ h : Heap} {L l1 l2 l3 l4 l5 l6 l7 l8 l9 l10 : Addr} {ws ov : List Value} {o2 o3 o4 o5 o6 o7 o9 o10 : Obj} {r : List (Addr × Obj)}
    (_ : News h₀ L h ((l1, listOf ws.toArray 0) :: (l2, o2) :: (l3, o3) :: (l4, o4) :: (l5, o5) :: (l6, o6) :: (l7, o7) :: (l8, listOf ov.toArray 0) :: (l9, o9) :: (l10, o10) :: r)) :
    ∃ a1 a4 a5 a6 a7 a8 w v p9 p10, a1 = l1 ∧ a4 = l4 ∧ a5 = l5 ∧ a6 = l6 ∧ a7 = l7 ∧ a8 = l8 ∧ w = ws ∧ v = ov ∧ p9 = o9 ∧ p10 = o10 := ⟨_, _, _, _, _, _, _, _, _, _, rfl, rfl, rfl, rfl, rfl, rfl, rfl, rfl, rfl, rfl⟩
theorem fr_names2 {h₀ h : Heap} {L : Addr} {m : Str → Option Value} (F : Fr h₀ L h m) (ps : List (Str × Value)) (hk : ∀ p ∈ ps, m p.1 = some p.2) : ∃ u, Fr h₀ L h (kstB u ps) := ⟨m, by rw [kstB_self hk]; exact F⟩
theorem ints_at {vs : List Value} {ns : List Int} (h : IntsAre vs ns) : ∀ {i : Nat} {v : Value}, vs[i]? = some v → ∃ x t, v = .int x t ∧ ns[i]? = some x := by
  induction h with
  | nil => intro i v e; simp at e
  | cons n t h ih =>
    intro i v e
    cases i with
    | zero => simp at e; exact ⟨n, t, e.symm, by simp⟩
    | succ i => simpa using ih (by simpa using e)
theorem news_bothT {h₀ h : Heap} {L l : Addr} {o : Obj} {r : List (Addr × Obj)} (_ : News h₀ L h ((l, o) :: r)) : ∃ E O, E = l ∧ O = o := ⟨l, o, rfl, rfl⟩
theorem lay_38 : True := by
  k_with "my:call builtin:list.extend" => ((fail_if_success k_extra "off44"); (with_reducible refine stop_in ?_))
  exact True.intro
theorem not_long {b : Bool} {n : Nat} (h : n ≤ 1000) : ¬ (b && Builtin.List.listTooLong n) = true := by
  have : Builtin.List.listTooLong n = false := by simp [Builtin.List.listTooLong, sizeLine_eq]; omega
  simp [this]
theorem lay_39 : True := by
  k_with "my:compareOp In" => ((fail_if_success k_extra "off44"); (with_reducible refine stop_in ?_))
  k_with "my:call builtin:str.upper" => ((fail_if_success k_extra "off44"); (with_reducible refine stop_in ?_))
  k_with "my:subscriptTail" => ((fail_if_success k_extra "off44"); ((with_reducible show wpAny _ _ (subscriptTail (PySem.Expr.Name (Str.ofString "words") _) _ _ _) _ _ _); (with_reducible refine stop_in ?_)))
  k_with "my:subscriptTail" => ((fail_if_success k_extra "off44"); ((with_reducible show wpAny _ _ (subscriptTail (PySem.Expr.Name (Str.ofString "waiting") _) _ _ _) _ _ _); (with_reducible refine stop_in ?_)))
  k_with "my:call builtin:list.pop" => ((fail_if_success k_extra "off44"); (with_reducible refine stop_in ?_))
  k_with "my:subscriptTail Name UnaryOp ref int" => ((fail_if_success k_extra "off44"); (with_reducible refine stop_in ?_))
  k_with "my:subscriptTail Name BinOp ref int" => ((fail_if_success k_extra "off44"); (with_reducible refine stop_in ?_))
  k_with "my:ite" => ((fail_if_success k_extra "off44"); first | (refine ite_yes (by (try simp only [beq_iff_eq, decide_eq_true_eq, List.size_toArray, List.length_append, List.length_singleton, fm4]); omega) ?_) | (refine ite_no (by (try simp only [beq_iff_eq, decide_eq_true_eq, List.size_toArray, List.length_append, List.length_singleton, fm4]); omega) ?_))
  k_with "my:eval ListComp" => ((fail_if_success k_extra "off44"); with_reducible refine stop_in ?_)
  k_with "my:CompSrc ref" => ((fail_if_success k_extra "off44"); with_reducible refine stop_in ?_)
  exact True.intro
open PyProof.Rows.LCg (FinE CompEnd lst)
theorem lay_40 : True := by
  k_with "my:eval Name" => ((fail_if_success k_extra "off44"); (k_here; (with_reducible show wpAny _ _ (eval (Expr.Name _ _) (compEnvC _ _ _ _)) _ _ _); k_dflt (refine ld_cell (by k_asm) (by rfl) (by k_extra "my:mem") (by k_asm) ?_)))
  k_with "my:subscriptTail Name Name ref int" => ((fail_if_success k_extra "off44"); (with_reducible refine stop_in ?_))
  k_with "my:CompEnd int" => ((fail_if_success k_extra "off44"); with_reducible refine stop_in ?_)
  exact True.intro
theorem oct_tok {h₀ h : Heap} {L a1 a2 a3 a4 a5 : Addr} {o1 o2 o3 o4 : Obj} {ov : List Value} {t : Tok} {n : Nat} {r : List (Addr × Obj)} (_ : News h₀ L h ((a1, o1) :: (a2, o2) :: (a3, o3) :: (a4, o4) :: (a5, listOf (ov ++ [Value.int 0 t]).toArray n) :: r)) : ∃ v, v = ov ++ [Value.int 0 t] := ⟨_, rfl⟩
theorem ints_one_eq {vs : List Value} {ns : List Int} {a b : Int} {t : Tok} (h : IntsAre vs ns) (e : a = b) : IntsAre (vs ++ [Value.int a t]) (ns ++ [b]) := by subst e; exact ints_one h
theorem off1_memT {D : Addr} {l : List (Addr × Obj)} (h : PyProof.Rows.LCg.Off1 D l) : ∀ p ∈ l, @Ne Nat p.1 D := by
  induction l with
  | nil => intro p hp; exact nomatch hp
  | cons q r ih =>
    intro p hp
    rcases List.mem_cons.mp hp with e | hp
    · rw [e]; exact h.1
    · exact ih h.2 p hp
/-- a def's contract, where a list of the base is told of -/
def ConS (prog : Program) (w : World) (K : Frag) (sa : Addr) (its : Array Value) (f : Addr) (dp un : Nat) (vs : List Value) (news : List (Addr × Obj)) (post : Value → List (Addr × Obj) → Prop) : Prop :=
  ∀ (p : Program) (loose : List Str) (mean : ExcName → Option Value) (mg mb : Str → Option Value) (gd : Option (List Code)) (cn : Str) (cs : Scope) (a : Addr) (ccd : Value) (cl : List (Str × Addr)) (outer : List Env) (A₀ : Around) (base h₀ : Heap) (L : Addr) (m : Str → Option Value) (s : Shared) (Q E : Value → Shared → Prop),
    Below A₀ base outer h₀ → Fr h₀ L s.heap m → K.In h₀ → h₀.IsList sa its → News h₀ L s.heap news → Top p loose mean mg mb h₀ → cs.kind = .function →
    (∀ v news' h' tk', post v news' → Fr h₀ L h' m → News h₀ L h' news' → Q v { s with heap := h', toks := tk' }) →
    wpAny (model prog w) (ktrTop dp un gd cn cs L a ccd cl outer) (call (.ref f) vs) Q E s
theorem isList_keep {h h' : Heap} {a : Addr} {its : Array Value} (x : h.IsList a its) (k : ∀ b o, h.get? b = some o → h'.get? b = some o) : h'.IsList a its := let ⟨o, e, r⟩ := x; ⟨o, k _ _ e, r⟩
theorem ConS.ofC {prog : Program} {w : World} {K : Frag} {sa : Addr} {its : Array Value} {f : Addr} {dp un : Nat} {vs : List Value} {news : List (Addr × Obj)} {post : Value → List (Addr × Obj) → Prop}
    {name qual : Str} {params : Arguments} {body : List Stmt} {scope : Scope} {dV kV doc pm cdv ct oc : Value} {an od : Option Addr} {osl : Array (Option Value)} {binds : List (Str × Value)}
    (ho : K.lookup f = some ⟨oc, od, .func (fnOf name qual params body scope dV kV doc pm an cdv ct), osl⟩) (hcd : codeIn K cdv qual = true) (hroom : dp < recursionLimit)
    (hbind : ∀ s : Shared, K.In s.heap → BindsTo s (fnOf name qual params body scope dV kV doc pm an cdv ct) ⟨vs, []⟩ binds) (hkind : (binds.all fun y => scope.names.lookup y.1 == some .local || scope.names.lookup y.1 == some .cell) = true)
    (hnd : ((cellsFrom 0 scope.names []).map (·.1)).Nodup)
    (hco : scope.isCoroutine = false) (hgen : scope.isGenerator = false) (hk : scope.kind = .function)
    (h : ∀ (p : Program) (loose : List Str) (mean : ExcName → Option Value) (mg mb : Str → Option Value) (gd : Option (List Code)) (cn : Str) (cs : Scope) (a : Addr) (ccd : Value) (cl : List (Str × Addr)) (outer : List Env) (base g h₁ : Heap) (L' L₀ : Addr) (s : Shared) (tk : Nat) (cells : List (Addr × Obj)) (R : Value → Shared → Prop),
      Fr g L' h₁ (bindL (envOfC qual scope L' f cdv).kindOf binds fun _ => none) → News g L' h₁ (cells ++ news) → CellsAre (bindC (envOfC qual scope L' f cdv).kindOf binds fun _ => none) (cellsFrom (L' + 1) scope.names []) cells →
      Below (ktrTop dp un gd cn cs L₀ a ccd cl outer) base (envX cn cs L₀ a ccd cl :: outer) g → K.In g → g.IsList sa its → Top p loose mean mg mb g → (∀ p ∈ news, p.1 < L') →
      wpAny (model prog w) ((ktrTop dp un gd cn cs L₀ a ccd cl outer).deeper (envOfC qual scope L' f cdv)) (execs body (envOfC qual scope L' f cdv))
        (fun fl s' => Out g s post (match fl with | .ret v => v | _ => .none) s')
        (fun e s' => wpAny (model prog w) ((ktrTop dp un gd cn cs L₀ a ccd cl outer).deeper (envOfC qual scope L' f cdv)) (leaving (envOfC qual scope L' f cdv) e) (fun _ s'' => R e s'') (fun e' s'' => R e' s'') s')
        { s with heap := h₁, toks := tk }) : ConS prog w K sa its f dp un vs news post := by
  intro p loose mean mg mb gd cn cs a ccd cl outer A₀ base h₀ L m s Q E B F X hS N T hkc ret
  refine wpAny_call ?_
  refine code_defC B F X N T rfl rfl hkc ho hcd hroom (hbind s (X.keeps F.keep)) hkind hnd (fun g L' h₁ tk cells FG F' N' Y B' X' T' l1 => ?_) hco hgen hk
  refine wpAny_mono (h p loose mean mg mb gd cn cs a ccd cl outer base g h₁ L' L s tk cells E F' N' Y B' X' (isList_keep hS FG.keep) T' l1) (fun fl s' hO => ?_) fun _ _ x => x
  obtain ⟨h', tk', L'', m', more, news', rfl, F'', N'', hs, hp⟩ := hO
  exact leaveK_ F'' N'' fun kF kN => ret _ news' h' tk' hp kF fun q hq => kN q (hs q hq)
theorem lay_41 : True := by
  k_with "my:go" => ((fail_if_success k_extra "off44"); ((repeat' (first | (k_unfold; (try dsimp only)) | ((with_reducible refine use_q (by with_reducible assumption) ?_); (try dsimp only)) | (k_extra "my:hook"; first | walk1 | (dsimp only; walk1) | (leave1; try dsimp only)))) <;> (try (with_reducible refine stop_out ?_))))
  exact True.intro
local macro_rules | `(tactic| k_enter) => `(tactic| first | k_extra "my:k_enter" | fail)
local macro_rules | `(tactic| walk_at "entE") => `(tactic| (intro FG' F' N' B' X' T'; (refine nm_qe (by passes_own) ?_); walk_at "g2"; intros qk ek; intro hE9 hq9 he9; (try dsimp only); (try k_lift B')))
theorem lay_42 : True := by
  k_with "my:k_enter" => ((fail_if_success k_extra "off44"); (refine code_def (by k_asm) (by k_asm) (by k_asm) (by k_asm) (by k_asm) rfl rfl rfl (by k_is) (by k_is) (by k_room) (by first | exact BindsTo.of_eq rfl | exact binds_K (by k_in) rfl (by k_is) rfl rfl rfl | (refine kp_binds (by k_in) (by exact fun _ => rfl))) (by exact locs rfl) ?_ (by exact rfl) (by exact rfl) (by exact rfl) (by decide); k_whole; walk_at "g3"; intros _ _ _; walk_at "entE"))
  exact True.intro
theorem ne_BS : Nonempty BS := ⟨BS0⟩
theorem ne_BC : Nonempty BC := ⟨⟨BS0, [], 0, [], 0, [], 0, []⟩⟩
theorem prBC {P : BC → Prop} (h : ∀ B ov ok pv pk wv wk pt, P ⟨B, ov, ok, pv, pk, wv, wk, pt⟩) : ∀ z, P z := fun ⟨B, ov, ok, pv, pk, wv, wk, pt⟩ => h B ov ok pv pk wv wk pt
theorem lay_43 : True := by
  k_with "my:ne" => ((fail_if_success k_extra "off44"); first | exact ne_BS | exact ne_BC)
  k_with "my:rg4_5" => ((fail_if_success k_extra "off44"); (rename_i a1 a2 a3 a4 b1 b2 b3 b4 b5; revert a1 a2 a3 a4 b1 b2 b3 b4 b5; walk_at "g4"; intros _ _ _ _; intro _ _ _ _ _))
  k_with "my:call builtin:str.split cons" => ((fail_if_success k_extra "off44"); ((first | with_reducible walk_at "call builtin:str.split" | walk_at "call builtin:str.split"); k_extra "my:rg4_5"))
  k_with "my:binaryOp Add ref ref" => ((fail_if_success k_extra "off44"); (k_here; (with_reducible show wpAny _ _ (binaryOp _ (Value.ref _) (Value.ref _)) _ _ _); k_dflt (refine kmk_add_ints (by k_asm) (by k_asm) (by kmk_list) (by kmk_list) (by l_ints) (by l_ints) ?_ (by kmk_sum)); walk_at "g3"; intros _ _ _; intro _ _ _ _; (try k_sweep)))
  k_with "my:subscriptTail Name Slice ref ref" => ((fail_if_success k_extra "off44"); (k_here; (with_reducible show wpAny _ _ (subscriptTail _ (PySem.Expr.Slice _ _ none _) (Value.ref _) (Value.ref _)) _ _ _); k_dflt (refine kmk_slice_ints (by k_asm) (by k_asm) (by kmk_list) (by kmk_part) (by kmk_part) (by l_ints) (by kmk_nums) (by kmk_len) ?_ (by with_unfolding_all rfl) (by kmk_pure) (by kmk_size)); walk_at "g3"; intros _ _ _; walk_at "kmsE"))
  exact True.intro
theorem con_tree (w : World) (sa : Addr) (svs : List Value) (sns : List Int) (hs : IntsAre svs sns) (hsl : svs.length ≤ 63) (news : List (Addr × Obj)) : ConS PySem.Challenge.rw_tv0054_01.row.prog w (Mine.hd0.heap_1_41 w.params) sa svs.toArray 230 630 5300 [.ref sa] news
      (fun v n => ∃ T ro pa rvs pv pk pt, v = .ref T ∧ IntsAre rvs (octs ((bTree sns).os ++ [0]) sns.length) ∧ PairsAre pt pv ((bTree sns).ps ++ [(Str.ofString "</s>", Str.ofString "</s>")]) ∧ rvs.length ≤ 40 ∧ pv.length ≤ 30 ∧ ro ≠ pa ∧
        (∀ q ∈ news, @Ne Nat q.1 ro ∧ @LT.lt Nat _ q.1 pa ∧ ∀ p ∈ pt, @LT.lt Nat _ q.1 p.1) ∧ n = (T, twoOf ro pa) :: (ro, listOf rvs.toArray rvs.length) :: (pa, listOf pv.toArray pk) :: (pt ++ news)) := by
  revert w sa svs sns hs hsl news
  walk_at "g4"
  intros w sa svs sns
  intro hs hsl
  walk_at "g1"
  intro news
  refine ex_in (⟨_, rfl⟩ : ∃ FF, FF = bTree sns) ?_
  walk_at "g1"
  intro FF hF0
  rw [← hF0]
  have hF := hF0.symm
  clear hF0
  w_top off
  k_fill
  refine' ConS.ofC (binds := [("script", .ref sa)]) ?k6 ?k7 ?k8 ?k9 ?kB ?kD ?c2 ?c3 ?c4 ?_
  (( (case k6 => k_is); (case k7 => k_is); (case k8 => decide); (case k9 => (intro s9 X9; first | exact BindsTo.of_eq rfl | exact binds_K X9 rfl (by k_is) rfl rfl rfl | (refine kp_binds X9 ?_; exact fun _ => rfl))); (case kB => exact rfl); (case kD => decide +kernel); (case c2 => exact rfl); (case c3 => exact rfl); (case c4 => exact rfl); k_with "WPost" => dsimp only [WPost]; k_with "FPost" => dsimp only [FPost]))
  ((refine gen_all10 (ne := ?gN_255) (P := ?gP_255) ((?gf_255 : ∀ a0 a1 a2 a3 a4 a5 a6 a7 a8 a9, ?gP_255 a0 a1 a2 a3 a4 a5 a6 a7 a8 a9) (gen10 ?gN_255 ?gP_255).1 (gen10 ?gN_255 ?gP_255).2.1 (gen10 ?gN_255 ?gP_255).2.2.1 (gen10 ?gN_255 ?gP_255).2.2.2.1 (gen10 ?gN_255 ?gP_255).2.2.2.2.1 (gen10 ?gN_255 ?gP_255).2.2.2.2.2.1 (gen10 ?gN_255 ?gP_255).2.2.2.2.2.2.1 (gen10 ?gN_255 ?gP_255).2.2.2.2.2.2.2.1 (gen10 ?gN_255 ?gP_255).2.2.2.2.2.2.2.2.1 (gen10 ?gN_255 ?gP_255).2.2.2.2.2.2.2.2.2); (case gN_255 => k_extra "my:ne")))
  intros p loose mean mg mb gd cn cs ad ccd
  ((refine gen_all10 (ne := ?gN_256) (P := ?gP_256) ((?gf_256 : ∀ a0 a1 a2 a3 a4 a5 a6 a7 a8 a9, ?gP_256 a0 a1 a2 a3 a4 a5 a6 a7 a8 a9) (gen10 ?gN_256 ?gP_256).1 (gen10 ?gN_256 ?gP_256).2.1 (gen10 ?gN_256 ?gP_256).2.2.1 (gen10 ?gN_256 ?gP_256).2.2.2.1 (gen10 ?gN_256 ?gP_256).2.2.2.2.1 (gen10 ?gN_256 ?gP_256).2.2.2.2.2.1 (gen10 ?gN_256 ?gP_256).2.2.2.2.2.2.1 (gen10 ?gN_256 ?gP_256).2.2.2.2.2.2.2.1 (gen10 ?gN_256 ?gP_256).2.2.2.2.2.2.2.2.1 (gen10 ?gN_256 ?gP_256).2.2.2.2.2.2.2.2.2); (case gN_256 => k_extra "my:ne")))
  intros cl outer base g h₁ L' L₀ s tk cells
  walk_at "g1"
  intro R F' N' Y' B' X' hS0 T' l1
  refine ex_in2 (CellsAre.two Y') ?_
  walk_at "g2"
  intros o' o2'
  rintro ⟨hE', d1', d2'⟩
  subst hE'
  clear Y'
  simp only [List.cons_append, List.nil_append] at N'
  have lnw : ∀ p ∈ news, @LT.lt Nat _ p.1 L' := l1
  have lnw1 : ∀ p ∈ news, @LT.lt Nat _ p.1 (L' + 1) := fun p hp => Nat.lt_succ_of_lt (lnw p hp)
  have lnw2 : ∀ p ∈ news, @LT.lt Nat _ p.1 (L' + 1 + 1) := fun p hp => Nat.lt_succ_of_lt (lnw1 p hp)
  k_extra "my:go"
  refine stop_out ?_
  rename (StrsAre _ _) => hop
  rename (_ = Txt.split _ _) => hsp
  rw [hsp, ops_split] at hop
  clear hsp
  (((with_reducible rename Fr _ _ _ _ => lF'); (with_unfolding_all refine' For_invVF lF' ?k1_257 ?k2_257 ?_; (case k1_257 => exact rfl); (case k2_257 => exact rfl); k_whole); k_extra "my:go"))
  refine stop_out ?_
  rename (IntsAre _ ([1, 2, 0, 51, 2] ++ _)) => hws
  rename (Fr _ _ _ _) => F'
  rename (News _ _ _ _) => N'
  rename_i g1 L1 h1 F1 N1 B1 X1 T1 q1 k1 E1 hq1 he1 t2 wds ov0 h2 n0 F3 N3 lwds Tc1 kX1 h3 t3 oa h4 loa h5 oc2 hoc t4 t0 h6 lt0 pa h7 lpa h8 t5 wl h9 lwl h10 t6 ls h11 lls sl sv h12 lsl hI1 hC1 hL1 cl9 ws hz lcl
  clear F1 N1 B1 X1 T1 E1 hq1 he1 F3 N3 Tc1 kX1 hI1 hC1 hL1
  refine ex_in (⟨_, rfl⟩ : ∃ v, v = strValues ov0) ?_
  walk_at "g1"
  intro opv hopv
  rw [← hopv] at N' hop
  have hoat : @LT.lt Nat _ oa t0 := lt_in lt0 (show (oa, _) ∈ _ by k_extra "my:mem")
  have htpa : @LT.lt Nat _ t0 pa := lt_in lpa (show (t0, _) ∈ _ by k_extra "my:mem")
  have hpwl : @LT.lt Nat _ pa wl := lt_in lwl (show (pa, _) ∈ _ by k_extra "my:mem")
  have hwcl : @LT.lt Nat _ wl cl9 := lt_in lcl (show (wl, _) ∈ _ by k_extra "my:mem")
  have hLoa : @LT.lt Nat _ (L' + 1 + 1) oa := lt_in loa (show (L' + 1 + 1, _) ∈ _ by k_extra "my:mem")
  have hLwd : @LT.lt Nat _ (L' + 1 + 1) wds := lt_in lwds (show (L' + 1 + 1, _) ∈ _ by k_extra "my:mem")
  have hwoa : @LT.lt Nat _ wds oa := lt_in loa (show (wds, _) ∈ _ by k_extra "my:mem")
  have lnc : ∀ p ∈ news, @LT.lt Nat _ p.1 L' ∨ @LT.lt Nat _ cl9 p.1 := fun p hp => .inl (lnw p hp)
  refine ex_in (fr_names2 F' [("words", .ref wds), ("pieces", .ref pa), ("waiting", .ref wl), ("script", .ref sa)] (by k_extra "my:names")) ?_
  walk_at "g1"
  intro u1 F2
  have hc0 : ∃ c : BC, News g L' hz ((cl9, listOf ws.toArray 0) :: (wl, listOf c.wv.toArray c.wk) :: (pa, listOf c.pv.toArray c.pk) :: (oa, listOf c.ov.toArray c.ok) :: (wds, listOf opv.toArray 0) :: (L' + 1 + 1, o') :: (L' + 1, oc2) :: (c.pt ++ news)) ∧ BInv L' oa t0 pa wl cl9 BS0 c := by
    refine' ⟨⟨BS0, [.int 68 _, .int 0 _], 0, [.ref t0], 0, [.str (Str.ofString "s") _], 0, [(t0, tupOf (Str.ofString "<s>") (Str.ofString "<s>") _ _)]⟩, News.sub N' ?mm, ?inv⟩
    case mm =>
      simp only [tupOf]
      (((try dsimp only); k_extra "my:inl"))
    case inv =>
      refine ⟨rfl, .cons _ _ (.cons _ _ .nil), ⟨rfl, ?_⟩, .cons _ _ .nil, Nat.le_refl _, ?_, ?_, ?_, ?_⟩
      · intro i a b e
        cases i with
        | zero =>
          cases e
          exact ⟨t0, _, _, rfl, .head _⟩
        | succ i => simp [BS0] at e
      · intro y hy
        rw [List.mem_singleton.mp hy]; exact .inl rfl
      · intro p hp
        rw [List.mem_singleton.mp hp]; show @LT.lt Nat _ _ _; omega
      · intro p hp
        rw [List.mem_singleton.mp hp]; left; show @LT.lt Nat _ _ _; omega
      · intro p hp
        rw [List.mem_singleton.mp hp]; rfl
  clear N' F'
  refine ex_in hc0 ?_
  clear hc0
  walk_at "g1"
  rintro c0 ⟨N0, I0⟩
  refine forListR (σ := BC) (l := cl9) (vs := ws) (nn := 0) (fun c => (cl9, listOf ws.toArray 0) :: (wl, listOf c.wv.toArray c.wk) :: (pa, listOf c.pv.toArray c.pk) :: (oa, listOf c.ov.toArray c.ok) :: (wds, listOf opv.toArray 0) :: (L' + 1 + 1, o') :: (L' + 1, oc2) :: (c.pt ++ news))
    (fun _ => [("words", .ref wds), ("pieces", .ref pa), ("waiting", .ref wl), ("script", .ref sa)])
    (fun i c => BInv L' oa t0 pa wl cl9 (((bItems sns).take i).foldl bStep BS0) c) (fun c => BInv L' oa t0 pa wl cl9 ((bItems sns).foldl bStep BS0) c) c0 rfl (fun c => .head _) F2 N0 (by k_extra "my:names") I0 ?_ ?_ ?_
  · clear d2' l1 lwds loa lt0 lpa lwl lls lsl lcl hopv N0 I0 F2
    as_aux_lemma =>
    revert hs hsl hF B' X' hS0 T' d1' lnw lnw1 lnw2 hoc hws hop hoat htpa hpwl hwcl hLoa hLwd hwoa lnc
    revert w sa svs sns news FF p loose mean mg mb gd cn cs ad ccd cl outer base g L' L₀ s tk R o' wds oa oc2 t0 pa wl h10 t6 h11 h12 cl9 ws hz opv
    ((refine gen_all10 (ne := ?gN_259) (P := ?gP_259) ((?gf_259 : ∀ a0 a1 a2 a3 a4 a5 a6 a7 a8 a9, ?gP_259 a0 a1 a2 a3 a4 a5 a6 a7 a8 a9) (gen10 ?gN_259 ?gP_259).1 (gen10 ?gN_259 ?gP_259).2.1 (gen10 ?gN_259 ?gP_259).2.2.1 (gen10 ?gN_259 ?gP_259).2.2.2.1 (gen10 ?gN_259 ?gP_259).2.2.2.2.1 (gen10 ?gN_259 ?gP_259).2.2.2.2.2.1 (gen10 ?gN_259 ?gP_259).2.2.2.2.2.2.1 (gen10 ?gN_259 ?gP_259).2.2.2.2.2.2.2.1 (gen10 ?gN_259 ?gP_259).2.2.2.2.2.2.2.2.1 (gen10 ?gN_259 ?gP_259).2.2.2.2.2.2.2.2.2); (case gN_259 => k_extra "my:ne")))
    intros w sa svs sns news FF p loose mean mg
    ((refine gen_all10 (ne := ?gN_260) (P := ?gP_260) ((?gf_260 : ∀ a0 a1 a2 a3 a4 a5 a6 a7 a8 a9, ?gP_260 a0 a1 a2 a3 a4 a5 a6 a7 a8 a9) (gen10 ?gN_260 ?gP_260).1 (gen10 ?gN_260 ?gP_260).2.1 (gen10 ?gN_260 ?gP_260).2.2.1 (gen10 ?gN_260 ?gP_260).2.2.2.1 (gen10 ?gN_260 ?gP_260).2.2.2.2.1 (gen10 ?gN_260 ?gP_260).2.2.2.2.2.1 (gen10 ?gN_260 ?gP_260).2.2.2.2.2.2.1 (gen10 ?gN_260 ?gP_260).2.2.2.2.2.2.2.1 (gen10 ?gN_260 ?gP_260).2.2.2.2.2.2.2.2.1 (gen10 ?gN_260 ?gP_260).2.2.2.2.2.2.2.2.2); (case gN_260 => k_extra "my:ne")))
    intros mb gd cn cs ad ccd cl outer base g
    ((refine gen_all10 (ne := ?gN_261) (P := ?gP_261) ((?gf_261 : ∀ a0 a1 a2 a3 a4 a5 a6 a7 a8 a9, ?gP_261 a0 a1 a2 a3 a4 a5 a6 a7 a8 a9) (gen10 ?gN_261 ?gP_261).1 (gen10 ?gN_261 ?gP_261).2.1 (gen10 ?gN_261 ?gP_261).2.2.1 (gen10 ?gN_261 ?gP_261).2.2.2.1 (gen10 ?gN_261 ?gP_261).2.2.2.2.1 (gen10 ?gN_261 ?gP_261).2.2.2.2.2.1 (gen10 ?gN_261 ?gP_261).2.2.2.2.2.2.1 (gen10 ?gN_261 ?gP_261).2.2.2.2.2.2.2.1 (gen10 ?gN_261 ?gP_261).2.2.2.2.2.2.2.2.1 (gen10 ?gN_261 ?gP_261).2.2.2.2.2.2.2.2.2); (case gN_261 => k_extra "my:ne")))
    intros L' L₀ s tk R o' wds oa oc2 t0
    ((refine gen_all10 (ne := ?gN_262) (P := ?gP_262) ((?gf_262 : ∀ a0 a1 a2 a3 a4 a5 a6 a7 a8 a9, ?gP_262 a0 a1 a2 a3 a4 a5 a6 a7 a8 a9) (gen10 ?gN_262 ?gP_262).1 (gen10 ?gN_262 ?gP_262).2.1 (gen10 ?gN_262 ?gP_262).2.2.1 (gen10 ?gN_262 ?gP_262).2.2.2.1 (gen10 ?gN_262 ?gP_262).2.2.2.2.1 (gen10 ?gN_262 ?gP_262).2.2.2.2.2.1 (gen10 ?gN_262 ?gP_262).2.2.2.2.2.2.1 (gen10 ?gN_262 ?gP_262).2.2.2.2.2.2.2.1 (gen10 ?gN_262 ?gP_262).2.2.2.2.2.2.2.2.1 (gen10 ?gN_262 ?gP_262).2.2.2.2.2.2.2.2.2); (case gN_262 => k_extra "my:ne")))
    intros pa wl h10 t6 h11 h12 cl9 ws hz opv
    intro hs hsl hF B' X' hS0 T' d1' lnw lnw1 lnw2 hoc hws hop hoat htpa hpwl hwcl hLoa hLwd hwoa lnc
    walk_at "g2"
    intros i v
    refine prBC ?_
    ((refine gen_all8 (ne := ?gN_263) (P := ?gP_263) ((?gf_263 : ∀ a0 a1 a2 a3 a4 a5 a6 a7, ?gP_263 a0 a1 a2 a3 a4 a5 a6 a7) (gen8 ?gN_263 ?gP_263).1 (gen8 ?gN_263 ?gP_263).2.1 (gen8 ?gN_263 ?gP_263).2.2.1 (gen8 ?gN_263 ?gP_263).2.2.2.1 (gen8 ?gN_263 ?gP_263).2.2.2.2.1 (gen8 ?gN_263 ?gP_263).2.2.2.2.2.1 (gen8 ?gN_263 ?gP_263).2.2.2.2.2.2.1 (gen8 ?gN_263 ?gP_263).2.2.2.2.2.2.2); (case gN_263 => k_extra "my:ne")))
    intros BB ov ok pv pk wv wk pt
    walk_at "g4"
    intros u h tk own
    intro hv hown I F' N'
    (try dsimp only at N')
    simp only [List.cons_append] at N'
    simp only [kstB] at F'
    (try k_sweep)
    obtain ⟨Ieq, Ios, Ips, Iwt, Ine, Itg, Ip1, Ip2, Itu⟩ := I
    (try dsimp only at Ieq Ios Ips Iwt Ip1 Ip2 Itu N' hown)
    (try dsimp only)
    refine ex_in (⟨_, rfl⟩ : ∃ B, B = ((bItems sns).take i).foldl bStep BS0) ?_
    walk_at "g1"
    intro B hB0
    rw [← hB0] at Ieq Ios Ips Iwt Ine Itg
    have hB := hB0.symm
    clear hB0
    have hln : B.os.length ≤ 20 ∧ B.ps.length ≤ 10 ∧ B.wt.length ≤ 10 := by
      have h1 := fold_len ((bItems sns).take i) BS0
      have h2 : ((bItems sns).take i).length ≤ 9 := by have := items_len sns; simp only [List.length_take]; omega
      rw [hB] at h1
      have e1 : BS0.os.length = 2 := rfl
      have e2 : BS0.ps.length = 1 := rfl
      have e3 : BS0.wt.length = 1 := rfl
      omega
    have hol : ov.length ≤ 20 := by have := Ios.length; omega
    have hpl : pv.length ≤ 10 := by have := Ips.1; omega
    have hwl : wv.length ≤ 10 := by have := strsAre_length Iwt; omega
    refine ex_in2 (ints_at hws hv) ?_
    walk_at "g2"
    intros x t
    rintro ⟨hvx, hxi⟩
    subst hvx
    replace hxi : (bItems sns)[i]? = some x := hxi
    have hnext : ((bItems sns).take (i + 1)).foldl bStep BS0 = bStep B x := by
      rw [List.take_add_one, hxi, List.foldl_append, hB]; rfl
    have hq1 : ∀ p ∈ pt, p.1 ≠ oa := ne_of_gtA Ip1 (Nat.le_refl _)
    have hq2 : ∀ p ∈ pt, p.1 ≠ pa := ne_of_out Ip2 (Nat.le_refl _) (by omega)
    have hq3 : ∀ p ∈ pt, p.1 ≠ wl := ne_of_out Ip2 (by omega) (Nat.le_refl _)
    rcases (by omega : x % 4 < 2 ∨ (x % 4 = 2 ∧ 1 < B.wt.length) ∨ (2 ≤ x % 4 ∧ ¬ (x % 4 = 2 ∧ 1 < B.wt.length))) with hc | hc | hc
    -- B1
    · k_extra "my:go"
      refine stop_out ?_
      rename (Fr _ _ _ _) => F'
      rename (News _ _ _ _) => N'
      rename_i ex9 _ lex
      k_dflt refine kl_extend (its := ov.toArray) (n := ok) (its2 := #[_, _]) (l := ov ++ [_, _]) F' N' (.head _) rfl (Nat.succ_ne_zero _) (by k_upd) (not_long (by simp; omega)) (by rw [sizeLine_eq]; show ov.length ≤ _; omega) (by rw [sizeLine_eq]; simp; omega) ?_
      clear F' N'
      walk_at "g1"
      intro h' F' N'
      k_sweep
      simp only [List.push_toArray] at N'
      k_extra "my:go"
      refine stop_out ?_
      rename (Fr _ _ _ _) => F'
      rename (News _ _ _ _) => N'
      refine item_list_neg (l := wl) (items := (wv ++ [_]).toArray) (x := _) ⟨_, (N' _ (show (wl, listOf (wv ++ [_]).toArray (wk + 1)) ∈ _ by k_extra "my:mem")).1, rfl, _, rfl⟩ (by decide) (by simp; omega) (by decide) (by simp only [List.size_toArray, List.length_append, List.length_singleton, List.getElem?_toArray]; rw [show (-1 + ((wv.length + 1 : Nat) : Int)).toNat = wv.length by omega]; exact List.getElem?_concat_length) ?_
      k_extra "my:go"
      refine stop_out ?_
      rename (Fr _ _ _ _) => F'
      rename (News _ _ _ _) => N'
      simp only [fm4] at N'
      refine in_list_strs (l := wl) (vs := wv ++ [_]) (ys := B.wt ++ [xyOf x]) ⟨_, (N' _ (show (wl, listOf (wv ++ [Value.str (xyOf x) _]).toArray (wk + 1)) ∈ _ by k_extra "my:mem")).1, rfl, _, rfl⟩ (strsAre_snoc Iwt) ?_
      rw [any_x]
      have hxy := xy_cases hc
      have hstep : bStep B x = ⟨B.os ++ [68, 1 + x % 4], B.ps ++ [pairOf (B.wt ++ [xyOf x]) (begT (xyOf x)) (Txt.upper (begT (xyOf x)))], B.wt ++ [xyOf x]⟩ := if_pos hc
      have hwt9 : ∀ y ∈ B.wt ++ [xyOf x], y = Str.ofString "s" ∨ y = Str.ofString "x" ∨ y = Str.ofString "y" := by
        intro y hy
        rcases List.mem_append.mp hy with hy | hy
        · exact Itg y hy
        · rw [List.mem_singleton.mp hy]; exact .inr hxy
      by_cases hin : Str.ofString "x" ∈ B.wt ++ [xyOf x]
      · rw [decide_eq_true hin]
        k_extra "my:go"
        rename (Fr _ _ _ _) => F'
        rename (News _ _ _ _) => N'
        rename_i T9 _ lT _
        have hT1 : @LT.lt Nat _ oa T9 := lt_in lT (show (oa, _) ∈ _ by k_extra "my:mem")
        have hT2 : @LT.lt Nat _ wl T9 := lt_in lT (show (wl, _) ∈ _ by k_extra "my:mem")
        simp only [fm4, List.push_toArray] at N'
        refine' ⟨⟨bStep B x, ov ++ [.int 68 _, .int (1 + x % 4) _], ok + 1, pv ++ [.ref T9], pk + 1, wv ++ [.str (xyOf x) _], wk + 1, (T9, tupOf (begT (xyOf x)) (Str.ofString "") _ _) :: pt⟩, _, _, _, _, rfl, by k_asm, by k_asm, ?mm, by (((try dsimp only); k_extra "my:inl")), by k_extra "my:names", ?inv, ?cls⟩
        case mm => simp only [tupOf, begT, xyOf, List.cons_append]; (((try dsimp only); k_extra "my:inl"))
        case inv =>
          rw [hnext]
          exact BInv.next Ips Ip1 Ip2 Itu (by rw [hstep]; exact ints_two Ios) (by rw [hstep]; show B.ps ++ [pairOf _ _ _] = _; rw [pairOf, if_pos hin]) (by rw [hstep]; exact strsAre_snoc Iwt) (by rw [hstep]; simp) (by rw [hstep]; exact hwt9) (by omega) (by omega)
        case cls => exact TLed_cls2 (B := BB)
      · rw [decide_eq_false hin]
        k_extra "my:go"
        refine stop_out ?_
        (try dsimp only)
        refine SC.upper ?hfit ?_
        case hfit => simp only [fm4]; exact (up_fit (.inr hxy)).1
        k_extra "my:go"
        rename (Fr _ _ _ _) => F'
        rename (News _ _ _ _) => N'
        rename_i T9 _ lT _
        have hT1 : @LT.lt Nat _ oa T9 := lt_in lT (show (oa, _) ∈ _ by k_extra "my:mem")
        have hT2 : @LT.lt Nat _ wl T9 := lt_in lT (show (wl, _) ∈ _ by k_extra "my:mem")
        simp only [fm4, List.push_toArray] at N'
        refine' ⟨⟨bStep B x, ov ++ [.int 68 _, .int (1 + x % 4) _], ok + 1, pv ++ [.ref T9], pk + 1, wv ++ [.str (xyOf x) _], wk + 1, (T9, tupOf (begT (xyOf x)) (Txt.upper (begT (xyOf x))) _ _) :: pt⟩, _, _, _, _, rfl, by k_asm, by k_asm, ?mm, by (((try dsimp only); k_extra "my:inl")), by k_extra "my:names", ?inv, ?cls⟩
        case mm => simp only [tupOf, begT, xyOf, List.cons_append]; (((try dsimp only); k_extra "my:inl"))
        case inv =>
          rw [hnext]
          exact BInv.next Ips Ip1 Ip2 Itu (by rw [hstep]; exact ints_two Ios) (by rw [hstep]; show B.ps ++ [pairOf _ _ _] = _; rw [pairOf, if_neg hin]) (by rw [hstep]; exact strsAre_snoc Iwt) (by rw [hstep]; simp) (by rw [hstep]; exact hwt9) (by omega) (by omega)
        case cls => exact TLed_cls2 (B := BB)
    -- E1
    -- B2
    · obtain ⟨hc1, hc2⟩ := hc
      have hBne : B.wt ≠ [] := fun e => by rw [e] at Ine; simp at Ine
      refine ex_in2 (strsAre_last Iwt hBne) ?_
      walk_at "g2"
      intros p9 t8
      rintro ⟨hwv, hp9⟩
      have hg9 := Itg _ (show B.wt.getLastD (Str.ofString "") ∈ B.wt by rw [List.getLastD_eq_getLast?, List.getLast?_eq_some_getLast hBne]; exact List.getLast_mem hBne)
      refine ex_in (⟨_, rfl⟩ : ∃ yl, yl = B.wt.getLastD (Str.ofString "")) ?_
      walk_at "g1"
      intro yl hyl
      rw [← hyl] at hwv hg9
      rw [hwv] at N' Iwt hwl
      have Iw9 := hid_in Iwt
      have hp9h := hid_in hp9
      have hp9l : p9.length + 1 = B.wt.length := by have := strsAre_length Iwt; simpa using this
      have hyl1 : yl.length ≤ 1 := by rcases hg9 with e | e | e <;> rw [e] <;> decide
      clear Iwt
      have hstep : bStep B x = bEnd B := by unfold bStep; rw [if_neg (by omega), if_pos ⟨hc1, hc2⟩]
      k_extra "my:go"
      refine stop_out ?_
      rename (Fr _ _ _ _) => F'
      rename (News _ _ _ _) => N'
      have hwm := (N' (wl, listOf (p9 ++ [Value.str yl t8]).toArray wk) (by k_extra "my:mem")).1
      refine item_list_neg (l := wl) (items := (p9 ++ [Value.str yl t8]).toArray) (x := Value.str yl t8) ⟨_, hwm, rfl, _, rfl⟩ (by decide) (by simp; omega) (by decide) (by simp only [List.size_toArray, List.length_append, List.length_singleton, List.getElem?_toArray]; rw [show (-1 + ((p9.length + 1 : Nat) : Int)).toNat = p9.length by omega]; exact List.getElem?_concat_length) ?_
      k_extra "my:go"
      · rename ((List.any B.wt _) = _) => ha
        rw [any_x] at ha
        have hin := of_decide_eq_true ha
        refine stop_out ?_
        rename (Fr _ _ _ _) => F'
        rename (News _ _ _ _) => N'
        rename_i T9 _ lT _ _
        have hT1 : @LT.lt Nat _ oa T9 := lt_in lT (show (oa, _) ∈ _ by k_extra "my:mem")
        have hT2 : @LT.lt Nat _ wl T9 := lt_in lT (show (wl, _) ∈ _ by k_extra "my:mem")
        (try dsimp only)
        refine kl_pop (its := (p9 ++ [Value.str yl t8]).toArray) (n := wk) (p := p9) (y := Value.str yl t8) F' N' (kpa_last _ _) (by k_upd) (by rw [sizeLine_eq]; show (p9 ++ [Value.str yl t8]).length ≤ _; omega) ?_
        clear F' N'
        walk_at "g1"
        intro h' F' N'
        k_sweep
        simp only [List.push_toArray] at N'
        k_extra "my:go"
        refine' ⟨⟨bStep B x, ov ++ [.int 0 _], ok + 1, pv ++ [.ref T9], pk + 1, p9, wk + 1, (T9, tupOf (endT yl) (Str.ofString "") _ _) :: pt⟩, _, _, _, _, rfl, by k_asm, by k_asm, ?mm, by (((try dsimp only); k_extra "my:inl")), by k_extra "my:names", ?inv, ?cls⟩
        case mm => simp only [tupOf, endT, List.cons_append]; (((try dsimp only); k_extra "my:inl"))
        case inv =>
          rw [hnext]
          refine BInv.next Ips Ip1 Ip2 Itu (by rw [hstep]; exact ints_one Ios) ?_ (by rw [hstep]; exact hid_out hp9h) (by rw [hstep]; show 1 ≤ B.wt.dropLast.length; rw [List.length_dropLast]; omega) (by rw [hstep]; exact fun y hy => Itg y (List.dropLast_subset _ hy)) (by omega) (by omega)
          rw [hstep]
          show B.ps ++ [pairOf _ _ _] = _
          rw [← hyl, pairOf, if_pos hin]
        case cls => exact TLed_cls2 (B := BB)
      · rename ((List.any B.wt _) = _) => ha
        rw [any_x] at ha
        have hin := of_decide_eq_false ha
        refine stop_out ?_
        (try dsimp only)
        refine SC.upper ?hfit ?_
        case hfit => exact (up_fit hg9).2
        k_extra "my:go"
        refine stop_out ?_
        rename (Fr _ _ _ _) => F'
        rename (News _ _ _ _) => N'
        rename_i T9 _ lT _ _
        have hT1 : @LT.lt Nat _ oa T9 := lt_in lT (show (oa, _) ∈ _ by k_extra "my:mem")
        have hT2 : @LT.lt Nat _ wl T9 := lt_in lT (show (wl, _) ∈ _ by k_extra "my:mem")
        (try dsimp only)
        refine kl_pop (its := (p9 ++ [Value.str yl t8]).toArray) (n := wk) (p := p9) (y := Value.str yl t8) F' N' (kpa_last _ _) (by k_upd) (by rw [sizeLine_eq]; show (p9 ++ [Value.str yl t8]).length ≤ _; omega) ?_
        clear F' N'
        walk_at "g1"
        intro h' F' N'
        k_sweep
        simp only [List.push_toArray] at N'
        k_extra "my:go"
        refine' ⟨⟨bStep B x, ov ++ [.int 0 _], ok + 1, pv ++ [.ref T9], pk + 1, p9, wk + 1, (T9, tupOf (endT yl) (Txt.upper (endT yl)) _ _) :: pt⟩, _, _, _, _, rfl, by k_asm, by k_asm, ?mm, by (((try dsimp only); k_extra "my:inl")), by k_extra "my:names", ?inv, ?cls⟩
        case mm => simp only [tupOf, endT, List.cons_append]; (((try dsimp only); k_extra "my:inl"))
        case inv =>
          rw [hnext]
          refine BInv.next Ips Ip1 Ip2 Itu (by rw [hstep]; exact ints_one Ios) ?_ (by rw [hstep]; exact hid_out hp9h) (by rw [hstep]; show 1 ≤ B.wt.dropLast.length; rw [List.length_dropLast]; omega) (by rw [hstep]; exact fun y hy => Itg y (List.dropLast_subset _ hy)) (by omega) (by omega)
          rw [hstep]
          show B.ps ++ [pairOf _ _ _] = _
          rw [← hyl, pairOf, if_neg hin]
        case cls => exact TLed_cls2 (B := BB)
    -- E2
    -- B3
    · have hk9 : (x / 4 % 48).toNat < 48 := by omega
      have hkx : x.fdiv 4 = x / 4 := Int.fdiv_eq_ediv_of_nonneg x (by decide)
      have hkm : (x / 4).fmod 48 = x / 4 % 48 := Int.fmod_eq_emod_of_nonneg _ (by decide)
      have hstep : bStep B x = ⟨B.os ++ [7 + x / 4 % 48], B.ps ++ [pairOf B.wt (escT (opOf x)) (escT (opOf x))], B.wt⟩ := by unfold bStep; rw [if_neg (by omega), if_neg hc.2]
      have Iw9 := hid_in Iwt
      have hw9 : wv.length = B.wt.length := strsAre_length Iwt
      clear Iwt
      have hop9 := hid_in hop
      have hopm : opOf x ∈ ops := ops_at hk9
      obtain ⟨hoc1, hoc2, hoc3⟩ := ops_asc _ hopm
      rcases (by omega : (x % 4 = 2 ∧ ¬ 1 < B.wt.length) ∨ x % 4 = 3) with hc3 | hc3
      all_goals (
        k_extra "my:go"
        refine stop_out ?_
        rename (Fr _ _ _ _) => F'
        rename (News _ _ _ _) => N'
        rw [hkx, hkm]
        refine item_strsA ⟨_, (N' _ (show (wds, listOf opv.toArray 0) ∈ _ by k_extra "my:mem")).1, rfl, _, rfl⟩ (hid_out hop9) (by omega) (by rw [show ops.length = 48 from rfl]; omega) (by omega) ?_
        walk_at "g1"
        intro t9
        rw [show ops.getD (x / 4 % 48).toNat Str.empty = opOf x from rfl]
        k_extra "my:go"
        refine stop_out ?_
        rename (Fr _ _ _ _) => F'
        rename (News _ _ _ _) => N'
        refine ex_in (named N') ?_
        walk_at "g1"
        rintro nl ⟨hnl, Nb⟩
        refine (con_spelled w (opOf x) t9 hoc1 hoc2 hoc3 nl).use (by k_extra "my:us1") (by k_extra "my:us1") (by k_asm) F' (by k_asm) Nb (by k_asm) rfl ?_
        clear F' N' Nb
        walk_at "g4"
        intros v n h8 tk8
        rintro ⟨hv, hn⟩
        refine ex_in hv ?_
        clear hv
        walk_at "g1"
        intro t7 hv
        subst hv hn
        intro F' N'
        rw [hnl] at N'
        k_sweep
        k_extra "my:go"
        · rename ((List.any B.wt _) = _) => ha
          rw [any_x] at ha
          have hin := of_decide_eq_true ha
          rename (Fr _ _ _ _) => F'
          rename (News _ _ _ _) => N'
          rename_i T9 _ lT _
          have hT1 : @LT.lt Nat _ oa T9 := lt_in lT (show (oa, _) ∈ _ by k_extra "my:mem")
          have hT2 : @LT.lt Nat _ wl T9 := lt_in lT (show (wl, _) ∈ _ by k_extra "my:mem")
          simp only [hkx, hkm, List.push_toArray] at N'
          refine' ⟨⟨bStep B x, ov ++ [.int (7 + x / 4 % 48) _], ok + 1, pv ++ [.ref T9], pk + 1, wv, wk, (T9, tupOf (escT (opOf x)) (Str.ofString "") _ _) :: pt⟩, _, _, _, _, rfl, by k_asm, by k_asm, ?mm, by (((try dsimp only); k_extra "my:inl")), by k_extra "my:names", ?inv, ?cls⟩
          case mm => simp only [tupOf, List.cons_append]; (((try dsimp only); k_extra "my:inl"))
          case inv =>
            rw [hnext]
            exact BInv.next Ips Ip1 Ip2 Itu (by rw [hstep]; exact ints_one Ios) (by rw [hstep]; show B.ps ++ [pairOf _ _ _] = _; rw [pairOf, if_pos hin]) (by rw [hstep]; exact hid_out Iw9) (by rw [hstep]; exact Ine) (by rw [hstep]; exact Itg) (by omega) (by omega)
          case cls => exact TLed_cls2 (B := BB)
        · rename ((List.any B.wt _) = _) => ha
          rw [any_x] at ha
          have hin := of_decide_eq_false ha
          rename (Fr _ _ _ _) => F'
          rename (News _ _ _ _) => N'
          rename_i T9 _ lT _
          have hT1 : @LT.lt Nat _ oa T9 := lt_in lT (show (oa, _) ∈ _ by k_extra "my:mem")
          have hT2 : @LT.lt Nat _ wl T9 := lt_in lT (show (wl, _) ∈ _ by k_extra "my:mem")
          simp only [hkx, hkm, List.push_toArray] at N'
          refine' ⟨⟨bStep B x, ov ++ [.int (7 + x / 4 % 48) _], ok + 1, pv ++ [.ref T9], pk + 1, wv, wk, (T9, tupOf (escT (opOf x)) (escT (opOf x)) _ _) :: pt⟩, _, _, _, _, rfl, by k_asm, by k_asm, ?mm, by (((try dsimp only); k_extra "my:inl")), by k_extra "my:names", ?inv, ?cls⟩
          case mm => simp only [tupOf, List.cons_append]; (((try dsimp only); k_extra "my:inl"))
          case inv =>
            rw [hnext]
            exact BInv.next Ips Ip1 Ip2 Itu (by rw [hstep]; exact ints_one Ios) (by rw [hstep]; show B.ps ++ [pairOf _ _ _] = _; rw [pairOf, if_neg hin]) (by rw [hstep]; exact hid_out Iw9) (by rw [hstep]; exact Ine) (by rw [hstep]; exact Itg) (by omega) (by omega)
          case cls => exact TLed_cls2 (B := BB))
    -- E3
  · clear d2' l1 lwds loa lt0 lpa lwl lls lsl lcl hopv N0 I0 F2
    as_aux_lemma =>
    revert hs hsl hF B' X' hS0 T' d1' lnw lnw1 lnw2 hoc hws hop hoat htpa hpwl hwcl hLoa hLwd hwoa lnc
    revert w sa svs sns news FF p loose mean mg mb gd cn cs ad ccd cl outer base g L' L₀ s tk R o' wds oa oc2 t0 pa wl h10 t6 h11 h12 cl9 ws hz opv
    ((refine gen_all10 (ne := ?gN_276) (P := ?gP_276) ((?gf_276 : ∀ a0 a1 a2 a3 a4 a5 a6 a7 a8 a9, ?gP_276 a0 a1 a2 a3 a4 a5 a6 a7 a8 a9) (gen10 ?gN_276 ?gP_276).1 (gen10 ?gN_276 ?gP_276).2.1 (gen10 ?gN_276 ?gP_276).2.2.1 (gen10 ?gN_276 ?gP_276).2.2.2.1 (gen10 ?gN_276 ?gP_276).2.2.2.2.1 (gen10 ?gN_276 ?gP_276).2.2.2.2.2.1 (gen10 ?gN_276 ?gP_276).2.2.2.2.2.2.1 (gen10 ?gN_276 ?gP_276).2.2.2.2.2.2.2.1 (gen10 ?gN_276 ?gP_276).2.2.2.2.2.2.2.2.1 (gen10 ?gN_276 ?gP_276).2.2.2.2.2.2.2.2.2); (case gN_276 => k_extra "my:ne")))
    intros w sa svs sns news FF p loose mean mg
    ((refine gen_all10 (ne := ?gN_277) (P := ?gP_277) ((?gf_277 : ∀ a0 a1 a2 a3 a4 a5 a6 a7 a8 a9, ?gP_277 a0 a1 a2 a3 a4 a5 a6 a7 a8 a9) (gen10 ?gN_277 ?gP_277).1 (gen10 ?gN_277 ?gP_277).2.1 (gen10 ?gN_277 ?gP_277).2.2.1 (gen10 ?gN_277 ?gP_277).2.2.2.1 (gen10 ?gN_277 ?gP_277).2.2.2.2.1 (gen10 ?gN_277 ?gP_277).2.2.2.2.2.1 (gen10 ?gN_277 ?gP_277).2.2.2.2.2.2.1 (gen10 ?gN_277 ?gP_277).2.2.2.2.2.2.2.1 (gen10 ?gN_277 ?gP_277).2.2.2.2.2.2.2.2.1 (gen10 ?gN_277 ?gP_277).2.2.2.2.2.2.2.2.2); (case gN_277 => k_extra "my:ne")))
    intros mb gd cn cs ad ccd cl outer base g
    ((refine gen_all10 (ne := ?gN_278) (P := ?gP_278) ((?gf_278 : ∀ a0 a1 a2 a3 a4 a5 a6 a7 a8 a9, ?gP_278 a0 a1 a2 a3 a4 a5 a6 a7 a8 a9) (gen10 ?gN_278 ?gP_278).1 (gen10 ?gN_278 ?gP_278).2.1 (gen10 ?gN_278 ?gP_278).2.2.1 (gen10 ?gN_278 ?gP_278).2.2.2.1 (gen10 ?gN_278 ?gP_278).2.2.2.2.1 (gen10 ?gN_278 ?gP_278).2.2.2.2.2.1 (gen10 ?gN_278 ?gP_278).2.2.2.2.2.2.1 (gen10 ?gN_278 ?gP_278).2.2.2.2.2.2.2.1 (gen10 ?gN_278 ?gP_278).2.2.2.2.2.2.2.2.1 (gen10 ?gN_278 ?gP_278).2.2.2.2.2.2.2.2.2); (case gN_278 => k_extra "my:ne")))
    intros L' L₀ s tk R o' wds oa oc2 t0
    ((refine gen_all10 (ne := ?gN_279) (P := ?gP_279) ((?gf_279 : ∀ a0 a1 a2 a3 a4 a5 a6 a7 a8 a9, ?gP_279 a0 a1 a2 a3 a4 a5 a6 a7 a8 a9) (gen10 ?gN_279 ?gP_279).1 (gen10 ?gN_279 ?gP_279).2.1 (gen10 ?gN_279 ?gP_279).2.2.1 (gen10 ?gN_279 ?gP_279).2.2.2.1 (gen10 ?gN_279 ?gP_279).2.2.2.2.1 (gen10 ?gN_279 ?gP_279).2.2.2.2.2.1 (gen10 ?gN_279 ?gP_279).2.2.2.2.2.2.1 (gen10 ?gN_279 ?gP_279).2.2.2.2.2.2.2.1 (gen10 ?gN_279 ?gP_279).2.2.2.2.2.2.2.2.1 (gen10 ?gN_279 ?gP_279).2.2.2.2.2.2.2.2.2); (case gN_279 => k_extra "my:ne")))
    intros pa wl h10 t6 h11 h12 cl9 ws hz opv
    intro hs hsl hF B' X' hS0 T' d1' lnw lnw1 lnw2 hoc hws hop hoat htpa hpwl hwcl hLoa hLwd hwoa lnc
    walk_at "g4"
    intros cB uB hB9 tkB
    intro hX F' N'
    (try dsimp only at N')
    simp only [kstB] at F'
    (try k_sweep)
    (try dsimp only)
    have hwlen : ((bItems sns).foldl bStep BS0).wt.length ≤ 10 ∧ ((bItems sns).foldl bStep BS0).os.length ≤ 20 ∧ ((bItems sns).foldl bStep BS0).ps.length ≤ 10 := by
      have h1 := fold_len (bItems sns) BS0
      have h2 := items_len sns
      have e1 : BS0.os.length = 2 := rfl
      have e2 : BS0.ps.length = 1 := rfl
      have e3 : BS0.wt.length = 1 := rfl
      omega
    refine ex_in (⟨_, rfl⟩ : ∃ B, B = (bItems sns).foldl bStep BS0) ?_
    walk_at "g1"
    intro B0 hB0
    rw [← hB0] at hX hwlen
    k_extra "my:go"
    refine stop_out ?_
    rename (Fr _ _ _ _) => F'
    rename (News _ _ _ _) => N'
    refine whileR (σ := BC) (TLed cl9 wl pa oa wds (L' + 1 + 1) (L' + 1) ws opv o' oc2 news) (fun _ => [("pieces", .ref pa), ("waiting", .ref wl), ("script", .ref sa)])
      (fun c => BInv L' oa t0 pa wl cl9 c.B c ∧ (∀ k, c.B.wt.length ≤ k → bClose k c.B = FF) ∧ c.B.os.length + c.B.wt.length ≤ 30 ∧ c.B.ps.length + c.B.wt.length ≤ 20)
      (fun c => BInv L' oa t0 pa wl cl9 FF c ∧ FF.os.length ≤ 30 ∧ FF.ps.length ≤ 20) (fun c => c.B.wt.length) cB F' N' (by k_extra "my:names") ?_ ?_ ?_
    · have e := hX.eq
      refine ⟨by rw [e]; exact hX, ?_, by rw [e]; omega, by rw [e]; omega⟩
      rw [e]
      intro k hk
      rw [← hF, bTree, ← hB0]
      exact bClose_any 10 B0 k 10 hwlen.1 hk hwlen.1
    · clear F' N' hX hwlen hB0
      try dsimp only
      rename_i tkz
      as_aux_lemma =>
      revert hs hsl hF B' X' hS0 T' d1' lnw lnw1 lnw2 hoc hws hop hoat htpa hpwl hwcl hLoa hLwd hwoa lnc
      revert w sa svs sns news FF p loose mean mg mb gd cn cs ad ccd cl outer base g L' L₀ s tk R o' wds oa oc2 t0 pa wl h10 t6 h11 h12 cl9 ws hz opv hB9 tkz
      ((refine gen_all10 (ne := ?gN_280) (P := ?gP_280) ((?gf_280 : ∀ a0 a1 a2 a3 a4 a5 a6 a7 a8 a9, ?gP_280 a0 a1 a2 a3 a4 a5 a6 a7 a8 a9) (gen10 ?gN_280 ?gP_280).1 (gen10 ?gN_280 ?gP_280).2.1 (gen10 ?gN_280 ?gP_280).2.2.1 (gen10 ?gN_280 ?gP_280).2.2.2.1 (gen10 ?gN_280 ?gP_280).2.2.2.2.1 (gen10 ?gN_280 ?gP_280).2.2.2.2.2.1 (gen10 ?gN_280 ?gP_280).2.2.2.2.2.2.1 (gen10 ?gN_280 ?gP_280).2.2.2.2.2.2.2.1 (gen10 ?gN_280 ?gP_280).2.2.2.2.2.2.2.2.1 (gen10 ?gN_280 ?gP_280).2.2.2.2.2.2.2.2.2); (case gN_280 => k_extra "my:ne")))
      intros w sa svs sns news FF p loose mean mg
      ((refine gen_all10 (ne := ?gN_281) (P := ?gP_281) ((?gf_281 : ∀ a0 a1 a2 a3 a4 a5 a6 a7 a8 a9, ?gP_281 a0 a1 a2 a3 a4 a5 a6 a7 a8 a9) (gen10 ?gN_281 ?gP_281).1 (gen10 ?gN_281 ?gP_281).2.1 (gen10 ?gN_281 ?gP_281).2.2.1 (gen10 ?gN_281 ?gP_281).2.2.2.1 (gen10 ?gN_281 ?gP_281).2.2.2.2.1 (gen10 ?gN_281 ?gP_281).2.2.2.2.2.1 (gen10 ?gN_281 ?gP_281).2.2.2.2.2.2.1 (gen10 ?gN_281 ?gP_281).2.2.2.2.2.2.2.1 (gen10 ?gN_281 ?gP_281).2.2.2.2.2.2.2.2.1 (gen10 ?gN_281 ?gP_281).2.2.2.2.2.2.2.2.2); (case gN_281 => k_extra "my:ne")))
      intros mb gd cn cs ad ccd cl outer base g
      ((refine gen_all10 (ne := ?gN_282) (P := ?gP_282) ((?gf_282 : ∀ a0 a1 a2 a3 a4 a5 a6 a7 a8 a9, ?gP_282 a0 a1 a2 a3 a4 a5 a6 a7 a8 a9) (gen10 ?gN_282 ?gP_282).1 (gen10 ?gN_282 ?gP_282).2.1 (gen10 ?gN_282 ?gP_282).2.2.1 (gen10 ?gN_282 ?gP_282).2.2.2.1 (gen10 ?gN_282 ?gP_282).2.2.2.2.1 (gen10 ?gN_282 ?gP_282).2.2.2.2.2.1 (gen10 ?gN_282 ?gP_282).2.2.2.2.2.2.1 (gen10 ?gN_282 ?gP_282).2.2.2.2.2.2.2.1 (gen10 ?gN_282 ?gP_282).2.2.2.2.2.2.2.2.1 (gen10 ?gN_282 ?gP_282).2.2.2.2.2.2.2.2.2); (case gN_282 => k_extra "my:ne")))
      intros L' L₀ s tk R o' wds oa oc2 t0
      ((refine gen_all10 (ne := ?gN_283) (P := ?gP_283) ((?gf_283 : ∀ a0 a1 a2 a3 a4 a5 a6 a7 a8 a9, ?gP_283 a0 a1 a2 a3 a4 a5 a6 a7 a8 a9) (gen10 ?gN_283 ?gP_283).1 (gen10 ?gN_283 ?gP_283).2.1 (gen10 ?gN_283 ?gP_283).2.2.1 (gen10 ?gN_283 ?gP_283).2.2.2.1 (gen10 ?gN_283 ?gP_283).2.2.2.2.1 (gen10 ?gN_283 ?gP_283).2.2.2.2.2.1 (gen10 ?gN_283 ?gP_283).2.2.2.2.2.2.1 (gen10 ?gN_283 ?gP_283).2.2.2.2.2.2.2.1 (gen10 ?gN_283 ?gP_283).2.2.2.2.2.2.2.2.1 (gen10 ?gN_283 ?gP_283).2.2.2.2.2.2.2.2.2); (case gN_283 => k_extra "my:ne")))
      intros pa wl h10 t6 h11 h12 cl9 ws hz opv
      walk_at "g2"
      intros hB9 tkz
      intro hs hsl hF B' X' hS0 T' d1' lnw lnw1 lnw2 hoc hws hop hoat htpa hpwl hwcl hLoa hLwd hwoa lnc
      refine prBC ?_
      ((refine gen_all8 (ne := ?gN_284) (P := ?gP_284) ((?gf_284 : ∀ a0 a1 a2 a3 a4 a5 a6 a7, ?gP_284 a0 a1 a2 a3 a4 a5 a6 a7) (gen8 ?gN_284 ?gP_284).1 (gen8 ?gN_284 ?gP_284).2.1 (gen8 ?gN_284 ?gP_284).2.2.1 (gen8 ?gN_284 ?gP_284).2.2.2.1 (gen8 ?gN_284 ?gP_284).2.2.2.2.1 (gen8 ?gN_284 ?gP_284).2.2.2.2.2.1 (gen8 ?gN_284 ?gP_284).2.2.2.2.2.2.1 (gen8 ?gN_284 ?gP_284).2.2.2.2.2.2.2); (case gN_284 => k_extra "my:ne")))
      intros B ov ok pv pk wv wk pt
      walk_at "g3"
      intros u h tk
      rintro ⟨I, hcl, hl1, hl2⟩ F' N'
      simp only [TLed] at N'
      simp only [kstB] at F'
      obtain ⟨Ieq, Ios, Ips, Iwt, Ine, Itg, Ip1, Ip2, Itu⟩ := I
      dsimp only at Ieq Ios Ips Iwt Ine Itg Ip1 Ip2 Itu N' hcl hl1 hl2
      have hol : ov.length ≤ 30 := by have := Ios.length; omega
      have hpl : pv.length ≤ 20 := by have := Ips.1; omega
      have hwl : wv.length ≤ 30 := by have := strsAre_length Iwt; omega
      have hwB : wv.length = B.wt.length := strsAre_length Iwt
      have hq1 : ∀ p ∈ pt, p.1 ≠ oa := ne_of_gtA Ip1 (Nat.le_refl _)
      have hq2 : ∀ p ∈ pt, p.1 ≠ pa := ne_of_out Ip2 (Nat.le_refl _) (by omega)
      have hq3 : ∀ p ∈ pt, p.1 ≠ wl := ne_of_out Ip2 (by omega) (Nat.le_refl _)
      have hIwt := hid_in Iwt
      have hIos := hid_in Ios
      rcases (by omega : 1 < B.wt.length ∨ ¬ 1 < B.wt.length) with hc2 | hc2
      · have hBne : B.wt ≠ [] := fun e => by rw [e] at Ine; simp at Ine
        refine ex_in2 (strsAre_last Iwt hBne) ?_
        walk_at "g2"
        intros p9 t8
        rintro ⟨hwv, hp9⟩
        have hg9 := Itg _ (show B.wt.getLastD (Str.ofString "") ∈ B.wt by rw [List.getLastD_eq_getLast?, List.getLast?_eq_some_getLast hBne]; exact List.getLast_mem hBne)
        refine ex_in (⟨_, rfl⟩ : ∃ yl, yl = B.wt.getLastD (Str.ofString "")) ?_
        walk_at "g1"
        intro yl hyl
        rw [← hyl] at hwv hg9
        rw [hwv] at N' Iwt hwl
        have Iw9 := hid_in Iwt
        have hp9h := hid_in hp9
        have hp9l : p9.length + 1 = B.wt.length := by have := strsAre_length Iwt; simpa using this
        have hyl1 : yl.length ≤ 1 := by rcases hg9 with e | e | e <;> rw [e] <;> decide
        clear Iwt
        k_extra "my:go"
        refine stop_out ?_
        rename (Fr _ _ _ _) => F'
        rename (News _ _ _ _) => N'
        have hwm := (N' (wl, listOf (p9 ++ [Value.str yl t8]).toArray wk) (by k_extra "my:mem")).1
        refine item_list_neg (l := wl) (items := (p9 ++ [Value.str yl t8]).toArray) (x := Value.str yl t8) ⟨_, hwm, rfl, _, rfl⟩ (by decide) (by simp; omega) (by decide) (by simp only [List.size_toArray, List.length_append, List.length_singleton, List.getElem?_toArray]; rw [show (-1 + ((p9.length + 1 : Nat) : Int)).toNat = p9.length by omega]; exact List.getElem?_concat_length) ?_
        k_extra "my:go"
        · rename ((List.any B.wt _) = _) => ha
          rw [any_x] at ha
          have hin := of_decide_eq_true ha
          refine stop_out ?_
          rename (Fr _ _ _ _) => F'
          rename (News _ _ _ _) => N'
          rename_i T9 _ lT _ _
          have hT1 : @LT.lt Nat _ oa T9 := lt_in lT (show (oa, _) ∈ _ by k_extra "my:mem")
          have hT2 : @LT.lt Nat _ wl T9 := lt_in lT (show (wl, _) ∈ _ by k_extra "my:mem")
          (try dsimp only)
          refine kl_pop (its := (p9 ++ [Value.str yl t8]).toArray) (n := wk) (p := p9) (y := Value.str yl t8) F' N' (kpa_last _ _) (by k_upd) (by rw [sizeLine_eq]; show (p9 ++ [Value.str yl t8]).length ≤ _; omega) ?_
          clear F' N'
          walk_at "g1"
          intro h' F' N'
          k_sweep
          simp only [List.push_toArray] at N'
          k_extra "my:go"
          refine' ⟨⟨bEnd B, ov ++ [.int 0 _], ok + 1, pv ++ [.ref T9], pk + 1, p9, wk + 1, (T9, tupOf (endT yl) (Str.ofString "") _ _) :: pt⟩, _, _, _, _, rfl, by k_asm, by k_asm, ?mm, by (((try dsimp only); k_extra "my:inl")), by k_extra "my:names", ?inv⟩
          case mm => simp only [TLed, tupOf, endT, List.cons_append]; (((try dsimp only); k_extra "my:inl"))
          case inv =>
            refine ⟨⟨BInv.next Ips Ip1 Ip2 Itu (ints_one Ios) ?_ (hid_out hp9h) (by show 1 ≤ B.wt.dropLast.length; rw [List.length_dropLast]; omega) (fun y hy => Itg y (List.dropLast_subset _ hy)) (by omega) (by omega), bClose_step hcl hc2, by rw [(bEnd_len B).1, (bEnd_len B).2.2]; omega, by rw [(bEnd_len B).2.1, (bEnd_len B).2.2]; omega⟩, by show (bEnd B).wt.length < B.wt.length; rw [(bEnd_len B).2.2]; omega⟩
            show B.ps ++ [pairOf _ _ _] = _
            rw [← hyl, pairOf, if_pos hin]
        · rename ((List.any B.wt _) = _) => ha
          rw [any_x] at ha
          have hin := of_decide_eq_false ha
          refine stop_out ?_
          (try dsimp only)
          refine SC.upper ?hfit ?_
          case hfit => exact (up_fit hg9).2
          k_extra "my:go"
          refine stop_out ?_
          rename (Fr _ _ _ _) => F'
          rename (News _ _ _ _) => N'
          rename_i T9 _ lT _ _
          have hT1 : @LT.lt Nat _ oa T9 := lt_in lT (show (oa, _) ∈ _ by k_extra "my:mem")
          have hT2 : @LT.lt Nat _ wl T9 := lt_in lT (show (wl, _) ∈ _ by k_extra "my:mem")
          (try dsimp only)
          refine kl_pop (its := (p9 ++ [Value.str yl t8]).toArray) (n := wk) (p := p9) (y := Value.str yl t8) F' N' (kpa_last _ _) (by k_upd) (by rw [sizeLine_eq]; show (p9 ++ [Value.str yl t8]).length ≤ _; omega) ?_
          clear F' N'
          walk_at "g1"
          intro h' F' N'
          k_sweep
          simp only [List.push_toArray] at N'
          k_extra "my:go"
          refine' ⟨⟨bEnd B, ov ++ [.int 0 _], ok + 1, pv ++ [.ref T9], pk + 1, p9, wk + 1, (T9, tupOf (endT yl) (Txt.upper (endT yl)) _ _) :: pt⟩, _, _, _, _, rfl, by k_asm, by k_asm, ?mm, by (((try dsimp only); k_extra "my:inl")), by k_extra "my:names", ?inv⟩
          case mm => simp only [TLed, tupOf, endT, List.cons_append]; (((try dsimp only); k_extra "my:inl"))
          case inv =>
            refine ⟨⟨BInv.next Ips Ip1 Ip2 Itu (ints_one Ios) ?_ (hid_out hp9h) (by show 1 ≤ B.wt.dropLast.length; rw [List.length_dropLast]; omega) (fun y hy => Itg y (List.dropLast_subset _ hy)) (by omega) (by omega), bClose_step hcl hc2, by rw [(bEnd_len B).1, (bEnd_len B).2.2]; omega, by rw [(bEnd_len B).2.1, (bEnd_len B).2.2]; omega⟩, by show (bEnd B).wt.length < B.wt.length; rw [(bEnd_len B).2.2]; omega⟩
            show B.ps ++ [pairOf _ _ _] = _
            rw [← hyl, pairOf, if_neg hin]
      · k_extra "my:go"
        have e := bClose_end hcl hc2
        refine ⟨⟨B, ov, ok, pv, pk, wv, wk, pt⟩, _, _, _, _, rfl, by k_asm, by k_asm, ?mm, by (((try dsimp only); k_extra "my:inl")), by k_extra "my:names", ⟨e, by rw [← e]; exact hid_out hIos, by rw [← e]; exact Ips, by rw [← e]; exact hid_out hIwt, by rw [← e]; exact Ine, by rw [← e]; exact Itg, Ip1, Ip2, Itu⟩, by rw [← e]; omega, by rw [← e]; omega⟩
        case mm => simp only [TLed, List.cons_append]; (((try dsimp only); k_extra "my:inl"))
    · clear F' N' hX hwlen hB0
      try dsimp only
      rename_i tkz
      as_aux_lemma =>
      revert hs hsl hF B' X' hS0 T' d1' lnw lnw1 lnw2 hoc hws hop hoat htpa hpwl hwcl hLoa hLwd hwoa lnc
      revert w sa svs sns news FF p loose mean mg mb gd cn cs ad ccd cl outer base g L' L₀ s tk R o' wds oa oc2 t0 pa wl h10 t6 h11 h12 cl9 ws hz opv hB9 tkz
      ((refine gen_all10 (ne := ?gN_291) (P := ?gP_291) ((?gf_291 : ∀ a0 a1 a2 a3 a4 a5 a6 a7 a8 a9, ?gP_291 a0 a1 a2 a3 a4 a5 a6 a7 a8 a9) (gen10 ?gN_291 ?gP_291).1 (gen10 ?gN_291 ?gP_291).2.1 (gen10 ?gN_291 ?gP_291).2.2.1 (gen10 ?gN_291 ?gP_291).2.2.2.1 (gen10 ?gN_291 ?gP_291).2.2.2.2.1 (gen10 ?gN_291 ?gP_291).2.2.2.2.2.1 (gen10 ?gN_291 ?gP_291).2.2.2.2.2.2.1 (gen10 ?gN_291 ?gP_291).2.2.2.2.2.2.2.1 (gen10 ?gN_291 ?gP_291).2.2.2.2.2.2.2.2.1 (gen10 ?gN_291 ?gP_291).2.2.2.2.2.2.2.2.2); (case gN_291 => k_extra "my:ne")))
      intros w sa svs sns news FF p loose mean mg
      ((refine gen_all10 (ne := ?gN_292) (P := ?gP_292) ((?gf_292 : ∀ a0 a1 a2 a3 a4 a5 a6 a7 a8 a9, ?gP_292 a0 a1 a2 a3 a4 a5 a6 a7 a8 a9) (gen10 ?gN_292 ?gP_292).1 (gen10 ?gN_292 ?gP_292).2.1 (gen10 ?gN_292 ?gP_292).2.2.1 (gen10 ?gN_292 ?gP_292).2.2.2.1 (gen10 ?gN_292 ?gP_292).2.2.2.2.1 (gen10 ?gN_292 ?gP_292).2.2.2.2.2.1 (gen10 ?gN_292 ?gP_292).2.2.2.2.2.2.1 (gen10 ?gN_292 ?gP_292).2.2.2.2.2.2.2.1 (gen10 ?gN_292 ?gP_292).2.2.2.2.2.2.2.2.1 (gen10 ?gN_292 ?gP_292).2.2.2.2.2.2.2.2.2); (case gN_292 => k_extra "my:ne")))
      intros mb gd cn cs ad ccd cl outer base g
      ((refine gen_all10 (ne := ?gN_293) (P := ?gP_293) ((?gf_293 : ∀ a0 a1 a2 a3 a4 a5 a6 a7 a8 a9, ?gP_293 a0 a1 a2 a3 a4 a5 a6 a7 a8 a9) (gen10 ?gN_293 ?gP_293).1 (gen10 ?gN_293 ?gP_293).2.1 (gen10 ?gN_293 ?gP_293).2.2.1 (gen10 ?gN_293 ?gP_293).2.2.2.1 (gen10 ?gN_293 ?gP_293).2.2.2.2.1 (gen10 ?gN_293 ?gP_293).2.2.2.2.2.1 (gen10 ?gN_293 ?gP_293).2.2.2.2.2.2.1 (gen10 ?gN_293 ?gP_293).2.2.2.2.2.2.2.1 (gen10 ?gN_293 ?gP_293).2.2.2.2.2.2.2.2.1 (gen10 ?gN_293 ?gP_293).2.2.2.2.2.2.2.2.2); (case gN_293 => k_extra "my:ne")))
      intros L' L₀ s tk R o' wds oa oc2 t0
      ((refine gen_all10 (ne := ?gN_294) (P := ?gP_294) ((?gf_294 : ∀ a0 a1 a2 a3 a4 a5 a6 a7 a8 a9, ?gP_294 a0 a1 a2 a3 a4 a5 a6 a7 a8 a9) (gen10 ?gN_294 ?gP_294).1 (gen10 ?gN_294 ?gP_294).2.1 (gen10 ?gN_294 ?gP_294).2.2.1 (gen10 ?gN_294 ?gP_294).2.2.2.1 (gen10 ?gN_294 ?gP_294).2.2.2.2.1 (gen10 ?gN_294 ?gP_294).2.2.2.2.2.1 (gen10 ?gN_294 ?gP_294).2.2.2.2.2.2.1 (gen10 ?gN_294 ?gP_294).2.2.2.2.2.2.2.1 (gen10 ?gN_294 ?gP_294).2.2.2.2.2.2.2.2.1 (gen10 ?gN_294 ?gP_294).2.2.2.2.2.2.2.2.2); (case gN_294 => k_extra "my:ne")))
      intros pa wl h10 t6 h11 h12 cl9 ws hz opv
      walk_at "g2"
      intros hB9 tkz
      intro hs hsl hF B' X' hS0 T' d1' lnw lnw1 lnw2 hoc hws hop hoat htpa hpwl hwcl hLoa hLwd hwoa lnc
      refine prBC ?_
      ((refine gen_all8 (ne := ?gN_295) (P := ?gP_295) ((?gf_295 : ∀ a0 a1 a2 a3 a4 a5 a6 a7, ?gP_295 a0 a1 a2 a3 a4 a5 a6 a7) (gen8 ?gN_295 ?gP_295).1 (gen8 ?gN_295 ?gP_295).2.1 (gen8 ?gN_295 ?gP_295).2.2.1 (gen8 ?gN_295 ?gP_295).2.2.2.1 (gen8 ?gN_295 ?gP_295).2.2.2.2.1 (gen8 ?gN_295 ?gP_295).2.2.2.2.2.1 (gen8 ?gN_295 ?gP_295).2.2.2.2.2.2.1 (gen8 ?gN_295 ?gP_295).2.2.2.2.2.2.2); (case gN_295 => k_extra "my:ne")))
      intros BB ov ok pv pk wv wk pt
      walk_at "g3"
      intros u h tk
      rintro ⟨I, hl1, hl2⟩ F' N'
      simp only [TLed] at N'
      simp only [kstB] at F'
      refine ex_in (⟨_, rfl⟩ : ∃ B, B = FF) ?_
      walk_at "g1"
      intro B hBF
      rw [← hBF] at I hl1 hl2
      obtain ⟨Ieq, Ios, Ips, Iwt, Ine, Itg, Ip1, Ip2, Itu⟩ := I
      dsimp only at Ios Ips Iwt Ip1 Ip2 Itu N'
      have hol : ov.length ≤ 30 := by have := Ios.length; omega
      have hpl : pv.length ≤ 20 := by have := Ips.1; omega
      have hq1 : ∀ p ∈ pt, p.1 ≠ oa := ne_of_gtA Ip1 (Nat.le_refl _)
      have hq2 : ∀ p ∈ pt, p.1 ≠ pa := ne_of_out Ip2 (Nat.le_refl _) (by omega)
      have hq4 : ∀ p ∈ pt, p.1 ≠ L' + 1 + 1 := ne_of_gtA Ip1 (by omega)
      (try dsimp only)
      have hIos := Box.mk Ios
      clear Ios Iwt
      k_extra "my:go"
      rename (Fr _ _ _ _) => F'
      rename (News _ _ _ _) => N'
      refine len_list (l := sa) (items := svs.toArray) (isList_keep hS0 F'.keep) (by simp; omega) ?_
      k_extra "my:go"
      refine stop_out ?_
      rename (Fr _ _ _ _) => F'
      rename (News _ _ _ _) => N'
      k_dflt refine PyProof.Rows.LCg.ListComp_U F' (by with_unfolding_all rfl) (by decide) rfl (by decide) rfl ?_
      k_extra "my:go"
      rename (Fr _ _ _ _) => F'
      rename (News _ _ _ _) => N'
      rename_i T9 h9a lT h9b Fz Nz t9a h9c oS hoS t9b
      have hT1 : @LT.lt Nat _ oa T9 := lt_in lT (show (oa, _) ∈ _ by k_extra "my:mem")
      have hT2 : @LT.lt Nat _ wl T9 := lt_in lT (show (wl, _) ∈ _ by k_extra "my:mem")
      simp only [List.push_toArray] at N'
      have hom := (N' (oa, listOf (ov ++ [Value.int 0 _]).toArray (ok + 1)) (by k_extra "my:mem")).1
      refine len_list (l := oa) (items := (ov ++ [Value.int 0 _]).toArray) ⟨_, hom, rfl, _, rfl⟩ (by simp; omega) ?_
      k_extra "my:go"
      refine stop_out ?_
      clear hom
      rename (IsRange _ _ _ _ _ _ _ _) => hrg
      rename (Fr _ _ _ _) => F'
      rename (News _ _ _ _) => N'
      rename (_ = Data.cell (some (Value.int _ _))) => hside
      refine ex_in (oct_tok N') ?_
      walk_at "g1"
      intro ov2 hov2
      rw [← hov2] at N' hrg
      have hI2 : IntsAre ov2 (B.os ++ [0]) := by rw [hov2]; exact ints_one hIos.out
      have hol2 : ov2.length ≤ 31 := by rw [hov2]; simp; omega
      have hoB : ov2.length = (B.os ++ [0]).length := hI2.length
      have hI2h := Box.mk hI2
      clear hI2 hov2
      refine ex_in (named N') ?_
      walk_at "g1"
      rintro nl ⟨hnl, Nb⟩
      have hsm9 : Builtin.Range.small 0 (ov2.length : Int) 1 = true := small_one (by omega) (by omega) (by omega) (by omega)
      have hrn9 : Builtin.Range.rangeSize 0 (ov2.length : Int) 1 = (((B.os ++ [0]).length : Nat) : Int) := by rw [rangeSize_nat, ← hoB]; omega
      refine PyProof.Rows.LCg.CompSrc.range (n := (B.os ++ [0]).length) rfl F' Nb hrg hsm9 hrn9 (by rw [sizeLine_eq]; omega) ?_
      walk_at "g1"
      intro g2
      refine rest_ind (fun i ys nw => nw = nl ∧ IntsAre ys ((octs (B.os ++ [0]) sns.length).take i)) _ ?_ ?_ _ 0 [] _ (Nat.zero_add _) ⟨rfl, .nil⟩
      · walk_at "g2"
        intros ys nw
        rintro ⟨hnw, hS⟩
        replace hnw := hnw.symm
        subst hnw
        walk_at "g3"
        intros D h9 tk9
        intro F9 N9 o9
        clear F' N' Nb hsm9 hrn9 hrg
        rw [hnl] at N9
        have hoc : (octs (B.os ++ [0]) sns.length).length = (B.os ++ [0]).length := by simp [octs]
        rw [← hoc, List.take_length] at hS
        have hyl : ys.length ≤ 40 := by have h9 : ys.length = (octs (B.os ++ [0]) sns.length).length := hS.length; omega
        have hSh := Box.mk hS
        clear hS hoc
        k_extra "my:go"
        rename (Fr _ _ _ _) => F'
        rename (News _ _ _ _) => N'
        rename_i TT _ lTT
        rw [← hBF]
        rw [show (PyProof.Rows.LCg.lst ys) = listOf ys.toArray ys.length from rfl] at N'
        rw [hnl] at o9
        have o9m := off1_memT o9
        refine' ⟨_, _, _, _, _, _, rfl, by k_asm, by k_asm, ?mm, TT, D, pa, ys, pv ++ [Value.ref T9], pk + 1, (T9, tupOf (Str.ofString "</s>") (Str.ofString "</s>") _ _) :: pt, rfl, hSh.out, Ips.snoc, by omega, by simp; omega, ?nn, ?lt, rfl⟩
        case mm =>
          intro p hp
          rcases List.mem_cons.mp hp with rfl | hp
          · exact .head _
          rcases List.mem_cons.mp hp with rfl | hp
          · exact .tail _ (.head _)
          rcases List.mem_cons.mp hp with rfl | hp
          · exact .tail _ (.tail _ (.tail _ (.tail _ (.tail _ (.head _)))))
          rcases List.mem_cons.mp hp with rfl | hp
          · exact .tail _ (.tail _ (.head _))
          iterate 10 refine .tail _ ?_
          exact hp
        case nn => exact fun e => (o9.2.2.2.1 : @Ne Nat pa D) e.symm
        case lt =>
          intro q hq
          have hqL : @LT.lt Nat _ q.1 L' := lnw q hq
          refine ⟨o9m q (by iterate 8 refine .tail _ ?_
                            exact List.mem_append_right _ hq), by omega, fun p hp => ?_⟩
          rcases List.mem_cons.mp hp with rfl | hp
          · show @LT.lt Nat _ q.1 T9; omega
          · have := Ip1 p hp; omega
      · ((refine gen_all6 (ne := ?gN_296) (P := ?gP_296) ((?gf_296 : ∀ a0 a1 a2 a3 a4 a5, ?gP_296 a0 a1 a2 a3 a4 a5) (gen6 ?gN_296 ?gP_296).1 (gen6 ?gN_296 ?gP_296).2.1 (gen6 ?gN_296 ?gP_296).2.2.1 (gen6 ?gN_296 ?gP_296).2.2.2.1 (gen6 ?gN_296 ?gP_296).2.2.2.2.1 (gen6 ?gN_296 ?gP_296).2.2.2.2.2); (case gN_296 => k_extra "my:ne")))
        intros i ys nw v I oI
        ((refine gen_all7 (ne := ?gN_297) (P := ?gP_297) ((?gf_297 : ∀ a0 a1 a2 a3 a4 a5 a6, ?gP_297 a0 a1 a2 a3 a4 a5 a6) (gen7 ?gN_297 ?gP_297).1 (gen7 ?gN_297 ?gP_297).2.1 (gen7 ?gN_297 ?gP_297).2.2.1 (gen7 ?gN_297 ?gP_297).2.2.2.1 (gen7 ?gN_297 ?gP_297).2.2.2.2.1 (gen7 ?gN_297 ?gP_297).2.2.2.2.2.1 (gen7 ?gN_297 ?gP_297).2.2.2.2.2.2); (case gN_297 => k_extra "my:ne")))
        intros C oC D m2 h9 tk9 E9
        rintro hi ⟨hnw, hS⟩ hv hC hx F9 N9 off hne
        replace hnw := hnw.symm
        subst hnw
        refine ex_in hv ?_
        clear hv
        walk_at "g1"
        intro t9 hv
        rw [hv] at hx
        clear hv
        clear F' N' Nb hsm9 hrn9 hrg
        rw [hnl] at N9
        refine ex_in (⟨_, List.getElem?_eq_getElem hi⟩ : ∃ n, (B.os ++ [0])[i]? = some n) ?_
        walk_at "g1"
        intro n9 hn9
        refine ex_in (ints_get (hI2h.out) hn9) ?_
        walk_at "g1"
        intro u9 hu9
        have htk := octs_take (l := sns.length) hn9
        k_extra "my:go"
        refine stop_out ?_
        rename (Fr _ _ _ _) => F'
        rename (News _ _ _ _) => N'
        have hom := (N' (oa, listOf ov2.toArray (ok + 1)) (by k_extra "my:mem")).1
        refine item_listL (k := 0 + (i : Int)) (x := .int n9 u9) ⟨_, hom, rfl, _, rfl⟩ (by omega) (by omega) (by rw [show (0 + (i : Int)).toNat = i by omega]; exact hu9) ?_
        k_extra "my:go"
        refine stop_out ?_
        refine ⟨_, _, nl, rfl, by k_asm, by rw [hnl]; k_asm, off, trivial, rfl, ?_⟩
        rw [htk]
        refine ints_one_eq hS ?_
        have hl9 : svs.length = sns.length := hs.length
        simp only [List.size_toArray, hl9, Int.fmod_eq_emod_of_nonneg _ (show (0 : Int) ≤ 2 by decide)]
        omega
  · intro c hc
    have hl : ws.length = (bItems sns).length := hws.length
    rw [hl, List.take_length] at hc
    exact hc
end
theorem lay_44 : True := by
  k_with "off44" => skip
  exact True.intro
section
/-- the texts that a writer's state stands for, as signs' numbers -/
def cat (l : List Str) : List Nat := l.flatMap (·.cps.toList)
theorem cat_app (a b : List Str) : cat (a ++ b) = cat a ++ cat b := by simp [cat]
theorem cat_one (a : Str) : cat [a] = a.cps.toList := by simp [cat]
theorem cat_nil : cat [] = [] := rfl
def outA (A : AS) : List Nat := cat A.wr ++ (cat A.da).flatMap esc0
theorem cps_app (x y : Str) : (x ++ y).cps.toList = x.cps.toList ++ y.cps.toList := by
  show (x.cps ++ y.cps).toList = _
  simp
theorem outA_flush (A : AS) : outA (aFlush A) = outA A := by
  unfold aFlush
  split
  · rfl
  · unfold outA
    simp only [cat_app, cat_one, cat_nil, escT_cps, join_cps]
    simp [cat]
theorem outA_start {ex : Bool} {A : AS} {y : Str} (h : ¬ (ex = true ∧ (A.ig ≠ 0 ∨ y = Str.ofString "x"))) : outA (aStart ex A y) = outA A ++ (begT y).cps.toList := by
  have hf := (aFlush_dep A).2.2.2
  have ho := outA_flush A
  unfold outA at ho
  rw [hf, cat_nil, List.flatMap_nil, List.append_nil] at ho
  unfold aStart
  rw [if_neg h]
  unfold outA
  simp only [hf, cat_app, cat_one, cat_nil, List.flatMap_nil, List.append_nil, ho, begT, cps_app, List.append_assoc]
theorem outA_end {A : AS} {y : Str} (h : A.ig = 0) : outA (aEnd A y) = outA A ++ (endT y).cps.toList := by
  have hf := (aFlush_dep A).2.2.2
  have ho := outA_flush A
  unfold outA at ho
  rw [hf, cat_nil, List.flatMap_nil, List.append_nil] at ho
  unfold aEnd
  rw [if_neg (by omega)]
  unfold outA
  simp only [hf, cat_app, cat_one, cat_nil, List.flatMap_nil, List.append_nil, ho, endT, cps_app, List.append_assoc]
theorem outA_data {A : AS} {y : Str} (h : A.ig = 0) : outA (aData A y) = outA A ++ (escT y).cps.toList := by
  unfold aData
  rw [if_pos h]
  unfold outA
  simp only [cat_app, cat_one, List.flatMap_append, escT_cps, List.append_assoc]
def tgA (k : Nat) : Str := Txt.item (Str.ofString "sxy") (k : Int)
def tgB (k : Nat) : Str := Txt.item (Str.ofString "sxY") (k : Int)
def up1 (y : Str) : Str := if y = Str.ofString "y" then Str.ofString "Y" else y
def tgs : List Str := [Str.ofString "s", Str.ofString "x", Str.ofString "y"]
theorem tgA_good : ∀ k < 3, GoodTag (tgA k) := by
  intro k hk
  rcases (by omega : k = 0 ∨ k = 1 ∨ k = 2) with rfl | rfl | rfl <;> (unfold GoodTag; decide +kernel)
theorem tgB_good : ∀ k < 3, GoodTag (tgB k) := by
  intro k hk
  rcases (by omega : k = 0 ∨ k = 1 ∨ k = 2) with rfl | rfl | rfl <;> (unfold GoodTag; decide +kernel)
theorem tgB_up {k : Nat} (hk : k < 3) : tgB k = up1 (tgA k) := by
  rcases (by omega : k = 0 ∨ k = 1 ∨ k = 2) with rfl | rfl | rfl <;> decide +kernel
theorem up1_x {y : Str} : up1 y = Str.ofString "x" ↔ y = Str.ofString "x" := by
  unfold up1
  split
  · rename_i h
    rw [h]
    constructor <;> (intro h; exact absurd h (by decide))
  · exact Iff.rfl
/-- how many branches stand from the first x on -/
def igOf : List Str → Nat
  | [] => 0
  | y :: r => if y = Str.ofString "x" then r.length + 1 else igOf r
theorem igOf_x : ∀ {l : List Str}, Str.ofString "x" ∈ l ↔ igOf l ≠ 0
  | [] => by simp [igOf]
  | y :: r => by
    unfold igOf
    by_cases h : y = Str.ofString "x"
    · rw [if_pos h, h]; simp
    · rw [if_neg h, ← igOf_x (l := r), List.mem_cons]
      exact ⟨fun e => e.elim (fun e => absurd e.symm h) id, .inr⟩
theorem igOf_snoc (y : Str) : ∀ l : List Str, igOf (l ++ [y]) = if igOf l ≠ 0 ∨ y = Str.ofString "x" then igOf l + 1 else 0
  | [] => by
    simp only [List.nil_append, igOf]
    by_cases h : y = Str.ofString "x" <;> simp [h]
  | z :: r => by
    rw [List.cons_append]
    by_cases h : z = Str.ofString "x"
    · have e1 : ∀ l : List Str, igOf (z :: l) = l.length + 1 := fun l => if_pos h
      rw [e1, e1, if_pos (.inl (by omega))]; simp
    · have e1 : ∀ l : List Str, igOf (z :: l) = igOf l := fun l => if_neg h
      rw [e1, e1]; exact igOf_snoc y r
theorem igOf_last {l : List Str} (h : l ≠ []) : igOf l.dropLast = if igOf l ≠ 0 then igOf l - 1 else 0 := by
  obtain ⟨p, y, rfl⟩ : ∃ p y, l = p ++ [y] := ⟨_, _, (List.dropLast_concat_getLast h).symm⟩
  rw [List.dropLast_concat, igOf_snoc]
  by_cases h1 : igOf p ≠ 0 ∨ y = Str.ofString "x"
  · rw [if_pos h1, if_pos (by omega)]; omega
  · rw [if_neg h1]
    simp only [not_or, ne_eq, Decidable.not_not] at h1
    simp [h1.1]
theorem octs_snoc (os : List Int) (a : Int) (l : Nat) : octs (os ++ [a]) l = octs os l ++ [a + 128 * (((os.length : Int) + (l : Int) % 2) % 2)] := by
  have h : (os ++ [a])[os.length]? = some a := List.getElem?_concat_length
  have h1 := octs_take (l := l) h
  have h2 : (octs (os ++ [a]) l).take os.length = octs os l := by
    unfold octs
    rw [← List.map_take, List.length_append, List.length_singleton, List.take_range, Nat.min_eq_left (by omega)]
    refine List.map_congr_left fun k hk => ?_
    have hk : k < os.length := List.mem_range.mp hk
    rw [List.getD_eq_getElem?_getD, List.getElem?_append_left hk, ← List.getD_eq_getElem?_getD]
  have h3 : (octs (os ++ [a]) l).length = os.length + 1 := by simp [octs]
  rw [h2, List.take_of_length_le (by omega)] at h1
  exact h1
theorem pvGo_app (l2 : List Int) : ∀ (l : List Int) (val b V : Int) (r : List Int), pvGo val b l = some (V, r) → pvGo val b (l ++ l2) = some (V, r ++ l2)
  | [], val, b, V, r, h => by
    simp only [pvGo] at h
    split at h
    · cases h
    · rename_i hb
      cases h
      cases l2 with
      | nil => simp [pvGo, hb]
      | cons c l2 => simp [pvGo, hb]
  | c :: l, val, b, V, r, h => by
    simp only [List.cons_append, pvGo] at h ⊢
    split at h
    · rename_i hb
      rw [if_pos hb]; exact pvGo_app l2 l _ _ _ _ h
    · rename_i hb
      rw [if_neg hb]; cases h; rfl
theorem Codes.app {l2 : List Int} {s2 : List Sy} (h2 : Codes l2 s2) : ∀ {l1 : List Int} {s1 : List Sy}, Codes l1 s1 → Codes (l1 ++ l2) (s1 ++ s2) := by
  intro l1 s1 h1
  induction h1 with
  | nil => exact h2
  | cons h t ih => exact .cons (pvGo_app l2 _ _ _ _ _ h) ih
theorem codes_low {n q : Int} {s : Sy} (hs : s.code = n) (h0 : 0 ≤ n) (h1 : n < 64) (hq : q = 0 ∨ q = 1) : Codes [n + 128 * q] [s] := by
  refine .cons (r := []) ?_ .nil
  simp only [pvGo]
  rw [if_neg (by omega), hs]
  congr 2
  omega
theorem codes_high {k : Nat} {q q' : Int} (hk : k < 3) (hq : q = 0 ∨ q = 1) (hq' : q' = 0 ∨ q' = 1) : Codes [68 + 128 * q, (k : Int) + 128 * q'] [.st k] := by
  refine .cons (r := []) ?_ .nil
  simp only [pvGo]
  rw [if_pos (by omega), if_neg (by omega)]
  simp only [Sy.code]
  congr 2
  omega
theorem par (a b : Int) : (a + b) % 2 = 0 ∨ (a + b) % 2 = 1 := by omega
theorem run_snoc (ex : Bool) (tg : Nat → Str) (s : Sy) : ∀ (ss : List Sy) (T : TS), RunOk ex tg T ss → SyOk (ss.foldl (tStep ex tg) T) s → RunOk ex tg T (ss ++ [s])
  | [], T, _, h => ⟨h, trivial⟩
  | z :: ss, T, ⟨h1, h2⟩, h => ⟨h1, run_snoc ex tg s ss _ h2 h⟩
def T1 (ss : List Sy) : TS := ss.foldl (tStep false tgA) TS0
def T2 (ss : List Sy) : TS := ss.foldl (tStep true tgB) TS0
theorem T1_snoc (ss : List Sy) (s : Sy) : T1 (ss ++ [s]) = tStep false tgA (T1 ss) s := by simp [T1]
theorem T2_snoc (ss : List Sy) (s : Sy) : T2 (ss ++ [s]) = tStep true tgB (T2 ss) s := by simp [T2]
/-- a piece, and what of it stays when what is in some x is left out -/
structure Piece (p : Str × Str) : Prop where
  part : Part mS (chs p.2) (chs p.1)
  len : p.1.length ≤ 15
  noY : Str.ofString "Y" ∉ chs p.1
theorem Part.rfl' : ∀ l : List Str, Part mS l l
  | [] => .nil_left _
  | _ :: l => .keep (.inl rfl) (Part.rfl' l)
theorem Piece.same {a : Str} (h1 : a.length ≤ 15) (h2 : Str.ofString "Y" ∉ chs a) : Piece (a, a) := ⟨Part.rfl' _, h1, h2⟩
theorem Piece.gone {a : Str} (h1 : a.length ≤ 15) (h2 : Str.ofString "Y" ∉ chs a) : Piece (a, Str.ofString "") := ⟨.nil_left _, h1, h2⟩
structure Both (B : BS) (ss : List Sy) : Prop where
  codes : ∀ l, Codes (octs B.os l) ss
  os : ∀ n ∈ B.os, 0 ≤ n ∧ n ≤ 68
  run1 : RunOk false tgA TS0 ss
  run2 : RunOk true tgB TS0 ss
  wt1 : (T1 ss).wt = B.wt
  wt2 : (T2 ss).wt = B.wt.map up1
  ig1 : (T1 ss).A.ig = 0
  rs1 : (T1 ss).A.rs = true
  rs2 : (T2 ss).A.rs = true
  o1 : outA (T1 ss).A = cat (B.ps.map (·.1))
  o2 : outA (T2 ss).A = cat (B.ps.map (·.2))
  ig2 : (T2 ss).A.ig = igOf B.wt
  hd : ∃ r, B.wt = Str.ofString "s" :: r ∧ ∀ y ∈ r, y = Str.ofString "x" ∨ y = Str.ofString "y"
  pr : ∀ p ∈ B.ps, Piece p
theorem aEnd_ig0 {A : AS} {y : Str} (h : A.ig = 0) : (aEnd A y).ig = 0 ∧ (aEnd A y).rs = A.rs := by
  have hf := aFlush_dep A
  unfold aEnd
  rw [if_neg (by omega)]
  exact ⟨hf.2.1.trans h, hf.2.2.1⟩
theorem aEnd_ig1 {A : AS} {y : Str} (h : A.ig ≠ 0) : aEnd A y = { A with ig := A.ig - 1 } := if_pos h
theorem both0 : Both BS0 [.st 0] := by
  refine ⟨fun l => ?_, by decide, ⟨show 0 < 3 by decide, trivial⟩, ⟨show 0 < 3 by decide, trivial⟩, by decide +kernel, by decide +kernel, rfl, rfl, rfl, by decide +kernel, by decide +kernel, by decide +kernel, ⟨[], rfl, fun y hy => nomatch hy⟩, ?_⟩
  · have e : octs BS0.os l = [68 + 128 * (((0 : Nat) + (l : Int) % 2) % 2), ((0 : Nat) : Int) + 128 * (((1 : Nat) + (l : Int) % 2) % 2)] := rfl
    rw [e]
    exact codes_high (by decide) (par _ _) (par _ _)
  · intro p hp
    rw [List.mem_singleton.mp hp]
    exact Piece.same (by decide) (by decide +kernel)
/-- the steps -/
theorem mem_tgs {B : BS} {ss : List Sy} (h : Both B ss) : B.wt ≠ [] := by
  obtain ⟨r, e, _⟩ := h.hd
  rw [e]; simp
theorem pieces_app (ps : List (Str × Str)) (a b : Str) : cat ((ps ++ [(a, b)]).map (·.1)) = cat (ps.map (·.1)) ++ a.cps.toList ∧ cat ((ps ++ [(a, b)]).map (·.2)) = cat (ps.map (·.2)) ++ b.cps.toList := by
  simp [cat_app, cat_one]
theorem nil_cps : (Str.ofString "").cps.toList = [] := rfl
theorem Both.start {B : BS} {ss : List Sy} (h : Both B ss) {k : Nat} {y : Str} (hk : k = 1 ∨ k = 2) (hy : y = tgA k) :
    Both ⟨B.os ++ [68, (k : Int)], B.ps ++ [pairOf (B.wt ++ [y]) (begT y) (Txt.upper (begT y))], B.wt ++ [y]⟩ (ss ++ [.st k]) := by
  have hk3 : k < 3 := by omega
  have hxy : y = Str.ofString "x" ∨ y = Str.ofString "y" := by
    rw [hy]
    rcases hk with rfl | rfl
    · left; decide +kernel
    · right; decide +kernel
  have hup : Txt.upper (begT y) = begT (up1 y) ∨ y = Str.ofString "x" := by
    rcases hxy with rfl | rfl
    · exact .inr rfl
    · left; decide +kernel
  have hx : Str.ofString "x" ∈ B.wt ++ [y] ↔ (igOf B.wt ≠ 0 ∨ y = Str.ofString "x") := by
    rw [List.mem_append, List.mem_singleton, igOf_x]
    exact ⟨fun e => e.imp id Eq.symm, fun e => e.imp id Eq.symm⟩
  have hs1 : aStart false (T1 ss).A (tgA k) = { aFlush (T1 ss).A with wr := (aFlush (T1 ss).A).wr ++ [Str.ofString "<" ++ tgA k] ++ [Str.ofString ">"], dep := (T1 ss).A.dep + 1, rs := true } := if_neg (by simp)
  have hpc : Piece (pairOf (B.wt ++ [y]) (begT y) (Txt.upper (begT y))) := by
    unfold pairOf
    split
    · rcases hxy with rfl | rfl
      · exact Piece.gone (by decide) (by decide +kernel)
      · exact Piece.gone (by decide) (by decide +kernel)
    · rename_i hn
      rcases hxy with rfl | rfl
      · exact absurd (hx.mpr (.inr rfl)) hn
      · refine ⟨?_, by decide, by decide +kernel⟩
        show Part mS (chs (Txt.upper (begT (Str.ofString "y")))) (chs (begT (Str.ofString "y")))
        rw [show chs (Txt.upper (begT (Str.ofString "y"))) = [Str.ofString "<", Str.ofString "Y", Str.ofString ">"] by decide +kernel, show chs (begT (Str.ofString "y")) = [Str.ofString "<", Str.ofString "y", Str.ofString ">"] by decide +kernel]
        exact .keep (.inl rfl) (.keep (.inr ⟨rfl, rfl⟩) (.keep (.inl rfl) (.nil_left _)))
  have hpa := pieces_app B.ps (pairOf (B.wt ++ [y]) (begT y) (Txt.upper (begT y))).1 (pairOf (B.wt ++ [y]) (begT y) (Txt.upper (begT y))).2
  refine ⟨fun l => ?_, ?_, run_snoc _ _ _ _ _ h.run1 hk3, run_snoc _ _ _ _ _ h.run2 hk3, ?_, ?_, ?_, ?_, ?_, ?_, ?_, ?_, ?_, ?_⟩
  · have e : octs (B.os ++ [68, (k : Int)]) l = octs B.os l ++ [68 + 128 * (((B.os.length : Int) + (l : Int) % 2) % 2), (k : Int) + 128 * ((((B.os ++ [68]).length : Nat) + (l : Int) % 2) % 2)] := by
      rw [show B.os ++ [68, (k : Int)] = (B.os ++ [68]) ++ [(k : Int)] by simp, octs_snoc, octs_snoc]; simp
    show Codes (octs (B.os ++ [68, (k : Int)]) l) _
    rw [e]
    exact Codes.app (codes_high hk3 (par _ _) (par _ _)) (h.codes l)
  · intro n hn
    rcases List.mem_append.mp hn with hn | hn
    · exact h.os n hn
    · simp only [List.mem_cons, List.not_mem_nil, or_false] at hn
      omega
  · rw [T1_snoc]; show (T1 ss).wt ++ [tgA k] = B.wt ++ [y]; rw [h.wt1, hy]
  · rw [T2_snoc]; show (T2 ss).wt ++ [tgB k] = (B.wt ++ [y]).map up1; rw [h.wt2, hy, tgB_up hk3]; simp
  · rw [T1_snoc]; show (aStart false (T1 ss).A (tgA k)).ig = 0; rw [hs1]; exact (aFlush_dep _).2.1.trans h.ig1
  · rw [T1_snoc]; show (aStart false (T1 ss).A (tgA k)).rs = true; rw [hs1]
  · rw [T2_snoc]; show (aStart true (T2 ss).A (tgB k)).rs = true
    unfold aStart
    split
    · exact h.rs2
    · rfl
  · rw [T1_snoc]; show outA (aStart false (T1 ss).A (tgA k)) = _
    rw [outA_start (by simp), h.o1, ← hy]
    exact hpa.1.symm
  · rw [T2_snoc]; show outA (aStart true (T2 ss).A (tgB k)) = cat ((B.ps ++ [pairOf (B.wt ++ [y]) (begT y) (Txt.upper (begT y))]).map (·.2))
    rw [show cat ((B.ps ++ [pairOf (B.wt ++ [y]) (begT y) (Txt.upper (begT y))]).map (·.2)) = _ from hpa.2, tgB_up hk3, ← hy]
    by_cases hin : Str.ofString "x" ∈ B.wt ++ [y]
    · have e : aStart true (T2 ss).A (up1 y) = { (T2 ss).A with ig := (T2 ss).A.ig + 1 } := if_pos ⟨rfl, by rw [h.ig2, up1_x]; exact hx.mp hin⟩
      have e2 : (pairOf (B.wt ++ [y]) (begT y) (Txt.upper (begT y))).2 = Str.ofString "" := by unfold pairOf; rw [if_pos hin]
      rw [e, e2, nil_cps, List.append_nil]
      exact h.o2
    · have hn : ¬ (igOf B.wt ≠ 0 ∨ y = Str.ofString "x") := fun e => hin (hx.mpr e)
      have e2 : (pairOf (B.wt ++ [y]) (begT y) (Txt.upper (begT y))).2 = Txt.upper (begT y) := by unfold pairOf; rw [if_neg hin]
      rw [outA_start (by rw [h.ig2, up1_x]; exact fun e => hn e.2), h.o2, e2]
      rcases hup with hu | hu
      · rw [hu]
      · exact absurd (.inr hu) hn
  · rw [T2_snoc]; show (aStart true (T2 ss).A (tgB k)).ig = igOf (B.wt ++ [y])
    rw [igOf_snoc, tgB_up hk3, ← hy]
    by_cases hn : igOf B.wt ≠ 0 ∨ y = Str.ofString "x"
    · have e : aStart true (T2 ss).A (up1 y) = { (T2 ss).A with ig := (T2 ss).A.ig + 1 } := if_pos ⟨rfl, by rw [h.ig2, up1_x]; exact hn⟩
      rw [e, if_pos hn, ← h.ig2]
    · have e : aStart true (T2 ss).A (up1 y) = { aFlush (T2 ss).A with wr := (aFlush (T2 ss).A).wr ++ [Str.ofString "<" ++ up1 y] ++ [Str.ofString ">"], dep := (T2 ss).A.dep + 1, rs := true } := if_neg (by rw [h.ig2, up1_x]; exact fun e => hn e.2)
      rw [e, if_neg hn]
      have := (aFlush_dep (T2 ss).A).2.1
      have h9 := h.ig2
      show (aFlush (T2 ss).A).ig = 0
      rw [this, h9]
      simp only [not_or, ne_eq, Decidable.not_not] at hn
      exact hn.1
  · obtain ⟨r, e, hr⟩ := h.hd
    refine ⟨r ++ [y], by show B.wt ++ [y] = _; rw [e]; rfl, fun z hz => ?_⟩
    rcases List.mem_append.mp hz with hz | hz
    · exact hr z hz
    · rw [List.mem_singleton.mp hz]; exact hxy
  · intro p hp
    rcases List.mem_append.mp hp with hp | hp
    · exact h.pr p hp
    · rw [List.mem_singleton.mp hp]; exact hpc
theorem last_map (f : Str → Str) {l : List Str} (h : l ≠ []) (d e : Str) : (l.map f).getLastD d = f (l.getLastD e) := by
  obtain ⟨p, y, rfl⟩ : ∃ p y, l = p ++ [y] := ⟨_, _, (List.dropLast_concat_getLast h).symm⟩
  simp
/-- an end, told as u -/
theorem Both.end' {B : BS} {ss : List Sy} (h : Both B ss) {u v : Str} (hu : u = endT (B.wt.getLastD (Str.ofString ""))) (hv : v = if igOf B.wt ≠ 0 then Str.ofString "" else endT (up1 (B.wt.getLastD (Str.ofString "")))) :
    (∀ l, Codes (octs (B.os ++ [0]) l) (ss ++ [.en])) ∧ (∀ n ∈ B.os ++ [0], 0 ≤ n ∧ n ≤ 68) ∧ RunOk false tgA TS0 (ss ++ [.en]) ∧ RunOk true tgB TS0 (ss ++ [.en]) ∧ (T1 (ss ++ [.en])).wt = B.wt.dropLast ∧ (T2 (ss ++ [.en])).wt = B.wt.dropLast.map up1 ∧
      (T1 (ss ++ [.en])).A.ig = 0 ∧ (T1 (ss ++ [.en])).A.rs = true ∧ (T2 (ss ++ [.en])).A.rs = true ∧ outA (T1 (ss ++ [.en])).A = cat ((B.ps ++ [(u, v)]).map (·.1)) ∧ outA (T2 (ss ++ [.en])).A = cat ((B.ps ++ [(u, v)]).map (·.2)) ∧ (T2 (ss ++ [.en])).A.ig = igOf B.wt.dropLast := by
  have hne := mem_tgs h
  have hpa := pieces_app B.ps u v
  have hl2 : (T2 ss).wt.getLastD (Str.ofString "") = up1 (B.wt.getLastD (Str.ofString "")) := by rw [h.wt2]; exact last_map _ hne _ _
  refine ⟨fun l => ?_, ?_, run_snoc _ _ _ _ _ h.run1 ?_, run_snoc _ _ _ _ _ h.run2 ?_, ?_, ?_, ?_, ?_, ?_, ?_, ?_, ?_⟩
  · rw [octs_snoc]
    exact Codes.app (codes_low (s := .en) (n := 0) rfl (by decide) (by decide) (par _ _)) (h.codes l)
  · intro n hn
    rcases List.mem_append.mp hn with hn | hn
    · exact h.os n hn
    · rw [List.mem_singleton.mp hn]; decide
  · show (T1 ss).wt ≠ []; rw [h.wt1]; exact hne
  · show (T2 ss).wt ≠ []; rw [h.wt2]; simpa using hne
  · rw [T1_snoc]; show (T1 ss).wt.dropLast = _; rw [h.wt1]
  · rw [T2_snoc]; show (T2 ss).wt.dropLast = _; rw [h.wt2, List.map_dropLast]
  · rw [T1_snoc]; exact (aEnd_ig0 h.ig1).1
  · rw [T1_snoc]; exact (aEnd_ig0 h.ig1).2.trans h.rs1
  · rw [T2_snoc]; show (aEnd (T2 ss).A _).rs = true
    by_cases hi : (T2 ss).A.ig = 0
    · exact (aEnd_ig0 hi).2.trans h.rs2
    · rw [aEnd_ig1 hi]; exact h.rs2
  · rw [T1_snoc]; show outA (aEnd (T1 ss).A _) = _
    rw [outA_end h.ig1, h.wt1, h.o1, hpa.1, hu]
  · rw [T2_snoc]; show outA (aEnd (T2 ss).A ((T2 ss).wt.getLastD (Str.ofString ""))) = _
    rw [hpa.2, hv, hl2]
    by_cases hi : (T2 ss).A.ig = 0
    · rw [outA_end hi, h.o2, if_neg (by rw [← h.ig2]; omega)]
    · rw [aEnd_ig1 hi, if_pos (by rw [← h.ig2]; exact hi), nil_cps, List.append_nil]
      exact h.o2
  · rw [T2_snoc]; show (aEnd (T2 ss).A _).ig = _
    rw [igOf_last hne, ← h.ig2]
    by_cases hi : (T2 ss).A.ig = 0
    · rw [if_neg (by omega)]; exact (aEnd_ig0 hi).1
    · rw [aEnd_ig1 hi, if_pos hi]
theorem Both.stop {B : BS} {ss : List Sy} (h : Both B ss) (h1 : 1 < B.wt.length) : Both (bEnd B) (ss ++ [.en]) := by
  obtain ⟨r, er, hr⟩ := h.hd
  have hrn : r ≠ [] := by rintro rfl; rw [er] at h1; simp at h1
  obtain ⟨p, y, rfl⟩ : ∃ p y, r = p ++ [y] := ⟨_, _, (List.dropLast_concat_getLast hrn).symm⟩
  have hl : B.wt.getLastD (Str.ofString "") = y := by rw [er, ← List.cons_append]; exact List.getLastD_concat ..
  have hxy := hr y (by simp)
  have hdl : B.wt.dropLast = Str.ofString "s" :: p := by rw [er, ← List.cons_append, List.dropLast_concat]
  have hup : Txt.upper (endT y) = endT (up1 y) ∨ y = Str.ofString "x" := by
    rcases hxy with rfl | rfl
    · exact .inr rfl
    · left; decide +kernel
  have hpo : pairOf B.wt (endT y) (Txt.upper (endT y)) = (endT y, if igOf B.wt ≠ 0 then Str.ofString "" else endT (up1 y)) := by
    unfold pairOf
    by_cases hx : Str.ofString "x" ∈ B.wt
    · rw [if_pos hx, if_pos (igOf_x.mp hx)]
    · rw [if_neg hx, if_neg (fun e => hx (igOf_x.mpr e))]
      rcases hup with hu | hu
      · rw [hu]
      · exact absurd (by rw [er, hu]; simp) hx
  obtain ⟨a1, a2, a3, a4, a5, a6, a7, a8, a9, a10, a11, a12⟩ := h.end' (u := endT y) (v := if igOf B.wt ≠ 0 then Str.ofString "" else endT (up1 y)) (by rw [hl]) (by rw [hl])
  have hpc : Piece (pairOf B.wt (endT y) (Txt.upper (endT y))) := by
    unfold pairOf
    split
    · rcases hxy with rfl | rfl
      · exact Piece.gone (by decide) (by decide +kernel)
      · exact Piece.gone (by decide) (by decide +kernel)
    · rename_i hn
      rcases hxy with rfl | rfl
      · exact absurd (by rw [er]; simp) hn
      · refine ⟨?_, by decide, by decide +kernel⟩
        show Part mS (chs (Txt.upper (endT (Str.ofString "y")))) (chs (endT (Str.ofString "y")))
        rw [show chs (Txt.upper (endT (Str.ofString "y"))) = [Str.ofString "<", Str.ofString "/", Str.ofString "Y", Str.ofString ">"] by decide +kernel, show chs (endT (Str.ofString "y")) = [Str.ofString "<", Str.ofString "/", Str.ofString "y", Str.ofString ">"] by decide +kernel]
        exact .keep (.inl rfl) (.keep (.inl rfl) (.keep (.inr ⟨rfl, rfl⟩) (.keep (.inl rfl) (.nil_left _))))
  have hb : bEnd B = ⟨B.os ++ [0], B.ps ++ [(endT y, if igOf B.wt ≠ 0 then Str.ofString "" else endT (up1 y))], B.wt.dropLast⟩ := by
    unfold bEnd
    rw [hl, hpo]
  rw [hpo] at hpc
  rw [hb]
  refine ⟨a1, a2, a3, a4, a5, a6, a7, a8, a9, a10, a11, a12, ⟨p, hdl, fun z hz => hr z (by simp [hz])⟩, fun q hq => ?_⟩
  rcases List.mem_append.mp hq with hq | hq
  · exact h.pr q hq
  · rw [List.mem_singleton.mp hq]; exact hpc
theorem ops_p1 : ∀ y ∈ ops, (y.cps.toList.flatMap esc0).length ≤ 15 ∧ 89 ∉ y.cps.toList.flatMap esc0 := by decide +kernel
theorem ops_piece : ∀ y ∈ ops, (escT y).length ≤ 15 ∧ Str.ofString "Y" ∉ chs (escT y) := by
  intro y hy
  have h := ops_p1 y hy
  rw [← escT_cps] at h
  refine ⟨by simpa [Str.length] using h.1, fun hm => h.2 ?_⟩
  obtain ⟨c, hc, e⟩ := List.mem_map.mp hm
  have : (⟨#[c]⟩ : Str) = ⟨#[89]⟩ := e
  injection this with e2
  have e3 : c = 89 := by simpa using e2
  rw [← e3]; exact hc
theorem Both.op {B : BS} {ss : List Sy} (h : Both B ss) {i : Nat} (hi : i < 48) : Both ⟨B.os ++ [7 + (i : Int)], B.ps ++ [pairOf B.wt (escT (ops.getD i (Str.ofString ""))) (escT (ops.getD i (Str.ofString "")))], B.wt⟩ (ss ++ [.op i]) := by
  have hm := ops_piece _ (ops_at hi)
  obtain ⟨e, he⟩ : ∃ e, e = escT (ops.getD i (Str.ofString "")) := ⟨_, rfl⟩
  rw [← he] at hm ⊢
  have hpa := pieces_app B.ps (pairOf B.wt e e).1 (pairOf B.wt e e).2
  refine ⟨fun l => ?_, ?_, run_snoc _ _ _ _ _ h.run1 ⟨hi, h.rs1⟩, run_snoc _ _ _ _ _ h.run2 ⟨hi, h.rs2⟩, ?_, ?_, ?_, ?_, ?_, ?_, ?_, ?_, h.hd, ?_⟩
  · show Codes (octs (B.os ++ [7 + (i : Int)]) l) _
    rw [octs_snoc]
    exact Codes.app (codes_low (by simp only [Sy.code]; omega) (by omega) (by omega) (par _ _)) (h.codes l)
  · intro n hn
    rcases List.mem_append.mp hn with hn | hn
    · exact h.os n hn
    · rw [List.mem_singleton.mp hn]; omega
  · rw [T1_snoc]; exact h.wt1
  · rw [T2_snoc]; exact h.wt2
  · rw [T1_snoc]; show (aData (T1 ss).A _).ig = 0; unfold aData; rw [if_pos h.ig1]; exact h.ig1
  · rw [T1_snoc]; show (aData (T1 ss).A _).rs = true; unfold aData; rw [if_pos h.ig1]; exact h.rs1
  · rw [T2_snoc]; show (aData (T2 ss).A _).rs = true; unfold aData; split <;> exact h.rs2
  · rw [T1_snoc]; show outA (aData (T1 ss).A _) = _
    rw [outA_data h.ig1, h.o1, ← he]
    exact hpa.1.symm
  · rw [T2_snoc]; show outA (aData (T2 ss).A (ops.getD i (Str.ofString ""))) = cat ((B.ps ++ [pairOf B.wt e e]).map (·.2))
    rw [show cat ((B.ps ++ [pairOf B.wt e e]).map (·.2)) = _ from hpa.2]
    by_cases hx : Str.ofString "x" ∈ B.wt
    · have e2 : (pairOf B.wt e e).2 = Str.ofString "" := by unfold pairOf; rw [if_pos hx]
      have e3 : aData (T2 ss).A (ops.getD i (Str.ofString "")) = (T2 ss).A := if_neg (by rw [h.ig2]; exact igOf_x.mp hx)
      rw [e2, e3, nil_cps, List.append_nil]
      exact h.o2
    · have e2 : (pairOf B.wt e e).2 = e := by unfold pairOf; rw [if_neg hx]
      have hz : (T2 ss).A.ig = 0 := by
        rw [h.ig2]
        exact Decidable.not_not.mp fun q => hx (igOf_x.mpr q)
      rw [outA_data hz, h.o2, e2, ← he]
  · rw [T2_snoc]; show (aData (T2 ss).A _).ig = _; unfold aData; split <;> exact h.ig2
  · intro p hp
    rcases List.mem_append.mp hp with hp | hp
    · exact h.pr p hp
    · rw [List.mem_singleton.mp hp]
      unfold pairOf
      split
      · exact Piece.gone hm.1 hm.2
      · exact Piece.same hm.1 hm.2
theorem Both.step {B : BS} {ss : List Sy} (h : Both B ss) (x : Int) : ∃ s, Both (bStep B x) (ss ++ [s]) := by
  unfold bStep
  by_cases h1 : x % 4 < 2
  · rw [if_pos h1]
    obtain ⟨k, hk⟩ : ∃ k : Nat, (k : Int) = 1 + x % 4 := ⟨(1 + x % 4).toNat, by omega⟩
    refine ⟨.st k, ?_⟩
    rw [← hk]
    refine h.start (by omega) ?_
    unfold xyOf
    rcases (by omega : x % 4 = 0 ∨ x % 4 = 1) with e | e
    · have : k = 1 := by omega
      rw [e, this]; decide +kernel
    · have : k = 2 := by omega
      rw [e, this]; decide +kernel
  · rw [if_neg h1]
    by_cases h2 : x % 4 = 2 ∧ 1 < B.wt.length
    · rw [if_pos h2]; exact ⟨_, h.stop h2.2⟩
    · rw [if_neg h2]
      refine ⟨.op (x / 4 % 48).toNat, ?_⟩
      have := h.op (i := (x / 4 % 48).toNat) (by omega)
      rw [show (((x / 4 % 48).toNat : Nat) : Int) = x / 4 % 48 by omega] at this
      exact this
theorem bStep_ps (B : BS) (x : Int) : ∃ p, (bStep B x).ps = B.ps ++ [p] := by
  unfold bStep
  split
  · exact ⟨_, rfl⟩
  · split
    · exact ⟨_, rfl⟩
    · exact ⟨_, rfl⟩
theorem Both.fold : ∀ (l : List Int) {B : BS} {ss : List Sy}, Both B ss → ∃ more m2, Both (l.foldl bStep B) (ss ++ more) ∧ more.length = l.length ∧ (l.foldl bStep B).ps = B.ps ++ m2
  | [], B, ss, h => ⟨[], [], by simpa using h, rfl, by simp⟩
  | x :: l, B, ss, h => by
    obtain ⟨s, hs⟩ := h.step x
    obtain ⟨more, m2, h1, h2, h3⟩ := Both.fold l hs
    obtain ⟨p, hp⟩ := bStep_ps B x
    exact ⟨s :: more, p :: m2, by simpa using h1, by simp [h2], by rw [List.foldl_cons, h3, hp]; simp⟩
theorem Both.close : ∀ (k : Nat) {B : BS} {ss : List Sy}, Both B ss → B.wt.length ≤ k + 1 → ∃ more m2, Both (bClose k B) (ss ++ more) ∧ more.length ≤ k ∧ (bClose k B).ps = B.ps ++ m2 ∧ (bClose k B).wt.length ≤ 1
  | 0, B, ss, h, hl => ⟨[], [], by simpa [bClose] using h, Nat.le_refl _, by simp [bClose], by simpa [bClose] using hl⟩
  | k + 1, B, ss, h, hl => by
    unfold bClose
    by_cases h1 : 1 < B.wt.length
    · rw [if_pos h1]
      have hs := h.stop h1
      obtain ⟨more, m2, h2, h3, h4, h5⟩ := Both.close k hs (by rw [(bEnd_len B).2.2]; omega)
      exact ⟨.en :: more, _ :: m2, by simpa using h2, by simp; omega, by rw [h4]; simp only [bEnd, List.append_assoc]; rfl, h5⟩
    · rw [if_neg h1]
      exact ⟨[], [], by simpa using h, by simp, by simp, by omega⟩
def allPs (ns : List Int) : List (Str × Str) := (bTree ns).ps ++ [(Str.ofString "</s>", Str.ofString "</s>")]
def wholeOf (ns : List Int) : Str := Txt.join (Str.ofString "") ((allPs ns).map (·.1))
def leftOf (ns : List Int) : Str := Txt.join (Str.ofString "") ((allPs ns).map (·.2))
def P5 : List (Str × Str) := [(Str.ofString "<s>", Str.ofString "<s>"), (Str.ofString "<y>", Str.ofString "<Y>"), (Str.ofString "</y>", Str.ofString "</Y>"), (Str.ofString "<x>", Str.ofString ""), (Str.ofString "&amp;", Str.ofString ""), (Str.ofString "</x>", Str.ofString "")]
theorem esc_amp : escT (Str.ofString "&") = Str.ofString "&amp;" := str_ext (by rw [escT_cps]; decide +kernel)
theorem step51 (B : BS) : bStep B 51 = ⟨B.os ++ [19], B.ps ++ [pairOf B.wt (Str.ofString "&amp;") (Str.ofString "&amp;")], B.wt⟩ := by
  unfold bStep
  rw [if_neg (by decide), if_neg (fun h => absurd h.1 (by decide)), show opOf 51 = Str.ofString "&" by decide +kernel, esc_amp]
  rfl
theorem ps5 : ([1, 2, 0, 51, 2].foldl bStep BS0).ps = P5 := by
  rw [show [1, 2, 0, 51, 2].foldl bStep BS0 = bStep (bStep (bStep (bStep (bStep BS0 1) 2) 0) 51) 2 from rfl, step51]
  decide +kernel
theorem wt5 : ([1, 2, 0, 51, 2].foldl bStep BS0).wt.length = 1 := by decide +kernel
theorem aEnd_da {A : AS} {y : Str} (h : A.ig = 0) : (aEnd A y).da = [] := by
  unfold aEnd
  rw [if_neg (by omega)]
  exact (aFlush_dep A).2.2.2
theorem tok_of {ex : Bool} {tg : Nat → Str} {ss : List Sy} (hl : ss.length ≤ 30) (hr : RunOk ex tg TS0 ss) : TOk ex tg TS0 ss :=
  ⟨rfl, fun y hy => (nomatch hy), by show 0 + 3 * ss.length ≤ 900; omega, by show 0 + ss.length ≤ 30; omega, fun y hy => (nomatch hy), by show 0 + ss.length ≤ 400; omega, by show 0 + ss.length ≤ 400; omega, fun h => absurd rfl h, fun y hy => (nomatch hy), hr⟩
theorem join_of {A : AS} {ys : List Str} (hd : A.da = []) (h : outA A = cat ys) : Txt.join (Str.ofString "") A.wr = Txt.join (Str.ofString "") ys := by
  refine str_ext ?_
  rw [join_cps, join_cps]
  unfold outA at h
  rw [hd, cat_nil, List.flatMap_nil, List.append_nil] at h
  exact h
theorem octs_range {os : List Int} (h : ∀ n ∈ os, 0 ≤ n ∧ n ≤ 68) (l j : Nat) (n : Int) (e : (octs os l)[j]? = some n) : 0 ≤ n ∧ n < 256 := by
  have hm := List.mem_of_getElem? e
  unfold octs at hm
  obtain ⟨k, hk, rfl⟩ := List.mem_map.mp hm
  have hk : k < os.length := List.mem_range.mp hk
  have := h (os.getD k 0) (by rw [List.getD_eq_getElem?_getD, List.getElem?_eq_getElem hk]; exact List.getElem_mem _)
  omega
theorem tree_told (ns : List Int) : ∃ ss : List Sy, (∀ l, Codes (octs ((bTree ns).os ++ [0]) l) ss) ∧ (∀ (l j : Nat) (n : Int), (octs ((bTree ns).os ++ [0]) l)[j]? = some n → 0 ≤ n ∧ n < 256) ∧ TOk false tgA TS0 ss ∧ TOk true tgB TS0 ss ∧
    Txt.join (Str.ofString "") (toldOf false tgA ss) = wholeOf ns ∧ Txt.join (Str.ofString "") (toldOf true tgB ss) = leftOf ns ∧ (∀ p ∈ allPs ns, Piece p) ∧ (allPs ns).length ≤ 25 ∧ ∃ m2, allPs ns = P5 ++ m2 := by
  obtain ⟨mo1, q1, B1, l1, e1⟩ := both0.fold [1, 2, 0, 51, 2]
  obtain ⟨mo2, q2, B2, l2, e2⟩ := B1.fold (ns.take 4)
  have hw : ((ns.take 4).foldl bStep ([1, 2, 0, 51, 2].foldl bStep BS0)).wt.length ≤ 10 + 1 := by
    have h1 := (fold_len (ns.take 4) ([1, 2, 0, 51, 2].foldl bStep BS0)).2.2
    have h2 : (ns.take 4).length ≤ 4 := by simp; omega
    rw [wt5] at h1
    omega
  obtain ⟨mo3, q3, B3, l3, e3, w3⟩ := B2.close 10 hw
  have hT : bClose 10 ((ns.take 4).foldl bStep ([1, 2, 0, 51, 2].foldl bStep BS0)) = bTree ns := by
    unfold bTree bItems
    rw [List.foldl_append]
  rw [hT] at B3 e3 w3
  obtain ⟨r, er, hr⟩ := B3.hd
  have hr0 : r = [] := by
    rw [er] at w3
    simp only [List.length_cons] at w3
    exact List.length_eq_zero_iff.mp (by omega)
  subst hr0
  obtain ⟨ss, hss⟩ : ∃ ss, ss = [Sy.st 0] ++ mo1 ++ mo2 ++ mo3 := ⟨_, rfl⟩
  rw [← hss] at B3
  have hsl : ss.length ≤ 25 := by
    have : (ns.take 4).length ≤ 4 := by simp; omega
    rw [hss]
    simp only [List.length_append, List.length_cons, List.length_nil] at l1 ⊢
    omega
  have hig : igOf (bTree ns).wt = 0 := by rw [er]; decide
  obtain ⟨a1, a2, a3, a4, a5, a6, a7, a8, a9, a10, a11, a12⟩ := B3.end' (u := Str.ofString "</s>") (v := Str.ofString "</s>") (by rw [er]; decide +kernel) (by rw [hig, er]; decide +kernel)
  have hpl : (bTree ns).ps.length ≤ 20 := by
    rw [e3]
    have h3 := B3.pr
    have hc : ∀ (k : Nat) (B : BS), (bClose k B).ps.length ≤ B.ps.length + k := by
      intro k
      induction k with
      | zero => intro B; simp [bClose]
      | succ k ih =>
        intro B
        unfold bClose
        split
        · have := ih (bEnd B)
          have h9 := (bEnd_len B).2.1
          omega
        · omega
    have h1 := hc 10 ((ns.take 4).foldl bStep ([1, 2, 0, 51, 2].foldl bStep BS0))
    have h2 := (fold_len (ns.take 4) ([1, 2, 0, 51, 2].foldl bStep BS0)).2.1
    have h4 : ([1, 2, 0, 51, 2].foldl bStep BS0).ps.length = 6 := by rw [ps5]; rfl
    have h5 : (ns.take 4).length ≤ 4 := by simp; omega
    rw [hT, e3] at h1
    omega
  refine ⟨ss ++ [.en], a1, fun l j n e => octs_range a2 l j n e, tok_of (by simp; omega) a3, tok_of (by simp; omega) a4, ?_, ?_, ?_, ?_, ?_⟩
  · have hd : (T1 (ss ++ [.en])).A.da = [] := by rw [T1_snoc]; exact aEnd_da B3.ig1
    exact join_of hd a10
  · have hd : (T2 (ss ++ [.en])).A.da = [] := by rw [T2_snoc]; exact aEnd_da (B3.ig2.trans hig)
    exact join_of hd a11
  · intro p hp
    rcases List.mem_append.mp hp with hp | hp
    · exact B3.pr p hp
    · rw [List.mem_singleton.mp hp]; exact Piece.same (by decide) (by decide +kernel)
  · unfold allPs; simp; omega
  · refine ⟨q2 ++ q3 ++ [(Str.ofString "</s>", Str.ofString "</s>")], ?_⟩
    unfold allPs
    rw [e3, e2, ps5]
    simp
theorem chs_join (ys : List Str) : chs (Txt.join (Str.ofString "") ys) = ys.flatMap chs := by
  unfold chs
  rw [join_cps, List.map_flatMap]
def pre4 : List Str := [Str.ofString "<", Str.ofString "s", Str.ofString ">", Str.ofString "<"]
theorem part_flat : ∀ m2 : List (Str × Str), (∀ p ∈ m2, Piece p) → Part mS ((m2.map (·.2)).flatMap chs) ((m2.map (·.1)).flatMap chs)
  | [], _ => .nil_left _
  | p :: m2, h => by
    rw [List.map_cons, List.map_cons, List.flatMap_cons, List.flatMap_cons]
    exact Part.append (h p (.head _)).part (part_flat m2 fun q hq => h q (.tail _ hq))
def a17 : List Str := [Str.ofString ">", Str.ofString "<", Str.ofString "/", Str.ofString "y", Str.ofString ">", Str.ofString "<", Str.ofString "x", Str.ofString ">", Str.ofString "&", Str.ofString "a", Str.ofString "m", Str.ofString "p", Str.ofString ";", Str.ofString "<", Str.ofString "/", Str.ofString "x", Str.ofString ">"]
def b5 : List Str := [Str.ofString ">", Str.ofString "<", Str.ofString "/", Str.ofString "Y", Str.ofString ">"]
theorem tree_texts (ns : List Int) : ∃ a b, chs (wholeOf ns) = pre4 ++ Str.ofString "y" :: a ∧ chs (leftOf ns) = pre4 ++ Str.ofString "Y" :: b ∧ Part mS b a ∧ Str.ofString "Y" ∉ pre4 ++ a ∧ b.length < a.length ∧ (wholeOf ns).length ≤ 400 := by
  obtain ⟨ss, -, -, -, -, -, -, hp, hl, m2, e⟩ := tree_told ns
  have hp2 : ∀ p ∈ m2, Piece p := fun p h => hp p (by rw [e]; exact List.mem_append_right _ h)
  have h1 : chs (wholeOf ns) = (P5.map (·.1)).flatMap chs ++ (m2.map (·.1)).flatMap chs := by
    unfold wholeOf; rw [chs_join, e, List.map_append, List.flatMap_append]
  have h2 : chs (leftOf ns) = (P5.map (·.2)).flatMap chs ++ (m2.map (·.2)).flatMap chs := by
    unfold leftOf; rw [chs_join, e, List.map_append, List.flatMap_append]
  have e1 : (P5.map (·.1)).flatMap chs = pre4 ++ Str.ofString "y" :: a17 := by decide +kernel
  have e2 : (P5.map (·.2)).flatMap chs = pre4 ++ Str.ofString "Y" :: b5 := by decide +kernel
  have hpt := part_flat m2 hp2
  refine ⟨a17 ++ (m2.map (·.1)).flatMap chs, b5 ++ (m2.map (·.2)).flatMap chs, ?_, ?_, ?_, ?_, ?_, ?_⟩
  · rw [h1, e1]; simp
  · rw [h2, e2]; simp
  · refine Part.append (?_ : Part mS b5 a17) hpt
    exact .keep (.inl rfl) (.keep (.inl rfl) (.keep (.inl rfl) (.keep (.inr ⟨rfl, rfl⟩) (.keep (.inl rfl) (.nil_left _)))))
  · intro h
    rcases List.mem_append.mp h with h | h
    · revert h; decide +kernel
    · rcases List.mem_append.mp h with h | h
      · revert h; decide +kernel
      · obtain ⟨y, hy, h⟩ := List.mem_flatMap.mp h
        obtain ⟨p, hpm, rfl⟩ := List.mem_map.mp hy
        exact (hp2 p hpm).noY h
  · have := hpt.len
    have h5 : b5.length = 5 := rfl
    have h17 : a17.length = 17 := rfl
    rw [List.length_append, List.length_append]
    omega
  · unfold wholeOf
    rw [join_len]
    have h9 := sum_le_of ((allPs ns).map (·.1)) 15 fun y hy => by
      obtain ⟨p, hpm, rfl⟩ := List.mem_map.mp hy
      exact (hp p hpm).len
    rw [List.length_map] at h9
    omega
theorem tree_len (ns : List Int) : (leftOf ns).length < (wholeOf ns).length ∧ (wholeOf ns).length ≤ 400 := by
  obtain ⟨a, b, h1, h2, -, -, h5, h6⟩ := tree_texts ns
  have e1 := congrArg List.length h1
  have e2 := congrArg List.length h2
  rw [chs_length] at e1 e2
  simp only [List.length_append, List.length_cons] at e1 e2
  omega
theorem tree_price (ns : List Int) (mx D price : Int) (hpr : price = 2 * (((wholeOf ns).length : Int) - (leftOf ns).length) + wsum wtS (chs (leftOf ns))) (hmx : mx < 0 ∨ price - 1 ≤ mx)
    (hD : D = if mx < 0 ∨ 40 < stretchL (chs (wholeOf ns)) (chs (leftOf ns)) then mx + 1 else price) :
    levD subcost (chs (wholeOf ns)) (chs (leftOf ns)) mx = D ∧ levD subcost (chs (leftOf ns)) (chs (wholeOf ns)) mx = D := by
  obtain ⟨a, b, h1, h2, h3, h4, h5, h6⟩ := tree_texts ns
  have e1 := congrArg List.length h1
  have e2 := congrArg List.length h2
  rw [chs_length] at e1 e2
  simp only [List.length_append, List.length_cons] at e1 e2
  rw [h2] at hpr
  rw [h1, h2] at hD ⊢
  exact price_law (.inr ⟨rfl, rfl⟩) rfl (by decide) h3 h4 h5 mx D price (by rw [hpr]; omega) hmx hD
end
section
theorem lay_45 : True := by
  k_with "my:call ref" => ((fail_if_success k_extra "off46"); (with_reducible refine stop_in ?_))
  k_with "my:eval ListComp" => ((fail_if_success k_extra "off46"); with_reducible refine stop_in ?_)
  k_with "my:SrcLP" => ((fail_if_success k_extra "off46"); with_reducible refine stop_in ?_)
  k_with "my:SrcLP ref" => ((fail_if_success k_extra "off46"); with_reducible refine stop_in ?_)
  k_with "my:CompEnd str" => ((fail_if_success k_extra "off46"); with_reducible refine stop_in ?_)
  k_with "my:call builtin:str.join" => ((fail_if_success k_extra "off46"); with_reducible refine stop_in ?_)
  k_with "my:compareOp NotEq str str" => ((fail_if_success k_extra "off46"); with_reducible refine stop_in ?_)
  k_with "my:subscriptTail Name Constant ref int" => ((fail_if_success k_extra "off46"); with_reducible refine stop_in ?_)
  k_with "my:exec Assign cons IfExp" => ((fail_if_success k_extra "off46"); ((with_reducible have mk9 : StopIf := by assumption); clear mk9; (with_reducible show wpAny _ _ (exec (PySem.Stmt.Assign [PySem.Expr.Name (Str.ofString "below") _] _ _) _) _ _ _); (with_reducible refine stop_in ?_)))
  exact True.intro
theorem ConS.use {prog : Program} {w : World} {K : Frag} {sa : Addr} {its : Array Value} {f : Addr} {dp un dp' un' : Nat} {vs : List Value} {news : List (Addr × Obj)} {post : Value → List (Addr × Obj) → Prop} (C : ConS prog w K sa its f dp un vs news post) (hd : dp' ≤ dp) (hu : un' ≤ un)
    {p : Program} {loose : List Str} {mean : ExcName → Option Value} {mg mb : Str → Option Value} {gd : Option (List Code)} {cn : Str} {cs : Scope} {a : Addr} {ccd : Value} {cl : List (Str × Addr)} {outer : List Env} {A₀ : Around} {base h₀ : Heap} {L : Addr} {m : Str → Option Value} {s : Shared} {Q E : Value → Shared → Prop}
    (B : Below A₀ base outer h₀) (F : Fr h₀ L s.heap m) (X : K.In h₀) (hS : h₀.IsList sa its) (N : News h₀ L s.heap news) (T : Top p loose mean mg mb h₀) (hk : cs.kind = .function)
    (ret : ∀ v news' h' tk', post v news' → Fr h₀ L h' m → News h₀ L h' news' → Q v { s with heap := h', toks := tk' }) :
    wpAny (model prog w) (ktrTop dp' un' gd cn cs L a ccd cl outer) (call (.ref f) vs) Q E s :=
  around_mono (C p loose mean mg mb gd cn cs a ccd cl outer A₀ base h₀ L m s Q E B F X hS N T hk ret) rfl hd rfl rfl hu
theorem ConT.use {prog : Program} {w : World} {K : Frag} {f : Addr} {dp un dp' un' : Nat} {vs : List Value} {news : List (Addr × Obj)} {post : Value → List (Addr × Obj) → Prop} (C : ConT prog w K f dp un vs news post) (hd : dp' ≤ dp) (hu : un' ≤ un)
    {p : Program} {loose : List Str} {mean : ExcName → Option Value} {mg mb : Str → Option Value} {gd : Option (List Code)} {cn : Str} {cs : Scope} {a : Addr} {ccd : Value} {cl : List (Str × Addr)} {A₀ : Around} {h₀ : Heap} {L : Addr} {m : Str → Option Value} {s : Shared} {Q E : Value → Shared → Prop}
    (B : Below A₀ h₀ [] h₀) (F : Fr h₀ L s.heap m) (X : K.In h₀) (N : News h₀ L s.heap news) (T : Top p loose mean mg mb h₀) (hk : cs.kind = .function)
    (ret : ∀ v news' h' tk', post v news' → Fr h₀ L h' m → News h₀ L h' news' → Q v { s with heap := h', toks := tk' }) :
    wpAny (model prog w) (ktrTop dp' un' gd cn cs L a ccd cl []) (call (.ref f) vs) Q E s :=
  around_mono (C p loose mean mg mb gd cn cs a ccd cl A₀ h₀ L m s Q E B F X N T hk ret) rfl hd rfl rfl hu
theorem take_map_snoc {α β : Type} (f : α → β) {l : List α} {i : Nat} (h : i < l.length) : (l.take (i + 1)).map f = (l.take i).map f ++ [f l[i]] := by
  rw [List.take_add_one, List.getElem?_eq_getElem h, List.map_append]; rfl
theorem texts_sum {ps : List (Str × Str)} (hpc : ∀ p ∈ ps, Piece p) (hl : ps.length ≤ 25) : ((ps.map (·.1)).map (·.length)).sum + (ps.map (·.1)).length ≤ 1048576 := by
  have h := sum_le_of (ps.map (·.1)) 15 fun y hy => by
    obtain ⟨p, hp, rfl⟩ := List.mem_map.mp hy
    exact (hpc p hp).len
  rw [List.length_map] at h ⊢
  omega
theorem texts_sum2 {ps : List (Str × Str)} (hpc : ∀ p ∈ ps, Piece p) (hl : ps.length ≤ 25) : ((ps.map (·.2)).map (·.length)).sum + (ps.map (·.2)).length ≤ 1048576 := by
  have h := sum_le_of (ps.map (·.2)) 15 fun y hy => by
    obtain ⟨p, hp, rfl⟩ := List.mem_map.mp hy
    have h1 := (hpc p hp).part.len
    have h2 := (hpc p hp).len
    rw [chs_length, chs_length] at h1
    omega
  rw [List.length_map] at h ⊢
  omega
theorem list_name {h : Heap} {a : Addr} {its : Array Value} (_ : h.IsList a its) : ∃ b, b = a := ⟨_, rfl⟩
theorem lay_46 : True := by
  k_with "my:pyIter ref" => ((fail_if_success k_extra "off46"); with_reducible refine stop_in ?_)
  k_with "my:subscriptTail Name Name ref int" => ((fail_if_success k_extra "off46"); (with_reducible refine stop_in ?_))
  k_with "my:subscriptTail Name BinOp ref int" => ((fail_if_success k_extra "off46"); (with_reducible refine stop_in ?_))
  exact True.intro
theorem two_name {h₀ h : Heap} {L l : Addr} {a b : Int} {t u : Tok} {k : Nat} {r : List (Addr × Obj)} (N : News h₀ L h ((l, listOf #[Value.int a t, Value.int b u] k) :: r)) : ∃ l' a' t' u', l' = l ∧ a' = a ∧ News h₀ L h ((l', listOf #[Value.int a' t', Value.int b u'] k) :: r) := ⟨_, _, _, _, rfl, rfl, N⟩
theorem two_at {a b : Int} {t u : Tok} {i : Nat} {v : Value} (h : [Value.int a t, Value.int b u][i]? = some v) : ∃ n tn, v = .int n tn ∧ (n = a ∨ n = b) := by
  match i, h with
  | 0, h => exact ⟨a, t, by simpa using h.symm, .inl rfl⟩
  | 1, h => exact ⟨b, u, by simpa using h.symm, .inr rfl⟩
  | i + 2, h => simp at h
theorem lay_47 : True := by
  k_with "my:GoodW cons ok" => ((fail_if_success k_extra "off46"); (with_reducible refine stop_in ?_))
  exact True.intro
theorem tab_head (tb : Option (Addr × Obj)) : ∃ ps, ((168 : Addr), tabObj ps) ∈ tabS tb := by
  cases tb with
  | none => exact ⟨_, .head _⟩
  | some q => exact ⟨_, .head _⟩
theorem bound_ok {n bb bel P : Int} {l : Nat} (hbb : bb = P - 1 + Int.fmod (l : Int) 3) (hn : n = bb ∨ n = bel) (hP : 1 ≤ P ∧ P ≤ 1200) (hb1 : -160 ≤ bel) (hb2 : bel ≤ -1) : (n < 0 ∨ P - 1 ≤ n) ∧ -1000 ≤ n ∧ n ≤ 100000 := by
  rw [Int.fmod_eq_emod_of_nonneg _ (show (0 : Int) ≤ 3 by decide)] at hbb
  omega
theorem lay_48 : True := by
  k_with "my:call type:str" => ((fail_if_success k_extra "off46"); (with_reducible refine stop_in ?_))
  exact True.intro
theorem small_log {a : Int} (h1 : -1000 ≤ a) (h2 : a ≤ 100001) : a.natAbs.log2 < 1920 := shown (N := 2 ^ 1920) (by omega) (by omega) (Int.le_refl _)
theorem str_int9 {prog : Program} {w : World} {A : Around} {E : Value → Shared → Prop} {s : Shared} {a : Int} {t : Tok} {Q : Value → Shared → Prop} (h1 : -1000 ≤ a) (h2 : a ≤ 100001) (h : Q (.str (toString a) s.toks) { s with toks := s.toks + 1 }) : wpAny (model prog w) A (call (.type "str") [.int a t]) Q E s :=
  P.str_of_int (small_log h1 h2) h
theorem ne_same {prog : Program} {w : World} {A : Around} {E : Value → Shared → Prop} {s : Shared} {x : Str} {t u : Tok} {Q : Value → Shared → Prop} (h : Q (.bool false) s) : wpAny (model prog w) A (compareOp .NotEq (.str x t) (.str x u)) Q E s :=
  PyProof.Rows.ne_str (by simpa using h)
theorem ints_names {vs : List Value} {ns : List Int} (_ : IntsAre vs ns) : ∃ a b, a = vs ∧ b = ns := ⟨_, _, rfl, rfl⟩
theorem lay_49 : True := by
  k_with "my:newList" => ((fail_if_success k_extra "off46"); with_reducible refine stop_in ?_)
  exact True.intro
theorem news_obj {h₀ h : Heap} {L l : Addr} {o : Obj} {r : List (Addr × Obj)} (N : News h₀ L h ((l, o) :: r)) : ∃ O, O = o ∧ News h₀ L h ((l, O) :: r) := ⟨o, rfl, N⟩
theorem two_nameG {h₀ h : Heap} {L l : Addr} {a b : Int} {t u : Tok} {k : Nat} {r : List (Addr × Obj)} (N : News h₀ L h ((l, listOf #[Value.int a t, Value.int b u] k) :: r)) : ∃ a' t' u', a' = a ∧ News h₀ L h ((l, listOf #[Value.int a' t', Value.int b u'] k) :: r) := ⟨_, _, _, rfl, N⟩
theorem law_holds : PySem.Challenge.rw_tv0054_01.Holds := Mine.hd0._proof_1_40 <| Mine.hd0._proof_1_576 (by
  k_go0
  rename_i w s₀ s₁ mg mb G Y fa o pm cd doc kV ho hcd hg X V T B TE TW sns hs hlay0 hL hr hl2 as4 as3 sa svs as0 hL2 ra wl1 r0 hI hr2 hlen hc2 hD h₁ X' T' B' F' N' l0
  clear codeHd l0 hD hc2 hr2 r0 wl1 ra hL2 hl2 hr hL hlay0 hs hT9 TW TE B T V X hT8 hcd ho Y G
  rename Heap.IsList _ _ _ => hS0
  have hg9 := hg
  clear hg
  revert w s₀ s₁ mg mb fa o pm cd doc kV sns as4 as3 sa svs as0 hI hlen h₁ X' T' B' F' hS0 N' hg9
  ((refine gen_all10 (ne := ?gN_298) (P := ?gP_298) ((?gf_298 : ∀ a0 a1 a2 a3 a4 a5 a6 a7 a8 a9, ?gP_298 a0 a1 a2 a3 a4 a5 a6 a7 a8 a9) (gen10 ?gN_298 ?gP_298).1 (gen10 ?gN_298 ?gP_298).2.1 (gen10 ?gN_298 ?gP_298).2.2.1 (gen10 ?gN_298 ?gP_298).2.2.2.1 (gen10 ?gN_298 ?gP_298).2.2.2.2.1 (gen10 ?gN_298 ?gP_298).2.2.2.2.2.1 (gen10 ?gN_298 ?gP_298).2.2.2.2.2.2.1 (gen10 ?gN_298 ?gP_298).2.2.2.2.2.2.2.1 (gen10 ?gN_298 ?gP_298).2.2.2.2.2.2.2.2.1 (gen10 ?gN_298 ?gP_298).2.2.2.2.2.2.2.2.2); (case gN_298 => k_extra "my:ne")))
  intros w s₀ s₁ mg mb fa o pm cd doc
  ((refine gen_all7 (ne := ?gN_299) (P := ?gP_299) ((?gf_299 : ∀ a0 a1 a2 a3 a4 a5 a6, ?gP_299 a0 a1 a2 a3 a4 a5 a6) (gen7 ?gN_299 ?gP_299).1 (gen7 ?gN_299 ?gP_299).2.1 (gen7 ?gN_299 ?gP_299).2.2.1 (gen7 ?gN_299 ?gP_299).2.2.2.1 (gen7 ?gN_299 ?gP_299).2.2.2.2.1 (gen7 ?gN_299 ?gP_299).2.2.2.2.2.1 (gen7 ?gN_299 ?gP_299).2.2.2.2.2.2); (case gN_299 => k_extra "my:ne")))
  intros kV sns as4 as3 sa svs as0
  intro hI hlen
  walk_at "g1"
  intro h₁ X' T' B' F' hS0 N' hg9
  have hsl : svs.length ≤ 63 := by have := hI.length; omega
  k_extra "my:go"
  (try (with_reducible refine stop_out ?_))
  k_dflt refine ConS.use (con_tree _ _ _ _ hI hsl _) (by k_extra "my:us1") (by k_extra "my:us1") B' F' X' hS0 N' T' rfl ?_
  clear F' N'
  walk_at "g4"
  intros v n h tk
  intro hx F' N'
  refine ex_in7 hx ?_
  clear hx
  ((refine gen_all7 (ne := ?gN_300) (P := ?gP_300) ((?gf_300 : ∀ a0 a1 a2 a3 a4 a5 a6, ?gP_300 a0 a1 a2 a3 a4 a5 a6) (gen7 ?gN_300 ?gP_300).1 (gen7 ?gN_300 ?gP_300).2.1 (gen7 ?gN_300 ?gP_300).2.2.1 (gen7 ?gN_300 ?gP_300).2.2.2.1 (gen7 ?gN_300 ?gP_300).2.2.2.2.1 (gen7 ?gN_300 ?gP_300).2.2.2.2.2.1 (gen7 ?gN_300 ?gP_300).2.2.2.2.2.2); (case gN_300 => k_extra "my:ne")))
  intros T ro pa rvs pv pk pt
  rintro ⟨hv, hr, hp, hrl, hpl, hne, hlt, hn⟩
  subst hv hn
  k_sweep
  k_extra "my:go"
  (try (with_reducible refine stop_out ?_))
  rename (Fr _ _ _ _) => F'
  rename (News _ _ _ _) => N'
  refine ex_in (tree_told sns) ?_
  walk_at "g1"
  rintro ss ⟨hco, hrg, ok1, ok2, tw, tl, hpc, hp25, -⟩
  refine ex_in (⟨_, rfl⟩ : ∃ W, W = wholeOf sns) ?_
  walk_at "g1"
  intro W hW
  refine ex_in (⟨_, rfl⟩ : ∃ W, W = leftOf sns) ?_
  walk_at "g1"
  intro Lf hLf
  obtain ⟨hWL, hW4⟩ := tree_len sns
  have hpr := tree_price sns
  rw [← hW] at tw hWL hW4 hpr
  rw [← hLf] at tl hWL hpr
  have hL4 : Lf.length ≤ 400 := by omega
  have hprB := Box.mk hpr
  clear hpr
  have h168 := hlt _ (List.mem_singleton.mpr rfl)
  have hro : ro ≠ 168 := fun e => h168.1 e.symm
  refine ex_in (⟨_, rfl⟩ : ∃ R, R = (pa, listOf pv.toArray pk) :: pt) ?_
  walk_at "g1"
  intro R0 hR0
  have hR168 : ∀ p ∈ R0, p.1 ≠ 168 := by
    intro p hp
    rw [hR0] at hp
    rcases List.mem_cons.mp hp with rfl | hp
    · exact fun e => by have := h168.2.1; have e' : @Eq Nat pa 168 := e; have h' : @LT.lt Nat _ 168 pa := this; omega
    · exact fun e => by have := h168.2.2 p hp; have e' : @Eq Nat p.1 168 := e; have h' : @LT.lt Nat _ 168 p.1 := this; omega
  have N1 := News.sub (l' := (ro, listOf rvs.toArray rvs.length) :: (tabS none ++ R0)) N' (by
    intro p hp
    rcases List.mem_cons.mp hp with rfl | hp
    · exact .tail _ (.head _)
    rcases List.mem_cons.mp hp with rfl | hp
    · exact .tail _ (.tail _ (.tail _ (List.mem_append_right _ (.head _))))
    have hp : p ∈ R0 := hp
    rw [hR0] at hp
    rcases List.mem_cons.mp hp with rfl | hp
    · exact .tail _ (.tail _ (.head _))
    · exact .tail _ (.tail _ (.tail _ (List.mem_append_left _ hp))))
  k_dflt refine ConT.use (con_told _ false .none tgA ro rvs _ rvs.length hr (hrg _) (Str.ofString "sxy") _ rfl (fun _ _ => rfl) tgA_good none trivial R0 hR168 hro rfl ss (hco _) ok1) (by k_extra "my:us1") (by k_extra "my:us1") B' F' X' N1 T' rfl ?_
  clear F' N' N1
  walk_at "g4"
  intros v n h tk
  rintro ⟨hv, hx⟩ F' N'
  refine ex_in hv ?_
  clear hv
  walk_at "g1"
  intro t1 hv
  subst hv
  refine ex_in hx ?_
  clear hx
  walk_at "g1"
  rintro tb1 ⟨htb1, hn⟩
  subst hn
  rw [tw]
  k_sweep
  k_extra "my:go"
  (try (with_reducible refine stop_out ?_))
  rename (Fr _ _ _ _) => F'
  rename (News _ _ _ _) => N'
  k_dflt refine newList_K F' N' ?_
  walk_at "g2"
  intros l9 h'
  clear F' N'
  intro F' N' l9r
  k_sweep
  k_extra "my:go"
  (try (with_reducible refine stop_out ?_))
  rename (Fr _ _ _ _) => F'
  rename (News _ _ _ _) => N'
  refine ex_in (news_obj N') ?_
  clear N'
  walk_at "g1"
  rintro o9 ⟨h9o, N'⟩
  have l9t : ∀ p ∈ tabS tb1 ++ R0, @LT.lt Nat _ p.1 l9 := fun p hp => l9r p (.tail _ hp)
  have h9168 : l9 ≠ 168 := by
    obtain ⟨o, ho⟩ := tab_head tb1
    have h' : @LT.lt Nat _ 168 l9 := l9t _ (List.mem_append_left _ ho)
    exact fun e => by have e' : @Eq Nat l9 168 := e; omega
  have N2 := News.sub (l' := (ro, listOf rvs.toArray rvs.length) :: (tabS tb1 ++ ((l9, o9) :: R0))) N' (by
    intro p hp
    rcases List.mem_cons.mp hp with rfl | hp
    · exact .tail _ (.head _)
    rcases List.mem_append.mp hp with hp | hp
    · exact .tail _ (.tail _ (List.mem_append_left _ hp))
    rcases List.mem_cons.mp hp with rfl | hp
    · exact .head _
    · exact .tail _ (.tail _ (List.mem_append_right _ hp)))
  k_dflt refine ConT.use (con_told _ true (.ref l9) tgB ro rvs _ rvs.length hr (hrg _) (Str.ofString "sxY") _ rfl (fun _ _ => rfl) tgB_good tb1 htb1 ((l9, o9) :: R0) (List.forall_mem_cons.mpr ⟨h9168, hR168⟩) hro ⟨l9, _, _, rfl, by rw [h9o]; exact .head _⟩ ss (hco _) ok2) (by k_extra "my:us1") (by k_extra "my:us1") B' F' X' N2 T' rfl ?_
  clear F' N' N2
  walk_at "g4"
  intros v n h tk
  rintro ⟨hv, hx⟩ F' N'
  refine ex_in hv ?_
  clear hv
  walk_at "g1"
  intro t2 hv
  subst hv
  refine ex_in hx ?_
  clear hx
  walk_at "g1"
  rintro tb2 ⟨htb2, hn⟩
  subst hn
  rw [tl]
  refine ex_in (tab_head tb2) ?_
  walk_at "g1"
  intro ps8 hps8
  refine ex_in (⟨_, rfl⟩ : ∃ o, o = tabObj ps8) ?_
  walk_at "g1"
  intro o8 ho8
  rw [← ho8] at hps8
  have h8pa : @LT.lt Nat _ 168 pa := h168.2.1
  have N3 := News.sub (l' := (pa, listOf pv.toArray pk) :: (168, o8) :: pt) N' (by
    intro p hp
    rcases List.mem_cons.mp hp with rfl | hp
    · exact .tail _ (List.mem_append_right _ (.tail _ (by rw [hR0]; exact .head _)))
    rcases List.mem_cons.mp hp with rfl | hp
    · exact .tail _ (List.mem_append_left _ hps8)
    · exact .tail _ (List.mem_append_right _ (.tail _ (by rw [hR0]; exact .tail _ hp))))
  clear N'
  have N' := N3
  clear N3
  k_sweep
  k_extra "my:go"
  (try (with_reducible refine stop_out ?_))
  rename (Fr _ _ _ _) => F'
  rename (News _ _ _ _) => N'
  have hPl : pv.length = (allPs sns).length := hp.1
  have hp2 := Box.mk hp
  clear hp
  rename_i hh tt
  clear hr hrl hpl hne hlt hco hrg ok1 ok2 tw tl h168 hro hR0 hR168 htb1 l9r h9o l9t h9168 htb2 hps8
  as_aux_lemma =>
  revert hI hlen X' T' B' hS0 hg9 hsl hpc hp25 hW hLf hWL hW4 hL4 hprB ho8 h8pa F' N' hPl hp2
  revert w s₀ s₁ mg mb fa o pm cd doc kV sns sa svs h₁ ro pa pv pk pt W Lf t1 t2 ps8 o8 hh tt
  ((refine gen_all10 (ne := ?gN_301) (P := ?gP_301) ((?gf_301 : ∀ a0 a1 a2 a3 a4 a5 a6 a7 a8 a9, ?gP_301 a0 a1 a2 a3 a4 a5 a6 a7 a8 a9) (gen10 ?gN_301 ?gP_301).1 (gen10 ?gN_301 ?gP_301).2.1 (gen10 ?gN_301 ?gP_301).2.2.1 (gen10 ?gN_301 ?gP_301).2.2.2.1 (gen10 ?gN_301 ?gP_301).2.2.2.2.1 (gen10 ?gN_301 ?gP_301).2.2.2.2.2.1 (gen10 ?gN_301 ?gP_301).2.2.2.2.2.2.1 (gen10 ?gN_301 ?gP_301).2.2.2.2.2.2.2.1 (gen10 ?gN_301 ?gP_301).2.2.2.2.2.2.2.2.1 (gen10 ?gN_301 ?gP_301).2.2.2.2.2.2.2.2.2); (case gN_301 => k_extra "my:ne")))
  intros w s₀ s₁ mg mb fa o pm cd doc
  ((refine gen_all10 (ne := ?gN_302) (P := ?gP_302) ((?gf_302 : ∀ a0 a1 a2 a3 a4 a5 a6 a7 a8 a9, ?gP_302 a0 a1 a2 a3 a4 a5 a6 a7 a8 a9) (gen10 ?gN_302 ?gP_302).1 (gen10 ?gN_302 ?gP_302).2.1 (gen10 ?gN_302 ?gP_302).2.2.1 (gen10 ?gN_302 ?gP_302).2.2.2.1 (gen10 ?gN_302 ?gP_302).2.2.2.2.1 (gen10 ?gN_302 ?gP_302).2.2.2.2.2.1 (gen10 ?gN_302 ?gP_302).2.2.2.2.2.2.1 (gen10 ?gN_302 ?gP_302).2.2.2.2.2.2.2.1 (gen10 ?gN_302 ?gP_302).2.2.2.2.2.2.2.2.1 (gen10 ?gN_302 ?gP_302).2.2.2.2.2.2.2.2.2); (case gN_302 => k_extra "my:ne")))
  intros kV sns sa svs h₁ ro pa pv pk pt
  ((refine gen_all8 (ne := ?gN_303) (P := ?gP_303) ((?gf_303 : ∀ a0 a1 a2 a3 a4 a5 a6 a7, ?gP_303 a0 a1 a2 a3 a4 a5 a6 a7) (gen8 ?gN_303 ?gP_303).1 (gen8 ?gN_303 ?gP_303).2.1 (gen8 ?gN_303 ?gP_303).2.2.1 (gen8 ?gN_303 ?gP_303).2.2.2.1 (gen8 ?gN_303 ?gP_303).2.2.2.2.1 (gen8 ?gN_303 ?gP_303).2.2.2.2.2.1 (gen8 ?gN_303 ?gP_303).2.2.2.2.2.2.1 (gen8 ?gN_303 ?gP_303).2.2.2.2.2.2.2); (case gN_303 => k_extra "my:ne")))
  intros W Lf t1 t2 ps8 o8 hh tt
  intro hI hlen X' T' B' hS0 hg9 hsl hpc hp25 hW hLf hWL hW4 hL4 hprB ho8 h8pa F' N' hPl hp2
  k_dflt refine LCp.ListComp_P (F₀ := F') (by with_unfolding_all rfl) (by decide) (by rfl) (by decide) (by rfl) (by rfl) (by decide) ?_
  k_extra "my:go"
  (try (with_reducible refine stop_out ?_))
  refine ex_in (named N') ?_
  walk_at "g1"
  rintro nl ⟨hnl, Nb⟩
  refine LCp.SrcLP.ledger (ax := pa) (its := pv.toArray) (k := pk) rfl F' Nb (by rw [hnl]; exact .head _) (by rw [sizeLine_eq]; show pv.length ≤ _; omega) ?_
  walk_at "g1"
  intro g2
  refine restP_ind (fun i ys nw => nw = nl ∧ StrsAre ys (((allPs sns).take i).map (·.1))) _ ?_ ?_ _ 0 [] _ (Nat.zero_add _) ⟨rfl, .nil⟩
  · walk_at "g2"
    intros ys nw
    rintro ⟨hnw, hS⟩
    replace hnw := hnw.symm
    subst hnw
    walk_at "g3"
    intros D h9 tk9
    intro F9 N9 o9
    clear F' N' Nb
    rw [hnl] at N9
    rw [show pv.toArray.size = (allPs sns).length from hPl, List.take_length] at hS
    k_extra "my:go"
    (try (with_reducible refine stop_out ?_))
    rename (Fr _ _ _ _) => F'
    rename (News _ _ _ _) => N'
    have hj1 := (N' _ (List.Mem.head _)).1
    have hj2 := texts_sum hpc hp25
    refine join_strs (items := ys) (ys := (allPs sns).map (·.1)) ⟨_, hj1, rfl, _, rfl⟩ hS ?j1 ?j2 ?_
    case j1 => exact hj2
    case j2 => decide
    walk_at "g2"
    intros t8 k8
    clear hj1 hj2
    rw [show Txt.join (Str.ofString "") ((allPs sns).map (·.1)) = W from hW.symm]
    refine PyProof.Rows.ne_str ?_
    rw [show (W != W) = false by simp]
    k_extra "my:go"
    (try (with_reducible refine stop_out ?_))
    rename (Fr _ _ _ _) => F'
    rename (News _ _ _ _) => N'
    clear hnl hS
    k_dflt refine LCp.ListComp_P (F₀ := F') (by with_unfolding_all rfl) (by decide) (by rfl) (by decide) (by rfl) (by rfl) (by decide) ?_
    k_extra "my:go"
    (try (with_reducible refine stop_out ?_))
    refine ex_in (named N') ?_
    walk_at "g1"
    rintro nl ⟨hnl, Nb⟩
    refine LCp.SrcLP.ledger (ax := pa) (its := pv.toArray) (k := pk) rfl F' Nb (by rw [hnl]; exact .tail _ (.head _)) (by rw [sizeLine_eq]; show pv.length ≤ _; omega) ?_
    walk_at "g1"
    intro g2
    refine restP_ind (fun i ys nw => nw = nl ∧ StrsAre ys (((allPs sns).take i).map (·.2))) _ ?_ ?_ _ 0 [] _ (Nat.zero_add _) ⟨rfl, .nil⟩
    · walk_at "g2"
      intros ys nw
      rintro ⟨hnw, hS⟩
      replace hnw := hnw.symm
      subst hnw
      walk_at "g3"
      intros D2 h9 tk9
      intro F9 N9 o9
      clear F' N' Nb
      rw [hnl] at N9
      rw [show pv.toArray.size = (allPs sns).length from hPl, List.take_length] at hS
      k_extra "my:go"
      (try (with_reducible refine stop_out ?_))
      rename (Fr _ _ _ _) => F'
      rename (News _ _ _ _) => N'
      have hj1 := (N' _ (List.Mem.head _)).1
      have hj2 := texts_sum2 hpc hp25
      refine join_strs (items := ys) (ys := (allPs sns).map (·.2)) ⟨_, hj1, rfl, _, rfl⟩ hS ?j1 ?j2 ?_
      case j1 => exact hj2
      case j2 => decide
      walk_at "g2"
      intros t8 k8
      clear hj1 hj2
      rw [show Txt.join (Str.ofString "") ((allPs sns).map (·.2)) = Lf from hLf.symm]
      refine PyProof.Rows.ne_str ?_
      rw [show (Lf != Lf) = false by simp]
      k_extra "my:go"
      (try (with_reducible refine stop_out ?_))
      rename (Fr _ _ _ _) => F'
      rename (News _ _ _ _) => N'
      have N3 : News _ _ _ [(168, o8)] := News.sub N' (by (((try dsimp only); k_extra "my:inl")))
      clear N'
      have N' := N3
      clear N3
      rename_i tt
      clear hpc hp25 hPl hp2 hnl hS o9
      as_aux_lemma =>
      revert hI hlen X' T' B' hS0 hg9 hsl hW hLf hWL hW4 hL4 hprB ho8 h8pa F' N'
      revert w s₀ s₁ mg mb fa o pm cd doc kV sns sa svs h₁ ro pa W Lf t1 t2 ps8 o8 h9 tt
      ((refine gen_all10 (ne := ?gN_305) (P := ?gP_305) ((?gf_305 : ∀ a0 a1 a2 a3 a4 a5 a6 a7 a8 a9, ?gP_305 a0 a1 a2 a3 a4 a5 a6 a7 a8 a9) (gen10 ?gN_305 ?gP_305).1 (gen10 ?gN_305 ?gP_305).2.1 (gen10 ?gN_305 ?gP_305).2.2.1 (gen10 ?gN_305 ?gP_305).2.2.2.1 (gen10 ?gN_305 ?gP_305).2.2.2.2.1 (gen10 ?gN_305 ?gP_305).2.2.2.2.2.1 (gen10 ?gN_305 ?gP_305).2.2.2.2.2.2.1 (gen10 ?gN_305 ?gP_305).2.2.2.2.2.2.2.1 (gen10 ?gN_305 ?gP_305).2.2.2.2.2.2.2.2.1 (gen10 ?gN_305 ?gP_305).2.2.2.2.2.2.2.2.2); (case gN_305 => k_extra "my:ne")))
      intros w s₀ s₁ mg mb fa o pm cd doc
      ((refine gen_all10 (ne := ?gN_306) (P := ?gP_306) ((?gf_306 : ∀ a0 a1 a2 a3 a4 a5 a6 a7 a8 a9, ?gP_306 a0 a1 a2 a3 a4 a5 a6 a7 a8 a9) (gen10 ?gN_306 ?gP_306).1 (gen10 ?gN_306 ?gP_306).2.1 (gen10 ?gN_306 ?gP_306).2.2.1 (gen10 ?gN_306 ?gP_306).2.2.2.1 (gen10 ?gN_306 ?gP_306).2.2.2.2.1 (gen10 ?gN_306 ?gP_306).2.2.2.2.2.1 (gen10 ?gN_306 ?gP_306).2.2.2.2.2.2.1 (gen10 ?gN_306 ?gP_306).2.2.2.2.2.2.2.1 (gen10 ?gN_306 ?gP_306).2.2.2.2.2.2.2.2.1 (gen10 ?gN_306 ?gP_306).2.2.2.2.2.2.2.2.2); (case gN_306 => k_extra "my:ne")))
      intros kV sns sa svs h₁ ro pa W Lf t1
      walk_at "g5"
      intros t2 ps8 o8 h9 tt
      intro hI hlen X' T' B' hS0 hg9 hsl hW hLf hWL hW4 hL4 hprB ho8 h8pa F' N'
      k_dflt refine newList_K F' N' ?_
      walk_at "g2"
      intros tx h'
      clear F' N'
      intro F' N' ltx
      k_sweep
      have mk : StopIf := trivial
      k_extra "my:go"
      all_goals (try (with_reducible refine stop_out ?_))
      rename (Fr _ _ _ _) => F'
      rename (News _ _ _ _) => N'
      rename StopIf => mk
      clear mk
      refine cutR (σ := Int × Tok × Int × Tok × Tok) F' (fun _ => [(tx, listOf #[.str W t1, .str Lf t2] 0), (168, o8)]) (fun c => [("script", .ref sa), ("whole", .str W t1), ("left", .str Lf t2), ("texts", .ref tx), ("side", .int c.2.2.1 c.2.2.2.1), ("price", .int (2 * ((W.length : Int) - Lf.length) + Txt.count Lf (Str.ofString "Y")) c.2.2.2.2), ("below", .int c.1 c.2.1)])
        (fun c => (c.2.2.1 = 0 ∨ c.2.2.1 = 1) ∧ -160 ≤ c.1 ∧ c.1 ≤ -1) ?_ ?_
      · k_extra "my:go"
        refine stop_out ?_
        rename (Fr _ _ _ _) => F'
        rename (News _ _ _ _) => N'
        k_dflt refine newList_K F' N' ?_
        walk_at "g2"
        intros le h'
        clear F' N'
        intro F' N' lle
        k_sweep
        k_extra "my:go"
        · refine ⟨(-7, _, Int.fmod (sns.length : Int) 2, _, _), _, _, _, _, rfl, by k_asm, by k_asm, by (((try dsimp only); k_extra "my:inl")), by (((try dsimp only); k_extra "my:inl")), by k_extra "my:names", ?_⟩
          dsimp only
          rw [Int.fmod_eq_emod_of_nonneg _ (show (0 : Int) ≤ 2 by decide)]
          omega
        · (try (with_reducible refine stop_out ?_))
          rename (Fr _ _ _ _) => F'
          rename (News _ _ _ _) => N'
          rename (decide (sns = []) = false) => hne9
          have hne0 : 0 < sns.length := List.length_pos_iff.mpr (of_decide_eq_false hne9)
          refine ex_in (⟨_, List.getElem?_eq_getElem hne0⟩ : ∃ n, sns[0]? = some n) ?_
          walk_at "g1"
          intro n9 hn9
          refine ex_in (ints_get hI hn9) ?_
          walk_at "g1"
          intro u9 hu9
          have hsn : svs.length = sns.length := hI.length
          refine item_listL (k := 0) (x := .int n9 u9) (isList_keep hS0 F'.keep) (by decide) (by decide) (by simpa using hu9) ?_
          k_extra "my:go"
          refine ⟨(-1 - Int.fmod n9 160, _, Int.fmod (sns.length : Int) 2, _, _), _, _, _, _, rfl, by k_asm, by k_asm, by (((try dsimp only); k_extra "my:inl")), by (((try dsimp only); k_extra "my:inl")), by k_extra "my:names", ?_⟩
          dsimp only
          rw [Int.fmod_eq_emod_of_nonneg _ (show (0 : Int) ≤ 2 by decide), Int.fmod_eq_emod_of_nonneg _ (show (0 : Int) ≤ 160 by decide)]
          omega
      · clear F' N'
        dsimp only
        as_aux_lemma =>
        revert hI hlen X' T' B' hS0 hg9 hsl hW hLf hWL hW4 hL4 hprB ho8 h8pa ltx
        revert w s₀ s₁ mg mb fa o pm cd doc kV sns sa svs h₁ ro pa W Lf t1 t2 ps8 o8 tx
        ((refine gen_all10 (ne := ?gN_311) (P := ?gP_311) ((?gf_311 : ∀ a0 a1 a2 a3 a4 a5 a6 a7 a8 a9, ?gP_311 a0 a1 a2 a3 a4 a5 a6 a7 a8 a9) (gen10 ?gN_311 ?gP_311).1 (gen10 ?gN_311 ?gP_311).2.1 (gen10 ?gN_311 ?gP_311).2.2.1 (gen10 ?gN_311 ?gP_311).2.2.2.1 (gen10 ?gN_311 ?gP_311).2.2.2.2.1 (gen10 ?gN_311 ?gP_311).2.2.2.2.2.1 (gen10 ?gN_311 ?gP_311).2.2.2.2.2.2.1 (gen10 ?gN_311 ?gP_311).2.2.2.2.2.2.2.1 (gen10 ?gN_311 ?gP_311).2.2.2.2.2.2.2.2.1 (gen10 ?gN_311 ?gP_311).2.2.2.2.2.2.2.2.2); (case gN_311 => k_extra "my:ne")))
        intros w s₀ s₁ mg mb fa o pm cd doc
        ((refine gen_all10 (ne := ?gN_312) (P := ?gP_312) ((?gf_312 : ∀ a0 a1 a2 a3 a4 a5 a6 a7 a8 a9, ?gP_312 a0 a1 a2 a3 a4 a5 a6 a7 a8 a9) (gen10 ?gN_312 ?gP_312).1 (gen10 ?gN_312 ?gP_312).2.1 (gen10 ?gN_312 ?gP_312).2.2.1 (gen10 ?gN_312 ?gP_312).2.2.2.1 (gen10 ?gN_312 ?gP_312).2.2.2.2.1 (gen10 ?gN_312 ?gP_312).2.2.2.2.2.1 (gen10 ?gN_312 ?gP_312).2.2.2.2.2.2.1 (gen10 ?gN_312 ?gP_312).2.2.2.2.2.2.2.1 (gen10 ?gN_312 ?gP_312).2.2.2.2.2.2.2.2.1 (gen10 ?gN_312 ?gP_312).2.2.2.2.2.2.2.2.2); (case gN_312 => k_extra "my:ne")))
        intros kV sns sa svs h₁ ro pa W Lf t1
        walk_at "g4"
        intros t2 ps8 o8 tx
        intro hI hlen X' T' B' hS0 hg9 hsl hW hLf hWL hW4 hL4 hprB ho8 h8pa ltx
        refine pr5 ?_
        ((refine gen_all8 (ne := ?gN_313) (P := ?gP_313) ((?gf_313 : ∀ a0 a1 a2 a3 a4 a5 a6 a7, ?gP_313 a0 a1 a2 a3 a4 a5 a6 a7) (gen8 ?gN_313 ?gP_313).1 (gen8 ?gN_313 ?gP_313).2.1 (gen8 ?gN_313 ?gP_313).2.2.1 (gen8 ?gN_313 ?gP_313).2.2.2.1 (gen8 ?gN_313 ?gP_313).2.2.2.2.1 (gen8 ?gN_313 ?gP_313).2.2.2.2.2.1 (gen8 ?gN_313 ?gP_313).2.2.2.2.2.2.1 (gen8 ?gN_313 ?gP_313).2.2.2.2.2.2.2); (case gN_313 => k_extra "my:ne")))
        intros bel tbl sd tsd tpr u h tk
        rintro ⟨hsd, hb1, hb2⟩ F' N'
        dsimp only at hsd hb1 hb2 N'
        simp only [kstB] at F'
        k_sweep
        refine ex_in (⟨_, rfl⟩ : ∃ P, P = 2 * ((W.length : Int) - Lf.length) + Txt.count Lf (Str.ofString "Y")) ?_
        walk_at "g1"
        intro P hP
        rw [← hP] at F'
        have hw0 := wsum_nonneg wtS_0 (chs Lf)
        have hw1 := wsum_le wtS_1 (chs Lf)
        rw [chs_length] at hw1
        rw [count_Y] at hP
        have hP2 : 1 ≤ P ∧ P ≤ 1200 := by omega
        k_extra "my:go"
        (try (with_reducible refine stop_out ?_))
        (((with_reducible rename Fr _ _ _ _ => lF'); (with_unfolding_all refine' For_invVF lF' ?k1_314 ?k2_314 ?_; (case k1_314 => exact rfl); (case k2_314 => exact rfl); k_whole); k_extra "my:go"))
        (try (with_reducible refine stop_out ?_))
        rename (Fr _ _ _ _) => F'
        rename (News _ _ _ _) => N'
        k_dflt refine newList_K F' N' ?_
        walk_at "g2"
        intros lb h'
        clear F' N'
        intro F' N' llb
        k_sweep
        k_extra "my:go"
        (try (with_reducible refine stop_out ?_))
        rename (Fr _ _ _ _) => F'
        rename (News _ _ _ _) => N'
        refine ex_in3 (two_nameG N') ?_
        clear N'
        walk_at "g3"
        intros bb tb3 ub3
        rintro ⟨hbb, N'⟩
        refine forListR (σ := Unit) (l := lb) (vs := [Value.int bb tb3, Value.int bel ub3]) (nn := 0) (fun _ => [(lb, listOf [Value.int bb tb3, Value.int bel ub3].toArray 0), (tx, listOf #[.str W t1, .str Lf t2] 0), (168, o8)])
          (fun _ => [("whole", .str W t1), ("left", .str Lf t2), ("texts", .ref tx), ("side", .int sd tsd), ("price", .int P tpr)]) (fun _ _ => True) (fun _ => True) () rfl (fun _ => .head _) F' N' (by k_extra "my:names") trivial ?_ ?_ ?_
        · ((refine gen_all7 (ne := ?gN_315) (P := ?gP_315) ((?gf_315 : ∀ a0 a1 a2 a3 a4 a5 a6, ?gP_315 a0 a1 a2 a3 a4 a5 a6) (gen7 ?gN_315 ?gP_315).1 (gen7 ?gN_315 ?gP_315).2.1 (gen7 ?gN_315 ?gP_315).2.2.1 (gen7 ?gN_315 ?gP_315).2.2.2.1 (gen7 ?gN_315 ?gP_315).2.2.2.2.1 (gen7 ?gN_315 ?gP_315).2.2.2.2.2.1 (gen7 ?gN_315 ?gP_315).2.2.2.2.2.2); (case gN_315 => k_extra "my:ne")))
          intros i v un u h tk own
          rintro hv hown - F' N'
          (try dsimp only at N' hown)
          simp only [kstB] at F'
          simp only [List.cons_append, List.nil_append] at N'
          (try k_sweep)
          refine ex_in2 (two_at hv) ?_
          walk_at "g2"
          intros n tn
          rintro ⟨hv9, hn⟩
          subst hv9
          (try dsimp only)
          have hn9 := bound_ok hbb hn hP2 hb1 hb2
          clear hn
          refine ex_in (⟨_, rfl⟩ : ∃ D, D = if n < 0 ∨ 40 < stretchL (chs W) (chs Lf) then n + 1 else P) ?_
          walk_at "g1"
          intro D9 hD9
          have hpr9 := hprB.out n D9 P hP hn9.1 hD9
          have hx4 : ∃ xa ya ta ua, [Value.str W t1, Value.str Lf t2][sd.toNat]? = some (.str xa ta) ∧ [Value.str W t1, Value.str Lf t2][(1 - sd).toNat]? = some (.str ya ua) ∧ xa.length ≤ 2000 ∧ ya.length ≤ 2000 ∧ levD subcost (chs xa) (chs ya) n = D9 := by
            rcases hsd with rfl | rfl
            · exact ⟨W, Lf, t1, t2, rfl, rfl, by omega, by omega, hpr9.1⟩
            · exact ⟨Lf, W, t2, t1, rfl, rfl, by omega, by omega, hpr9.2⟩
          refine ex_in4 hx4 ?_
          clear hx4
          walk_at "g4"
          intros xa ya ta ua
          rintro ⟨hxa, hya, hxl, hyl, hlv⟩
          have hlvB := Box.mk hlv
          have hD9B := Box.mk hD9
          clear hpr9 hlv hD9
          k_extra "my:go"
          (try (with_reducible refine stop_out ?_))
          rename (Fr _ _ _ _) => F'
          rename (News _ _ _ _) => N'
          have htm := (N' (tx, listOf #[.str W t1, .str Lf t2] 0) (.tail _ (.head _))).1
          refine item_listL (k := sd) (x := .str xa ta) ⟨_, htm, rfl, _, rfl⟩ (by omega) (by omega) hxa ?_
          k_extra "my:go"
          (try (with_reducible refine stop_out ?_))
          refine item_listL (k := 1 - sd) (x := .str ya ua) ⟨_, htm, rfl, _, rfl⟩ (by omega) (by omega) hya ?_
          clear htm
          k_extra "my:go"
          (try (with_reducible refine stop_out ?_))
          rename (Fr _ _ _ _) => F'
          rename (News _ _ _ _) => N'
          k_dflt refine Con.useT (con_lev _ xa ya n ta ua tn hxl hyl hn9.2 _) (by k_extra "my:us1") (by k_extra "my:us1") B' F' X' N' T' rfl ?_
          clear F' N'
          walk_at "g3"
          intros t8 h8 k8
          intro F' N'
          rw [hlvB.out]
          k_sweep
          k_extra "my:go"
          all_goals (try (with_reducible refine stop_out ?_))
          · rename (n < 0) => hlt9
            have e9 : D9 = n + 1 := by rw [hD9B.out, if_pos (.inl hlt9)]
            clear hD9B hlvB hprB
            subst e9
            obtain ⟨hn1, hn2, hn3⟩ := hn9
            refine str_int9 (by omega) (by omega) ?_
            k_extra "my:go"
            (try (with_reducible refine stop_out ?_))
            refine str_int9 (by omega) (by omega) ?_
            k_extra "my:go"
            (try (with_reducible refine stop_out ?_))
            refine ne_same ?_
            k_extra "my:go"
            refine ⟨(), _, _, _, _, rfl, by k_asm, by k_asm, by (((try dsimp only); k_extra "my:inl")), by (((try dsimp only); k_extra "my:inl")), by k_extra "my:names", trivial, same_old rfl⟩
          · rename (¬ n < 0) => hlt9
            rename (Fr _ _ _ _) => F'
            rename (News _ _ _ _) => N'
            k_dflt refine Con.useT (con_stretch _ W Lf t1 t2 (by omega) (by omega) _) (by k_extra "my:us1") (by k_extra "my:us1") B' F' X' N' T' rfl ?_
            clear F' N'
            walk_at "g3"
            intros t7 h7 k7
            intro F' N'
            k_sweep
            refine ex_in (⟨_, rfl⟩ : ∃ S, S = stretchL (chs W) (chs Lf)) ?_
            walk_at "g1"
            intro SS hSS
            rw [← hSS]
            k_extra "my:go"
            all_goals (try (with_reducible refine stop_out ?_))
            · have e9 : D9 = n + 1 := by rw [hD9B.out, if_pos (.inr (by rw [← hSS]; first | assumption | omega))]
              clear hD9B hlvB hprB
              subst e9
              obtain ⟨hn1, hn2, hn3⟩ := hn9
              refine str_int9 (by omega) (by omega) ?_
              k_extra "my:go"
              (try (with_reducible refine stop_out ?_))
              refine str_int9 (by omega) (by omega) ?_
              k_extra "my:go"
              (try (with_reducible refine stop_out ?_))
              refine ne_same ?_
              k_extra "my:go"
              refine ⟨(), _, _, _, _, rfl, by k_asm, by k_asm, by (((try dsimp only); k_extra "my:inl")), by (((try dsimp only); k_extra "my:inl")), by k_extra "my:names", trivial, same_old rfl⟩
            · have e9 : D9 = P := by rw [hD9B.out, if_neg (by rw [← hSS]; rintro (q | q); exact hlt9 q; first | (rename (¬ _ < SS) => q2; exact q2 q) | omega)]
              clear hD9B hlvB hprB
              subst e9
              obtain ⟨hP3, hP4⟩ := hP2
              refine str_int9 (by omega) (by omega) ?_
              k_extra "my:go"
              (try (with_reducible refine stop_out ?_))
              refine str_int9 (by omega) (by omega) ?_
              k_extra "my:go"
              (try (with_reducible refine stop_out ?_))
              refine ne_same ?_
              k_extra "my:go"
              refine ⟨(), _, _, _, _, rfl, by k_asm, by k_asm, by (((try dsimp only); k_extra "my:inl")), by (((try dsimp only); k_extra "my:inl")), by k_extra "my:names", trivial, same_old rfl⟩
        · walk_at "g4"
          intros un u h tk
          rintro - F' N'
          simp only [kstB] at F'
          (try k_sweep)
          rw [ho8] at N'
          k_extra "my:go"
          all_goals (try (with_reducible refine stop_out ?_))
          · kc_close
        · exact fun _ _ => trivial
    · walk_at "g4"
      intros i ys nw v
      rintro hi ⟨rfl, hS⟩ hv
      have hi' : i < (allPs sns).length := by rw [← hPl]; exact hi
      refine ex_in3 (hp2.out.2 i _ _ (List.getElem?_eq_getElem hi')) ?_
      walk_at "g3"
      intros t9 u9 v9
      rintro ⟨hv9, hm9⟩
      have hv' : v = .ref t9 := by
        have e : pv[i]? = some v := by simpa using hv
        rw [hv9] at e
        exact (Option.some.inj e).symm
      subst hv'
      refine ⟨t9, _, _, _, _, rfl, by rw [hnl]; exact .tail _ (.tail _ (.tail _ hm9)), rfl, rfl, ?_⟩
      ((refine gen_all9 (ne := ?gN_322) (P := ?gP_322) ((?gf_322 : ∀ a0 a1 a2 a3 a4 a5 a6 a7 a8, ?gP_322 a0 a1 a2 a3 a4 a5 a6 a7 a8) (gen9 ?gN_322 ?gP_322).1 (gen9 ?gN_322 ?gP_322).2.1 (gen9 ?gN_322 ?gP_322).2.2.1 (gen9 ?gN_322 ?gP_322).2.2.2.1 (gen9 ?gN_322 ?gP_322).2.2.2.2.1 (gen9 ?gN_322 ?gP_322).2.2.2.2.2.1 (gen9 ?gN_322 ?gP_322).2.2.2.2.2.2.1 (gen9 ?gN_322 ?gP_322).2.2.2.2.2.2.2.1 (gen9 ?gN_322 ?gP_322).2.2.2.2.2.2.2.2); (case gN_322 => k_extra "my:ne")))
      intros I oI C oC D m2 h9 tk9 E9
      intro hC hx hx2 F9 N9 off hne
      clear F' N' Nb
      rw [hnl] at N9
      k_extra "my:go"
      (try (with_reducible refine stop_out ?_))
      rename (Fr _ _ _ _) => F'
      rename (News _ _ _ _) => N'
      refine ⟨_, _, nw, rfl, by k_asm, by rw [hnl]; k_asm, off, .inr ⟨_, by rw [hnl]; exact .tail _ (.head _), rfl, _, rfl⟩, rfl, ?_⟩
      rw [take_map_snoc _ hi']
      exact strsAre_snoc hS
  · walk_at "g4"
    intros i ys nw v
    rintro hi ⟨rfl, hS⟩ hv
    have hi' : i < (allPs sns).length := by rw [← hPl]; exact hi
    refine ex_in3 (hp2.out.2 i _ _ (List.getElem?_eq_getElem hi')) ?_
    walk_at "g3"
    intros t9 u9 v9
    rintro ⟨hv9, hm9⟩
    have hv' : v = .ref t9 := by
      have e : pv[i]? = some v := by simpa using hv
      rw [hv9] at e
      exact (Option.some.inj e).symm
    subst hv'
    refine ⟨t9, _, _, _, _, rfl, by rw [hnl]; exact .tail _ (.tail _ hm9), rfl, rfl, ?_⟩
    ((refine gen_all9 (ne := ?gN_323) (P := ?gP_323) ((?gf_323 : ∀ a0 a1 a2 a3 a4 a5 a6 a7 a8, ?gP_323 a0 a1 a2 a3 a4 a5 a6 a7 a8) (gen9 ?gN_323 ?gP_323).1 (gen9 ?gN_323 ?gP_323).2.1 (gen9 ?gN_323 ?gP_323).2.2.1 (gen9 ?gN_323 ?gP_323).2.2.2.1 (gen9 ?gN_323 ?gP_323).2.2.2.2.1 (gen9 ?gN_323 ?gP_323).2.2.2.2.2.1 (gen9 ?gN_323 ?gP_323).2.2.2.2.2.2.1 (gen9 ?gN_323 ?gP_323).2.2.2.2.2.2.2.1 (gen9 ?gN_323 ?gP_323).2.2.2.2.2.2.2.2); (case gN_323 => k_extra "my:ne")))
    intros I oI C oC D m2 h9 tk9 E9
    intro hC hx hx2 F9 N9 off hne
    clear F' N' Nb
    rw [hnl] at N9
    k_extra "my:go"
    (try (with_reducible refine stop_out ?_))
    rename (Fr _ _ _ _) => F'
    rename (News _ _ _ _) => N'
    refine ⟨_, _, nw, rfl, by k_asm, by rw [hnl]; k_asm, off, .inr ⟨_, by rw [hnl]; exact .head _, rfl, _, rfl⟩, rfl, ?_⟩
    rw [take_map_snoc _ hi']
    exact strsAre_snoc hS)
end
theorem lay_50 : True := by
  k_with "off46" => skip
  exact True.intro
end
end Mine
theorem PySem.Challenge.cw_tv0054_01_holds : PySem.Challenge.rw_tv0054_01.Holds :=
  Mine.law_holds
