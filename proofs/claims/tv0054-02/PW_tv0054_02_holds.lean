import PyProof.Rows.All
import Wide.All
import OpenK.AllK
import Wide.FinOn
import PySem.Challenge.RW_tv0054_02
open PySem PySem.W PyProof.Rows PySem.Calls PyProof.V PySem.Spec
set_option Elab.async false
set_option compiler.extract_closed false
set_option maxRecDepth 100000
set_option maxHeartbeats 16000000
set_option linter.all false
namespace Mine
def hd0.tw5390490672545286330 : Nat := 0
def hd0.tw4300087549415755697 : Nat := 0
def hd0.tw15788085184300947584 : Nat := 0
def hd0.tw14603430072732904927 : Nat := 0
def hd0.tw14219380631129882139 : Nat := 0
def hd0.tw10282353163112612276 : Nat := 0
def hd0.tw16748173589141266553 : Nat := 0
def hd0.tw2933936528166170380 : Nat := 0
def hd0.tw1555764464912921474 : Nat := 0
def hd0.tw1659871116806467821 : Nat := 0
def hd0.tw3394719057209654559 : Nat := 0
def hd0.tw12051904425446288284 : Nat := 0
def hd0.tw8335639332613301527 : Nat := 0
def hd0.tw17947257124642734794 : Nat := 0
def hd0.tw15746713401997345701 : Nat := 0
def hd0.tw11899850754824318135 : Nat := 0
def hd0.tw7604119010897642556 : Nat := 0
def hd0.tw15356993127067278698 : Nat := 0
def hd0.tw5170081951538992038 : Nat := 0
def hd0.tw8662514580111904966 : Nat := 0
def hd0.tw14233133231375270301 : Nat := 0
def hd0.tw865058268317904187 : Nat := 0
def hd0.tw18017804224502492442 : Nat := 0
def hd0.tw11797003534878959301 : Nat := 0
def hd0.tw1190472648562434886 : Nat := 0
def hd0.tw16367954908017057810 : Nat := 0
def hd0.tw12205703568204840568 : Nat := 0
def hd0.tw6417054050271230033 : Nat := 0
def hd0.tw2872812170981058569 : Nat := 0
def hd0.tw2788084877741506761 : Nat := 0
def hd0.tw13209727718768804796 : Nat := 0
def hd0.tw12805207464963118493 : Nat := 0
def hd0.tw18232621011535782799 : Nat := 0
def hd0.tw3873771098192455846 : Nat := 0
def hd0.tw16408510505809933179 : Nat := 0
def hd0.tw17344640237846363095 : Nat := 0
def hd0.tw17496181070154571847 : Nat := 0
def hd0.tw13906137355324554554 : Nat := 0
def hd0.tw2093440984422149139 : Nat := 0
def hd0.tw5145303074121384310 : Nat := 0
def hd0.tw13407135678810255579 : Nat := 0
def hd0.tw11296317026604976579 : Nat := 0
def hd0.tw4373546571844417716 : Nat := 0
def hd0.tw15231096910501823895 : Nat := 0
def hd0.tw4837166207565515596 : Nat := 0
def hd0.tw7288751869163876638 : Nat := 0
def hd0.tw18173235499607337090 : Nat := 0
def hd0.tw14487139744964632365 : Nat := 0
def hd0.tw8980591889485315963 : Nat := 0
def hd0.tw2611855371027192026 : Nat := 0
def hd0.tw16945641315097055003 : Nat := 0
def hd0.tw7647748658271166302 : Nat := 0
def hd0.tw13198788859858803882 : Nat := 0
def hd0.tw447684426723917565 : Nat := 0
def hd0.tw16112012934339231772 : Nat := 0
def hd0.tw14694669036159307144 : Nat := 0
def hd0.tw2510589942101626497 : Nat := 0
def hd0.tw11342738394816991558 : Nat := 0
def hd0.tw8077860469154291183 : Nat := 0
def hd0.tw12014350970595483805 : Nat := 0
def hd0.tw17705790862779081903 : Nat := 0
def hd0.tw3093808528041796494 : Nat := 0
def hd0.tw16463593755247147200 : Nat := 0
def hd0.tw8446322832418629212 : Nat := 0
def hd0.tw12784123285358203314 : Nat := 0
def hd0.tw9115860346242966872 : Nat := 0
def hd0.tw4798040755957998673 : Nat := 0
def hd0.tw10046214379172474726 : Nat := 0
def hd0.tw3186808078206046059 : Nat := 0
def hd0.tw12786491423460641670 : Nat := 0
def hd0.tw14502001302391087502 : Nat := 0
def hd0.tw18430945745249023057 : Nat := 0
def hd0.tw309277354587492579 : Nat := 0
def hd0.tw15783581761236437582 : Nat := 0
def hd0.tw8284464484006228044 : Nat := 0
def hd0.tw5992386861721816697 : Nat := 0
def hd0.tw10260036693505685281 : Nat := 0
def hd0.tw14397348241044380734 : Nat := 0
def hd0.tw18372316644610329012 : Nat := 0
def hd0.tw5244145174254350547 : Nat := 0
def hd0.tw17763732069537761205 : Nat := 0
def hd0.tw17998732546299578792 : Nat := 0
def hd0.tw1347409029562170106 : Nat := 0
def hd0.tw1191622958437496830 : Nat := 0
def hd0.tw1405133032699174042 : Nat := 0
def hd0.tw6302951332473218875 : Nat := 0
def hd0.tw17356708106332492362 : Nat := 0
def hd0.tw109082221543053423 : Nat := 0
def hd0.tw6414887533649200790 : Nat := 0
def hd0.tw15200775214083542848 : Nat := 0
def hd0.tw7026590804218146370 : Nat := 0
def hd0.tw444321031296666723 : Nat := 0
def hd0.tw1562688426800042800 : Nat := 0
def hd0.tw13728930200626439758 : Nat := 0
def hd0.tw17529906274252830889 : Nat := 0
def hd0.tw7493280530175958909 : Nat := 0
def hd0.tw3465554795787012971 : Nat := 0
def hd0.tw13012256603424907846 : Nat := 0
def hd0.tw18132021507681513943 : Nat := 0
def hd0.tw1248103358546188252 : Nat := 0
def hd0.tw1690223966290365743 : Nat := 0
def hd0.tw1033364844809730243 : Nat := 0
def hd0.tw17020303828985201908 : Nat := 0
def hd0.tw5461055050941286108 : Nat := 0
def hd0.tw43554979256357654 : Nat := 0
def hd0.tw2128425038151221735 : Nat := 0
def hd0.tw1673108226327096836 : Nat := 0
def hd0.tw4958161400511572651 : Nat := 0
def hd0.tw6675033689688884099 : Nat := 0
def hd0.tw876251100685909870 : Nat := 0
def hd0.tw6839121083959268948 : Nat := 0
def hd0.tw10950015098503667 : Nat := 0
def hd0.tw7692641201406191224 : Nat := 0
def hd0.tw11017282251955597146 : Nat := 0
def hd0.tw4835004971785622705 : Nat := 0
def hd0.tw13105775301183761922 : Nat := 0
def hd0.tw15726108546692610502 : Nat := 0
def hd0.tw3968613266054771741 : Nat := 0
def hd0.tw12003068471920674386 : Nat := 0
def hd0.tw10834066803405267298 : Nat := 0
def hd0.tw3198289665323921157 : Nat := 0
def hd0.tw14861641958691549802 : Nat := 0
def hd0.tw2808911380250203912 : Nat := 0
def hd0.tw3361144743427637995 : Nat := 0
def hd0.tw16356745440860276358 : Nat := 0
def hd0.tw15129630465062437422 : Nat := 0
def hd0.tw906593335335552129 : Nat := 0
def hd0.tw17444978098136114977 : Nat := 0
def hd0.tw11618779779337073695 : Nat := 0
def hd0.tw4691257246625332865 : Nat := 0
def hd0.tw18134629352650391119 : Nat := 0
def hd0.tw1155942757759416036 : Nat := 0
def hd0.tw7579484373256523769 : Nat := 0
def hd0.tw11497454159474323877 : Nat := 0
def hd0.tw15617416376691679683 : Nat := 0
def hd0.tw179991387133551241 : Nat := 0
def hd0.tw13774004877433310113 : Nat := 0
def hd0.tw8575195297261919627 : Nat := 0
def hd0.tw17524989057665669244 : Nat := 0
def hd0.tw9632985906301461538 : Nat := 0
def hd0.tw1904828551985836751 : Nat := 0
def hd0.tw3352384854717104398 : Nat := 0
def hd0.tw4449064183696094736 : Nat := 0
def hd0.tw3801730876566874525 : Nat := 0
def hd0.tw2008372144067494435 : Nat := 0
def hd0.tw13545224959385804456 : Nat := 0
def hd0.tw13008693350213662659 : Nat := 0
def hd0.tw2404129781330519401 : Nat := 0
def hd0.tw3687058039446345037 : Nat := 0
def hd0.tw5583339228994031707 : Nat := 0
def hd0.tw16871336801076393977 : Nat := 0
def hd0.tw16912591420726631485 : Nat := 0
def hd0.tw1500556042865797202 : Nat := 0
def hd0.tw12457655390460550545 : Nat := 0
def hd0.tw14341870401148061235 : Nat := 0
def hd0.tw15764005096722370900 : Nat := 0
def hd0.tw961968547571948100 : Nat := 0
def hd0.tw5447685084907291095 : Nat := 0
def hd0.tw17043531303389682065 : Nat := 0
def hd0.tw3404567561779638057 : Nat := 0
def hd0.tw10131604004383188290 : Nat := 0
def hd0.tw1601430817000102872 : Nat := 0
def hd0.tw5250565193884996367 : Nat := 0
def hd0.tw12933712334415985070 : Nat := 0
def hd0.tw2202114373748815983 : Nat := 0
def hd0.tw14069131116232622754 : Nat := 0
def hd0.tw3801753739915242578 : Nat := 0
def hd0.tw12274314036958901727 : Nat := 0
def hd0.tw16057218211864961754 : Nat := 0
def hd0.tw5487660210450000937 : Nat := 0
def hd0.tw15134839469752433495 : Nat := 0
def hd0.tw13451678851320754741 : Nat := 0
def hd0.tw1700567991170962110 : Nat := 0
def hd0.tw4539016668912386218 : Nat := 0
def hd0.tw17965875459906211518 : Nat := 0
def hd0.tw7826759426205029736 : Nat := 0
def hd0.tw17087212701041150630 : Nat := 0
def hd0.tw208745692366851961 : Nat := 0
def hd0.tw18353199073579788961 : Nat := 0
def hd0.tw12603551123371624798 : Nat := 0
def hd0.tw10938155337808927905 : Nat := 0
def hd0.tw5354866172724995518 : Nat := 0
def hd0.tw8004278105448739639 : Nat := 0
def hd0.tw13448176657100887490 : Nat := 0
def hd0.tw11636710957646498814 : Nat := 0
def hd0.tw15082650240143370117 : Nat := 0
def hd0.tw1047158555221178310 : Nat := 0
def hd0.tw17260666893635610334 : Nat := 0
def hd0.tw5476550517563732157 : Nat := 0
def hd0.tw6865537962405302380 : Nat := 0
def hd0.tw3466419429004618768 : Nat := 0
def hd0.tw5851460317537991607 : Nat := 0
def hd0.tw7548088299822677513 : Nat := 0
def hd0.tw12267492742709321793 : Nat := 0
def hd0.tw18310740603297040469 : Nat := 0
def hd0.tw4863585562482331352 : Nat := 0
def hd0.tw7592970102811533889 : Nat := 0
def hd0.tw17781076316100833504 : Nat := 0
def hd0.tw9699008465174831797 : Nat := 0
def hd0.tw12281760368372384568 : Nat := 0
def hd0.tw9016927219191481385 : Nat := 0
def hd0.tw6269040581006461771 : Nat := 0
def hd0.tw12158446373679332284 : Nat := 0
def hd0.tw113680085351987624 : Nat := 0
def hd0.tw4550181199752876123 : Nat := 0
def hd0.tw2846630024949705071 : Nat := 0
def hd0.tw2860899101727606338 : Nat := 0
def hd0.tw5795620790108031851 : Nat := 0
def hd0.tw1280484567907817961 : Nat := 0
def hd0.tw16690107442442495926 : Nat := 0
def hd0.tw545614883460498859 : Nat := 0
def hd0.tw2732253915798935635 : Nat := 0
def hd0.tw14693713190999327560 : Nat := 0
def hd0.tw7731734453053413589 : Nat := 0
def hd0.tw10297934492154968163 : Nat := 0
def hd0.tw1237551924186500246 : Nat := 0
def hd0.tw8021989280010895897 : Nat := 0
def hd0.tw4320476126873396096 : Nat := 0
def hd0.tw5770661581888061647 : Nat := 0
def hd0.tw12846747447118687680 : Nat := 0
def hd0.tw4964845553990846222 : Nat := 0
def hd0.tw2493177000767575471 : Nat := 0
def hd0.tw12056577157831287533 : Nat := 0
def hd0.tw5428070130070536091 : Nat := 0
def hd0.tw15429971745270200749 : Nat := 0
def hd0.tw11837375871785574032 : Nat := 0
def hd0.tw8016032594811649588 : Nat := 0
def hd0.tw7660253145568457420 : Nat := 0
def hd0.tw3525650266765315696 : Nat := 0
def hd0.tw11614672710775262937 : Nat := 0
def hd0.tw6900330739380434607 : Nat := 0
def hd0.tw7421650667855571232 : Nat := 0
def hd0.tw4909664616505572318 : Nat := 0
def hd0.tw5721069425725921740 : Nat := 0
def hd0.tw13130983519766148356 : Nat := 0
def hd0.tw5099789754451425677 : Nat := 0
def hd0.tw5057337168837947518 : Nat := 0
def hd0.tw12095853167564722803 : Nat := 0
def hd0.tw12245222262104480702 : Nat := 0
def hd0.tw4116054870980984685 : Nat := 0
def hd0.tw5021738059777395277 : Nat := 0
def hd0.tw12949994812025541312 : Nat := 0
def hd0.tw17605128147998923189 : Nat := 0
def hd0.tw17623544462552871726 : Nat := 0
def hd0.tw8989800094379352571 : Nat := 0
def hd0.tw2089478843488583011 : Nat := 0
def hd0.tw14770051269562955072 : Nat := 0
def hd0.tw17185274593951198820 : Nat := 0
def hd0.tw11520006908099386746 : Nat := 0
def hd0.tw3179202085876152303 : Nat := 0
def hd0.tw14815348448972091128 : Nat := 0
def hd0.tw2329996539569397640 : Nat := 0
def hd0.tw2431039718480141022 : Nat := 0
def hd0.tw6643238626148955698 : Nat := 0
def hd0.tw12322794258418571040 : Nat := 0
def hd0.tw5555227914462491178 : Nat := 0
def hd0.tw4632445285567490079 : Nat := 0
def hd0.tw2863537065255238847 : Nat := 0
def hd0.tw15499897975847195668 : Nat := 0
def hd0.tw4505414625599408467 : Nat := 0
def hd0.tw8860506098235749104 : Nat := 0
def hd0.tw16526914962771135690 : Nat := 0
def hd0.tw14198383729236097778 : Nat := 0
def hd0.tw9846644877726163059 : Nat := 0
def hd0.tw6175420903726235015 : Nat := 0
def hd0.tw12665113834384165610 : Nat := 0
def hd0.tw6998471644465347158 : Nat := 0
def hd0.tw5597981571746525636 : Nat := 0
def hd0.tw10992540420993761691 : Nat := 0
def hd0.tw7937780131228529215 : Nat := 0
def hd0.tw4061320783067801059 : Nat := 0
def hd0.tw15478791486184338690 : Nat := 0
def hd0.tw18416291653570748741 : Nat := 0
def hd0.tw10990117588895114390 : Nat := 0
def hd0.tw14891386369280825845 : Nat := 0
def hd0.tw8472709252117196360 : Nat := 0
def hd0.tw15419091035143141216 : Nat := 0
def hd0.tw18098247460298835536 : Nat := 0
def hd0.tw10069731379804114837 : Nat := 0
def hd0.tw8708807820475274586 : Nat := 0
def hd0.tw8428931017558521197 : Nat := 0
def hd0.tw7079748053240274874 : Nat := 0
def hd0.tw9563851893216371074 : Nat := 0
def hd0.tw13155985672576599351 : Nat := 0
def hd0.tw7237386881181516464 : Nat := 0
def hd0.tw16538306262251643217 : Nat := 0
def hd0.tw14530719843544073062 : Nat := 0
def hd0.tw10121685255857489051 : Nat := 0
def hd0.tw18122743868552750832 : Nat := 0
def hd0.tw12782592981888142045 : Nat := 0
def hd0.tw11510660921149772417 : Nat := 0
def hd0.tw14727694407236729852 : Nat := 0
def hd0.tw3771890792122485445 : Nat := 0
def hd0.tw2827288076518157466 : Nat := 0
def hd0.tw12407471169438301300 : Nat := 0
def hd0.tw15598781321256940172 : Nat := 0
def hd0.tw11237116216057311745 : Nat := 0
def hd0.tw1087435185961119440 : Nat := 0
def hd0.tw17132104802792603634 : Nat := 0
def hd0.tw16136509226700455639 : Nat := 0
def hd0.tw2514418997314332413 : Nat := 0
def hd0.tw15960652031959596643 : Nat := 0
def hd0.tw15883065056585263411 : Nat := 0
def hd0.tw16799398214865156367 : Nat := 0
def hd0.tw2834553128231939821 : Nat := 0
def hd0.tw10831172887324590962 : Nat := 0
def hd0.tw7970355855660570498 : Nat := 0
def hd0.tw6595308224653121280 : Nat := 0
def hd0.tw15675528710725479212 : Nat := 0
def hd0.tw901327545473398541 : Nat := 0
def hd0.tw8239782323564299538 : Nat := 0
def hd0.tw14364967241312749879 : Nat := 0
def hd0.tw14392666273103455515 : Nat := 0
def hd0.tw10712882426781019964 : Nat := 0
def hd0.tw16426948963021806353 : Nat := 0
def hd0.tw14708056100453182282 : Nat := 0
def hd0.tw5366906053448781924 : Nat := 0
def hd0.tw8052174542758884176 : Nat := 0
def hd0.tw3233326631691786436 : Nat := 0
def hd0.tw8753875272357604297 : Nat := 0
def hd0.tw9454721371543059285 : Nat := 0
def hd0.tw16427158468746511654 : Nat := 0
def hd0.tw4504473542979724961 : Nat := 0
def hd0.tw3687841886611527418 : Nat := 0
def hd0.tw3153493263474777528 : Nat := 0
def hd0.tw11856145978303915523 : Nat := 0
def hd0.tw3149825195295114616 : Nat := 0
def hd0.tw1817164187568313849 : Nat := 0
def hd0.tw5009392681941405746 : Nat := 0
def hd0.tw3949515639412079851 : Nat := 0
def hd0.tw8437564595239901655 : Nat := 0
def hd0.tw16594580601805772844 : Nat := 0
def hd0.tw15621366761432239028 : Nat := 0
def hd0.tw9056650140919055547 : Nat := 0
def hd0.tw17828249871568911703 : Nat := 0
def hd0.tw13143500989680652158 : Nat := 0
def hd0.tw3178646243906574223 : Nat := 0
def hd0.tw3563376653281826072 : Nat := 0
def hd0.tw14876873880408228765 : Nat := 0
def hd0.tw13555123127346715575 : Nat := 0
def hd0.tw994453967162580088 : Nat := 0
def hd0.tw4597174426631724057 : Nat := 0
def hd0.tw8445946584241079207 : Nat := 0
def hd0.tw1277909223561221377 : Nat := 0
def hd0.tw17788234752527007362 : Nat := 0
def hd0.tw17327177587765197472 : Nat := 0
def hd0.tw7746724291664459861 : Nat := 0
def hd0.tw6070584094110415979 : Nat := 0
def hd0.tw4864754268065981865 : Nat := 0
def hd0.tw4582842965409387306 : Nat := 0
def hd0.tw8785302206795578915 : Nat := 0
def hd0.tw3406311059433270224 : Nat := 0
def hd0.tw17312371794062739880 : Nat := 0
def hd0.tw3640104315449746964 : Nat := 0
def hd0.tw8503028519756171898 : Nat := 0
def hd0.tw11759931035086368862 : Nat := 0
def hd0.tw839443794188527141 : Nat := 0
def hd0.tw1779554380871787090 : Nat := 0
def hd0.tw15728283652489511788 : Nat := 0
def hd0.tw9636976457204810352 : Nat := 0
def hd0.tw15005460686244068168 : Nat := 0
def hd0.tw11249123509674406191 : Nat := 0
def hd0.tw9385747698160950831 : Nat := 0
def hd0.tw16178185886527317852 : Nat := 0
def hd0.tw16269486087580614188 : Nat := 0
def hd0.tw2919583234286436895 : Nat := 0
def hd0.tw7359261033328424013 : Nat := 0
def hd0.tw9802666196054454208 : Nat := 0
def hd0.tw48920468559051274 : Nat := 0
def hd0.tw1967676767884184963 : Nat := 0
def hd0.tw12042970921518469988 : Nat := 0
def hd0.tw1301209152814809411 : Nat := 0
def hd0.tw6134885170197741980 : Nat := 0
def hd0.tw1958745321591857818 : Nat := 0
def hd0.tw9188398823286509360 : Nat := 0
def hd0.tw7754451475289968488 : Nat := 0
def hd0.tw3794367142867343539 : Nat := 0
def hd0.tw159360540141897952 : Nat := 0
def hd0.tw7835483635374872829 : Nat := 0
def hd0.tw7895234915340226546 : Nat := 0
def hd0.tw3614440592705372375 : Nat := 0
def hd0.tw2080979622161356455 : Nat := 0
def hd0.tw5271022457499508285 : Nat := 0
def hd0.tw14133583787211923317 : Nat := 0
def hd0.tw1189054894648436682 : Nat := 0
def hd0.tw16664977806865809019 : Nat := 0
def hd0.tw8907265306392417265 : Nat := 0
def hd0.tw15248397019474160181 : Nat := 0
def hd0.tw10566386253777865092 : Nat := 0
def hd0.tw14469414521783600489 : Nat := 0
def hd0.tw1825929278167054478 : Nat := 0
def hd0.tw6610721040928539861 : Nat := 0
def hd0.tw9458562405092480593 : Nat := 0
def hd0.tw5103694622764338702 : Nat := 0
def hd0.tw744657077029961169 : Nat := 0
def hd0.tw15549164469732841750 : Nat := 0
def hd0.tw13893897624538738667 : Nat := 0
def hd0.tw7609028302745033977 : Nat := 0
def hd0.tw10783142842391291914 : Nat := 0
def hd0.tw2738655298557570645 : Nat := 0
def hd0.tw17557899024913747603 : Nat := 0
def hd0.tw18078784917974338621 : Nat := 0
def hd0.tw10176971302787931466 : Nat := 0
def hd0.tw201601121702685456 : Nat := 0
def hd0.tw16844770772499615110 : Nat := 0
def hd0.tw12408544009092005060 : Nat := 0
def hd0.tw12151319272224551882 : Nat := 0
def hd0.tw13742105315037027404 : Nat := 0
def hd0.tw1963438426913184167 : Nat := 0
def hd0.tw15233396900245208191 : Nat := 0
def hd0.tw7252911797259916394 : Nat := 0
def hd0.tw16866877141584463672 : Nat := 0
def hd0.tw4983706646000405154 : Nat := 0
def hd0.tw5223386943819690705 : Nat := 0
def hd0.tw6518245875282815045 : Nat := 0
def hd0.tw12753557443971426460 : Nat := 0
def hd0.tw15490979449997167053 : Nat := 0
def hd0.tw14707159364453948219 : Nat := 0
def hd0.tw8407046076752184140 : Nat := 0
def hd0.tw2510654449352665463 : Nat := 0
def hd0.tw10893015288667660014 : Nat := 0
def hd0.tw12482913051474129847 : Nat := 0
def hd0.tw8053029068741257462 : Nat := 0
def hd0.tw5814328120849822248 : Nat := 0
def hd0.tw12171479601555845635 : Nat := 0
def hd0.tw14574581053450234351 : Nat := 0
def hd0.tw14210159926740337751 : Nat := 0
def hd0.tw463379757040502600 : Nat := 0
def hd0.tw13860332498241106628 : Nat := 0
def hd0.tw539940733940218950 : Nat := 0
def hd0.tw9777354187630944624 : Nat := 0
def hd0.tw5341192815897622196 : Nat := 0
def hd0.tw241197298611353260 : Nat := 0
def hd0.tw12933303735471307315 : Nat := 0
def hd0.tw5677135109947497480 : Nat := 0
def hd0.tw6326191274288118561 : Nat := 0
def hd0.tw1078058097833363317 : Nat := 0
def hd0.tw16577491470658047865 : Nat := 0
def hd0.tw4747281084397564757 : Nat := 0
def hd0.tw12276703297741760479 : Nat := 0
def hd0.tw16255563409837272293 : Nat := 0
def hd0.tw17984987178924691041 : Nat := 0
def hd0.tw4301605040222552612 : Nat := 0
def hd0.tw1450596053491749582 : Nat := 0
def hd0.tw7614193382627860833 : Nat := 0
def hd0.tw14943190808241422403 : Nat := 0
def hd0.tw2920931838809075660 : Nat := 0
def hd0.tw17310554660023955137 : Nat := 0
def hd0.tw14997161635575945179 : Nat := 0
def hd0.tw1830908064365640755 : Nat := 0
def hd0.tw4509526690794525690 : Nat := 0
def hd0.tw5173078720295292078 : Nat := 0
def hd0.tw9059920523635683277 : Nat := 0
def hd0.tw9001251600818444179 : Nat := 0
def hd0.tw10542246809792872130 : Nat := 0
def hd0.tw18135268618719461282 : Nat := 0
def hd0.tw5364393782896679965 : Nat := 0
def hd0.tw11573459230172034977 : Nat := 0
def hd0.tw14905831658627392255 : Nat := 0
def hd0.tw1359104647744391194 : Nat := 0
def hd0.tw6304940225609730636 : Nat := 0
def hd0.tw10299701338536963064 : Nat := 0
def hd0.tw2735401655943086511 : Nat := 0
def hd0.tw11623040055089417287 : Nat := 0
def hd0.tw8464541185895156213 : Nat := 0
def hd0.tw13800483763300068865 : Nat := 0
def hd0.tw5677194259293420247 : Nat := 0
def hd0.tw1824040809486260883 : Nat := 0
def hd0.tw6538509518478292348 : Nat := 0
def hd0.tw7236157760442490695 : Nat := 0
def hd0.tw6663726501131112074 : Nat := 0
def hd0.tw17011805984709885637 : Nat := 0
def hd0.tw13396925332426190305 : Nat := 0
def hd0.tw5484117130419629514 : Nat := 0
def hd0.tw13398391709312642032 : Nat := 0
def hd0.tw11064160589316715639 : Nat := 0
def hd0.tw3832096840286635077 : Nat := 0
def hd0.tw891186494875849158 : Nat := 0
def hd0.tw12607126878928665686 : Nat := 0
def hd0.tw15389241651499710389 : Nat := 0
def hd0.tw18186319125245921542 : Nat := 0
def hd0.tw17564057355376757762 : Nat := 0
def hd0.tw13969635912206726010 : Nat := 0
def hd0.tw10702419455615826468 : Nat := 0
def hd0.tw4345986799964169788 : Nat := 0
def hd0.tw13333579491729134397 : Nat := 0
def hd0.tw11119462899506271795 : Nat := 0
def hd0.tw13253873054810628565 : Nat := 0
def hd0.tw1693041884927832177 : Nat := 0
def hd0.tw3960374259282078579 : Nat := 0
def hd0.tw11268334314345259802 : Nat := 0
def hd0.tw12076167835796173172 : Nat := 0
def hd0.tw18115389002588741679 : Nat := 0
def hd0.tw17678402359407811144 : Nat := 0
def hd0.tw9589788102987637898 : Nat := 0
theorem keep_it {T : Prop} (t : T) (_ : t = t) : T := t
set_option Elab.async true in
theorem hd0 : True := by
  refine (?f : PySem.Challenge.rw_tv0054_02.Holds → True) ?X
  case f => exact fun _ => True.intro
  case X =>
    refine (?A : PySem.Challenge.rw_tv0054_02.row.Holds → PySem.Challenge.rw_tv0054_02.Holds) ?B
    case A =>
      as_aux_lemma =>
      intro k0
      w_on
      o_law
      exact k0
    case B =>
      as_aux_lemma =>
      w_on
      k_head
      (case hw => w_witness2)
      apply_rules (newGoals := .nonDependentOnly) (maxDepth := 1) [keep_it]
      rfl
theorem hd_there : hd0.heap_1_41 = hd0.heap_1_41 := rfl
end Mine
namespace Mine
/-- a def's contract, where its caller stands at most dp deep and un units up: called with vs over a ledger news, it hands back what post says, with the ledger then -/
def Con (prog : Program) (w : World) (K : Frag) (f : Addr) (dp un : Nat) (vs : List Value) (news : List (Addr × Obj)) (post : Value → List (Addr × Obj) → Prop) : Prop :=
  ∀ (p : Program) (loose : List Str) (mean : ExcName → Option Value) (mg mb : Str → Option Value) (gd : Option (List Code)) (cn : Str) (cs : Scope) (a : Addr) (ccd : Value) (cl : List (Str × Addr)) (outer : List Env) (A₀ : Around) (base h₀ : Heap) (L : Addr) (m : Str → Option Value) (s : Shared) (Q E : Value → Shared → Prop),
    Below A₀ base outer h₀ → Fr h₀ L s.heap m → K.In h₀ → News h₀ L s.heap news → Top p loose mean mg mb h₀ → cs.kind = .function →
    (∀ v news' h' tk', post v news' → Fr h₀ L h' m → News h₀ L h' news' → Q v { s with heap := h', toks := tk' }) →
    wpAny (model prog w) (ktrTop dp un gd cn cs L a ccd cl outer) (call (.ref f) vs) Q E s
theorem around_mono {α : Type} {M : Model} {A A' : Around} {t : Sem α} {Q : α → Shared → Prop} {E : Value → Shared → Prop} {s : Shared} (h : wpAny M A' t Q E s)
    (h1 : A.handled = A'.handled) (h2 : A.depth ≤ A'.depth) (h3 : A.frames = A'.frames) (h4 : A.guards = A'.guards) (h5 : A.units ≤ A'.units) : wpAny M A t Q E s :=
  fun Γ p hΓ => h Γ p ⟨h1 ▸ hΓ.1, Nat.le_trans hΓ.2.1 h2, h3 ▸ hΓ.2.2.1, h4 ▸ hΓ.2.2.2.1, Nat.le_trans hΓ.2.2.2.2 h5⟩
theorem Con.use {prog : Program} {w : World} {K : Frag} {f : Addr} {dp un dp' un' : Nat} {vs : List Value} {news : List (Addr × Obj)} {post : Value → List (Addr × Obj) → Prop} (C : Con prog w K f dp un vs news post) (hd : dp' ≤ dp) (hu : un' ≤ un)
    {p : Program} {loose : List Str} {mean : ExcName → Option Value} {mg mb : Str → Option Value} {gd : Option (List Code)} {cn : Str} {cs : Scope} {a : Addr} {ccd : Value} {cl : List (Str × Addr)} {outer : List Env} {A₀ : Around} {base h₀ : Heap} {L : Addr} {m : Str → Option Value} {s : Shared} {Q E : Value → Shared → Prop}
    (B : Below A₀ base outer h₀) (F : Fr h₀ L s.heap m) (X : K.In h₀) (N : News h₀ L s.heap news) (T : Top p loose mean mg mb h₀) (hk : cs.kind = .function)
    (ret : ∀ v news' h' tk', post v news' → Fr h₀ L h' m → News h₀ L h' news' → Q v { s with heap := h', toks := tk' }) :
    wpAny (model prog w) (ktrTop dp' un' gd cn cs L a ccd cl outer) (call (.ref f) vs) Q E s :=
  around_mono (C p loose mean mg mb gd cn cs a ccd cl outer A₀ base h₀ L m s Q E B F X N T hk ret) rfl hd rfl rfl hu
theorem ne_of_allLt {l : List (Addr × Obj)} {d : Addr} (h : ∀ p ∈ l, p.1 < d) : ∀ p ∈ l, p.1 ≠ d := fun p hp => Nat.ne_of_lt (h p hp)
theorem Con.useT {prog : Program} {w : World} {K : Frag} {f : Addr} {dp un dp' un' : Nat} {vs : List Value} {news news' : List (Addr × Obj)} {r : Tok → Value} (C : Con prog w K f dp un vs news (fun v n => (∃ t, v = r t) ∧ n = news')) (hd : dp' ≤ dp) (hu : un' ≤ un)
    {p : Program} {loose : List Str} {mean : ExcName → Option Value} {mg mb : Str → Option Value} {gd : Option (List Code)} {cn : Str} {cs : Scope} {a : Addr} {ccd : Value} {cl : List (Str × Addr)} {outer : List Env} {A₀ : Around} {base h₀ : Heap} {L : Addr} {m : Str → Option Value} {s : Shared} {Q E : Value → Shared → Prop}
    (B : Below A₀ base outer h₀) (F : Fr h₀ L s.heap m) (X : K.In h₀) (N : News h₀ L s.heap news) (T : Top p loose mean mg mb h₀) (hk : cs.kind = .function)
    (ret : ∀ t h' tk', Fr h₀ L h' m → News h₀ L h' news' → Q (r t) { s with heap := h', toks := tk' }) :
    wpAny (model prog w) (ktrTop dp' un' gd cn cs L a ccd cl outer) (call (.ref f) vs) Q E s :=
  C.use hd hu B F X N T hk fun v n h' tk' hp F' N' => by
    obtain ⟨⟨t, rfl⟩, rfl⟩ := hp
    exact ret t h' tk' F' N'
theorem kstB_of {x : Str} : ∀ {binds : List (Str × Value)}, (binds.map (·.1)).Nodup → binds.reverse.lookup x = kstB (fun _ => none) binds x
  | [], _ => rfl
  | (y, v) :: r, hn => by
    have ih := kstB_of (x := x) (binds := r) (List.nodup_cons.mp hn).2
    have hy : y ∉ r.map (·.1) := (List.nodup_cons.mp hn).1
    show ((y, v) :: r).reverse.lookup x = if x = y then some v else kstB (fun _ => none) r x
    rw [List.reverse_cons, List.lookup_append, ih]
    by_cases h : x = y
    · subst h
      rw [if_pos rfl]
      have h0 : kstB (fun _ => none) r x = none := by
        clear ih hn
        induction r with
        | nil => rfl
        | cons p r ih =>
          simp only [List.map_cons, List.mem_cons, not_or] at hy
          show (if x = p.1 then some p.2 else kstB (fun _ => none) r x) = none
          rw [if_neg hy.1]
          exact ih hy.2
      rw [h0]
      simp
    · rw [if_neg h]
      have hb : (x == y) = false := beq_eq_false_iff_ne.mpr h
      simp [List.lookup, hb]
/-- what a body's end must show -/
def Out (g : Heap) (s₀ : Shared) (post : Value → List (Addr × Obj) → Prop) (v : Value) (s' : Shared) : Prop :=
  ∃ (h' : Heap) (tk' : Nat) (L' : Addr) (m' : Str → Option Value) (more news' : List (Addr × Obj)), s' = { s₀ with heap := h', toks := tk' } ∧ Fr g L' h' m' ∧ News g L' h' more ∧ (∀ p ∈ news', p ∈ more) ∧ post v news'
theorem Con.of {prog : Program} {w : World} {K : Frag} {f : Addr} {dp un : Nat} {vs : List Value} {news : List (Addr × Obj)} {post : Value → List (Addr × Obj) → Prop}
    {name qual : Str} {params : Arguments} {body : List Stmt} {scope : Scope} {dV kV doc pm cdv ct oc : Value} {an od : Option Addr} {osl : Array (Option Value)} {binds : List (Str × Value)}
    (ho : K.lookup f = some ⟨oc, od, .func (fnOf name qual params body scope dV kV doc pm an cdv ct), osl⟩) (hcd : codeIn K cdv qual = true) (hroom : dp < recursionLimit)
    (hbind : ∀ s : Shared, K.In s.heap → BindsTo s (fnOf name qual params body scope dV kV doc pm an cdv ct) ⟨vs, []⟩ binds) (hloc : ∀ y ∈ binds, scope.names.lookup y.1 = some .local) (hnd : (binds.map (·.1)).Nodup)
    (hco : scope.isCoroutine = false) (hgen : scope.isGenerator = false) (hk : scope.kind = .function) (hcell : ∀ x ∈ scope.names, x.2 ≠ .cell)
    (h : ∀ (p : Program) (loose : List Str) (mean : ExcName → Option Value) (mg mb : Str → Option Value) (gd : Option (List Code)) (cn : Str) (cs : Scope) (a : Addr) (ccd : Value) (cl : List (Str × Addr)) (outer : List Env) (base g h₁ : Heap) (L' L₀ : Addr) (s : Shared) (tk : Nat) (R : Value → Shared → Prop),
      Fr g L' h₁ (kstB (fun _ => none) binds) → News g L' h₁ news → Below (ktrTop dp un gd cn cs L₀ a ccd cl outer) base (envX cn cs L₀ a ccd cl :: outer) g → K.In g → Top p loose mean mg mb g →
      wpAny (model prog w) ((ktrTop dp un gd cn cs L₀ a ccd cl outer).deeper (envOf qual scope L' f cdv)) (execs body (envOf qual scope L' f cdv))
        (fun fl s' => Out g s post (match fl with | .ret v => v | _ => .none) s')
        (fun e s' => wpAny (model prog w) ((ktrTop dp un gd cn cs L₀ a ccd cl outer).deeper (envOf qual scope L' f cdv)) (leaving (envOf qual scope L' f cdv) e) (fun _ s'' => R e s'') (fun e' s'' => R e' s'') s')
        { s with heap := h₁, toks := tk }) : Con prog w K f dp un vs news post := by
  intro p loose mean mg mb gd cn cs a ccd cl outer A₀ base h₀ L m s Q E B F X N T hkc ret
  refine wpAny_call ?_
  refine code_def B F X N T rfl rfl hkc ho hcd hroom (hbind s (X.keeps F.keep)) hloc (fun g L' h₁ FG F' N' B' X' T' => ?_) hco hgen hk hcell
  have F2 : Fr g L' h₁ (kstB (fun _ => none) binds) := by
    have e : (fun y => binds.reverse.lookup y) = kstB (fun _ => none) binds := funext fun y => kstB_of hnd
    rw [← e]; exact F'
  refine wpAny_mono (h p loose mean mg mb gd cn cs a ccd cl outer base g h₁ L' L s (s.toks + binds.length) E F2 N' B' X' T') (fun fl s' hO => ?_) fun _ _ x => x
  obtain ⟨h', tk', L'', m', more, news', rfl, F'', N'', hs, hp⟩ := hO
  exact leaveK_ F'' N'' fun kF kN => ret _ news' h' tk' hp kF fun q hq => kN q (hs q hq)
end Mine
namespace Mine
theorem ite_yes {c : Prop} [Decidable c] {P Q : Prop} (h : c) (p : P) : if c then P else Q := by rw [if_pos h]; exact p
theorem ite_no {c : Prop} [Decidable c] {P Q : Prop} (h : ¬ c) (q : Q) : if c then P else Q := by rw [if_neg h]; exact q
theorem toks_gen {α : Type} {M : Model} {A : Around} {t : Sem α} {Q : α → Shared → Prop} {E : Value → Shared → Prop} {h : Heap} {g : Array GenState} {d : Drawn} {T : Nat} {o : OsState} (H : ∀ tk, wpAny M A t Q E ⟨h, g, d, tk, o⟩) : wpAny M A t Q E ⟨h, g, d, T, o⟩ := H T
theorem ne_of_out {l : List (Addr × Obj)} {lo hi d : Addr} (h : ∀ p ∈ l, @LT.lt Nat _ p.1 lo ∨ @LT.lt Nat _ hi p.1) (h1 : @LE.le Nat _ lo d) (h2 : @LE.le Nat _ d hi) : ∀ p ∈ l, p.1 ≠ d := fun p hp e => by
  have := h p hp
  have e' : @Eq Nat p.1 d := e
  omega
theorem ne_of_out3 {l : List (Addr × Obj)} {lo hi m1 m2 d : Addr} (h : ∀ p ∈ l, @LT.lt Nat _ p.1 lo ∨ @LT.lt Nat _ hi p.1 ∨ (@LT.lt Nat _ m1 p.1 ∧ @LT.lt Nat _ p.1 m2)) (h1 : @LE.le Nat _ lo d) (h2 : @LE.le Nat _ d hi) (h3 : @LE.le Nat _ d m1 ∨ @LE.le Nat _ m2 d) : ∀ p ∈ l, p.1 ≠ d := fun p hp e => by
  have := h p hp
  have e' : @Eq Nat p.1 d := e
  omega
def Stop (P : Prop) : Prop := P
theorem stop_in {P : Prop} (h : Stop P) : P := h
theorem stop_out {P : Prop} (h : P) : Stop P := h
/-- a fact kept out of the arithmetic's sight -/
def Hid (P : Prop) : Prop := P
theorem hid_in {P : Prop} (h : P) : Hid P := h
theorem hid_out {P : Prop} (h : Hid P) : P := h
def Ends {σ : Type} (h₀ : Heap) (L : Addr) (s : Shared) (Led : σ → List (Addr × Obj)) (ps : σ → List (Str × Value)) (R : σ → Prop) (more : List (Addr × Obj)) (s₂ : Shared) : Prop :=
  ∃ (c : σ) (h' : Heap) (tk : Nat) (m' : Str → Option Value) (news' : List (Addr × Obj)), s₂ = { s with heap := h', toks := tk } ∧ Fr h₀ L h' m' ∧ News h₀ L h' news' ∧ (∀ p ∈ Led c, p ∈ news') ∧ (∀ p ∈ more, p ∈ news') ∧ (∀ p ∈ ps c, m' p.1 = some p.2) ∧ R c
def WPost {σ : Type} (h₀ : Heap) (L : Addr) (s : Shared) (Led : σ → List (Addr × Obj)) (ps : σ → List (Str × Value)) (P X : σ → Prop) (μ : σ → Nat) (n : Nat) (Q : Flow → Shared → Prop) (f : Flow) (s₂ : Shared) : Prop :=
  match f with
  | .ret v => Q (.ret v) s₂
  | .brk => Ends h₀ L s Led ps X [] s₂
  | _ => Ends h₀ L s Led ps (fun c => P c ∧ μ c < n) [] s₂
theorem kstB_self {m : Str → Option Value} {ps : List (Str × Value)} (h : ∀ p ∈ ps, m p.1 = some p.2) : kstB m ps = m := by
  funext z
  exact kstB_eq h fun _ => rfl
section
variable {prog : Program} {w : World} {A : Around} {E : Value → Shared → Prop} {s : Shared} {env : Env} {h₀ : Heap} {L : Addr} {Q : Flow → Shared → Prop}
theorem whileR {σ : Type} {test : PySem.Expr} {body : List Stmt} {pos : Pos} {m₀ : Str → Option Value} (Led : σ → List (Addr × Obj)) (ps : σ → List (Str × Value)) (P X : σ → Prop) (μ : σ → Nat) (c₀ : σ)
    (F : Fr h₀ L s.heap m₀) (N : News h₀ L s.heap (Led c₀)) (hk : ∀ p ∈ ps c₀, m₀ p.1 = some p.2) (hp : P c₀)
    (turn : ∀ (c : σ) (u : Str → Option Value) h tk, P c → Fr h₀ L h (kstB u (ps c)) → News h₀ L h (Led c) →
      wpAny (model prog w) A (isTrue test env (eval test env)) (fun b s₂ =>
        if b = true then wpAny (model prog w) A (execs body env) (WPost h₀ L s Led ps P X μ (μ c) Q) E s₂ else Ends h₀ L s Led ps X [] s₂) E { s with heap := h, toks := tk })
    (done : ∀ (c : σ) (u : Str → Option Value) h tk, X c → Fr h₀ L h (kstB u (ps c)) → News h₀ L h (Led c) → Q .next { s with heap := h, toks := tk })
    (hE : PassesOwn (model prog w) A env E := by passes_own) :
    wpAny (model prog w) A (exec (.While test body [] pos) env) Q E s := by
  have out : ∀ s₂, Ends h₀ L s Led ps X [] s₂ → Q .next s₂ := by
    rintro s₂ ⟨c, h', tk, m', news', rfl, F', N', hl, -, hk', hX⟩
    exact done c m' h' tk hX (by rw [kstB_self hk']; exact F') fun p hp => N' p (hl p hp)
  refine While_inv2 (fun n m nx => ∃ c : σ, nx = Led c ∧ μ c = n ∧ (∀ p ∈ ps c, m p.1 = some p.2) ∧ P c) F N ⟨c₀, rfl, rfl, hk, hp⟩ ?_ hE
  rintro n m₁ nx h tk F₁ N₁ ⟨c, rfl, rfl, h1, hp'⟩
  refine wpAny_mono (turn c m₁ h tk hp' (by rw [kstB_self h1]; exact F₁) N₁) (fun b s₂ p => ?_) fun _ _ x => x
  cases b with
  | false => simp only [Bool.false_eq_true, if_false] at p ⊢; exact out _ p
  | true =>
    simp only [if_true] at p ⊢
    refine wpAny_mono p (fun f s₃ q => ?_) fun _ _ x => x
    cases f with
    | ret v => exact q
    | brk => exact out _ q
    | next =>
      obtain ⟨c', h', tk', m', news', rfl, F', N', hl, -, hk', hp9, hm9⟩ := q
      exact ⟨h', tk', m', Led c', μ c', rfl, F', fun p hp => N' p (hl p hp), hm9, c', rfl, rfl, hk', hp9⟩
    | cont =>
      obtain ⟨c', h', tk', m', news', rfl, F', N', hl, -, hk', hp9, hm9⟩ := q
      exact ⟨h', tk', m', Led c', μ c', rfl, F', fun p hp => N' p (hl p hp), hm9, c', rfl, rfl, hk', hp9⟩
/-- a cut ahead of a statement's rest: the state, its ledger and its names -/
theorem cutR {σ : Type} {st : Stmt} {m₀ : Str → Option Value} (_F : Fr h₀ L s.heap m₀) (Led : σ → List (Addr × Obj)) (ps : σ → List (Str × Value)) (X : σ → Prop)
    (h : wpAny (model prog w) A (exec st env) (fun f s₂ => match f with | .next => Ends h₀ L s Led ps X [] s₂ | f => Q f s₂) E s)
    (done : ∀ (c : σ) (u : Str → Option Value) h tk, X c → Fr h₀ L h (kstB u (ps c)) → News h₀ L h (Led c) → Q .next { s with heap := h, toks := tk }) :
    wpAny (model prog w) A (exec st env) Q E s := by
  refine wpAny_mono h (fun f s₂ p => ?_) fun _ _ x => x
  cases f with
  | next =>
    obtain ⟨c, h', tk, m', news', rfl, F', N', hl, -, hk', hX⟩ := p
    exact done c m' h' tk hX (by rw [kstB_self hk']; exact F') fun p hp => N' p (hl p hp)
  | brk => exact p
  | cont => exact p
  | ret v => exact p
end
section
variable {prog : Program} {w : World} {A : Around} {E : Value → Shared → Prop} {s : Shared} {env : Env} {h₀ : Heap} {x : Str} {body : List Stmt} {Q : Flow → Shared → Prop}
def FPost {σ : Type} (h₀ : Heap) (L : Addr) (s : Shared) (Led : σ → List (Addr × Obj)) (ps : σ → List (Str × Value)) (R X : σ → Prop) (own : List (Addr × Obj)) (old : List Addr) (cl : String) (Q : Flow → Shared → Prop) (f : Flow) (s₂ : Shared) : Prop :=
  match f with
  | .ret v => Q (.ret v) s₂
  | .brk => Ends h₀ L s Led ps X [] s₂
  | _ => Ends h₀ L s Led ps (fun c => R c ∧ ∀ p ∈ Led c, p.1 ∈ old ∨ p.2.cls ≠ .type cl) own s₂
theorem same_old {l : List (Addr × Obj)} {old : List Addr} {cl : String} (h : l.map (·.1) = old) : ∀ p ∈ l, p.1 ∈ old ∨ p.2.cls ≠ .type cl :=
  fun p hp => .inl (h ▸ List.mem_map_of_mem hp)
/-- for over a walk whose state lies in one iterator object of a class that the ledger has not -/
theorem forW {σ : Type} {I : Addr} {fp : List Addr} {n : Nat} {xs : Nat → Value → Prop} {St : Nat → Heap → Prop} {m₀ : Str → Option Value} (cl : String) (Led : σ → List (Addr × Obj)) (ps : σ → List (Str × Value)) (P : Nat → σ → Prop) (X : σ → Prop) (c₀ : σ)
    (W : Walks prog w A I fp [I] n xs St) (hLf : env.locals ∉ fp) (hI₀ : h₀.get? I = none) (hIc : ∀ i h, St i h → ∃ o, h.get? I = some o ∧ o.cls = .type cl) (hfp : ∀ b ∈ fp, h₀.get? b = none → b = I ∨ ∃ o, ∀ c, (b, o) ∈ Led c)
    (hnI : ∀ p ∈ Led c₀, p.1 ≠ I)
    (hst : St 0 s.heap) (F : Fr h₀ env.locals s.heap m₀) (N : News h₀ env.locals s.heap (Led c₀)) (hk : ∀ p ∈ ps c₀, m₀ p.1 = some p.2) (hp : P 0 c₀)
    (turn : ∀ i v (c : σ) (u : Str → Option Value) h tk own, i < n → xs i v → OwnOff own ((Led c).map (·.1)) → P i c →
      Fr h₀ env.locals h (fun y => if y = x then some v else kstB u (ps c) y) → News h₀ env.locals h (Led c ++ own) →
      wpAny (model prog w) A (execs body env) (FPost h₀ env.locals { s with heap := h, toks := tk } Led ps (P (i + 1)) X own ((Led c).map (·.1)) cl Q) E { s with heap := h, toks := tk })
    (done : ∀ (c : σ) (u : Str → Option Value) h tk, X c → Fr h₀ env.locals h (kstB u (ps c)) → News h₀ env.locals h (Led c) → Q .next { s with heap := h, toks := tk })
    (last : ∀ c, P n c → X c) :
    LoopAtV prog w A h₀ env x body Q E (.ref I) s := by
  have hIf : I ∈ fp := W.sub I (List.mem_singleton.mpr rfl)
  let J : Nat → (Str → Option Value) → List (Addr × Obj) → Prop := fun i m nx => ∃ c : σ, nx = Led c ∧ (∀ p ∈ ps c, m p.1 = some p.2) ∧ P i c
  refine ⟨I, fp, [I], n, xs, St, m₀, Led c₀, J, rfl, W, hLf, ?_, ?_, hst, F, N, ⟨c₀, rfl, hk, hp⟩, ?_, ?_⟩
  · intro b hb
    rw [List.mem_singleton.mp hb]
    exact hI₀
  · intro p hp hI
    exact hnI p hp (List.mem_singleton.mp hI)
  · rintro i v m₁ news₁ s₁ own ⟨h, tk, rfl⟩ hin hv ⟨c, rfl, h1, hP⟩ hnw hofp hoget hall hst' F₁ N₁
    obtain ⟨oI, heI, hcI⟩ := hIc _ _ hst'
    have hmem := hall I hIf hI₀ oI heI
    have hoff : OwnOff [(I, oI)] ((Led c).map (·.1)) := by
      intro p hp b hb e
      obtain ⟨q, hq, rfl⟩ := List.mem_map.mp hb
      rw [List.mem_singleton.mp hp] at e
      exact hnw q hq (List.mem_singleton.mpr e.symm)
    have N₂ : News h₀ env.locals h (Led c ++ [(I, oI)]) := fun p hp => by
      rcases List.mem_append.mp hp with hp | hp
      · exact N₁ _ (List.mem_append_right _ hp)
      · rw [List.mem_singleton.mp hp]
        exact N₁ _ (List.mem_append_left _ hmem)
    have F₂ : Fr h₀ env.locals h (fun y => if y = x then some v else kstB m₁ (ps c) y) := by
      rw [kstB_self h1]; exact F₁
    refine wpAny_mono (turn i v c m₁ h tk [(I, oI)] hin hv hoff hP F₂ N₂) (fun f s₂ p => ?_) fun _ _ e => e
    have fin : Ends h₀ env.locals { s with heap := h, toks := tk } Led ps (fun c' => P (i + 1) c' ∧ ∀ p ∈ Led c', p.1 ∈ (Led c).map (·.1) ∨ p.2.cls ≠ .type cl) [(I, oI)] s₂ → LoopStepU h₀ env.locals [I] own (J (i + 1)) { s with heap := h, toks := tk } .next s₂ := by
      rintro ⟨c', h', tk', m', news', rfl, F', N', hl, ho, hk', hP', hcl⟩
      have nI : ∀ p ∈ Led c', p.1 ≠ I := fun p hp e => by
        rcases hcl p hp with hold | hcl
        · obtain ⟨q, hq, hqe⟩ := List.mem_map.mp hold
          exact hnw q hq (List.mem_singleton.mpr (hqe.trans e))
        have h2 := (N' p (hl p hp)).1
        have h3 := (N' (I, oI) (ho _ (List.mem_singleton.mpr rfl))).1
        rw [e, h3] at h2
        exact hcl (by rw [← Option.some.inj h2]; exact hcI)
      refine ⟨rfl, h', tk', m', Led c', rfl, F', fun p hp => ?_, fun p hp hI => nI p hp (List.mem_singleton.mp hI), c', rfl, hk', hP'⟩
      rcases List.mem_append.mp hp with hp | hp
      · have h2 := hoget p hp
        rcases hfp p.1 (hofp p hp) (N₁ p (List.mem_append_left _ hp)).2.2 with e | ⟨o', hm'⟩
        · have h3 : p = (I, oI) := by
            rw [e] at h2
            have h4 : h.get? I = some oI := heI
            have h5 : some p.2 = some oI := by rw [← h4]; exact h2.symm
            exact Prod.ext e (Option.some.inj h5)
          rw [h3]
          exact N' _ (ho _ (List.mem_singleton.mpr rfl))
        · have h4 : h.get? p.1 = some o' := (N₂ (p.1, o') (List.mem_append_left _ (hm' c))).1
          have h5 : some p.2 = some o' := by rw [← h4]; exact h2.symm
          have h6 : p = (p.1, o') := Prod.ext rfl (Option.some.inj h5)
          rw [h6]
          exact N' _ (hl _ (hm' c'))
      · exact N' p (hl p hp)
    cases f with
    | ret v => exact .ret p
    | brk =>
      obtain ⟨c', h', tk', m', news', rfl, F', N', hl, -, hk', hX⟩ := p
      exact .brk (done c' m' h' tk' hX (by rw [kstB_self hk']; exact F') fun p hp => N' p (hl p hp))
    | next => exact .next (fin p)
    | cont => exact .cont (fin p)
  · rintro h' tk m' news' F' N' _ ⟨c, rfl, hk', hP⟩
    exact done c m' h' tk (last c hP) (by rw [kstB_self hk']; exact F') N'
theorem forListR {σ : Type} {l : Addr} {vs : List Value} {nn : Nat} {m₀ : Str → Option Value} (Led : σ → List (Addr × Obj)) (ps : σ → List (Str × Value)) (P : Nat → σ → Prop) (X : σ → Prop) (c₀ : σ)
    (hh : A.handled = none) (hl : ∀ c, (l, listOf vs.toArray nn) ∈ Led c)
    (F : Fr h₀ env.locals s.heap m₀) (N : News h₀ env.locals s.heap (Led c₀)) (hk : ∀ p ∈ ps c₀, m₀ p.1 = some p.2) (hp : P 0 c₀)
    (turn : ∀ i v (c : σ) (u : Str → Option Value) h tk own, vs[i]? = some v → OwnOff own ((Led c).map (·.1)) → P i c →
      Fr h₀ env.locals h (fun y => if y = x then some v else kstB u (ps c) y) → News h₀ env.locals h (Led c ++ own) →
      wpAny (model prog w) A (execs body env) (FPost h₀ env.locals { s with heap := h, toks := tk } Led ps (P (i + 1)) X own ((Led c).map (·.1)) "list_iterator" Q) E { s with heap := h, toks := tk })
    (done : ∀ (c : σ) (u : Str → Option Value) h tk, X c → Fr h₀ env.locals h (kstB u (ps c)) → News h₀ env.locals h (Led c) → Q .next { s with heap := h, toks := tk })
    (last : ∀ c, P vs.length c → X c) :
    wpAny (model prog w) A (pyIter (.ref l)) (fun it s₂ => LoopAtV prog w A h₀ env x body Q E it s₂) E s := by
  have hol : s.heap.get? l = some (listOf vs.toArray nn) := (N _ (hl c₀)).1
  have hls : s.heap.IsList l vs.toArray := ⟨_, hol, rfl, nn, rfl⟩
  have hne : l ≠ s.heap.objs.size := Nat.ne_of_lt (Heap.lt_size hol)
  refine wpAny_pyIter_list hls ?_
  have W := Walks.list (prog := prog) (w := w) hh s.heap.objs.size l hne vs.toArray
  have up : ∀ b o, s.heap.get? b = some o → (s.heap.push { cls := .type "list_iterator", data := .fields #[.ref l, .int 0 0] }).get? b = some o := fun b o e => Heap.get?_push_of_some _ e
  refine forW (n := vs.toArray.size) "list_iterator" Led ps P X c₀ W ?_ (next_is_new F) ?_ ?_ ?_ ⟨⟨_, Heap.get?_push_size _ rfl, rfl, rfl⟩, hls.push _⟩ (F.keeps up) (fun p hp => ⟨up _ _ (N p hp).1, (N p hp).2⟩) hk hp ?_ done (by simpa using last)
  · intro hm
    rcases List.mem_cons.mp hm with e | hm
    · exact absurd F.ns.lt (e ▸ Nat.lt_irrefl _)
    · exact (N _ (hl c₀)).2.1 ((List.mem_singleton.mp hm).symm)
  · rintro i h ⟨⟨o, ho, hc, hd⟩, _⟩
    exact ⟨o, ho, hc⟩
  · intro b hb _
    rcases List.mem_cons.mp hb with rfl | hb
    · exact .inl rfl
    · rw [List.mem_singleton.mp hb]
      exact .inr ⟨_, hl⟩
  · intro p hp e
    exact absurd (Heap.lt_size (N p hp).1) (e ▸ Nat.lt_irrefl _)
  · intro i v c u h tk own hi hv
    exact turn i v c u h tk own (by simpa using hv)
section
variable {target : PySem.Expr}
/-- the same where the target is no plain name -/
theorem forWT {σ : Type} {I : Addr} {fp : List Addr} {n : Nat} {xs : Nat → Value → Prop} {St : Nat → Heap → Prop} {m₀ : Str → Option Value} (cl : String) (Led : σ → List (Addr × Obj)) (ps : σ → List (Str × Value)) (P : Nat → σ → Prop) (X : σ → Prop) (c₀ : σ)
    (W : Walks prog w A I fp [I] n xs St) (hgo : ∀ i v (s : Shared) (Q : Unit → Shared → Prop) (E : Value → Shared → Prop), St i s.heap → Q () s → wpAny (model prog w) A (letOwnedTupleGo target (.ref I) v) Q E s) (hLf : env.locals ∉ fp) (hI₀ : h₀.get? I = none) (hIc : ∀ i h, St i h → ∃ o, h.get? I = some o ∧ o.cls = .type cl) (hfp : ∀ b ∈ fp, h₀.get? b = none → b = I ∨ ∃ o, ∀ c, (b, o) ∈ Led c)
    (hnI : ∀ p ∈ Led c₀, p.1 ≠ I)
    (hst : St 0 s.heap) (F : Fr h₀ env.locals s.heap m₀) (N : News h₀ env.locals s.heap (Led c₀)) (hk : ∀ p ∈ ps c₀, m₀ p.1 = some p.2) (hp : P 0 c₀)
    (turn : ∀ i v (c : σ) (u : Str → Option Value) h tk own, i < n → xs i v → OwnOff own ((Led c).map (·.1)) → P i c →
      Fr h₀ env.locals h (kstB u (ps c)) → News h₀ env.locals h (Led c ++ own) →
      wpAny (model prog w) A (assign target env v) (fun _ s₃ => wpAny (model prog w) A (execs body env) (FPost h₀ env.locals { s with heap := h, toks := tk } Led ps (P (i + 1)) X own ((Led c).map (·.1)) cl Q) E s₃) E { s with heap := h, toks := tk })
    (done : ∀ (c : σ) (u : Str → Option Value) h tk, X c → Fr h₀ env.locals h (kstB u (ps c)) → News h₀ env.locals h (Led c) → Q .next { s with heap := h, toks := tk })
    (last : ∀ c, P n c → X c) :
    TurnsAt prog w A h₀ env target body Q E (.ref I) s := by
  have hIf : I ∈ fp := W.sub I (List.mem_singleton.mpr rfl)
  let J : Nat → (Str → Option Value) → List (Addr × Obj) → Prop := fun i m nx => ∃ c : σ, nx = Led c ∧ (∀ p ∈ ps c, m p.1 = some p.2) ∧ P i c
  refine ⟨I, fp, [I], n, (fun i v _ => xs i v), (fun i v h => xs i v ∧ St (i + 1) h), St, m₀, Led c₀, J, rfl, KTurns.ofWalks W hgo, hLf, ?_, ?_, hst, F, N, ⟨c₀, rfl, hk, hp⟩, ?_, ?_⟩
  · intro b hb
    rw [List.mem_singleton.mp hb]
    exact hI₀
  · intro p hp hI
    exact hnI p hp (List.mem_singleton.mp hI)
  · rintro i v m₁ news₁ h tk own hin hv ⟨c, rfl, h1, hP⟩ hnw hofp hoget hall hst' F₁ N₁
    obtain ⟨oI, heI, hcI⟩ := hIc _ _ hst'
    have hmem := hall I hIf hI₀ oI heI
    have hoff : OwnOff [(I, oI)] ((Led c).map (·.1)) := by
      intro p hp b hb e
      obtain ⟨q, hq, rfl⟩ := List.mem_map.mp hb
      rw [List.mem_singleton.mp hp] at e
      exact hnw q hq (List.mem_singleton.mpr e.symm)
    have N₂ : News h₀ env.locals h (Led c ++ [(I, oI)]) := fun p hp => by
      rcases List.mem_append.mp hp with hp | hp
      · exact N₁ _ (List.mem_append_right _ hp)
      · rw [List.mem_singleton.mp hp]
        exact N₁ _ (List.mem_append_left _ hmem)
    have F₂ : Fr h₀ env.locals h (kstB m₁ (ps c)) := by
      rw [kstB_self h1]; exact F₁
    refine wpAny_mono (turn i v c m₁ h tk [(I, oI)] hin hv hoff hP F₂ N₂) (fun _ s₃ h₃ => wpAny_mono h₃ (fun f s₂ p => ?_) fun _ _ e => e) fun _ _ e => e
    have fin : Ends h₀ env.locals { s with heap := h, toks := tk } Led ps (fun c' => P (i + 1) c' ∧ ∀ p ∈ Led c', p.1 ∈ (Led c).map (·.1) ∨ p.2.cls ≠ .type cl) [(I, oI)] s₂ → LoopStepV h₀ env.locals [I] own (J (i + 1)) { s with heap := h, toks := tk } (fun v s' => Q (.ret v) s') (fun s' => Q .next s') .next s₂ := by
      rintro ⟨c', h', tk', m', news', rfl, F', N', hl, ho, hk', hP', hcl⟩
      have nI : ∀ p ∈ Led c', p.1 ≠ I := fun p hp e => by
        rcases hcl p hp with hold | hcl
        · obtain ⟨q, hq, hqe⟩ := List.mem_map.mp hold
          exact hnw q hq (List.mem_singleton.mpr (hqe.trans e))
        have h2 := (N' p (hl p hp)).1
        have h3 := (N' (I, oI) (ho _ (List.mem_singleton.mpr rfl))).1
        rw [e, h3] at h2
        exact hcl (by rw [← Option.some.inj h2]; exact hcI)
      refine ⟨rfl, h', tk', m', Led c', rfl, F', fun p hp => ?_, fun p hp hI => nI p hp (List.mem_singleton.mp hI), c', rfl, hk', hP'⟩
      rcases List.mem_append.mp hp with hp | hp
      · have h2 := hoget p hp
        rcases hfp p.1 (hofp p hp) (N₁ p (List.mem_append_left _ hp)).2.2 with e | ⟨o', hm'⟩
        · have h3 : p = (I, oI) := by
            rw [e] at h2
            have h4 : h.get? I = some oI := heI
            have h5 : some p.2 = some oI := by rw [← h4]; exact h2.symm
            exact Prod.ext e (Option.some.inj h5)
          rw [h3]
          exact N' _ (ho _ (List.mem_singleton.mpr rfl))
        · have h4 : h.get? p.1 = some o' := (N₂ (p.1, o') (List.mem_append_left _ (hm' c))).1
          have h5 : some p.2 = some o' := by rw [← h4]; exact h2.symm
          have h6 : p = (p.1, o') := Prod.ext rfl (Option.some.inj h5)
          rw [h6]
          exact N' _ (hl _ (hm' c'))
      · exact N' p (hl p hp)
    cases f with
    | ret v => exact .ret p
    | brk =>
      obtain ⟨c', h', tk', m', news', rfl, F', N', hl, -, hk', hX⟩ := p
      exact .brk (done c' m' h' tk' hX (by rw [kstB_self hk']; exact F') fun p hp => N' p (hl p hp))
    | next => exact .next (fin p)
    | cont => exact .cont (fin p)
  · rintro h' tk m' news' F' N' _ ⟨c, rfl, hk', hP⟩
    exact done c m' h' tk (last c hP) (by rw [kstB_self hk']; exact F') N'
theorem forListT {σ : Type} {l : Addr} {vs : List Value} {nn : Nat} {m₀ : Str → Option Value} (Led : σ → List (Addr × Obj)) (ps : σ → List (Str × Value)) (P : Nat → σ → Prop) (X : σ → Prop) (c₀ : σ)
    (hh : A.handled = none) (hl : ∀ c, (l, listOf vs.toArray nn) ∈ Led c)
    (F : Fr h₀ env.locals s.heap m₀) (N : News h₀ env.locals s.heap (Led c₀)) (hk : ∀ p ∈ ps c₀, m₀ p.1 = some p.2) (hp : P 0 c₀)
    (turn : ∀ i v (c : σ) (u : Str → Option Value) h tk own, vs[i]? = some v → OwnOff own ((Led c).map (·.1)) → P i c →
      Fr h₀ env.locals h (kstB u (ps c)) → News h₀ env.locals h (Led c ++ own) →
      wpAny (model prog w) A (assign target env v) (fun _ s₃ => wpAny (model prog w) A (execs body env) (FPost h₀ env.locals { s with heap := h, toks := tk } Led ps (P (i + 1)) X own ((Led c).map (·.1)) "list_iterator" Q) E s₃) E { s with heap := h, toks := tk })
    (done : ∀ (c : σ) (u : Str → Option Value) h tk, X c → Fr h₀ env.locals h (kstB u (ps c)) → News h₀ env.locals h (Led c) → Q .next { s with heap := h, toks := tk })
    (last : ∀ c, P vs.length c → X c) :
    wpAny (model prog w) A (pyIter (.ref l)) (fun it s₂ => TurnsAt prog w A h₀ env target body Q E it s₂) E s := by
  have hol : s.heap.get? l = some (listOf vs.toArray nn) := (N _ (hl c₀)).1
  have hls : s.heap.IsList l vs.toArray := ⟨_, hol, rfl, nn, rfl⟩
  have hne : l ≠ s.heap.objs.size := Nat.ne_of_lt (Heap.lt_size hol)
  refine wpAny_pyIter_list hls ?_
  have W := Walks.list (prog := prog) (w := w) hh s.heap.objs.size l hne vs.toArray
  have up : ∀ b o, s.heap.get? b = some o → (s.heap.push { cls := .type "list_iterator", data := .fields #[.ref l, .int 0 0] }).get? b = some o := fun b o e => Heap.get?_push_of_some _ e
  refine forWT (n := vs.toArray.size) "list_iterator" Led ps P X c₀ W (fun i v s Q E st q => letGo_listiter st.1 q) ?_ (next_is_new F) ?_ ?_ ?_ ⟨⟨_, Heap.get?_push_size _ rfl, rfl, rfl⟩, hls.push _⟩ (F.keeps up) (fun p hp => ⟨up _ _ (N p hp).1, (N p hp).2⟩) hk hp ?_ done (by simpa using last)
  · intro hm
    rcases List.mem_cons.mp hm with e | hm
    · exact absurd F.ns.lt (e ▸ Nat.lt_irrefl _)
    · exact (N _ (hl c₀)).2.1 ((List.mem_singleton.mp hm).symm)
  · rintro i h ⟨⟨o, ho, hc, hd⟩, _⟩
    exact ⟨o, ho, hc⟩
  · intro b hb _
    rcases List.mem_cons.mp hb with rfl | hb
    · exact .inl rfl
    · rw [List.mem_singleton.mp hb]
      exact .inr ⟨_, hl⟩
  · intro p hp e
    exact absurd (Heap.lt_size (N p hp).1) (e ▸ Nat.lt_irrefl _)
  · intro i v c u h tk own hi hv
    exact turn i v c u h tk own (by simpa using hv)
end
theorem forRangeR {σ : Type} {r : Addr} {a₀ b₀ : Int} {t₀ u₀ v₀ : Tok} {n : Nat} {m₀ : Str → Option Value} (Led : σ → List (Addr × Obj)) (ps : σ → List (Str × Value)) (P : Nat → σ → Prop) (X : σ → Prop) (c₀ : σ)
    (hh : A.handled = none) (hr : IsRange s.heap r a₀ b₀ 1 t₀ u₀ v₀) (hsmall : Builtin.Range.small a₀ b₀ 1 = true) (hn : Builtin.Range.rangeSize a₀ b₀ 1 = (n : Int))
    (F : Fr h₀ env.locals s.heap m₀) (N : News h₀ env.locals s.heap (Led c₀)) (hk : ∀ p ∈ ps c₀, m₀ p.1 = some p.2) (hp : P 0 c₀)
    (turn : ∀ i t (c : σ) (u : Str → Option Value) h tk own, i < n → OwnOff own ((Led c).map (·.1)) → P i c →
      Fr h₀ env.locals h (fun y => if y = x then some (.int (a₀ + (i : Int)) t) else kstB u (ps c) y) → News h₀ env.locals h (Led c ++ own) →
      wpAny (model prog w) A (execs body env) (FPost h₀ env.locals { s with heap := h, toks := tk } Led ps (P (i + 1)) X own ((Led c).map (·.1)) "range_iterator" Q) E { s with heap := h, toks := tk })
    (done : ∀ (c : σ) (u : Str → Option Value) h tk, X c → Fr h₀ env.locals h (kstB u (ps c)) → News h₀ env.locals h (Led c) → Q .next { s with heap := h, toks := tk })
    (last : ∀ c, P n c → X c) :
    wpAny (model prog w) A (pyIter (.ref r)) (fun it s₂ => LoopAtV prog w A h₀ env x body Q E it s₂) E s := by
  refine wpAny_pyIter_range hr hsmall ?_
  have W : Walks prog w A s.heap.objs.size [s.heap.objs.size] [s.heap.objs.size] n (fun i v => i < n ∧ ∃ t, v = .int (a₀ + i * 1) t)
      (fun i h => IsRangeIter h s.heap.objs.size (a₀ + (i : Nat) * 1) ((n : Int) - (i : Nat)) 1) := (Walks.range hh _ a₀ 1 n).bound
  refine forW (n := n) "range_iterator" Led ps P X c₀ W ?_ (next_is_new F) ?_ ?_ ?_ (by show IsRangeIter _ _ _ _ _; rw [hn]; simpa using Heap.get?_push_size _ rfl) (F.push _) (fun p hp => ⟨Heap.get?_push_of_some _ (N p hp).1, (N p hp).2⟩) hk hp ?_ done last
  · intro hm
    exact absurd F.ns.lt ((List.mem_singleton.mp hm) ▸ Nat.lt_irrefl _)
  · intro i h st
    exact ⟨_, st, rfl⟩
  · intro b hb _
    exact .inl (List.mem_singleton.mp hb)
  · intro p hp e
    exact absurd (Heap.lt_size (N p hp).1) (e ▸ Nat.lt_irrefl _)
  · rintro i v c u h tk own hi ⟨_, t, rfl⟩ ho hP F' N'
    rw [Int.mul_one] at F'
    exact turn i t c u h tk own hi ho hP F' N'
end
end Mine
namespace Mine
/-- an instance at which a claim falls, if there is one -/
noncomputable def gen {α : Type} (ne : Nonempty α) (P : α → Prop) : α := @Classical.epsilon α ne fun a => ¬ P a
theorem gen_all {α : Type} {ne : Nonempty α} {P : α → Prop} (h : P (gen ne P)) : ∀ a, P a :=
  fun a => Classical.byContradiction fun hn => @Classical.epsilon_spec α (fun a => ¬ P a) ⟨a, hn⟩ h
theorem ne_prod {α β : Type} (a : Nonempty α) (b : Nonempty β) : Nonempty (α × β) := let ⟨x⟩ := a; let ⟨y⟩ := b; ⟨(x, y)⟩
theorem ne_shared : Nonempty Shared := ⟨{}⟩
theorem ne_params : Nonempty Params := ⟨{ strHash := fun _ => 0, shareClass := fun _ => 0, mergeTok := fun t => t, idOf := fun _ => 0, idOfShared := fun _ _ => 0, followText := fun _ => false, idOfImm := fun _ => 0 }⟩
theorem ne_world : Nonempty World := let ⟨p⟩ := ne_params; ⟨⟨fun _ _ => 0, p⟩⟩
noncomputable def gen2 {α β : Type} (ne : Nonempty (α × β)) (P : α → β → Prop) : α × β := gen ne fun z => P z.1 z.2
theorem gen_all2 {α β : Type} {ne : Nonempty (α × β)} {P : α → β → Prop} (h : P (gen2 ne P).1 (gen2 ne P).2) : ∀ a0 a1, P a0 a1 :=
  fun a0 a1 => gen_all (P := fun z : α × β => P z.1 z.2) h (a0, a1)
noncomputable def gen3 {α β γ : Type} (ne : Nonempty (α × β × γ)) (P : α → β → γ → Prop) : α × β × γ := gen ne fun z => P z.1 z.2.1 z.2.2
theorem gen_all3 {α β γ : Type} {ne : Nonempty (α × β × γ)} {P : α → β → γ → Prop} (h : P (gen3 ne P).1 (gen3 ne P).2.1 (gen3 ne P).2.2) : ∀ a0 a1 a2, P a0 a1 a2 :=
  fun a0 a1 a2 => gen_all (P := fun z : α × β × γ => P z.1 z.2.1 z.2.2) h (a0, a1, a2)
noncomputable def gen4 {α β γ δ : Type} (ne : Nonempty (α × β × γ × δ)) (P : α → β → γ → δ → Prop) : α × β × γ × δ := gen ne fun z => P z.1 z.2.1 z.2.2.1 z.2.2.2
theorem gen_all4 {α β γ δ : Type} {ne : Nonempty (α × β × γ × δ)} {P : α → β → γ → δ → Prop} (h : P (gen4 ne P).1 (gen4 ne P).2.1 (gen4 ne P).2.2.1 (gen4 ne P).2.2.2) : ∀ a0 a1 a2 a3, P a0 a1 a2 a3 :=
  fun a0 a1 a2 a3 => gen_all (P := fun z : α × β × γ × δ => P z.1 z.2.1 z.2.2.1 z.2.2.2) h (a0, a1, a2, a3)
noncomputable def gen5 {α β γ δ ε : Type} (ne : Nonempty (α × β × γ × δ × ε)) (P : α → β → γ → δ → ε → Prop) : α × β × γ × δ × ε := gen ne fun z => P z.1 z.2.1 z.2.2.1 z.2.2.2.1 z.2.2.2.2
theorem gen_all5 {α β γ δ ε : Type} {ne : Nonempty (α × β × γ × δ × ε)} {P : α → β → γ → δ → ε → Prop} (h : P (gen5 ne P).1 (gen5 ne P).2.1 (gen5 ne P).2.2.1 (gen5 ne P).2.2.2.1 (gen5 ne P).2.2.2.2) : ∀ a0 a1 a2 a3 a4, P a0 a1 a2 a3 a4 :=
  fun a0 a1 a2 a3 a4 => gen_all (P := fun z : α × β × γ × δ × ε => P z.1 z.2.1 z.2.2.1 z.2.2.2.1 z.2.2.2.2) h (a0, a1, a2, a3, a4)
noncomputable def gen6 {α β γ δ ε ζ : Type} (ne : Nonempty (α × β × γ × δ × ε × ζ)) (P : α → β → γ → δ → ε → ζ → Prop) : α × β × γ × δ × ε × ζ := gen ne fun z => P z.1 z.2.1 z.2.2.1 z.2.2.2.1 z.2.2.2.2.1 z.2.2.2.2.2
theorem gen_all6 {α β γ δ ε ζ : Type} {ne : Nonempty (α × β × γ × δ × ε × ζ)} {P : α → β → γ → δ → ε → ζ → Prop} (h : P (gen6 ne P).1 (gen6 ne P).2.1 (gen6 ne P).2.2.1 (gen6 ne P).2.2.2.1 (gen6 ne P).2.2.2.2.1 (gen6 ne P).2.2.2.2.2) : ∀ a0 a1 a2 a3 a4 a5, P a0 a1 a2 a3 a4 a5 :=
  fun a0 a1 a2 a3 a4 a5 => gen_all (P := fun z : α × β × γ × δ × ε × ζ => P z.1 z.2.1 z.2.2.1 z.2.2.2.1 z.2.2.2.2.1 z.2.2.2.2.2) h (a0, a1, a2, a3, a4, a5)
noncomputable def gen7 {α β γ δ ε ζ η : Type} (ne : Nonempty (α × β × γ × δ × ε × ζ × η)) (P : α → β → γ → δ → ε → ζ → η → Prop) : α × β × γ × δ × ε × ζ × η := gen ne fun z => P z.1 z.2.1 z.2.2.1 z.2.2.2.1 z.2.2.2.2.1 z.2.2.2.2.2.1 z.2.2.2.2.2.2
theorem gen_all7 {α β γ δ ε ζ η : Type} {ne : Nonempty (α × β × γ × δ × ε × ζ × η)} {P : α → β → γ → δ → ε → ζ → η → Prop} (h : P (gen7 ne P).1 (gen7 ne P).2.1 (gen7 ne P).2.2.1 (gen7 ne P).2.2.2.1 (gen7 ne P).2.2.2.2.1 (gen7 ne P).2.2.2.2.2.1 (gen7 ne P).2.2.2.2.2.2) : ∀ a0 a1 a2 a3 a4 a5 a6, P a0 a1 a2 a3 a4 a5 a6 :=
  fun a0 a1 a2 a3 a4 a5 a6 => gen_all (P := fun z : α × β × γ × δ × ε × ζ × η => P z.1 z.2.1 z.2.2.1 z.2.2.2.1 z.2.2.2.2.1 z.2.2.2.2.2.1 z.2.2.2.2.2.2) h (a0, a1, a2, a3, a4, a5, a6)
noncomputable def gen8 {α β γ δ ε ζ η θ : Type} (ne : Nonempty (α × β × γ × δ × ε × ζ × η × θ)) (P : α → β → γ → δ → ε → ζ → η → θ → Prop) : α × β × γ × δ × ε × ζ × η × θ := gen ne fun z => P z.1 z.2.1 z.2.2.1 z.2.2.2.1 z.2.2.2.2.1 z.2.2.2.2.2.1 z.2.2.2.2.2.2.1 z.2.2.2.2.2.2.2
theorem gen_all8 {α β γ δ ε ζ η θ : Type} {ne : Nonempty (α × β × γ × δ × ε × ζ × η × θ)} {P : α → β → γ → δ → ε → ζ → η → θ → Prop} (h : P (gen8 ne P).1 (gen8 ne P).2.1 (gen8 ne P).2.2.1 (gen8 ne P).2.2.2.1 (gen8 ne P).2.2.2.2.1 (gen8 ne P).2.2.2.2.2.1 (gen8 ne P).2.2.2.2.2.2.1 (gen8 ne P).2.2.2.2.2.2.2) : ∀ a0 a1 a2 a3 a4 a5 a6 a7, P a0 a1 a2 a3 a4 a5 a6 a7 :=
  fun a0 a1 a2 a3 a4 a5 a6 a7 => gen_all (P := fun z : α × β × γ × δ × ε × ζ × η × θ => P z.1 z.2.1 z.2.2.1 z.2.2.2.1 z.2.2.2.2.1 z.2.2.2.2.2.1 z.2.2.2.2.2.2.1 z.2.2.2.2.2.2.2) h (a0, a1, a2, a3, a4, a5, a6, a7)
noncomputable def gen9 {α β γ δ ε ζ η θ ι : Type} (ne : Nonempty (α × β × γ × δ × ε × ζ × η × θ × ι)) (P : α → β → γ → δ → ε → ζ → η → θ → ι → Prop) : α × β × γ × δ × ε × ζ × η × θ × ι := gen ne fun z => P z.1 z.2.1 z.2.2.1 z.2.2.2.1 z.2.2.2.2.1 z.2.2.2.2.2.1 z.2.2.2.2.2.2.1 z.2.2.2.2.2.2.2.1 z.2.2.2.2.2.2.2.2
theorem gen_all9 {α β γ δ ε ζ η θ ι : Type} {ne : Nonempty (α × β × γ × δ × ε × ζ × η × θ × ι)} {P : α → β → γ → δ → ε → ζ → η → θ → ι → Prop} (h : P (gen9 ne P).1 (gen9 ne P).2.1 (gen9 ne P).2.2.1 (gen9 ne P).2.2.2.1 (gen9 ne P).2.2.2.2.1 (gen9 ne P).2.2.2.2.2.1 (gen9 ne P).2.2.2.2.2.2.1 (gen9 ne P).2.2.2.2.2.2.2.1 (gen9 ne P).2.2.2.2.2.2.2.2) : ∀ a0 a1 a2 a3 a4 a5 a6 a7 a8, P a0 a1 a2 a3 a4 a5 a6 a7 a8 :=
  fun a0 a1 a2 a3 a4 a5 a6 a7 a8 => gen_all (P := fun z : α × β × γ × δ × ε × ζ × η × θ × ι => P z.1 z.2.1 z.2.2.1 z.2.2.2.1 z.2.2.2.2.1 z.2.2.2.2.2.1 z.2.2.2.2.2.2.1 z.2.2.2.2.2.2.2.1 z.2.2.2.2.2.2.2.2) h (a0, a1, a2, a3, a4, a5, a6, a7, a8)
noncomputable def gen10 {α β γ δ ε ζ η θ ι κ : Type} (ne : Nonempty (α × β × γ × δ × ε × ζ × η × θ × ι × κ)) (P : α → β → γ → δ → ε → ζ → η → θ → ι → κ → Prop) : α × β × γ × δ × ε × ζ × η × θ × ι × κ := gen ne fun z => P z.1 z.2.1 z.2.2.1 z.2.2.2.1 z.2.2.2.2.1 z.2.2.2.2.2.1 z.2.2.2.2.2.2.1 z.2.2.2.2.2.2.2.1 z.2.2.2.2.2.2.2.2.1 z.2.2.2.2.2.2.2.2.2
theorem gen_all10 {α β γ δ ε ζ η θ ι κ : Type} {ne : Nonempty (α × β × γ × δ × ε × ζ × η × θ × ι × κ)} {P : α → β → γ → δ → ε → ζ → η → θ → ι → κ → Prop} (h : P (gen10 ne P).1 (gen10 ne P).2.1 (gen10 ne P).2.2.1 (gen10 ne P).2.2.2.1 (gen10 ne P).2.2.2.2.1 (gen10 ne P).2.2.2.2.2.1 (gen10 ne P).2.2.2.2.2.2.1 (gen10 ne P).2.2.2.2.2.2.2.1 (gen10 ne P).2.2.2.2.2.2.2.2.1 (gen10 ne P).2.2.2.2.2.2.2.2.2) : ∀ a0 a1 a2 a3 a4 a5 a6 a7 a8 a9, P a0 a1 a2 a3 a4 a5 a6 a7 a8 a9 :=
  fun a0 a1 a2 a3 a4 a5 a6 a7 a8 a9 => gen_all (P := fun z : α × β × γ × δ × ε × ζ × η × θ × ι × κ => P z.1 z.2.1 z.2.2.1 z.2.2.2.1 z.2.2.2.2.1 z.2.2.2.2.2.1 z.2.2.2.2.2.2.1 z.2.2.2.2.2.2.2.1 z.2.2.2.2.2.2.2.2.1 z.2.2.2.2.2.2.2.2.2) h (a0, a1, a2, a3, a4, a5, a6, a7, a8, a9)
theorem ex_in {α : Type} {P : α → Prop} {X : Prop} (h : ∃ a0, P a0) (k : ∀ a0, P a0 → X) : X := let ⟨a0, p⟩ := h; k a0 p
theorem ex_in2 {α β : Type} {P : α → β → Prop} {X : Prop} (h : ∃ a0 a1, P a0 a1) (k : ∀ a0 a1, P a0 a1 → X) : X := let ⟨a0, a1, p⟩ := h; k a0 a1 p
theorem ex_in3 {α β γ : Type} {P : α → β → γ → Prop} {X : Prop} (h : ∃ a0 a1 a2, P a0 a1 a2) (k : ∀ a0 a1 a2, P a0 a1 a2 → X) : X := let ⟨a0, a1, a2, p⟩ := h; k a0 a1 a2 p
theorem ex_in4 {α β γ δ : Type} {P : α → β → γ → δ → Prop} {X : Prop} (h : ∃ a0 a1 a2 a3, P a0 a1 a2 a3) (k : ∀ a0 a1 a2 a3, P a0 a1 a2 a3 → X) : X := let ⟨a0, a1, a2, a3, p⟩ := h; k a0 a1 a2 a3 p
theorem ex_in5 {α β γ δ ε : Type} {P : α → β → γ → δ → ε → Prop} {X : Prop} (h : ∃ a0 a1 a2 a3 a4, P a0 a1 a2 a3 a4) (k : ∀ a0 a1 a2 a3 a4, P a0 a1 a2 a3 a4 → X) : X := let ⟨a0, a1, a2, a3, a4, p⟩ := h; k a0 a1 a2 a3 a4 p
theorem ex_in6 {α β γ δ ε ζ : Type} {P : α → β → γ → δ → ε → ζ → Prop} {X : Prop} (h : ∃ a0 a1 a2 a3 a4 a5, P a0 a1 a2 a3 a4 a5) (k : ∀ a0 a1 a2 a3 a4 a5, P a0 a1 a2 a3 a4 a5 → X) : X := let ⟨a0, a1, a2, a3, a4, a5, p⟩ := h; k a0 a1 a2 a3 a4 a5 p
theorem ex_in7 {α β γ δ ε ζ η : Type} {P : α → β → γ → δ → ε → ζ → η → Prop} {X : Prop} (h : ∃ a0 a1 a2 a3 a4 a5 a6, P a0 a1 a2 a3 a4 a5 a6) (k : ∀ a0 a1 a2 a3 a4 a5 a6, P a0 a1 a2 a3 a4 a5 a6 → X) : X := let ⟨a0, a1, a2, a3, a4, a5, a6, p⟩ := h; k a0 a1 a2 a3 a4 a5 a6 p
theorem ex_in8 {α β γ δ ε ζ η θ : Type} {P : α → β → γ → δ → ε → ζ → η → θ → Prop} {X : Prop} (h : ∃ a0 a1 a2 a3 a4 a5 a6 a7, P a0 a1 a2 a3 a4 a5 a6 a7) (k : ∀ a0 a1 a2 a3 a4 a5 a6 a7, P a0 a1 a2 a3 a4 a5 a6 a7 → X) : X := let ⟨a0, a1, a2, a3, a4, a5, a6, a7, p⟩ := h; k a0 a1 a2 a3 a4 a5 a6 a7 p
theorem pr2 {α β : Type} {P : α × β → Prop} (h : ∀ a0 a1, P (a0, a1)) : ∀ z, P z := fun (a0, a1) => h a0 a1
theorem pr3 {α β γ : Type} {P : α × β × γ → Prop} (h : ∀ a0 a1 a2, P (a0, a1, a2)) : ∀ z, P z := fun (a0, a1, a2) => h a0 a1 a2
theorem pr4 {α β γ δ : Type} {P : α × β × γ × δ → Prop} (h : ∀ a0 a1 a2 a3, P (a0, a1, a2, a3)) : ∀ z, P z := fun (a0, a1, a2, a3) => h a0 a1 a2 a3
theorem pr5 {α β γ δ ε : Type} {P : α × β × γ × δ × ε → Prop} (h : ∀ a0 a1 a2 a3 a4, P (a0, a1, a2, a3, a4)) : ∀ z, P z := fun (a0, a1, a2, a3, a4) => h a0 a1 a2 a3 a4
theorem pr6 {α β γ δ ε ζ : Type} {P : α × β × γ × δ × ε × ζ → Prop} (h : ∀ a0 a1 a2 a3 a4 a5, P (a0, a1, a2, a3, a4, a5)) : ∀ z, P z := fun (a0, a1, a2, a3, a4, a5) => h a0 a1 a2 a3 a4 a5
theorem pr10 {α β γ δ ε ζ η θ ι κ : Type} {P : α × β × γ × δ × ε × ζ × η × θ × ι × κ → Prop} (h : ∀ a0 a1 a2 a3 a4 a5 a6 a7 a8 a9, P (a0, a1, a2, a3, a4, a5, a6, a7, a8, a9)) : ∀ z, P z := fun (a0, a1, a2, a3, a4, a5, a6, a7, a8, a9) => h a0 a1 a2 a3 a4 a5 a6 a7 a8 a9
theorem ne_lo {l : List (Addr × Obj)} {d a : Addr} {o : Obj} (h : ∀ p ∈ l, p.1 < d) (m : (a, o) ∈ l) : a ≠ d := Nat.ne_of_lt (h _ m)
theorem ne_hi {l : List (Addr × Obj)} {d a : Addr} {o : Obj} (h : ∀ p ∈ l, p.1 < d) (m : (a, o) ∈ l) : d ≠ a := Nat.ne_of_gt (h _ m)
theorem lt_in {l : List (Addr × Obj)} {d a : Addr} {o : Obj} (h : ∀ p ∈ l, p.1 < d) (m : (a, o) ∈ l) : @LT.lt Nat _ a d := h _ m
theorem ne_k {l : List (Addr × Obj)} {d a k : Addr} {o : Obj} (hk : @LT.lt Nat _ k a) (h : ∀ p ∈ l, p.1 < d) (m : (a, o) ∈ l) : d ≠ k := Nat.ne_of_gt (Nat.lt_trans hk (h _ m))
theorem ne_al {l : List (Addr × Obj)} {d a : Addr} {o : Obj} (h : ∀ p ∈ l, @Ne Nat p.1 d) (m : (a, o) ∈ l) : a ≠ d := h _ m
theorem ne_ar {l : List (Addr × Obj)} {d a : Addr} {o : Obj} (h : ∀ p ∈ l, @Ne Nat p.1 d) (m : (a, o) ∈ l) : d ≠ a := Ne.symm (h _ m)
theorem off1_all {D : Addr} : ∀ {l : List (Addr × Obj)}, PyProof.Rows.LCg.Off1 D l → ∀ p ∈ l, @Ne Nat p.1 D
  | [], _, _, h => nomatch h
  | q :: r, x, p, h => by
    rcases List.mem_cons.mp h with rfl | h
    · exact x.1
    · exact off1_all x.2 p h
theorem lt_up {l : List (Addr × Obj)} {d : Addr} (h : ∀ p ∈ l, p.1 < d) : ∀ p ∈ l, p.1 < d + 1 := fun p hp => Nat.lt_succ_of_lt (h p hp)
theorem lt_cons {l : List (Addr × Obj)} {d : Addr} {o : Obj} (h : ∀ p ∈ l, p.1 < d) : ∀ p ∈ (d, o) :: l, p.1 < d + 1 := fun p hp => (List.mem_cons.mp hp).elim (fun e => e ▸ Nat.lt_succ_self _) fun hp => Nat.lt_succ_of_lt (h p hp)
theorem all_lo {l r : List (Addr × Obj)} {d : Addr} (h : ∀ p ∈ l, p.1 < d) (s : ∀ p ∈ r, p ∈ l) : ∀ p ∈ r, p.1 ≠ d := fun p hp => Nat.ne_of_lt (h p (s p hp))
theorem and_in {p q X : Prop} (h : p ∧ q) (k : p → q → X) : X := k h.1 h.2
theorem nm_qe {M : Model} {A : Around} {env : Env} {ss : List Stmt} {Q : Flow → Shared → Prop} {E : Value → Shared → Prop} {s : Shared} (hE : PassesOwn M A env E) (h : ∀ Q' E', PassesOwn M A env E' → Q' = Q → E' = E → wpAny M A (execs ss env) Q' E' s) : wpAny M A (execs ss env) Q E s := h Q E hE rfl rfl
theorem use_q {Q Q' : Flow → Shared → Prop} {f : Flow} {s : Shared} (e : Q' = Q) (h : Q f s) : Q' f s := e ▸ h
end Mine
namespace Mine
local macro_rules | `(tactic| walk_at $s:str) => do let t := Lean.Syntax.mkStrLit ("my:" ++ s.getString); `(tactic| first | k_extra $t | fail)
local macro_rules | `(tactic| k_ne) => `(tactic| first | k_extra "my:k_ne" | fail)
local macro_rules | `(tactic| k_all) => `(tactic| first | k_extra "my:k_all" | fail)
local macro_rules | `(tactic| walk_at "dsN") => `(tactic| (intro F' N' d'; (try dsimp only at N'); (try k_sweep)))
local macro_rules | `(tactic| walk_at "clsE") => `(tactic| (intro F' N' l1 l2; (try k_lt2 l2); (try k_sweep)))
local macro_rules | `(tactic| walk_at "kmsE") => `(tactic| (intro F' N' l1 hI' hC' hL'; (try simp only [Int.reduceNeg, Int.neg_neg, Int.reduceToNat] at hI' hC' hL'); (try k_sweep)))
theorem lay_0 : True := by
  k_with_none
  exact True.intro
theorem lay_1 : True := by
  k_with "my:exec While BoolOp cons nil" => with_reducible refine stop_in ?_
  k_with "my:exec While Compare cons nil" => with_reducible refine stop_in ?_
  k_with "my:exec While BinOp cons nil" => with_reducible refine stop_in ?_
  k_with "my:exec While Constant cons nil" => with_reducible refine stop_in ?_
  k_with "my:exec For Name Call cons nil" => with_reducible refine stop_in ?_
  k_with "my:exec For Name Name cons nil" => with_reducible refine stop_in ?_
  k_with "my:exec For Name Subscript cons nil" => with_reducible refine stop_in ?_
  k_with "my:exec For Name BinOp cons nil" => with_reducible refine stop_in ?_
  k_with "my:exec For Name List cons nil" => with_reducible refine stop_in ?_
  k_with "my:exec Assign cons DictComp" => with_reducible refine stop_in ?_
  k_with "my:hook" => skip
  k_with "my:go" => ((repeat' (first | (k_unfold; (try dsimp only)) | (k_extra "my:hook"; first | walk1 | (dsimp only; walk1) | (leave1; try dsimp only)))) <;> (try (with_reducible refine stop_out ?_)))
  k_with "my:mem1" => first | with_reducible assumption | with_reducible exact List.mem_cons_self | (with_reducible refine List.mem_cons_of_mem _ ?_; k_extra "my:mem1") | (with_reducible refine List.mem_append_left _ ?_; k_extra "my:mem1") | (with_reducible refine List.mem_append_right _ ?_; k_extra "my:mem1")
  k_with "my:mem2" => first | exact List.Mem.head _ | (refine List.mem_cons_of_mem _ ?_; k_extra "my:mem2") | (refine List.mem_append_left _ ?_; k_extra "my:mem2") | (refine List.mem_append_right _ ?_; k_extra "my:mem2")
  k_with "my:mem" => first | k_extra "my:mem1" | k_extra "my:mem2"
  k_with "my:inl" => first | with_reducible exact fun _ h => h | with_reducible exact List.forall_mem_nil _ | ((with_reducible refine List.forall_mem_append.mpr ⟨?_, ?_⟩) <;> k_extra "my:inl") | ((with_reducible refine List.forall_mem_cons.mpr ⟨?_, ?_⟩); (first | k_extra "my:mem1" | k_memK | k_extra "my:mem2"); k_extra "my:inl") | (intro _ _; k_extra "my:mem1")
  k_with "my:names" => first | exact List.forall_mem_nil _ | (refine List.forall_mem_cons.mpr ⟨by with_unfolding_all rfl, ?_⟩; k_extra "my:names")
  k_with "my:subscriptTail Name Slice str ref" => ((with_reducible show wpAny _ _ (subscriptTail _ (PySem.Expr.Slice none (some (PySem.Expr.BoolOp _ _ _)) none _) _ _) _ _ _); (refine slice_all_step (s := ⟨_, _, _, _, _⟩) (by k_asm) (by k_asm) ?_); intro _ _ _ _ _)
  k_with "my:ite" => first | (refine ite_yes (by omega) ?_) | (refine ite_no (by omega) ?_)
  k_with "my:execs cons" => ((with_reducible refine wpAny_execs_cons ?_); (try dsimp only); (try (with_reducible refine toks_gen ?_; intro _)))
  k_with "my:k_all" => first | assumption | (refine List.forall_mem_append.mpr ⟨?_, ?_⟩ <;> k_all) | exact ne_of_allLt (by assumption) | exact OwnOff.ne (by assumption) (by k_mem)
  k_with "my:us1" => first | decide | exact Nat.le_of_ble_eq_true rfl
  k_with "my:us2" => first | exact rfl | assumption
  k_with "my:exec For Tuple Call cons nil" => with_reducible refine stop_in ?_
  k_with "my:exec For Tuple Name cons nil" => with_reducible refine stop_in ?_
  k_with "my:k_all" => exact ne_of_out (by assumption) (by omega) (by omega)
  k_with "my:k_all" => exact ne_of_out3 (by assumption) (by omega) (by omega) (by omega)
  exact True.intro
local macro_rules | `(tactic| omega) => `(tactic| lia)
section
/-- a text's signs, each a text -/
def chs (x : Str) : List Str := x.cps.toList.map fun c => ⟨#[c]⟩
theorem chs_length (x : Str) : (chs x).length = x.length := by simp [chs, Str.length]
theorem str_ext {x y : Str} (h : x.cps.toList = y.cps.toList) : x = y := by
  obtain ⟨a⟩ := x; obtain ⟨b⟩ := y
  exact congrArg Str.mk (Array.toList_inj.mp h)
theorem chs_inj {x y : Str} (h : chs x = chs y) : x = y := by
  refine str_ext ?_
  unfold chs at h
  exact (List.map_inj_right fun a b e => by simpa using e).mp h
theorem chs_slice_to {x : Str} {j : Int} (h0 : 0 ≤ j) (h : j ≤ x.length) : chs (Txt.slice x none (some j)) = (chs x).take j.toNat := by
  rw [beq_iff_eq.mp (slice_closes_toL h0 h)]
  simp [chs, List.map_take]
theorem slice_all (x : Str) : Txt.slice x none none = x := by
  refine chs_inj ?_
  have e : Txt.slice x none none = Txt.slice x none (some (x.length : Int)) := by
    unfold Txt.slice
    have e2 : Builtin.Str.strSliceIndices none none 1 x.length = Builtin.Str.strSliceIndices none (some (x.length : Int)) 1 x.length := by
      have h1 : ¬ ((x.length : Int) < 0) := by omega
      have h2 : (1 : Int) > 0 := by decide
      have h3 : max (0 : Int) (x.length : Int) = x.length := by omega
      simp only [Builtin.Str.strSliceIndices, h1, h2, if_true, if_false, Int.min_self, h3]
    rw [e2]
  rw [e, chs_slice_to (by omega) (by omega)]
  rw [List.take_of_length_le (by rw [chs_length]; omega)]
/-- the length of two lists' common front -/
def cpl {α : Type} [DecidableEq α] : List α → List α → Nat
  | x :: xs, y :: ys => if x = y then cpl xs ys + 1 else 0
  | _, _ => 0
section
variable {α : Type} [DecidableEq α]
/-- a row of the table, sign by sign: the new row, its last, its least -/
def inner (cost : α → α → Int) (bc : α) : List α → List Int → Int → Int → Int → List Int × Int × Int
  | x :: xs, r :: rs, dist, res, mn =>
    ((min (min res r + 2) (dist + cost bc x)) :: (inner cost bc xs rs r (min (min res r + 2) (dist + cost bc x)) (if min (min res r + 2) (dist + cost bc x) < mn then min (min res r + 2) (dist + cost bc x) else mn)).1,
      (inner cost bc xs rs r (min (min res r + 2) (dist + cost bc x)) (if min (min res r + 2) (dist + cost bc x) < mn then min (min res r + 2) (dist + cost bc x) else mn)).2)
  | _, _, _, res, mn => ([], res, mn)
def outer (cost : α → α → Int) (a : List α) (mx : Int) : List α → Int → List Int → Int → Int
  | [], _, _, res => res
  | bc :: bs, j, row, _ =>
    if (inner cost bc a row (j * 2) (j * 2) 9223372036854775807).2.2 > mx then mx + 1
    else outer cost a mx bs (j + 1) (inner cost bc a row (j * 2) (j * 2) 9223372036854775807).1 (inner cost bc a row (j * 2) (j * 2) 9223372036854775807).2.1
def row0 (n : Nat) : List Int := (List.range n).map fun (i : Nat) => 2 + 2 * (i : Int)
def levS (cost : α → α → Int) (a b : List α) (mx : Int) : Int :=
  if ((b.length : Int) - a.length) * 2 > mx then mx + 1 else outer cost a mx b 0 (row0 a.length) 0
def levT (cost : α → α → Int) (a b : List α) (mx : Int) : Int :=
  if a = [] ∨ b = [] then 2 * ((a.length : Int) + b.length)
  else if 40 < a.length ∨ 40 < b.length then mx + 1
  else if b.length < a.length then levS cost b a mx else levS cost a b mx
def cutEnd (a b : List α) : List α := a.take (a.length - cpl a.reverse b.reverse)
def levD (cost : α → α → Int) (a b : List α) (mx : Int) : Int :=
  if a = b then 0
  else levT cost (cutEnd (a.drop (cpl a b)) (b.drop (cpl a b))) (cutEnd (b.drop (cpl a b)) (a.drop (cpl a b))) mx
end
section
variable {x y : Str} {k : Int}
end
theorem slice_all_step {prog : Program} {w : World} {A : Around} {E : Value → Shared → Prop} {s : Shared} {value slice : PySem.Expr} {x : Str} {t : Tok} {h₀ : Heap} {L : Addr} {m : Str → Option Value} {news : List (Addr × Obj)} {Q : Value → Shared → Prop}
    (hF : Fr h₀ L s.heap m) (hN : News h₀ L s.heap news) (h : ∀ h' t' k, Fr h₀ L h' m → News h₀ L h' news → Q (.str x t') { s with heap := h', toks := k })
    (hs : subscripted slice false (.str x t) (.ref s.heap.objs.size) = operate [.ref s.heap.objs.size, .str x t] (getItem (.str x t) (.ref s.heap.objs.size)) := by with_unfolding_all rfl)
    (ht : ∀ r, letTemporaryGo value (.str x t) r = pure () := by intro _; with_unfolding_all rfl) (hsz : x.length ≤ sizeLine := by size_fits) :
    wpAny (model prog w) A (subscriptTail value slice (.str x t) (.ref s.heap.objs.size)) Q E { s with heap := s.heap.push { cls := .type "slice", data := .fields #[.none, .none, .none] } } :=
  slice_strN_nn hF hN (fun h' t' k a b => by rw [slice_all]; exact h h' t' k a b) hs ht hsz
end
section
theorem row0_length (n : Nat) : (row0 n).length = n := by simp [row0]
theorem row0_size {n : Nat} (h : 0 < n) : Builtin.Range.rangeSize 2 (2 * ((n : Int) + 1)) 2 = (n : Int) := by
  unfold Builtin.Range.rangeSize
  rw [if_pos (by decide), if_pos (by omega)]
  omega
theorem row0_small {n : Nat} (h : 0 < n) (h2 : n ≤ 1000) : Builtin.Range.small 2 (2 * ((n : Int) + 1)) 2 = true := by
  unfold Builtin.Range.small
  rw [row0_size h]
  have e : ∀ i : Int, -(2 ^ 62) ≤ i → i < 2 ^ 62 → Builtin.Range.rangeFitsLong i = true := fun i a b => by
    unfold Builtin.Range.rangeFitsLong
    rw [Bool.and_eq_true, decide_eq_true_eq, decide_eq_true_eq]
    constructor <;> omega
  simp [e]
  exact ⟨⟨e _ (by omega) (by omega), e _ (by omega) (by omega)⟩, .inr (e _ (by omega) (by omega))⟩
theorem ints_of : ∀ (vs : List Value) (ns : List Int), vs.length = ns.length → (∀ (j : Nat) (v : Value), vs[j]? = some v → ∃ t, v = .int (ns.getD j 0) t) → IntsAre vs ns
  | [], [], _, _ => .nil
  | v :: vs, n :: ns, e, h => by
    obtain ⟨t, rfl⟩ := h 0 v rfl
    exact .cons n t (ints_of vs ns (by simpa using e) fun j v hj => h (j + 1) v hj)
section
variable {prog : Program} {w : World} {A : Around} {E : Value → Shared → Prop} {s : Shared} {h₀ : Heap} {L r : Addr} {m : Str → Option Value} {news : List (Addr × Obj)} {t₀ u₀ v₀ : Tok} {n : Nat} {Q : Value → Shared → Prop}
theorem list_row (hh : A.handled = none) (F : Fr h₀ L s.heap m) (N : News h₀ L s.heap news) (hr : IsRange s.heap r 2 (2 * ((n : Int) + 1)) 2 t₀ u₀ v₀) (h0 : 0 < n) (h1 : n ≤ 1000)
    (h : ∀ D us c h' tk, Fr h₀ L h' m → News h₀ L h' ((D, listOf (List.toArray us) c) :: news) → (∀ p ∈ news, p.1 < D) → IntsAre us (row0 n) → Q (.ref D) { s with heap := h', toks := tk }) :
    wpAny (model prog w) A (call (.type "list") [.ref r]) Q E s := by
  refine call_list_range hh hr (row0_small h0 h1) (row0_size h0) (by omega) fun h' tk acc c hk hD hI => ?_
  have hD' : h'.get? s.heap.objs.size = some (listOf (List.toArray acc.toList) c) := by
    rw [Array.toArray_toList]
    exact hD
  refine h _ acc.toList c h' tk (F.keeps hk) (news_pushed F N hk hD' rfl) (fun p hp => Heap.lt_size (N p hp).1) (ints_of _ _ (by rw [Array.length_toList, row0_length]; exact hI.1) fun j v hj => ?_)
  obtain ⟨t, ht⟩ := hI.2 j v (by rw [← hj, Array.getElem?_toList])
  have hjn : j < n := by
    have := (List.getElem?_eq_some_iff.mp hj).1
    rw [Array.length_toList, hI.1] at this
    exact this
  refine ⟨t, ht.trans ?_⟩
  congr 1
  rw [List.getD_eq_getElem?_getD]
  unfold row0
  rw [List.getElem?_map, List.getElem?_range hjn]
  simp only [Option.map_some, Option.getD_some]
  omega
end
theorem outer_step {α : Type} (cost : α → α → Int) (a : List α) (mx : Int) (bc : α) (bs : List α) (j : Int) (row : List Int) (res : Int) : outer cost a mx (bc :: bs) j row res =
    if (inner cost bc a row (j * 2) (j * 2) 9223372036854775807).2.2 > mx then mx + 1
    else outer cost a mx bs (j + 1) (inner cost bc a row (j * 2) (j * 2) 9223372036854775807).1 (inner cost bc a row (j * 2) (j * 2) 9223372036854775807).2.1 := rfl
theorem drop_of_get {α : Type} {l : List α} {i : Nat} {x : α} (h : l[i]? = some x) : l.drop i = x :: l.drop (i + 1) := by
  obtain ⟨hi, e⟩ := List.getElem?_eq_some_iff.mp h
  rw [List.drop_eq_getElem_cons hi, e]
/-- the row's turn: what stands is done ++ rest -/
theorem inner_turn {α : Type} (cost : α → α → Int) (bc x : α) (xs : List α) (row : List Int) (i : Nat) (dist res mn : Int) (hi : i < row.length) (T : List Int × Int × Int)
    (h : T.1 = row.take i ++ (inner cost bc (x :: xs) (row.drop i) dist res mn).1 ∧ T.2 = (inner cost bc (x :: xs) (row.drop i) dist res mn).2)
    (r : Int) (hr : r = row.getD i 0) (v : Int) (hv : v = min (min res r + 2) (dist + cost bc x)) (mn' : Int) (hm : mn' = if v < mn then v else mn) :
    T.1 = (row.set i v).take (i + 1) ++ (inner cost bc xs ((row.set i v).drop (i + 1)) r v mn').1 ∧ T.2 = (inner cost bc xs ((row.set i v).drop (i + 1)) r v mn').2 := by
  have e : row.drop i = r :: row.drop (i + 1) := drop_of_get (by rw [hr, List.getD_eq_getElem?_getD, List.getElem?_eq_getElem hi]; rfl)
  have e2 : (row.set i v).drop (i + 1) = row.drop (i + 1) := by rw [List.drop_set_of_lt (by omega)]
  have e3 : (row.set i v).take (i + 1) = row.take i ++ [v] := by
    rw [List.take_succ_eq_append_getElem (by simpa using hi)]
    simp [List.take_set_of_le (Nat.le_refl _)]
  rw [e] at h
  rw [e2, e3, h.1, h.2]
  simp only [inner, ← hv, ← hm, List.append_assoc, List.singleton_append, and_self]
theorem mins (r res d c : Int) : (if d + c < (if r < res then r else res) + 2 then d + c else (if r < res then r else res) + 2) = min (min res r + 2) (d + c) := by
  by_cases h : r < res
  · rw [if_pos h]
    split <;> omega
  · rw [if_neg h]
    split <;> omega
end
section
def IterO (o : Obj) (l : Addr) (i : Nat) : Prop := o.cls = .type "list_iterator" ∧ o.data = .fields #[.ref l, .int i 0]
section
variable {prog : Program} {w : World} {A : Around} {E : Value → Shared → Prop} {s : Shared} {h₀ : Heap} {L : Addr} {m : Str → Option Value} {news : List (Addr × Obj)}
theorem special_item {it l : Addr} {i : Nat} {items : Array Value} {x : Value} {Q : Option Value → Shared → Prop} (hit : s.heap.IsListIter it l i) (hl : s.heap.IsList l items) (hx : items[i]? = some x)
    (hQ : ∀ h', h'.IsListIter it l (i + 1) → Heap.SameBut it s.heap h' → Q (some x) { s with heap := h' }) :
    wpAny (model prog w) A (callSpecial? (.ref it) (Str.ofString "__next__")) Q E s := by
  obtain ⟨o, ho, hc, hd⟩ := id hit
  obtain ⟨ol, hol, _, nl, hdl⟩ := hl
  refine wpAny_callSpecial?_slot (name := Str.ofString "__next__") hit.typeIs slot_listiter_next (wpAny_call_entry slot_listiter_next hit.typeIs entry_listiter_next ?_ (args_listiter_next _))
  show wpAny _ _ (field (.ref it) 0 >>= _) _ _ s
  refine wpAny_bind (wpAny_field ho hd (x := .ref l) rfl ?_)
  show wpAny _ _ (if (Value.ref l == Value.none) = true then _ else _) _ _ s
  rw [if_neg (show ¬ ((Value.ref l == Value.none) = true) from Bool.false_ne_true)]
  show wpAny _ _ (field (.ref it) 1 >>= _) _ _ s
  refine wpAny_bind (wpAny_field ho hd (x := .int i 0) rfl ?_)
  show wpAny _ _ (seqItems? (.ref l) >>= _) _ _ s
  refine wpAny_bind (wpAny_seqItems hol hdl ?_)
  simp only [Int.toNat_natCast, hx]
  refine wpAny_bind (wpAny_setField ho hd (by simp) (wpAny_pure ⟨x, rfl, hQ _ ?_ (Heap.SameBut.update ..)⟩))
  exact ⟨_, Heap.get?_update_self _ ho (Obj.isFreed_of_fields (Obj.data_mapFields hd _)), (Obj.cls_mapFields ..).trans hc, by
    rw [Obj.data_mapFields hd]; simp [rawInt]⟩
theorem special_end {it l : Addr} {i : Nat} {items : Array Value} {Q : Option Value → Shared → Prop} (hh : A.handled = none) (hit : s.heap.IsListIter it l i) (hl : s.heap.IsList l items) (hx : items[i]? = none)
    (hE : ∀ h1 h' e, Heap.ExtBut it s.heap h1 → Heap.NewExc h1 h' e "StopIteration" → E (.ref e) { s with heap := h' }) :
    wpAny (model prog w) A (callSpecial? (.ref it) (Str.ofString "__next__")) Q E s := by
  obtain ⟨o, ho, hc, hd⟩ := id hit
  obtain ⟨ol, hol, _, nl, hdl⟩ := hl
  refine wpAny_callSpecial?_slot (name := Str.ofString "__next__") hit.typeIs slot_listiter_next (wpAny_call_entry slot_listiter_next hit.typeIs entry_listiter_next ?_ (args_listiter_next _))
  show wpAny _ _ (field (.ref it) 0 >>= _) _ _ s
  refine wpAny_bind (wpAny_field ho hd (x := .ref l) rfl ?_)
  show wpAny _ _ (if (Value.ref l == Value.none) = true then _ else _) _ _ s
  rw [if_neg (show ¬ ((Value.ref l == Value.none) = true) from Bool.false_ne_true)]
  show wpAny _ _ (field (.ref it) 1 >>= _) _ _ s
  refine wpAny_bind (wpAny_field ho hd (x := .int i 0) rfl ?_)
  show wpAny _ _ (seqItems? (.ref l) >>= _) _ _ s
  refine wpAny_bind (wpAny_seqItems hol hdl ?_)
  simp only [Int.toNat_natCast, hx]
  refine wpAny_bind (wpAny_rule (wpAny_bind (wpAny_setField ho hd (by simp) ?_)))
  show wpAny _ _ (newExc (.type "StopIteration") [] >>= _) _ _ _
  refine wpAny_bind ?_
  simp only [newExc, newTuple]
  refine wpAny_bind (wpAny_newObj_type ?_ (by size_fits))
  refine wpAny_bind (m := firstArgMember _ _) (wpAny_of_eq (a := Value.none) (by first | rfl | (simp only [firstArgMember]; rfl)) ?_)
  refine wpAny_newObj_type ?_ (by size_fits)
  simp only [raiseNew]
  refine wpAny_bind (wpAny_handled ?_)
  first | rw [show A.in1.handled = none from hh] | rw [hh]
  refine wpAny_bind (wpAny_pure (wpAny_throw ?_))
  refine hE _ _ _ (Heap.SameBut.update ..).extBut ⟨fun b o e => Heap.get?_push_of_some _ (Heap.get?_push_of_some _ e), ?_, ⟨_, _, Heap.get?_push_size _ rfl, rfl, rfl⟩⟩
  cases q : Heap.get? (s.heap.update it (Obj.mapFields fun x => x.setIfInBounds 0 Value.none)) ((s.heap.update it (Obj.mapFields fun x => x.setIfInBounds 0 Value.none)).push { cls := Value.type "tuple", data := Data.seq #[] }).objs.size with
  | none => rfl
  | some o' =>
    have := Heap.lt_size q
    rw [Heap.size_push] at this
    exact absurd this (Nat.not_lt_of_le (Nat.le_succ _))
theorem next_item {it l : Addr} {io : Obj} {i k : Nat} {vs : List Value} {x : Value} {Q : Value → Shared → Prop} (F : Fr h₀ L s.heap m) (N : News h₀ L s.heap ((it, io) :: news)) (hi : IterO io l i) (hl : (l, listOf vs.toArray k) ∈ news) (off : ∀ p ∈ news, p.1 ≠ it) (hx : vs[i]? = some x)
    (h : ∀ h' io', IterO io' l (i + 1) → Fr h₀ L h' m → News h₀ L h' ((it, io') :: news) → Q x { s with heap := h' }) :
    wpAny (model prog w) A (call (.builtin "next") [.ref it]) Q E s := by
  have hm := N (it, io) (.head _)
  have hit : s.heap.IsListIter it l i := ⟨io, hm.1, hi.1, hi.2⟩
  have hol := (N _ (.tail _ hl)).1
  have hls : s.heap.IsList l vs.toArray := ⟨_, hol, rfl, k, rfl⟩
  refine call_function_entry (by decide +kernel) (by decide +kernel) kdk_entry_next (kdk_args_next _) ?_
  unfold Builtin.«next»
  refine wpAny_bind (m := someArgs "next" 1 2 _) (wpAny_of_eq (a := [Value.ref it]) (by first | rfl | kernel_rfl!) ?_)
  dsimp only
  refine wpAny_bind (wpAny_specialOf (name := Str.ofString "__next__") hit.typeIs slot_listiter_next.lookup ?_)
  refine wpAny_ite_split (fun hab => absurd hab (by decide)) (fun _ => ?_)
  refine wpAny_bind (special_item hit hls (x := x) (by simpa using hx) fun h' hit' hs => ?_)
  obtain ⟨o', ho', hc', hd'⟩ := hit'
  refine wpAny_pure ⟨_, rfl, h h' o' ⟨hc', hd'⟩ (F.change hs hm.2.1 hm.2.2) fun p hp => ?_⟩
  rcases List.mem_cons.mp hp with rfl | hp
  · exact ⟨ho', hm.2⟩
  · exact ⟨hs.extBut _ _ (off p hp) (N p (.tail _ hp)).1, (N p (.tail _ hp)).2⟩
theorem next_end {it l : Addr} {io : Obj} {i k : Nat} {vs : List Value} {Q : Value → Shared → Prop} (hh : A.handled = none) (F : Fr h₀ L s.heap m) (N : News h₀ L s.heap ((it, io) :: news)) (hi : IterO io l i) (hl : (l, listOf vs.toArray k) ∈ news) (off : ∀ p ∈ news, p.1 ≠ it) (hx : vs[i]? = none)
    (h : ∀ h1 h' e, Fr h₀ L h1 m → News h₀ L h1 news → Heap.NewExc h1 h' e "StopIteration" → E (.ref e) { s with heap := h' }) :
    wpAny (model prog w) A (call (.builtin "next") [.ref it]) Q E s := by
  have hm := N (it, io) (.head _)
  have hit : s.heap.IsListIter it l i := ⟨io, hm.1, hi.1, hi.2⟩
  have hol := (N _ (.tail _ hl)).1
  have hls : s.heap.IsList l vs.toArray := ⟨_, hol, rfl, k, rfl⟩
  refine call_function_entry (by decide +kernel) (by decide +kernel) kdk_entry_next (kdk_args_next _) ?_
  unfold Builtin.«next»
  refine wpAny_bind (m := someArgs "next" 1 2 _) (wpAny_of_eq (a := [Value.ref it]) (by first | rfl | kernel_rfl!) ?_)
  dsimp only
  refine wpAny_bind (wpAny_specialOf (name := Str.ofString "__next__") hit.typeIs slot_listiter_next.lookup ?_)
  refine wpAny_ite_split (fun hab => absurd hab (by decide)) (fun _ => ?_)
  refine wpAny_bind (special_end hh hit hls (by simpa using hx) fun h1 h' e hs hx' => ?_)
  refine h h1 h' e ⟨F.ns.at' fun o q => hs _ _ (Ne.symm hm.2.1) q, fun b o q => hs _ _ (fun z => by rw [z, hm.2.2] at q; cases q) (F.keep b o q), F.above⟩ (fun p hp => ?_) hx'
  exact ⟨hs _ _ (off p hp) (N p (.tail _ hp)).1, (N p (.tail _ hp)).2⟩
end
/-- a contract of a def that may also raise -/
def ConX (prog : Program) (w : World) (K : Frag) (f : Addr) (dp un : Nat) (vs : List Value) (news : List (Addr × Obj)) (post : Value → List (Addr × Obj) → Prop) (cls : String) (newsX : List (Addr × Obj)) : Prop :=
  ∀ (p : Program) (loose : List Str) (mean : ExcName → Option Value) (mg mb : Str → Option Value) (gd : Option (List Code)) (cn : Str) (cs : Scope) (a : Addr) (ccd : Value) (cl : List (Str × Addr)) (outer : List Env) (A₀ : Around) (base h₀ : Heap) (L : Addr) (m : Str → Option Value) (s : Shared) (Q E : Value → Shared → Prop),
    Below A₀ base outer h₀ → Fr h₀ L s.heap m → K.In h₀ → News h₀ L s.heap news → Top p loose mean mg mb h₀ → cs.kind = .function →
    (∀ v news' h' tk', post v news' → Fr h₀ L h' m → News h₀ L h' news' → Q v { s with heap := h', toks := tk' }) →
    (∀ e g h' tk', Fr h₀ L g m → RaisedN base (envX cn cs L a ccd cl :: outer) e (.type cls) newsX h' → g.UpToSlots h' → E (.ref e) { s with heap := h', toks := tk' }) →
    wpAny (model prog w) (ktrTop dp un gd cn cs L a ccd cl outer) (call (.ref f) vs) Q E s
theorem ConX.of {prog : Program} {w : World} {K : Frag} {f : Addr} {dp un : Nat} {vs : List Value} {news : List (Addr × Obj)} {post : Value → List (Addr × Obj) → Prop} {cls : String} {newsX : List (Addr × Obj)}
    {name qual : Str} {params : Arguments} {body : List Stmt} {scope : Scope} {dV kV doc pm cdv ct oc : Value} {an od : Option Addr} {osl : Array (Option Value)} {binds : List (Str × Value)}
    (ho : K.lookup f = some ⟨oc, od, .func (fnOf name qual params body scope dV kV doc pm an cdv ct), osl⟩) (hcd : codeIn K cdv qual = true) (hroom : dp < recursionLimit)
    (hbind : ∀ s : Shared, K.In s.heap → BindsTo s (fnOf name qual params body scope dV kV doc pm an cdv ct) ⟨vs, []⟩ binds) (hloc : ∀ y ∈ binds, scope.names.lookup y.1 = some .local) (hnd : (binds.map (·.1)).Nodup)
    (hco : scope.isCoroutine = false) (hgen : scope.isGenerator = false) (hk : scope.kind = .function) (hcell : ∀ x ∈ scope.names, x.2 ≠ .cell)
    (h : ∀ (p : Program) (loose : List Str) (mean : ExcName → Option Value) (mg mb : Str → Option Value) (gd : Option (List Code)) (cn : Str) (cs : Scope) (a : Addr) (ccd : Value) (cl : List (Str × Addr)) (outer : List Env) (base g h₁ : Heap) (L' L₀ : Addr) (s : Shared) (tk : Nat) (R : Value → Shared → Prop),
      Fr g L' h₁ (kstB (fun _ => none) binds) → News g L' h₁ news → Below (ktrTop dp un gd cn cs L₀ a ccd cl outer) base (envX cn cs L₀ a ccd cl :: outer) g → K.In g → Top p loose mean mg mb g →
      (∀ e h' tk', RaisedN base (envX cn cs L₀ a ccd cl :: outer) e (.type cls) newsX h' → g.UpToSlots h' → R (.ref e) { s with heap := h', toks := tk' }) →
      wpAny (model prog w) ((ktrTop dp un gd cn cs L₀ a ccd cl outer).deeper (envOf qual scope L' f cdv)) (execs body (envOf qual scope L' f cdv))
        (fun fl s' => Out g s post (match fl with | .ret v => v | _ => .none) s')
        (fun e s' => wpAny (model prog w) ((ktrTop dp un gd cn cs L₀ a ccd cl outer).deeper (envOf qual scope L' f cdv)) (leaving (envOf qual scope L' f cdv) e) (fun _ s'' => R e s'') (fun e' s'' => R e' s'') s')
        { s with heap := h₁, toks := tk }) : ConX prog w K f dp un vs news post cls newsX := by
  intro p loose mean mg mb gd cn cs a ccd cl outer A₀ base h₀ L m s Q E B F X N T hkc ret exc
  refine wpAny_call ?_
  refine code_def B F X N T rfl rfl hkc ho hcd hroom (hbind s (X.keeps F.keep)) hloc (fun g L' h₁ FG F' N' B' X' T' => ?_) hco hgen hk hcell
  have F2 : Fr g L' h₁ (kstB (fun _ => none) binds) := by
    have e : (fun y => binds.reverse.lookup y) = kstB (fun _ => none) binds := funext fun y => kstB_of hnd
    rw [← e]; exact F'
  refine wpAny_mono (h p loose mean mg mb gd cn cs a ccd cl outer base g h₁ L' L s (s.toks + binds.length) E F2 N' B' X' T' (fun e h' tk' hx hu => exc e g h' tk' FG hx hu)) (fun fl s' hO => ?_) fun _ _ x => x
  obtain ⟨h', tk', L'', m', more, news', rfl, F'', N'', hs, hp⟩ := hO
  exact leaveK_ F'' N'' fun kF kN => ret _ news' h' tk' hp kF fun q hq => kN q (hs q hq)
theorem leaves {M : Model} {A : Around} {E : Value → Shared → Prop} {s' : Shared} {base g h : Heap} {outer : List Env} {L a e : Addr} {m : Str → Option Value} {name : Str} {scope : Scope} {cd : Value} {Q : Unit → Shared → Prop} {news : List (Addr × Obj)} {cls : String}
    (K : Below A base outer g) (hx : Heap.NewExc h s'.heap e cls) (F : Fr g L h m) (N : News g L h news)
    (hQ : ∀ h', RaisedN base outer e (.type cls) news h' → g.UpToSlots h' → Q () { s' with heap := h' }) (hk : scope.kind = .function) :
    wpAny M (A.deeper (envOf name scope L a cd)) (leaving (envOf name scope L a cd) (.ref e)) Q E s' := leave_newK K hx F N hQ hk
end
section
/-- how a body that caught what was raised below it comes back: its caller's frame is seen again from the heap below both -/
def OutX (h₀ : Heap) (L₀ : Addr) (m : Str → Option Value) (s₀ : Shared) (post : Value → List (Addr × Obj) → Prop) (v : Value) (s' : Shared) : Prop :=
  ∃ (h' : Heap) (tk' : Nat) (news' : List (Addr × Obj)), s' = { s₀ with heap := h', toks := tk' } ∧ Fr h₀ L₀ h' m ∧ News h₀ L₀ h' news' ∧ post v news'
theorem outX_of {h₀ : Heap} {L L₀ : Addr} {m m' : Str → Option Value} {s₀ s₁ : Shared} {post : Value → List (Addr × Obj) → Prop} {v : Value} {h' : Heap} {tk' : Nat} {oL : Obj} {more news' : List (Addr × Obj)}
    (he : s₁ = { s₀ with heap := h', toks := tk' }) (F : Fr h₀ L h' m') (N : News h₀ L h' more) (hm : (L₀, oL) ∈ more) (hns : ∀ h : Heap, h.get? L₀ = some oL → h.Ns L₀ m) (hab : h₀.objs.size ≤ L₀) (hs : ∀ p ∈ news', p ∈ more ∧ p.1 ≠ L₀) (hp : post v news') :
    OutX h₀ L₀ m s₀ post v s₁ := by
  refine ⟨h', tk', news', he, ⟨hns h' (N _ hm).1, F.keep, hab⟩, fun p hq => ⟨(N p (hs p hq).1).1, (hs p hq).2, (N p (hs p hq).1).2.2⟩, hp⟩
/-- a contract of a def that catches what is raised below it: called by a def that nothing of the text called -/
def ConT (prog : Program) (w : World) (K : Frag) (f : Addr) (dp un : Nat) (vs : List Value) (news : List (Addr × Obj)) (post : Value → List (Addr × Obj) → Prop) : Prop :=
  ∀ (p : Program) (loose : List Str) (mean : ExcName → Option Value) (mg mb : Str → Option Value) (gd : Option (List Code)) (cn : Str) (cs : Scope) (a : Addr) (ccd : Value) (cl : List (Str × Addr)) (A₀ : Around) (h₀ : Heap) (L : Addr) (m : Str → Option Value) (s : Shared) (Q E : Value → Shared → Prop),
    Below A₀ h₀ [] h₀ → Fr h₀ L s.heap m → K.In h₀ → News h₀ L s.heap news → Top p loose mean mg mb h₀ → cs.kind = .function →
    (∀ v news' h' tk', post v news' → Fr h₀ L h' m → News h₀ L h' news' → Q v { s with heap := h', toks := tk' }) →
    wpAny (model prog w) (ktrTop dp un gd cn cs L a ccd cl []) (call (.ref f) vs) Q E s
theorem ConT.of {prog : Program} {w : World} {K : Frag} {f : Addr} {dp un : Nat} {vs : List Value} {news : List (Addr × Obj)} {post : Value → List (Addr × Obj) → Prop}
    {name qual : Str} {params : Arguments} {body : List Stmt} {scope : Scope} {dV kV doc pm cdv ct oc : Value} {an od : Option Addr} {osl : Array (Option Value)} {binds : List (Str × Value)}
    (ho : K.lookup f = some ⟨oc, od, .func (fnOf name qual params body scope dV kV doc pm an cdv ct), osl⟩) (hcd : codeIn K cdv qual = true) (hroom : dp < recursionLimit)
    (hbind : ∀ s : Shared, K.In s.heap → BindsTo s (fnOf name qual params body scope dV kV doc pm an cdv ct) ⟨vs, []⟩ binds) (hloc : ∀ y ∈ binds, scope.names.lookup y.1 = some .local) (hnd : (binds.map (·.1)).Nodup)
    (hco : scope.isCoroutine = false) (hgen : scope.isGenerator = false) (hk : scope.kind = .function) (hcell : ∀ x ∈ scope.names, x.2 ≠ .cell)
    (h : ∀ (p : Program) (loose : List Str) (mean : ExcName → Option Value) (mg mb : Str → Option Value) (gd : Option (List Code)) (cn : Str) (cs : Scope) (a : Addr) (ccd : Value) (cl : List (Str × Addr)) (h₀ g h₁ : Heap) (L' L₀ : Addr) (m : Str → Option Value) (s : Shared) (tk : Nat) (R : Value → Shared → Prop),
      Fr h₀ L₀ g m → h₀.objs.size ≤ L' → (∀ q ∈ news, h₀.get? q.1 = none ∧ q.1 ≠ L₀) → K.In h₀ → Top p loose mean mg mb h₀ →
      Fr g L' h₁ (kstB (fun _ => none) binds) → News g L' h₁ news → Below (ktrTop dp un gd cn cs L₀ a ccd cl []) h₀ [envX cn cs L₀ a ccd cl] g → K.In g → Top p loose mean mg mb g →
      wpAny (model prog w) ((ktrTop dp un gd cn cs L₀ a ccd cl []).deeper (envOf qual scope L' f cdv)) (execs body (envOf qual scope L' f cdv))
        (fun fl s' => OutX h₀ L₀ m s post (match fl with | .ret v => v | _ => .none) s')
        (fun e s' => wpAny (model prog w) ((ktrTop dp un gd cn cs L₀ a ccd cl []).deeper (envOf qual scope L' f cdv)) (leaving (envOf qual scope L' f cdv) e) (fun _ s'' => R e s'') (fun e' s'' => R e' s'') s')
        { s with heap := h₁, toks := tk }) : ConT prog w K f dp un vs news post := by
  intro p loose mean mg mb gd cn cs a ccd cl A₀ h₀ L m s Q E B F X N T hkc ret
  refine wpAny_call ?_
  have Xs := X.keeps F.keep
  refine codeAny_call_def (fd := fnOf name qual params body scope dV kV doc pm an cdv ct) (body := body) (binds := binds) hroom (Xs _ _ ho) rfl (T.nolimit.keeps F.keep) (codeRec_of Xs hcd) rfl (hbind s Xs) hcell hloc (fun h₁ hns hk₁ => ?_) hco hgen hk
  have hg : ∀ b o, (hideAll s.heap (news.map (·.1))).get? b = some o → s.heap.get? b = some o := fun b o => of_hideAll _
  have hnot : ∀ b o, s.heap.get? b = some o → (∀ q ∈ news, q.1 ≠ b) → (hideAll s.heap (news.map (·.1))).get? b = some o := fun b o e hq =>
    hideAll_get _ e fun hm => by obtain ⟨q, hq', e'⟩ := List.mem_map.mp hm; exact hq q hq' e'
  have FG : Fr h₀ L (hideAll s.heap (news.map (·.1))) m := by
    obtain ⟨oL, es, ep, hL, r⟩ := F.ns
    refine ⟨⟨oL, es, ep, hnot _ _ hL fun q hq e => (N q hq).2.1 e, r⟩, fun b o e => hnot _ _ (F.keep b o e) fun q hq e' => ?_, F.above⟩
    have := (N q hq).2.2
    rw [e', e] at this
    cases this
  have hLt : L < s.heap.objs.size := F.ns.lt
  have FL : Fr (hideAll s.heap (news.map (·.1))) s.heap.objs.size h₁ (kstB (fun _ => none) binds) := by
    have e : (fun y => binds.reverse.lookup y) = kstB (fun _ => none) binds := funext fun y => kstB_of hnd
    rw [← e]
    exact ⟨hns, fun b o q => hk₁ b o (hg b o q), Nat.le_of_eq (hideAll_size _ _)⟩
  have NL : News (hideAll s.heap (news.map (·.1))) s.heap.objs.size h₁ news := fun q hq =>
    ⟨hk₁ _ _ (N q hq).1, Nat.ne_of_lt (Heap.lt_size (N q hq).1), hideAll_none _ (List.mem_map_of_mem hq)⟩
  have BB := B.push (name := cn) (a := a) (cd := ccd) (scope := cs) FG hkc
  have hfr : (hideAll s.heap (news.map (·.1))).FunFrames h₀ [envX cn cs L a ccd cl] := by
    obtain ⟨oL, es, ep, hL, hd, _⟩ := FG.ns
    exact ⟨by show cs.kind ≠ .module; rw [hkc]; decide, ⟨L, oL, rfl, Heap.get?_none_of_le FG.above, hL, fun vs q => by rw [hd] at q; cases q⟩, trivial⟩
  refine wpAny_mono (h p loose mean mg mb gd cn cs a ccd cl h₀ _ h₁ s.heap.objs.size L m s (s.toks + binds.length) E FG (Nat.le_trans F.above (Nat.le_of_lt hLt)) (fun q hq => ⟨(N q hq).2.2, (N q hq).2.1⟩) X T FL NL ⟨rfl, FG.keep, hfr⟩ (X.keeps FG.keep) (T.keeps FG.keep)) (fun fl s' hO => ?_) fun _ _ x => x
  obtain ⟨h', tk', news', rfl, F'', N'', hp⟩ := hO
  exact ret _ news' h' tk' hp F'' N''
section
variable {prog : Program} {w : World} {A₀ : Around} {E : Value → Shared → Prop} {s' : Shared} {h₀ g2 : Heap} {outer : List Env} {L a e : Addr} {m : Str → Option Value} {name : Str} {scope : Scope} {cd : Value}
  {b₀ : Stmt} {suite : List Stmt} {pos np : Pos} {rest : List ExceptHandler} {Q : Flow → Shared → Prop} {news : List (Addr × Obj)}
  {p : Program} {loose : List Str} {mean : ExcName → Option Value} {mg mb : Str → Option Value}
end
end
section
abbrev boundObj (id : String) (self : Value) : Obj := { cls := .type "builtin_function_or_method", data := .fields #[.builtin id, self] }
theorem slot_md_get : Slot "method_descriptor" "__get__" "method_descriptor.__get__" :=
  .of (owner := "method_descriptor") (n := "__get__") (by rw [typeLookup_type, builtinLookup_eq_fast]; kernel_rfl) (by decide +kernel) (by decide +kernel) (by decide +kernel)
    (by first | exact .inl (by decide +kernel) | exact .inr (by decide +kernel)) (by rw [isSubtype_type]; kernel_rfl)
theorem md_no_set : typeLookup (.type "method_descriptor") "__set__" = pure none := by rw [typeLookup_type, builtinLookup_eq_fast]; kernel_rfl
theorem md_no_del : typeLookup (.type "method_descriptor") "__delete__" = pure none := by rw [typeLookup_type, builtinLookup_eq_fast]; kernel_rfl
theorem entry_md_get : entryFor table "method_descriptor.__get__" = some Builtin.«method_descriptor.__get__» := entryFor_of_tree (by kernel_rfl)
theorem args_md_get (a b c : Value) : argsOk "method_descriptor.__get__" ⟨[a, b, c], []⟩ := by unfold argsOk; kernel_rfl
theorem owner_append : (".".intercalate ("list.append".cutAt '.').dropLast) = "list" := by
  have e0 : "list.append".cutAt '.' = ["list", "append"] := by first | rfl | decide +kernel
  rw [e0]; decide +kernel
section
variable {prog : Program} {w : World} {A : Around} {E : Value → Shared → Prop} {h : Heap} {g : Array GenState} {d : Drawn} {t : Nat} {os : OsState} {a : Addr}
theorem lk_append : typeLookup (.type "list") "append" = pure (some (.builtin "list.append")) := by rw [typeLookup_type, builtinLookup_eq_fast]; kernel_rfl
theorem entry_list_ga' : entryFor table "list.__getattribute__" = some Builtin.«object.__getattribute__» :=
  entryFor_alias (id' := "object.__getattribute__") (by kernel_rfl) (by decide +kernel) (by decide +kernel) (by kernel_rfl)
theorem md_get {its : Array Value} {n : Nat} {Q : Fin → Shared → Prop} (hx : h.get? a = some (listOf its n)) (hq : Q (.done (.ret (.ref h.objs.size))) ⟨h.push (boundObj "list.append" (.ref a)), g, d, t, os⟩) :
    wpAny (model prog w) A (Builtin.«method_descriptor.__get__» ⟨[.builtin "list.append", .ref a, .type "list"], []⟩) Q E ⟨h, g, d, t, os⟩ := by
  have hT : (⟨h, g, d, t, os⟩ : Shared).TypeIs (.ref a) "list" := ⟨_, hx, rfl⟩
  have f1 : Manifest.toldItsClass.contains "list.append" = false := by decide +kernel
  have f2 : isSubtype (.type "list") (.type (".".intercalate ("list.append".cutAt '.').dropLast)) = pure true := by rw [owner_append]; rw [isSubtype_type]; kernel_rfl
  unfold Builtin.«method_descriptor.__get__»
  repeat (any_goals (first | assumption | wp_step))
theorem ga_append {tk : Tok} {its : Array Value} {n : Nat} {Q : Fin → Shared → Prop} (hx : h.get? a = some (listOf its n)) (hq : Q (.done (.ret (.ref h.objs.size))) ⟨h.push (boundObj "list.append" (.ref a)), g, d, t, os⟩) :
    wpAny (model prog w) A (Builtin.«object.__getattribute__» ⟨[.ref a, .str "append" tk], []⟩) Q E ⟨h, g, d, t, os⟩ := by
  have hT : (⟨h, g, d, t, os⟩ : Shared).TypeIs (.ref a) "list" := ⟨_, hx, rfl⟩
  have hT5 : (⟨h, g, d, t, os⟩ : Shared).TypeIs (.builtin "list.append") "method_descriptor" := type_list_append
  have f4 := lk_append
  have f5 := type_list_append
  have f6 := slot_md_get.lookup
  have f7 := md_no_set
  have f8 := md_no_del
  unfold Builtin.«object.__getattribute__»
  repeat (any_goals (first | assumption | wp_step))
  refine codeAny_call_builtin slot_md_get.plain entry_md_get (slot_md_get.check _ _ _ _ _ _ _ _ hT5 (args_md_get _ _ _) ?_)
  refine md_get hx ?_
  show wpAny _ _ (ret (Value.ref h.objs.size)) _ _ _
  exact wpAny_pure hq
theorem call_ga {tk : Tok} {its : Array Value} {n : Nat} {R : Result → Shared → Prop} (hx : h.get? a = some (listOf its n)) (hq : R (.ok (.ret (.ref h.objs.size))) ⟨h.push (boundObj "list.append" (.ref a)), g, d, t, os⟩) :
    codeAny (model prog w) A (.call (.builtin "list.__getattribute__") ⟨[.ref a, .str "append" tk], []⟩) R ⟨h, g, d, t, os⟩ :=
  codeAny_call_builtin F.slot_list_getattribute.plain entry_list_ga' (F.slot_list_getattribute.check _ _ _ _ _ _ _ _ (show (⟨h, g, d, t, os⟩ : Shared).TypeIs (.ref a) "list" from ⟨_, hx, rfl⟩) (F.args_list_getattribute_2 _ _) (ga_append hx hq))
theorem at_append {its : Array Value} {n : Nat} {expr : Bool} {Q : Value → Shared → Prop} (hx : h.get? a = some (listOf its n)) (hq : Q (.ref h.objs.size) ⟨h.push (boundObj "list.append" (.ref a)), g, d, t + 1, os⟩) :
    wpAny (model prog w) A (getAttr (.ref a) "append" expr) Q E ⟨h, g, d, t, os⟩ := by
  have hT : ∀ t', (⟨h, g, d, t', os⟩ : Shared).TypeIs (.ref a) "list" := fun _ => ⟨_, hx, rfl⟩
  have f2 := F.slot_list_getattribute.lookup
  have f3 := F.slot_list_getattribute.bind (.ref a)
  have hx0 : (expr && onTheHeap (Value.builtin "list.__getattribute__")) = false := by cases expr <;> rfl
  unfold getAttr getAttrBy
  repeat (any_goals (first | assumption | exact hT _ | wp_step))
  refine call_ga hx ?_
  repeat (any_goals (first | assumption | wp_step))
end
section
variable {prog : Program} {w : World} {A : Around} {E : Value → Shared → Prop} {s : Shared} {h₀ : Heap} {L : Addr} {m : Str → Option Value} {news : List (Addr × Obj)}
theorem get_append {l : Addr} {its : Array Value} {n : Nat} {expr : Bool} {Q : Value → Shared → Prop} (F : Fr h₀ L s.heap m) (N : News h₀ L s.heap news) (hm : (l, listOf its n) ∈ news)
   (h : ∀ q h', Fr h₀ L h' m → News h₀ L h' ((q, boundObj "list.append" (.ref l)) :: news) → (∀ p ∈ news, p.1 < q) → Q (.ref q) { s with heap := h', toks := s.toks + 1 }) :
   wpAny (model prog w) A (getAttr (.ref l) "append" expr) Q E s :=
  at_append (N _ hm).1 (h _ _ (F.push _) (News.push F N _ rfl) fun p hp => Heap.lt_size (N p hp).1)
end
end
section
def nsD : List (Str × PyData) := [("http://www.w3.org/XML/1998/namespace", .str "xml"), ("http://www.w3.org/1999/xhtml", .str "html"), ("http://www.w3.org/1999/02/22-rdf-syntax-ns#", .str "rdf"), ("http://schemas.xmlsoap.org/wsdl/", .str "wsdl"), ("http://www.w3.org/2001/XMLSchema", .str "xs"), ("http://www.w3.org/2001/XMLSchema-instance", .str "xsi"), ("http://purl.org/dc/elements/1.1/", .str "dc")]
def tokD : List (Str × PyData) := [((Str.ofString "!"), PyData.int 54), ((Str.ofString "!="), PyData.int 28), ((Str.ofString "%"), PyData.int 24), ((Str.ofString "%="), PyData.int 40), ((Str.ofString "&"), PyData.int 19), ((Str.ofString "&="), PyData.int 41), ((Str.ofString "("), PyData.int 7), ((Str.ofString ")"), PyData.int 8), ((Str.ofString "*"), PyData.int 16), ((Str.ofString "**"), PyData.int 35), ((Str.ofString "**="), PyData.int 46), ((Str.ofString "*="), PyData.int 38), ((Str.ofString "+"), PyData.int 14), ((Str.ofString "+="), PyData.int 36), ((Str.ofString ","), PyData.int 12), ((Str.ofString "-"), PyData.int 15), ((Str.ofString "-="), PyData.int 37), ((Str.ofString "->"), PyData.int 51), ((Str.ofString "."), PyData.int 23), ((Str.ofString "..."), PyData.int 52), ((Str.ofString "/"), PyData.int 17), ((Str.ofString "//"), PyData.int 47), ((Str.ofString "//="), PyData.int 48), ((Str.ofString "/="), PyData.int 39), ((Str.ofString ":"), PyData.int 11), ((Str.ofString ":="), PyData.int 53), ((Str.ofString ";"), PyData.int 13), ((Str.ofString "<"), PyData.int 20), ((Str.ofString "<<"), PyData.int 33), ((Str.ofString "<<="), PyData.int 44), ((Str.ofString "<="), PyData.int 29), ((Str.ofString "="), PyData.int 22), ((Str.ofString "=="), PyData.int 27), ((Str.ofString ">"), PyData.int 21), ((Str.ofString ">="), PyData.int 30), ((Str.ofString ">>"), PyData.int 34), ((Str.ofString ">>="), PyData.int 45), ((Str.ofString "@"), PyData.int 49), ((Str.ofString "@="), PyData.int 50), ((Str.ofString "["), PyData.int 9), ((Str.ofString "]"), PyData.int 10), ((Str.ofString "^"), PyData.int 32), ((Str.ofString "^="), PyData.int 43), ((Str.ofString "{"), PyData.int 25), ((Str.ofString "|"), PyData.int 18), ((Str.ofString "|="), PyData.int 42), ((Str.ofString "}"), PyData.int 26), ((Str.ofString "~"), PyData.int 31)]
section
variable {w : World} {A : Around} {E : Value → Shared → Prop} {s : Shared} {h₀ : Heap} {L : Addr} {m : Str → Option Value} {news : List (Addr × Obj)}
abbrev PR := PySem.Challenge.rw_tv0054_02.row.prog
theorem ns_tab {h : Heap} (X : (Mine.hd0.heap_1_41 w.params).In h) : StrTab PR w h 89 (nsD.map fun p => (PyData.str p.1, p.2)) :=
  kt_tab_in (a := 89) (D := nsD) PR w X (by kernel_rfl) (by decide +kernel) (by kernel_rfl)
theorem tok_tab {h : Heap} (X : (Mine.hd0.heap_1_41 w.params).In h) : StrTab PR w h 46 (tokD.map fun p => (PyData.str p.1, p.2)) :=
  kt_tab_in (a := 46) (D := tokD) PR w X (by kernel_rfl) (by decide +kernel) (by kernel_rfl)
theorem gm_items {pl : Sem Bool} {Q : Value × List Value → Shared → Prop} (F : Fr h₀ L s.heap m) (X : (Mine.hd0.heap_1_41 w.params).In h₀) (h : Q (.builtin "dict.items", [.ref 89]) s) :
    wpAny (model PR w) A (getMethod (.ref 89) (Str.ofString "items") pl) Q E s := getMethod_tab_any (name := Str.ofString "items") (by decide +kernel) ((ns_tab X).keep F.keep) h
theorem call_ns_items {Q : Value → Shared → Prop} (F : Fr h₀ L s.heap m) (X : (Mine.hd0.heap_1_41 w.params).In h₀) (N : News h₀ L s.heap news)
    (h : ∀ q h' ov, ov.cls = .type "dict_items" → ov.data = .fields #[.ref 89] → Fr h₀ L h' m → News h₀ L h' ((q, ov) :: news) → (∀ p ∈ news, p.1 < q) → Q (.ref q) { s with heap := h' }) :
    wpAny (model PR w) A (call (.builtin "dict.items") [.ref 89]) Q E s :=
  call_items_tab ((ns_tab X).keep F.keep) F N fun h' o ho F' N' => by
    obtain ⟨ov, hg, hc, hd⟩ := ho
    refine h _ h' ov hc hd F' (fun p hp => ?_) fun p hp => Heap.lt_size (N p hp).1
    rcases List.mem_cons.mp hp with rfl | hp
    · exact ⟨hg, (N' _ (.head _)).2⟩
    · exact N' p (.tail _ hp)
theorem list_ns_items {q : Addr} {ov : Obj} {Q : Value → Shared → Prop} (hh : A.handled = none) (hc : ov.cls = .type "dict_items") (hd : ov.data = .fields #[.ref 89]) (F : Fr h₀ L s.heap m) (X : (Mine.hd0.heap_1_41 w.params).In h₀) (N : News h₀ L s.heap ((q, ov) :: news))
    (h : ∀ D h' tk, Fr h₀ L h' m → News h₀ L h' news → (∀ p ∈ news, p.1 < D) → Q (.ref D) { s with heap := h', toks := tk }) :
    wpAny (model PR w) A (call (.type "list") [.ref q]) Q E s := by
  obtain ⟨lo, kvs, hd', hf⟩ := (ns_tab X).keep F.keep
  obtain ⟨od, es, ep, r1, r2, r3, r4, r5, r6⟩ := hd'
  have hl : kvs.length ≤ sizeLine := by
    have := hf.length
    rw [← this]
    exact Nat.le_of_ble_eq_true rfl
  refine kdx_call (d := 89) (kvs := kvs) (ep := ep) hh ⟨ov, (N _ (.head _)).1, hc, hd⟩ ⟨od, es, r1, r2, r3, r4, r5, r6⟩ hl fun h' tk acc c as hk _ _ _ _ => ?_
  exact h _ h' tk (F.keeps hk) (fun p hp => ⟨hk _ _ (N p (.tail _ hp)).1, (N p (.tail _ hp)).2⟩) fun p hp => Heap.lt_size (N p (.tail _ hp)).1
end
end
section
section
variable {prog : Program} {w : World} {A : Around} {E : Value → Shared → Prop} {s : Shared} {K : Frag} {x C L : Addr} {ox od : Obj} {name : Str} {h₀ : Heap} {m : Str → Option Value} {es : List DictEntry} {n : Nat} {pl : Sem Bool} {v g : Value}
theorem findObj_shadow {a : Value} (hh : hasDictIn K C = true) (ha : findIn K (.ref C) name = some (some a)) (hg : specialIn K a "__get__" = some (some g)) (ht : takesIn K a = some false) (hl : lookIn name od = some (some v)) : findObj K C (some od) name = some (.value v) := by
  obtain ⟨cd, hc, hd⟩ := any_some hh
  have ho : W.ownOf cd (some od) name = some (some v) := by unfold W.ownOf; rw [if_pos hd]; exact hl
  unfold findObj
  rw [hc, Option.bind_some, ha, Option.bind_some]
  simp [hg, ht, ho]
theorem method_shadow {f : Addr} {Q : Value × List Value → Shared → Prop} (X : K.In s.heap) (I : InstAt s.heap x ox C (some od)) (hga : findIn K (.ref C) "__getattribute__" = some (some (.builtin "object.__getattribute__"))) (hk : findIn K (.ref C) "__getattr__" = some none)
    (hf : findIn K (.ref C) name = some (some (.ref f))) (ht : typeIn K (.ref f) = some (.type "function")) (hs : lookIn name od = some (some v))
    (h : wpAny (model prog w) A (getAttr (.ref x) name) (fun v => Q (v, [])) E s) : wpAny (model prog w) A (getMethod (.ref x) name pl) Q E s := by
  have hcan := PySem.F.canon_object_ga
  have u : wpAny (model prog w) A (do return (← getAttr (.ref x) name, ([] : List Value))) Q E s := wpAny_bind (wpAny_mono h (fun _ _ z => wpAny_pure z) fun _ _ z => z)
  unfold getMethod specialOf
  refine wpAny_bind (wpAny_bind (I.type.here ((looks_findIn X hga).here ?_)))
  dsimp only
  rw [hcan, if_neg (by decide)]
  refine wpAny_bind (wpAny_bind (I.type.here ((looks_findIn X hk).here ?_)))
  refine wpAny_bind (wpAny_bind (I.type.here ((looks_findIn X hf).here (wpAny_bind ((looks_typeIn X ht).here ?_)))))
  rw [if_neg (by decide +kernel)]
  refine wpAny_bind (wpAny_loadPart I.at_ ?_)
  have hd := I.dict
  cases e : ox.dict with
  | none => rw [e] at hd; exact absurd hd (by simp)
  | some dx =>
    rw [e] at hd
    refine wpAny_bind (wpAny_bind (wpAny_loadPart hd ?_))
    rw [nsLook_of hs]
    refine wpAny_pure ?_
    exact u
theorem gm_shadow {f : Addr} {Q : Value × List Value → Shared → Prop} (F : Fr h₀ L s.heap m) (X₀ : K.In h₀) (I : InstAt s.heap x ox C (some (dictOf es n))) (hg : plainGet K C name = true) (hh : hasDictIn K C = true) (hf : findIn K (.ref C) name = some (some (.ref f))) (ht : isFn K (.ref f) = true)
    (hgf : specialIn K (.ref f) "__get__" = some (some g)) (hts : takesIn K (.ref f) = some false) (hl : getL name es = some (some v)) (hv : handedIn v = true) (h : Q (v, []) { s with toks := s.toks + 1 }) : wpAny (model prog w) A (getMethod (.ref x) name pl) Q E s :=
  method_shadow (od := dictOf es n) (X₀.keeps F.keep) I (plainGet_of hg).1 (plainGet_of hg).2 hf (beq_iff_eq.mp ht) (by rw [lookIn_dict, hl])
    (get_value (X₀.keeps F.keep) I (plainGet_of hg).1 (findObj_shadow hh hf hgf hts (by rw [lookIn_dict, hl])) hv h)
end
end
section
section
variable {prog : Program} {w : World} {M : Model} {A : Around} {E : Value → Shared → Prop} {s : Shared} {h₀ : Heap} {L : Addr} {m : Str → Option Value} {news : List (Addr × Obj)}
theorem callWith_fieldsG {id : String} {self : Value} {ob : Obj} (hc : ob.cls = .type "builtin_function_or_method") (hd : ob.data = .fields #[.builtin id, self]) {pos : Pos} {u : Addr} {first : List Value} {args : List (Bool × Sem Value)} {Q : Value → Shared → Prop} (hplain : args.any (·.1) = false)
    (h : wpAny M A (evalArgs (.ref u) true args []) (fun x s₁ => s₁.heap.get? u = some ob ∧ wpAny M A (call (.ref u) (first ++ x.pos) x.kw) Q E s₁) E s) : wpAny M A (callWith pos (.ref u) first args []) Q E s := by
  unfold callWith
  refine wpAny_bind (wpAny_holding (wpAny_mono h (fun x s₁ h₁ => wpAny_bind (wpAny_standAt ?_)) fun _ _ x => x))
  obtain ⟨ho, hcall⟩ := h₁
  simp only [hplain, List.any_nil, Bool.or_false]
  refine wpAny_bind (m := keeperOf (.ref u)) ?_
  unfold keeperOf
  refine wpAny_bind (wpAny_load ho ?_)
  simp only [hc, hd, show (Value.type "builtin_function_or_method" != Value.type "method") = true by decide, show (Value.type "builtin_function_or_method" == Value.type "builtin_function_or_method" || Value.type "builtin_function_or_method" == Value.type "method-wrapper") = true by decide, if_true]
  refine wpAny_pure ?_
  exact wpAny_bind (wpAny_mono hcall (fun r s₂ hr => wpAny_bind (wpAny_holding (wpAny_point (wpAny_pure hr)))) fun _ _ x => x)
theorem callWith_boundG {id : String} {self : Value} {ob : Obj} (hc : ob.cls = .type "builtin_function_or_method") (hd : ob.data = .fields #[.builtin id, self]) {pos : Pos} {u : Addr} {first : List Value} {env : Env} {e : PySem.Expr} {rest : List PySem.Expr} {Q : Value → Shared → Prop}
    (h : wpAny M A (spliced (backTo pos (starEach (e :: rest) env))) (fun vs s₁ => s₁.heap.get? u = some ob ∧ wpAny M A (call (.ref u) (first ++ vs)) Q E s₁) E s)
    (he : starEach (e :: rest) env = (false, eval e env) :: starEach rest env := by rfl) (hplain : (backTo pos (starEach rest env)).any (·.1) = false := by rfl) :
    wpAny M A (callWith pos (.ref u) first (backTo pos (starEach (e :: rest) env)) []) Q E s := by
  rw [he] at h ⊢
  refine callWith_fieldsG hc hd (by show (false || (backTo pos (starEach rest env)).any (·.1)) = false; rw [hplain]; rfl) ?_
  exact evalArgs_plain h
theorem callWith_boundN {id : String} {self : Value} {pos : Pos} {u : Addr} {first : List Value} {env : Env} {e : PySem.Expr} {rest : List PySem.Expr} {Q : Value → Shared → Prop} (_N : News h₀ L s.heap news) (_hm : (u, boundObj id self) ∈ news)
    (h : wpAny M A (spliced (backTo pos (starEach (e :: rest) env))) (fun vs s₁ => s₁.heap.get? u = some (boundObj id self) ∧ wpAny M A (call (.ref u) (first ++ vs)) Q E s₁) E s)
    (he : starEach (e :: rest) env = (false, eval e env) :: starEach rest env := by rfl) (hplain : (backTo pos (starEach rest env)).any (·.1) = false := by rfl) :
    wpAny M A (callWith pos (.ref u) first (backTo pos (starEach (e :: rest) env)) []) Q E s := callWith_boundG rfl rfl h he hplain
theorem call_boundG {id : String} {self : Value} {ob : Obj} {u : Addr} {args : List Value} {B : Builtin} {Q : Value → Shared → Prop} (hc : ob.cls = .type "builtin_function_or_method") (hd : ob.data = .fields #[.builtin id, self]) (ho : s.heap.get? u = some ob)
    (hck : ∀ (A' : Around) (R : Unit → Shared → Prop) (E' : Value → Shared → Prop), R () s → wpAny (model prog w) A' (checkBoundCall id ⟨self :: args, []⟩) R E' s)
    (hq : ∀ as, (Code.builtin id as).quiet = true) (hpl : plainId id = true) (entry : entryFor table id = some B)
    (h : wpAny (model prog w) A.in1 (B ⟨self :: args, []⟩) (fun fin s' => match fin with | .done f => (wants Q E) (.ok f) s' | .again c' => c'.quiet = true ∧ codeAny (model prog w) A c' (wants Q E) s') (fun e s' => (wants Q E) (.error e) s') s) :
    wpAny (model prog w) A (call (.ref u) args) Q E s := by
  refine wpAny_call (codeAny_of_tree ?_)
  show wpAny _ A.in1 (callAny (.ref u) ⟨args, []⟩) _ _ s
  simp only [callAny]
  refine wpAny_bind (wpAny_load ho ?_)
  simp only [hc, hd, show (Value.type "builtin_function_or_method" == Value.type "method" || Value.type "builtin_function_or_method" == Value.type "builtin_function_or_method" || Value.type "builtin_function_or_method" == Value.type "method-wrapper") = true by decide, if_true]
  show wpAny _ A.in1 (if (Value.type "builtin_function_or_method" != Value.type "method") = true then (do checkBoundCall id ⟨self :: args, []⟩; again (Code.builtin id ⟨self :: args, []⟩)) else again (Code.call (.builtin id) ⟨self :: args, []⟩)) _ _ _
  rw [if_pos (by decide)]
  refine wpAny_bind (hck _ _ _ ?_)
  refine wpAny_pure ⟨hq _, codeAny_builtin entry ?_⟩
  rw [Around.under_plainId hpl _]
  exact h
theorem bound_join {u D : Addr} {ob : Obj} {items : Array Value} {ys : List Str} {x : Str} {t : Tok} {Q : Value → Shared → Prop} (hc : ob.cls = .type "builtin_function_or_method") (hd : ob.data = .fields #[.builtin "str.join", .str x t]) (ho : s.heap.get? u = some ob)
    (hl : s.heap.IsList D items) (hi : StrsAre items.toList ys) (hw : (ys.map (·.length)).sum + ys.length ≤ 1048576) (hs : x.length ≤ 16) (hq : ∀ t' k, Q (.str (Txt.join x ys) t') { s with toks := k }) :
    wpAny (model prog w) A (call (.ref u) [.ref D]) Q E s := by
  obtain ⟨l, hv, ht⟩ := strsAre_values hi
  have e : items = (strValues l).toArray := by rw [← hv]
  subst e
  subst ht
  have hok := joinOk_of (total_of_weight hw hs)
  unfold JoinOk at hok
  rw [Bool.not_eq_true'] at hok
  refine call_boundG (B := Builtin.«str.join») hc hd ho (fun A' R E' hR => ?_) (fun as => Code.quiet_builtin _ (by decide +kernel)) (by decide +kernel) PySem.F.entry_str_join ?_
  · exact wpAny_of_eq (a := ()) (by first | kernel_rfl | rfl) hR
  · exact meets_str_join_list x t D l hok prog w A (wants Q E) s ⟨hl, post_join l ⟨joinFit_length hok, hq⟩⟩
theorem bound_append {u D : Addr} {its : Array Value} {n : Nat} {v : Value} {Q : Value → Shared → Prop} (F : Fr h₀ L s.heap m) (N : News h₀ L s.heap news) {news' : List (Addr × Obj)} (ho : (u, boundObj "list.append" (.ref D)) ∈ news) (U : Upd D (listOf its n) (listOf (its.push v) (n + 1)) news news') (hz : its.size ≤ 100000)
    (h : ∀ h', Fr h₀ L h' m → News h₀ L h' news' → Q .none { s with heap := h' }) :
    wpAny (model prog w) A (call (.ref u) [v]) Q E s := by
  obtain ⟨pre, post, rfl, rfl, a, c⟩ := U.split
  have z := N (D, listOf its n) (List.mem_append.mpr (.inr (.head _)))
  refine call_boundG (B := Builtin.«list.append») rfl rfl (N _ ho).1 (fun A' R E' hR => ?_) (fun as => Code.quiet_builtin _ (by decide +kernel)) (by decide +kernel) entry_list_append ?_
  · obtain ⟨hp, g, dr, tk, os⟩ := s
    have zl := z.1
    have hT : (⟨hp, g, dr, tk, os⟩ : Shared).TypeIs (.ref D) "list" := ⟨_, z.1, rfl⟩
    have f1 : isSubtype (.type "list") (.type "module") = pure false := by rw [isSubtype_type]; kernel_rfl
    have f2 : (Manifest.varargsMethods.contains "list.append" || false) = false := by decide +kernel
    unfold checkBoundCall
    repeat (any_goals (first | assumption | with_reducible refine wpAny_loadPart_at zl ?_ | wp_step))
  · show wpAny _ _ (updateSeq D (·.push v) >>= fun _ => ret .none) _ _ s
    refine wpAny_bind (wpAny_updateSeq z.1 rfl (wpAny_pure (h _ (F.change (Heap.SameBut.update ..) z.2.1 z.2.2) ?_)))
    refine news_set N a c (Heap.SameBut.update ..) ?_
    rw [Heap.get?_update_self _ z.1 (by rw [mapSeq_push]; rfl), mapSeq_push]
end
theorem fr_at {K : Frag} {h₀ h : Heap} {L : Addr} {m : Str → Option Value} {a : Addr} {o : Obj} (X : K.In h₀) (F : Fr h₀ L h m) (e : K.lookup a = some o) : h.get? a = some o := (X.keeps F.keep) _ _ e
end
section
section
variable {prog : Program} {w : World} {A : Around} {E : Value → Shared → Prop} {s : Shared} {h₀ : Heap} {L : Addr} {m : Str → Option Value} {news : List (Addr × Obj)}
theorem pick_none {items : Array Value} {g : Value × Nat → Option Value} (hg : ∀ x k, k < items.size → g (x, k) = none) : (List.filterMap g items.toList.zipIdx).toArray = #[] := by
  have : List.filterMap g items.toList.zipIdx = [] := by
    rw [List.filterMap_eq_nil_iff]
    rintro ⟨x, k⟩ hm
    have := List.snd_lt_of_mem_zipIdx hm
    exact hg x k (by simpa using this)
  rw [this]
theorem del_body {l sl : Addr} {items : Array Value} {n : Nat} {Q : Fin → Shared → Prop} (hl : s.heap.get? l = some (listOf items n)) (hs : s.heap.get? sl = some { cls := .type "slice", data := .fields #[.none, .none, .none] }) (hn : items.size ≠ 0) (hz : items.size ≤ 100000)
    (h : ∀ h', Heap.SameBut l s.heap h' → h'.get? l = some (listOf #[] (n + 1)) → Q (.done (.ret .none)) { s with heap := h' }) :
    wpAny (model prog w) A (Builtin.«list.__delitem__» ⟨[.ref l, .ref sl], []⟩) Q E s := by
  have hTs : s.TypeIs (.ref sl) "slice" := ⟨_, hs, rfl⟩
  show wpAny _ _ (Builtin.List.listSubscript? (.ref sl) >>= _) _ _ s
  refine wpAny_bind ?_
  unfold Builtin.List.listSubscript?
  refine wpAny_bind (wpAny_specialOf hTs slice_no_index ?_)
  simp only [Option.isNone_none, if_true]
  refine wpAny_pure ?_
  show wpAny _ _ (typeOf (.ref sl) >>= _) _ _ s
  refine wpAny_bind (wpAny_typeOf hTs ?_)
  rw [if_neg (by decide)]
  rw [listSliceParts_eq]
  refine wpAny_bind (wpAny_bind (wpAny_field hs rfl (x := .none) rfl (wpAny_bind (wpAny_listPart .none ?_))))
  rw [if_neg (by exact Bool.false_ne_true)]
  refine wpAny_bind (wpAny_field hs rfl (x := .none) rfl (wpAny_bind (wpAny_listPart .none ?_)))
  refine wpAny_bind (wpAny_field hs rfl (x := .none) rfl (wpAny_bind (wpAny_listPart .none (wpAny_pure ?_))))
  refine wpAny_bind (m := Builtin.List.listItems (.ref l)) ?_
  unfold Builtin.List.listItems
  refine wpAny_bind (wpAny_seqItems hl rfl (wpAny_pure ?_))
  refine wpAny_bind (wpAny_of_eq (sliceIndices_raw none none none items.size (by decide)) ?_)
  refine wpAny_bind (wpAny_rule ?_)
  have pk : ∀ k : Nat, k < items.size → (decide ((0 : Int) ≤ (k : Int)) && decide ((k : Int) < (items.size : Int)) && ((((k : Int) - 0) % 1) == 0)) = true := fun k hk => by
    have h1 : ((k : Int) - 0) % 1 = 0 := Int.emod_one _
    simp [hk]
  have hsl : items.size ≤ sizeLine := Nat.le_trans hz (Nat.le_of_ble_eq_true rfl)
  refine wpAny_bind (listUpdate_at hl rfl ?_ hsl ?_)
  · refine wpAny_bind (wpAny_letGo (wpAny_pure (h _ (Heap.SameBut.update ..) ?_)))
    refine (IsL.update (show IsL s.heap l items n from hl) _).trans ?_
    rw [pick_none ?_]
    · rw [if_neg (by intro e; exact hn (by have := beq_iff_eq.mp e; exact this.symm))]
    · intro x k hk
      exact if_pos (pk k hk)
  · rw [pick_none ?_]
    · exact Nat.zero_le _
    · intro x k hk
      exact if_pos (pk k hk)
theorem del_all {l : Addr} {items : Array Value} {n : Nat} {news' : List (Addr × Obj)} {Q : Unit → Shared → Prop} (F : Fr h₀ L s.heap m) (N : News h₀ L s.heap news) (U : Upd l (listOf items n) (listOf #[] (n + 1)) news news') (hn : items.size ≠ 0) (hz : items.size ≤ 100000)
    (h : ∀ h', Fr h₀ L h' m → News h₀ L h' news' → Q () { s with heap := h' }) :
    wpAny (model prog w) A (delItem (.ref l) (.ref s.heap.objs.size)) Q E { s with heap := s.heap.push { cls := .type "slice", data := .fields #[.none, .none, .none] } } := by
  obtain ⟨pre, post, rfl, rfl, a, c⟩ := U.split
  have z := N (l, listOf items n) (List.mem_append.mpr (.inr (.head _)))
  have zp : (s.heap.push { cls := .type "slice", data := .fields #[.none, .none, .none] }).get? l = some (listOf items n) := Heap.get?_push_of_some _ z.1
  refine wpAny_delItem_slot (T := "list") ⟨_, zp, rfl⟩ (by decide) PySem.F.slot_list_delitem ?_
  refine wpAny_call_entry PySem.F.slot_list_delitem ⟨_, zp, rfl⟩ PySem.F.entry_list_delitem ?_ (PySem.F.args_list_delitem_2 _ _)
  refine del_body zp (Heap.get?_push_size _ rfl) hn hz fun h' hs hg => ?_
  exact ⟨_, rfl, h h' ((F.push _).change hs z.2.1 z.2.2) (news_set (N.grown fun _ _ e => Heap.get?_push_of_some _ e) a c hs hg)⟩
end
end
section
theorem Con.ofC {prog : Program} {w : World} {K : Frag} {f : Addr} {dp un : Nat} {vs : List Value} {news : List (Addr × Obj)} {post : Value → List (Addr × Obj) → Prop}
    {name qual : Str} {params : Arguments} {body : List Stmt} {scope : Scope} {dV kV doc pm cdv ct oc : Value} {an od : Option Addr} {osl : Array (Option Value)} {binds : List (Str × Value)}
    (ho : K.lookup f = some ⟨oc, od, .func (fnOf name qual params body scope dV kV doc pm an cdv ct), osl⟩) (hcd : codeIn K cdv qual = true) (hroom : dp < recursionLimit)
    (hbind : ∀ s : Shared, K.In s.heap → BindsTo s (fnOf name qual params body scope dV kV doc pm an cdv ct) ⟨vs, []⟩ binds) (hkind : (binds.all fun y => scope.names.lookup y.1 == some .local || scope.names.lookup y.1 == some .cell) = true)
    (hnd : ((cellsFrom 0 scope.names []).map (·.1)).Nodup)
    (hco : scope.isCoroutine = false) (hgen : scope.isGenerator = false) (hk : scope.kind = .function)
    (h : ∀ (p : Program) (loose : List Str) (mean : ExcName → Option Value) (mg mb : Str → Option Value) (gd : Option (List Code)) (cn : Str) (cs : Scope) (a : Addr) (ccd : Value) (cl : List (Str × Addr)) (outer : List Env) (base g h₁ : Heap) (L' L₀ : Addr) (s : Shared) (tk : Nat) (cells : List (Addr × Obj)) (R : Value → Shared → Prop),
      Fr g L' h₁ (bindL (envOfC qual scope L' f cdv).kindOf binds fun _ => none) → News g L' h₁ (cells ++ news) → CellsAre (bindC (envOfC qual scope L' f cdv).kindOf binds fun _ => none) (cellsFrom (L' + 1) scope.names []) cells →
      Below (ktrTop dp un gd cn cs L₀ a ccd cl outer) base (envX cn cs L₀ a ccd cl :: outer) g → K.In g → Top p loose mean mg mb g → (∀ p ∈ news, p.1 < L') →
      wpAny (model prog w) ((ktrTop dp un gd cn cs L₀ a ccd cl outer).deeper (envOfC qual scope L' f cdv)) (execs body (envOfC qual scope L' f cdv))
        (fun fl s' => Out g s post (match fl with | .ret v => v | _ => .none) s')
        (fun e s' => wpAny (model prog w) ((ktrTop dp un gd cn cs L₀ a ccd cl outer).deeper (envOfC qual scope L' f cdv)) (leaving (envOfC qual scope L' f cdv) e) (fun _ s'' => R e s'') (fun e' s'' => R e' s'') s')
        { s with heap := h₁, toks := tk }) : Con prog w K f dp un vs news post := by
  intro p loose mean mg mb gd cn cs a ccd cl outer A₀ base h₀ L m s Q E B F X N T hkc ret
  refine wpAny_call ?_
  refine code_defC B F X N T rfl rfl hkc ho hcd hroom (hbind s (X.keeps F.keep)) hkind hnd (fun g L' h₁ tk cells FG F' N' Y B' X' T' l1 => ?_) hco hgen hk
  refine wpAny_mono (h p loose mean mg mb gd cn cs a ccd cl outer base g h₁ L' L s tk cells E F' N' Y B' X' T' l1) (fun fl s' hO => ?_) fun _ _ x => x
  obtain ⟨h', tk', L'', m', more, news', rfl, F'', N'', hs, hp⟩ := hO
  exact leaveK_ F'' N'' fun kF kN => ret _ news' h' tk' hp kF fun q hq => kN q (hs q hq)
end
section
/-- the same, of the call's code: for a call by a bound method -/
def ConC (prog : Program) (w : World) (K : Frag) (f : Addr) (dp un : Nat) (vs : List Value) (news : List (Addr × Obj)) (post : Value → List (Addr × Obj) → Prop) : Prop :=
  ∀ (p : Program) (loose : List Str) (mean : ExcName → Option Value) (mg mb : Str → Option Value) (gd : Option (List Code)) (cn : Str) (cs : Scope) (a : Addr) (ccd : Value) (cl : List (Str × Addr)) (outer : List Env) (A₀ : Around) (base h₀ : Heap) (L : Addr) (m : Str → Option Value) (s : Shared) (Q E : Value → Shared → Prop),
    Below A₀ base outer h₀ → Fr h₀ L s.heap m → K.In h₀ → News h₀ L s.heap news → Top p loose mean mg mb h₀ → cs.kind = .function →
    (∀ v news' h' tk', post v news' → Fr h₀ L h' m → News h₀ L h' news' → Q v { s with heap := h', toks := tk' }) →
    codeAny (model prog w) (ktrTop dp un gd cn cs L a ccd cl outer) (.call (.ref f) ⟨vs, []⟩) (fun r s' => match r with | .ok (.ret v) => Q v s' | .ok _ => False | .error e => E e s') s
theorem code_mono {M : Model} {A A' : Around} {c : Code} {R : Result → Shared → Prop} {s : Shared} (h : codeAny M A' c R s)
    (h1 : A.handled = A'.handled) (h2 : A.depth ≤ A'.depth) (h3 : A.frames = A'.frames) (h4 : A.guards = A'.guards) (h5 : A.units ≤ A'.units) : codeAny M A c R s :=
  fun Γ p hc hΓ => h Γ p hc ⟨h1 ▸ hΓ.1, Nat.le_trans hΓ.2.1 h2, h3 ▸ hΓ.2.2.1, h4 ▸ hΓ.2.2.2.1, Nat.le_trans hΓ.2.2.2.2 h5⟩
theorem ConC.con {prog : Program} {w : World} {K : Frag} {f : Addr} {dp un : Nat} {vs : List Value} {news : List (Addr × Obj)} {post : Value → List (Addr × Obj) → Prop} (C : ConC prog w K f dp un vs news post) : Con prog w K f dp un vs news post :=
  fun p loose mean mg mb gd cn cs a ccd cl outer A₀ base h₀ L m s Q E B F X N T hk ret => wpAny_call (C p loose mean mg mb gd cn cs a ccd cl outer A₀ base h₀ L m s Q E B F X N T hk ret)
theorem ConC.useM {prog : Program} {w : World} {K : Frag} {f : Addr} {dp un dp' un' : Nat} {self : Value} {vs : List Value} {q : Addr} {nq : List (Addr × Obj)} {news : List (Addr × Obj)} {post : Value → List (Addr × Obj) → Prop} (C : ConC prog w K f dp un (self :: vs) news post) (hd : dp' ≤ dp) (hu : un' ≤ un)
    {p : Program} {loose : List Str} {mean : ExcName → Option Value} {mg mb : Str → Option Value} {gd : Option (List Code)} {cn : Str} {cs : Scope} {a : Addr} {ccd : Value} {cl : List (Str × Addr)} {outer : List Env} {A₀ : Around} {base h₀ : Heap} {L : Addr} {m : Str → Option Value} {s : Shared} {Q E : Value → Shared → Prop}
    (Nq : News h₀ L s.heap nq) (hq : (q, methodObj (.ref f) self) ∈ nq)
    (B : Below A₀ base outer h₀) (F : Fr h₀ L s.heap m) (X : K.In h₀) (N : News h₀ L s.heap news) (T : Top p loose mean mg mb h₀) (hk : cs.kind = .function)
    (ret : ∀ v news' h' tk', post v news' → Fr h₀ L h' m → News h₀ L h' news' → Q v { s with heap := h', toks := tk' }) :
    wpAny (model prog w) (ktrTop dp' un' gd cn cs L a ccd cl outer) (call (.ref q) vs) Q E s  :=
  call_meth Nq hq (code_mono (C p loose mean mg mb gd cn cs a ccd cl outer A₀ base h₀ L m s Q E B F X N T hk ret) rfl hd rfl rfl hu)
theorem ConC.of {prog : Program} {w : World} {K : Frag} {f : Addr} {dp un : Nat} {vs : List Value} {news : List (Addr × Obj)} {post : Value → List (Addr × Obj) → Prop}
    {name qual : Str} {params : Arguments} {body : List Stmt} {scope : Scope} {dV kV doc pm cdv ct oc : Value} {an od : Option Addr} {osl : Array (Option Value)} {binds : List (Str × Value)}
    (ho : K.lookup f = some ⟨oc, od, .func (fnOf name qual params body scope dV kV doc pm an cdv ct), osl⟩) (hcd : codeIn K cdv qual = true) (hroom : dp < recursionLimit)
    (hbind : ∀ s : Shared, K.In s.heap → BindsTo s (fnOf name qual params body scope dV kV doc pm an cdv ct) ⟨vs, []⟩ binds) (hloc : ∀ y ∈ binds, scope.names.lookup y.1 = some .local) (hnd : (binds.map (·.1)).Nodup)
    (hco : scope.isCoroutine = false) (hgen : scope.isGenerator = false) (hk : scope.kind = .function) (hcell : ∀ x ∈ scope.names, x.2 ≠ .cell)
    (h : ∀ (p : Program) (loose : List Str) (mean : ExcName → Option Value) (mg mb : Str → Option Value) (gd : Option (List Code)) (cn : Str) (cs : Scope) (a : Addr) (ccd : Value) (cl : List (Str × Addr)) (outer : List Env) (base g h₁ : Heap) (L' L₀ : Addr) (s : Shared) (tk : Nat) (R : Value → Shared → Prop),
      Fr g L' h₁ (kstB (fun _ => none) binds) → News g L' h₁ news → Below (ktrTop dp un gd cn cs L₀ a ccd cl outer) base (envX cn cs L₀ a ccd cl :: outer) g → K.In g → Top p loose mean mg mb g →
      wpAny (model prog w) ((ktrTop dp un gd cn cs L₀ a ccd cl outer).deeper (envOf qual scope L' f cdv)) (execs body (envOf qual scope L' f cdv))
        (fun fl s' => Out g s post (match fl with | .ret v => v | _ => .none) s')
        (fun e s' => wpAny (model prog w) ((ktrTop dp un gd cn cs L₀ a ccd cl outer).deeper (envOf qual scope L' f cdv)) (leaving (envOf qual scope L' f cdv) e) (fun _ s'' => R e s'') (fun e' s'' => R e' s'') s')
        { s with heap := h₁, toks := tk }) : ConC prog w K f dp un vs news post := by
  intro p loose mean mg mb gd cn cs a ccd cl outer A₀ base h₀ L m s Q E B F X N T hkc ret
  refine code_def B F X N T rfl rfl hkc ho hcd hroom (hbind s (X.keeps F.keep)) hloc (fun g L' h₁ FG F' N' B' X' T' => ?_) hco hgen hk hcell
  have F2 : Fr g L' h₁ (kstB (fun _ => none) binds) := by
    have e : (fun y => binds.reverse.lookup y) = kstB (fun _ => none) binds := funext fun y => kstB_of hnd
    rw [← e]; exact F'
  refine wpAny_mono (h p loose mean mg mb gd cn cs a ccd cl outer base g h₁ L' L s (s.toks + binds.length) E F2 N' B' X' T') (fun fl s' hO => ?_) fun _ _ x => x
  obtain ⟨h', tk', L'', m', more, news', rfl, F'', N'', hs, hp⟩ := hO
  exact leaveK_ F'' N'' fun kF kN => ret _ news' h' tk' hp kF fun q hq => kN q (hs q hq)
end
section
section
variable {prog : Program} {w : World} {A : Around} {E : Value → Shared → Prop} {s : Shared} {h₀ : Heap} {L sa : Addr} {m : Str → Option Value} {news : List (Addr × Obj)} {g : Obj → List (Addr × Obj)}
theorem new_set {Q : Value → Shared → Prop} (h : ∀ led : Bool, led = !(w.params.followText "set-order") → Q (.ref s.heap.objs.size) { s with heap := s.heap.push { cls := .type "set", dict := none, data := .set #[] 0 (.fresh 0 0 led) } }) :
    wpAny (model prog w) A (newSet (.type "set")) Q E s := by
  unfold newSet setsByText
  refine wpAny_bind (wpAny_bind (wpAny_askSetting (wpAny_pure ?_)))
  dsimp only
  simp only [newObj]
  exact wpAny_bind (wpAny_alloc (wpAny_pure (h _ rfl)))
theorem set_star {K : Frag} {e1 e2 : PySem.Expr} {k : Nat} {pos sp : Pos} {env : Env} {Q : Value → Shared → Prop} (F : Fr h₀ L s.heap m) (N : News h₀ L s.heap news) (X : K.In h₀) (hc : kdsCode K env.code = true) (hk : k = 0)
    (hst : starEach [e1, .Starred e2 sp] env = [(false, eval e1 env), (true, eval e2 env)] := by rfl)
    (h : ∀ D h' (led : Bool), led = !(w.params.followText "set-order") → Fr h₀ L h' m → News h₀ L h' ((D, { cls := .type "set", dict := none, data := .set #[] 0 (.fresh 0 0 led) }) :: news) → (∀ p ∈ news, p.1 < D) →
      wpAny (model prog w) A (eval e1 env) (fun v s1 => wpAny (model prog w) A (setAdd D v) (fun _ s2 => wpAny (model prog w) A (eval e2 env) (fun v2 s3 => wpAny (model prog w) A (setDisplayStar D v2) (fun _ s4 => Q (.ref D) s4) E s3) E s2) E s1) E { s with heap := h' }) :
    wpAny (model prog w) A (eval (.Set [e1, .Starred e2 sp] k pos) env) Q E s := by
  subst hk
  rw [arm_eval_Set]
  refine wpAny_bind (wpAny_standAt ?_)
  refine wpAny_bind (kds_main (X.keeps F.keep) hc fun b => ?_)
  rw [hst]
  have hr : displayRoad 0 [e1, .Starred e2 sp] = .oneByOne := rfl
  rw [hr]
  unfold setDisplay
  try dsimp only
  rw [if_neg (by decide)]
  refine wpAny_bind (new_set fun led hled => ?_)
  have h9 := h s.heap.objs.size _ led hled (F.push _) (News.push F N _ rfl) (fun p hp => Heap.lt_size (N p hp).1)
  dsimp only
  simp only [List.map_cons, List.map_nil, List.length_cons, List.length_nil, List.findIdx?_cons, List.findIdx?_nil, Bool.false_eq_true, if_false, if_true, Option.map_some, Option.getD_some, Nat.zero_add, Nat.reduceAdd, Nat.reduceGT, Nat.reduceLT, List.take_succ_cons, List.take_zero, List.drop_succ_cons, List.drop_zero, gt_iff_lt, Nat.reduceLeDiff, show ¬ (30 < 2) from by decide]
  refine wpAny_bind (wpAny_holding ?_)
  refine wpAny_bind ?_
  refine wpAny_evalAll_cons ?_
  refine wpAny_bind (wpAny_mono h9 (fun v s1 h1 => ?_) fun _ _ x => x)
  refine wpAny_bind (wpAny_standAt (wpAny_pure ?_))
  refine wpAny_evalAll_nil ?_
  refine wpAny_bind (wpAny_holding ?_)
  refine wpAny_bind ?_
  rw [List.forIn_cons]
  refine wpAny_bind (wpAny_bind (wpAny_mono h1 (fun _ s2 h2 => wpAny_pure ?_) fun _ _ x => x))
  dsimp only
  rw [List.forIn_nil]
  refine wpAny_pure ?_
  rw [if_neg (by decide)]
  refine wpAny_pure ?_
  refine wpAny_bind ?_
  rw [List.forIn_cons]
  refine wpAny_bind (wpAny_bind (wpAny_bind (wpAny_mono h2 (fun v2 s3 h3 => ?_) fun _ _ x => x)))
  refine wpAny_bind (wpAny_standAt (wpAny_pure ?_))
  dsimp only
  rw [if_pos rfl]
  refine wpAny_bind (wpAny_holding (wpAny_mono h3 (fun _ s4 h4 => wpAny_pure ?_) fun _ _ x => x))
  dsimp only
  rw [List.forIn_nil]
  exact wpAny_pure (wpAny_pure (wpAny_pure h4))
/-- a set of one element, its table known -/
def OneSet (w : World) (o : Obj) (k : Int) (x : Value) : Prop := o.ExactSet ∧ ∃ ep t, o.data = .set #[(k, x)] ep t ∧ t.fits 1 = true ∧ t.fill = 1 ∧ 7 ≤ t.mask ∧ t.led = !(w.params.followText "set-order")
theorem lay_one (led : Bool) (k : Int) (x : Value) : ∃ t b c, layNew (.fresh 0 0 led) #[] k x = (#[(k, x)], t, b, c) ∧ t.fill = 1 ∧ 7 ≤ t.mask ∧ t.led = led := by
  have hs : ∀ n : Nat, (SetTable.standIn (.fresh 0 0 led) 1).fill = 1 ∧ 7 ≤ (SetTable.standIn (.fresh 0 0 led) 1).mask := fun _ => ⟨by simp [SetTable.standIn, SetTable.fill, SetTable.fresh], by simp [SetTable.standIn]⟩
  unfold layNew
  split
  · rename_i slot wd he
    have e1 : ((SetTable.fresh 0 0 led).put slot).1.place = #[slot] := rfl
    have e2 : ((SetTable.fresh 0 0 led).put slot).1.dummies = #[] := rfl
    have e3 : ((SetTable.fresh 0 0 led).put slot).1.mask = 7 := rfl
    have e4 : ((SetTable.fresh 0 0 led).put slot).2 = 0 := rfl
    have e5 : ((SetTable.fresh 0 0 led).put slot).1.led = led := rfl
    generalize (SetTable.fresh 0 0 led).put slot = R at *
    obtain ⟨t', p⟩ := R
    dsimp only at e1 e2 e3 e4 e5 ⊢
    subst e4
    refine ⟨_, _, _, by rfl, ?_, ?_, ?_⟩
    · unfold SetTable.orStandIn; split
      · unfold SetTable.fill; rw [e1, e2]; rfl
      · unfold SetTable.standIn SetTable.fill; simp [SetTable.insertAt]
    · unfold SetTable.orStandIn; split
      · rw [e3]; exact Nat.le_refl _
      · unfold SetTable.standIn; simp [SetTable.insertAt]
    · unfold SetTable.orStandIn; split
      · exact e5
      · exact e5
  · exact ⟨_, _, _, rfl, (hs 0).1, (hs 0).2, rfl⟩
theorem add_fresh {D : Addr} {led : Bool} {y : Str} {t : Tok} {Q : Bool → Shared → Prop} (hled : led = !(w.params.followText "set-order")) (F : Fr h₀ L s.heap m) (N : News h₀ L s.heap news) (U : UpdF D { cls := .type "set", dict := none, data := .set #[] 0 (.fresh 0 0 led) } news g)
    (h : ∀ h' so' k, Fr h₀ L h' m → News h₀ L h' (g so') → OneSet w so' k (.str y t) → Q true { s with heap := h', toks := s.toks + 1 }) :
    wpAny (model prog w) A (setAdd D (.str y t)) Q E s := by
  obtain ⟨pre, post, rfl, hg, a, b⟩ := U.split
  have hm := N (D, _) (List.mem_append_right _ (.head _))
  have hkey : (PySem.strKind prog w).is y (.str y t) = true := strKind_is ..
  unfold setAdd
  refine wpAny_holding (wpAny_bind ((PySem.strKind prog w).pyHash hkey ?_))
  unfold setAddHashed setAddHashedIn
  refine wpAny_holding (wpAny_bind (wpAny_setState_of (s := { s with toks := s.toks + 1 }) hm.1 rfl (by rfl) ?_))
  dsimp only
  rw [byScan_of (knd := PySem.strKind prog w) (by rfl) (by decide) (fun e he => by simp at he)]
  simp only [↓reduceIte]
  unfold setAddByScan
  refine wpAny_bind ?_
  refine wpAny_bind (wpAny_rule ?_)
  refine wpAny_bind (wpAny_setScan_of (knd := PySem.strKind prog w) (k := y) hkey hm.1 rfl (by rfl) (fun e he => by simp at he) ?_)
  dsimp only [List.findIdx?_nil]
  have hfits := layNew_fits (.fresh 0 0 led) #[] ((PySem.strKind prog w).hash y) (.str y t)
  obtain ⟨t1, wd, gave, e, hfill, hmask, hl1⟩ := lay_one led ((PySem.strKind prog w).hash y) (.str y t)
  rw [e] at hfits ⊢
  dsimp only at hfits ⊢
  have hgw : ∀ (b : Bool) {s₁ : Shared} {Q' : Unit → Shared → Prop}, Q' () s₁ → wpAny (model prog w) A (match b with | true => rule "set.scan.the-table-gave-way" | false => pure ()) Q' E s₁ :=
    fun b s₁ Q' hq => by cases b <;> first | exact wpAny_pure hq | exact wpAny_rule hq
  refine wpAny_bind (hgw _ ?_)
  have hfull : ∀ t' : SetTable, t'.fill = 1 → 7 ≤ t'.mask → t'.tooFull = false := fun t' h1 h2 => by unfold SetTable.tooFull; rw [h1]; simp; omega
  have fin : ∀ t2 : SetTable, t2.fits 1 = true → t2.fill = 1 → 7 ≤ t2.mask → t2.led = led → wpAny (model prog w) A (do
      storeSet D #[((PySem.strKind prog w).hash y, .str y t)] t2
      if (!wd && t2.tooFull) = true then do
          (match (relayAll t2 #[((PySem.strKind prog w).hash y, .str y t)] (SetTable.grown (#[((PySem.strKind prog w).hash y, Value.str y t)] : Array (Int × Value)).size)).2.2 with | true => rule "set.scan.the-table-gave-way" | false => pure ())
          storeSet D (relayAll t2 #[((PySem.strKind prog w).hash y, .str y t)] (SetTable.grown (#[((PySem.strKind prog w).hash y, Value.str y t)] : Array (Int × Value)).size)).1 (relayAll t2 #[((PySem.strKind prog w).hash y, .str y t)] (SetTable.grown (#[((PySem.strKind prog w).hash y, Value.str y t)] : Array (Int × Value)).size)).2.1
          pure (some true)
        else pure (some true)) (fun r s' => wpAny (model prog w) A (match r with | some added => pure added | none => setAddHashedIn D (.str y t) ((PySem.strKind prog w).hash y) 99999) Q E s') E { s with toks := s.toks + 1 } := by
    intro t2 q1 q2 q3 q4
    refine wpAny_bind (wpAny_storeSet_of hm.1 rfl ?_ (by simp [sizeLine_eq]))
    rw [hfull t2 q2 q3, Bool.and_false, if_neg (by decide)]
    refine wpAny_pure ?_
    refine wpAny_pure ?_
    have hu := Heap.get?_update_self (Obj.putSet #[((PySem.strKind prog w).hash y, Value.str y t)] t2) hm.1 (by rfl)
    exact h _ _ _ (F.change (Heap.SameBut.update _ _ _) hm.2.1 hm.2.2) (hg _ ▸ N.setIn a b (Heap.SameBut.update _ _ _) hu) ⟨⟨rfl, rfl, rfl⟩, _, t2, rfl, q1, q2, q3, q4.trans hled⟩
  split
  · refine wpAny_bind ?_
    rw [hashByValue_scannable 8 (by rfl)]
    refine wpAny_pure ?_
    split
    · exact fin _ hfits hfill hmask hl1
    · exact fin _ (SetTable.fits_plain_off hfits) hfill hmask hl1
  · refine wpAny_bind (wpAny_pure ?_)
    simp only [↓reduceIte]
    exact fin _ hfits hfill hmask hl1
/-- the keys of an empty dict laid into a set of one: nothing -/
theorem star_empty {D d : Addr} {so oe : Obj} {k : Int} {x : Value} {Q : Unit → Shared → Prop} (hh : A.handled = none) (F : Fr h₀ L s.heap m) (N : News h₀ L s.heap news) (hD : (D, so) ∈ news) (hd : (d, oe) ∈ news) (hde : oe.IsDictOf (PySem.strKind prog w) []) (hds : (d == sysModules) = false) (hso : OneSet w so k x)
    (h : ∀ h', Fr h₀ L h' m → News h₀ L h' news → Q () { s with heap := h' }) :
    wpAny (model prog w) A (setDisplayStar D (.ref d)) Q E s := by
  obtain ⟨ep, hat⟩ := KdkAt.of hde
  have hDd := hat.dictAt (N _ hd).1
  obtain ⟨od, es, hod, hcd, hdd, hk, hp, hnd⟩ := id hDd
  have hT : s.TypeIs (.ref d) "dict" := ⟨od, hod, hcd.1⟩
  have hes : es.size = 0 := by have := hp.length; simpa using this
  obtain ⟨hex, eps, tt, hdat, hfit, hfill, hmask, _⟩ := hso
  unfold setDisplayStar
  refine wpAny_bind (wpAny_isInstance hT (U := "set") (b := false) (by rw [isSubtype_type]; kernel_rfl) ?_)
  simp only [Bool.false_eq_true, if_false]
  refine wpAny_bind (wpAny_isInstance hT (U := "frozenset") (b := false) (by rw [isSubtype_type]; kernel_rfl) ?_)
  simp only [Bool.false_eq_true, if_false]
  refine wpAny_bind (wpAny_askSetting ?_)
  have road : wpAny (model prog w) A (do let _ ← runValue (.builtin "set.update.loop" ⟨[.ref D, ← pyIter (.ref d)], []⟩)) Q E s := by
    refine wpAny_bind (wpAny_pyIter_dict hds hDd ?_)
    have F1 := F.push (o := { cls := .type "dict_keyiterator", data := .fields #[.ref d, .int 0 0, .int ([] : List (Str × Value)).length 0, .int ep 0] })
    have N1 := News.push F N { cls := .type "dict_keyiterator", data := .fields #[.ref d, .int 0 0, .int ([] : List (Str × Value)).length 0, .int ep 0] } rfl
    refine wpAny_bind (runValue_entry PyProof.Rows.F.entry_set_update_loop ?_)
    rw [Around.under_plainId PyProof.Rows.F.plain_set_update_loop _]
    show wpAny _ A.in1 (pyNext _ >>= _) _ _ _
    have hI : s.heap.objs.size ≠ d := fun e => Nat.lt_irrefl _ (e ▸ Heap.lt_size hod)
    refine wpAny_bind (wpAny_pyNext_dict_end (knd := PySem.strKind prog w) (kvs := []) (d := d) (i := 0) (ep := ep) hh ⟨_, (N1 _ (.head _)).1, rfl, rfl⟩ (hDd.push _) rfl fun h' hs => ?_)
    have hk : ∀ b o, s.heap.get? b = some o → h'.get? b = some o := fun b o hb => hs b o (Nat.ne_of_lt (Heap.lt_size hb)) (Heap.get?_push_of_some _ hb)
    exact wpAny_pure ⟨_, rfl, wpAny_pure (h h' (F.keeps hk) (N.grown hk))⟩
  cases hb : (model prog w).w.params.followText "set-display-star-reads-storage"
  · rw [if_neg (by decide)]
    dsimp only
    refine wpAny_bind (wpAny_typeOf hT ?_)
    rw [if_pos (by rfl)]
    refine wpAny_bind (wpAny_rule ?_)
    rw [if_neg (by rw [hds]; decide)]
    refine wpAny_bind (wpAny_dictEpoch hod hdd ?_)
    refine wpAny_bind (wpAny_dictEntries hod hdd ?_)
    unfold setRoomFor
    refine wpAny_bind (wpAny_bind (wpAny_setState_of (N _ hD).1 hdat hfit ?_))
    rw [hes]
    dsimp only
    have hroom : tt.roomFor 0 = none := by unfold SetTable.roomFor; rw [hfill, if_neg (by omega)]
    rw [hroom]
    refine wpAny_pure ?_
    refine wpAny_bind (wpAny_of_eq (a := PUnit.unit) (by simp [Std.Legacy.Range.forIn_eq_forIn_range', Std.Legacy.Range.size]) ?_)
    exact wpAny_pure (h _ F N)
  · rw [if_pos rfl]
    exact road
end
end
section
theorem q_of {Q : Bool → Shared → Prop} {b b' : Bool} {s : Shared} (e : b = b') (h : Q b' s) : Q b s := e ▸ h
theorem drawn_one (a : Bool) (d : Bool) (n : Nat) (e : d = (!a && decide (n > 1))) (h : n = 1) : d = false := by rw [e, h]; simp
section
variable {prog : Program} {w : World} {A : Around} {E : Value → Shared → Prop} {s : Shared} {h₀ : Heap} {L sa : Addr} {m : Str → Option Value} {news : List (Addr × Obj)} {k : Int} {x : Value}
theorem drawn_one_ {D : Addr} {so : Obj} {Q : Bool → Shared → Prop} (hso : OneSet w so k x) (hD : s.heap.get? D = some so) (h : Q false s) : wpAny (model prog w) A (setDrawn D) Q E s := by
  obtain ⟨hex, ep, t, hd, hf, hfill, hm, hl⟩ := hso
  unfold setDrawn setsByText
  refine wpAny_bind (wpAny_setState_of hD hd hf ?_)
  refine wpAny_bind (wpAny_bind (wpAny_askSetting (wpAny_pure ?_)))
  refine wpAny_pure (q_of ?_ h)
  cases ht : t.plain <;> cases (model prog w).w.params.followText "set-order" <;> simp only [Bool.not_true, Bool.not_false, Bool.false_and, Bool.true_and]
  · exact drawn_one t.plain _ 1 rfl rfl
  · exact drawn_one t.plain _ 1 rfl rfl
theorem walk_one {D : Addr} {so : Obj} {Q : Array (Int × Value) → Shared → Prop} (hso : OneSet w so k x) (hD : s.heap.get? D = some so) (h : Q #[(k, x)] s) : wpAny (model prog w) A (setWalk D) Q E s := by
  obtain ⟨hex, ep, t, hd, hf, hfill, hm, hl⟩ := hso
  unfold setWalk setsByText
  refine wpAny_bind (wpAny_setState_of hD hd hf ?_)
  refine wpAny_bind (wpAny_bind (wpAny_askSetting (wpAny_pure ?_)))
  dsimp only
  cases hb : (model prog w).w.params.followText "set-order"
  · rw [if_neg (by decide)]
    refine wpAny_ite_split (fun hab => ?_) (fun _ => ?_)
    · have e : _ = false := drawn_one t.plain _ 1 rfl rfl
      exact absurd (e.symm.trans hab) (by decide)
    · refine wpAny_bind (wpAny_of_eq (a := PUnit.unit) (if_neg (c := (!t.led && decide (1 > 1)) = true) (by simp)) ?_)
      exact wpAny_pure h
  · rw [if_pos rfl]
    refine wpAny_bind (wpAny_askSetting (wpAny_pure ?_))
    have e : ∀ f, PySem.pickOrder f #[(k, x)] = #[(k, x)] := fun f => by simp [PySem.pickOrder, PySem.pickOrder.go, Nat.mod_one]
    rw [e]; exact h
theorem below_one (j : Nat) : SetTable.below #[j] 0 = 0 ∧ SetTable.below #[j] (j + 1) = 1 := by
  constructor <;> simp [SetTable.below, SetTable.below.go]
theorem next_one (prog : Program) (w : World) {so : Obj} (hso : OneSet w so k x) : ∃ (ep : Nat) (nx : Nat),
    (∀ (A : Around) (E : Value → Shared → Prop) (s : Shared) (D : Addr) (Q : Nat → Shared → Prop), s.heap.get? D = some so → Q ep s → wpAny (model prog w) A (setEpoch D) Q E s) ∧
    (∀ (A : Around) (E : Value → Shared → Prop) (s : Shared) (D : Addr) (Q : Array (Int × Value) → Shared → Prop), s.heap.get? D = some so → Q #[(k, x)] s → wpAny (model prog w) A (setEntries D) Q E s) ∧
    (∀ (A : Around) (E : Value → Shared → Prop) (s : Shared) (D : Addr) (Q : Option (Value × Nat) → Shared → Prop), s.heap.get? D = some so → Q (some (x, nx)) s → wpAny (model prog w) A (setNext D 0 0 ep) Q E s) ∧
    (∀ (A : Around) (E : Value → Shared → Prop) (s : Shared) (D : Addr) (Q : Option (Value × Nat) → Shared → Prop), s.heap.get? D = some so → Q none s → wpAny (model prog w) A (setNext D nx 1 ep) Q E s) := by
  obtain ⟨hex, ep, t, hd, hf, hfill, hm, hl⟩ := id hso
  have hps : t.place.size = 1 := by
    unfold SetTable.fits at hf
    simp only [Bool.and_eq_true, beq_iff_eq] at hf
    exact hf.1
  obtain ⟨j, hj⟩ : ∃ j, t.place = #[j] := ⟨t.place[0], by
    apply Array.ext
    · simpa using hps
    · intro i h1 h2
      have : i = 0 := by omega
      subst this; rfl⟩
  refine ⟨ep, if w.params.followText "set-order" then 0 else j + 1, ?_, ?_, ?_, ?_⟩
  · intro A E s D Q ho h
    exact wpAny_setEpoch_of ho hd hf h
  · intro A E s D Q ho h
    exact wpAny_setEntries_of ho hd hf h
  · intro A E s D Q ho h
    unfold setNext setsByText
    refine wpAny_bind (wpAny_setState_of ho hd hf ?_)
    refine wpAny_bind (wpAny_bind (wpAny_askSetting (wpAny_pure ?_)))
    dsimp only
    cases hb : w.params.followText "set-order"
    · rw [hb] at h hl
      rw [if_neg (by show ¬ (w.params.followText "set-order" = true); rw [hb]; decide)]
      refine wpAny_ite_split (fun hab => ?_) (fun _ => ?_)
      · have e : _ = false := drawn_one t.plain _ 1 rfl rfl
        exact absurd (e.symm.trans hab) (by decide)
      · refine wpAny_bind (wpAny_of_eq (a := PUnit.unit) (if_neg (c := (!t.led && !(#[(k, x)] : Array (Int × Value)).isEmpty) = true) (by rw [hl]; simp)) ?_)
        refine wpAny_pure ?_
        rw [hj, (below_one j).1]
        exact h
    · rw [hb] at h
      rw [if_pos (show (model prog w).w.params.followText "set-order" = true from hb)]
      rw [if_neg (by simp)]
      refine wpAny_bind (walk_one hso ho ?_)
      exact wpAny_pure h
  · intro A E s D Q ho h
    unfold setNext setsByText
    refine wpAny_bind (wpAny_setState_of ho hd hf ?_)
    refine wpAny_bind (wpAny_bind (wpAny_askSetting (wpAny_pure ?_)))
    dsimp only
    cases hb : w.params.followText "set-order"
    · rw [hb] at hl
      rw [if_neg (by show ¬ (w.params.followText "set-order" = true); rw [hb]; decide)]
      refine wpAny_ite_split (fun hab => ?_) (fun _ => ?_)
      · have e : _ = false := drawn_one t.plain _ 1 rfl rfl
        exact absurd (e.symm.trans hab) (by decide)
      · refine wpAny_bind (wpAny_of_eq (a := PUnit.unit) (if_neg (c := (!t.led && !(#[(k, x)] : Array (Int × Value)).isEmpty) = true) (by rw [hl]; simp)) ?_)
        refine wpAny_pure ?_
        rw [if_neg (by decide), hj, (below_one j).2]
        exact h
    · rw [if_pos (show (model prog w).w.params.followText "set-order" = true from hb)]
      rw [if_neg (by simp)]
      refine wpAny_bind (walk_one hso ho ?_)
      exact wpAny_pure h
theorem slot_si_next : Slot "set_iterator" "__next__" "set_iterator.__next__" :=
  .of (owner := "set_iterator") (n := "__next__") (by rw [typeLookup_type, builtinLookup_eq_fast]; kernel_rfl) (by decide +kernel) (by decide +kernel) (by decide +kernel)
    (by first | exact .inl (by decide +kernel) | exact .inr (by decide +kernel)) (by rw [isSubtype_type]; kernel_rfl)
theorem entry_si_next : entryFor table "set_iterator.__next__" = some Builtin.«set_iterator.__next__» := entryFor_of_tree (by kernel_rfl)
theorem entry_s_iter : entryFor table "set.__iter__" = some Builtin.«frozenset.__iter__» :=
  entryFor_alias (id' := "frozenset.__iter__") (by kernel_rfl) rfl (by decide +kernel) (by kernel_rfl)
theorem args_si_next (a : Value) : argsOk "set_iterator.__next__" ⟨[a], []⟩ := by unfold argsOk; kernel_rfl
def SetIt (o : Obj) (D : Addr) (ep : Nat) (a b : Int) : Prop := o.cls = .type "set_iterator" ∧ o.data = .fields #[.int a 0, .int b 0, .ref D, .int 1 0, .int ep 0]
theorem si_item {D I : Addr} {so io : Obj} {ep nx : Nat} {Q : Option Value → Shared → Prop} (hD : s.heap.get? D = some so) (hI : s.heap.get? I = some io) (hio : SetIt io D ep 0 0) (hDI : D ≠ I)
    (ents : ∀ (A : Around) (E : Value → Shared → Prop) (s : Shared) (D : Addr) (Q : Array (Int × Value) → Shared → Prop), s.heap.get? D = some so → Q #[(k, x)] s → wpAny (model prog w) A (setEntries D) Q E s)
    (nxt : ∀ (A : Around) (E : Value → Shared → Prop) (s : Shared) (D : Addr) (Q : Option (Value × Nat) → Shared → Prop), s.heap.get? D = some so → Q (some (x, nx)) s → wpAny (model prog w) A (setNext D 0 0 ep) Q E s)
    (h : ∀ h' io', SetIt io' D ep nx 1 → h'.get? I = some io' → Heap.SameBut I s.heap h' → Q (some x) { s with heap := h' }) :
    wpAny (model prog w) A (pyNext (.ref I)) Q E s := by
  obtain ⟨hc, hd⟩ := hio
  have hT : s.TypeIs (.ref I) "set_iterator" := ⟨io, hI, hc⟩
  unfold pyNext
  refine wpAny_bind (wpAny_attempt (wpAny_callSpecial?_slot (name := Str.ofString "__next__") hT slot_si_next (wpAny_call_entry slot_si_next hT entry_si_next ?_ (args_si_next _))))
  show wpAny _ _ (fieldsOf (.ref I) >>= _) _ _ s
  refine wpAny_bind (wpAny_fieldsOf hI hd ?_)
  show wpAny _ _ (setEntries D >>= _) _ _ s
  refine wpAny_bind (ents _ _ _ _ _ hD ?_)
  rw [if_neg (by simp)]
  show wpAny _ _ (setNext D 0 0 ep >>= _) _ _ s
  refine wpAny_bind (nxt _ _ _ _ _ hD ?_)
  dsimp only
  show wpAny _ _ (setField (.ref I) 0 (.int nx 0) >>= _) _ _ s
  refine wpAny_bind (wpAny_setField hI hd (by simp) ?_)
  have hI1 := Heap.get?_update_self (Obj.mapFields (·.setIfInBounds 0 (.int nx 0))) hI (Obj.isFreed_of_fields (Obj.data_mapFields hd _))
  have hd1 : (Obj.mapFields (·.setIfInBounds 0 (.int nx 0)) io).data = .fields #[.int nx 0, .int 0 0, .ref D, .int 1 0, .int ep 0] := by rw [Obj.data_mapFields hd]; rfl
  show wpAny _ _ (setField (.ref I) 1 (.int 1 0) >>= _) _ _ _
  refine wpAny_bind (wpAny_setField hI1 hd1 (by simp) ?_)
  have hI2 := Heap.get?_update_self (Obj.mapFields (·.setIfInBounds 1 (.int 1 0))) hI1 (Obj.isFreed_of_fields (Obj.data_mapFields hd1 _))
  refine wpAny_pure ⟨_, rfl, wpAny_pure (h _ _ ⟨?_, ?_⟩ hI2 ((Heap.SameBut.update _ _ _).trans (Heap.SameBut.update _ _ _)))⟩
  · rw [Obj.cls_mapFields, Obj.cls_mapFields]; exact hc
  · rw [Obj.data_mapFields hd1]; rfl
theorem si_end {D I : Addr} {so io : Obj} {ep nx : Nat} {Q : Option Value → Shared → Prop} (hh : A.handled = none) (hD : s.heap.get? D = some so) (hI : s.heap.get? I = some io) (hio : SetIt io D ep nx 1)
    (ents : ∀ (A : Around) (E : Value → Shared → Prop) (s : Shared) (D : Addr) (Q : Array (Int × Value) → Shared → Prop), s.heap.get? D = some so → Q #[(k, x)] s → wpAny (model prog w) A (setEntries D) Q E s)
    (nxt : ∀ (A : Around) (E : Value → Shared → Prop) (s : Shared) (D : Addr) (Q : Option (Value × Nat) → Shared → Prop), s.heap.get? D = some so → Q none s → wpAny (model prog w) A (setNext D nx 1 ep) Q E s)
    (h : ∀ h', Heap.ExtBut I s.heap h' → Q none { s with heap := h' }) :
    wpAny (model prog w) A (pyNext (.ref I)) Q E s := by
  obtain ⟨hc, hd⟩ := hio
  have hT : s.TypeIs (.ref I) "set_iterator" := ⟨io, hI, hc⟩
  unfold pyNext
  refine wpAny_bind (wpAny_attempt (wpAny_callSpecial?_slot (name := Str.ofString "__next__") hT slot_si_next (wpAny_call_entry slot_si_next hT entry_si_next ?_ (args_si_next _))))
  show wpAny _ _ (fieldsOf (.ref I) >>= _) _ _ s
  refine wpAny_bind (wpAny_fieldsOf hI hd ?_)
  show wpAny _ _ (setEntries D >>= _) _ _ s
  refine wpAny_bind (ents _ _ _ _ _ hD ?_)
  rw [if_neg (by simp)]
  show wpAny _ _ (setNext D nx 1 ep >>= _) _ _ s
  refine wpAny_bind (nxt _ _ _ _ _ hD ?_)
  dsimp only
  show wpAny _ _ (setField (.ref I) 2 .none >>= _) _ _ s
  refine wpAny_bind (wpAny_setField hI hd (by simp) ?_)
  show wpAny _ _ (newExc (.type "StopIteration") [] >>= _) _ _ _
  refine wpAny_bind ?_
  simp only [newExc, newTuple]
  refine wpAny_bind (wpAny_newObj_type ?_ (by size_fits))
  refine wpAny_bind (m := firstArgMember _ _) (wpAny_of_eq (a := Value.none) (by first | rfl | (simp only [firstArgMember]; rfl)) ?_)
  refine wpAny_newObj_type ?_ (by size_fits)
  simp only [raiseNew]
  refine wpAny_bind (wpAny_handled ?_)
  rw [show A.in1.handled = none from hh]
  refine wpAny_bind (wpAny_pure (wpAny_throw ?_))
  refine wpAny_bind (wpAny_isInstance (T := "StopIteration") (b := true) ⟨_, Heap.get?_push_size _ rfl, rfl⟩ isSubtype_stop ?_)
  exact wpAny_pure (h _ (((Heap.SameBut.update ..).extBut.push _).push _))
theorem slot_si_iter : Slot "set_iterator" "__iter__" "set_iterator.__iter__" :=
  .of (owner := "set_iterator") (n := "__iter__") (by rw [typeLookup_type, builtinLookup_eq_fast]; kernel_rfl) (by decide +kernel) (by decide +kernel) (by decide +kernel)
    (by first | exact .inl (by decide +kernel) | exact .inr (by decide +kernel)) (by rw [isSubtype_type]; kernel_rfl)
theorem entry_si_iter : entryFor table "set_iterator.__iter__" = some Builtin.«dict_keyiterator.__iter__» :=
  entryFor_alias (id' := "dict_keyiterator.__iter__") (by kernel_rfl) rfl (by decide +kernel) (by kernel_rfl)
theorem args_si_iter (a : Value) : argsOk "set_iterator.__iter__" ⟨[a], []⟩ := by unfold argsOk; kernel_rfl
theorem set_hint {D : Addr} {Q : Bool → Shared → Prop} (hT : s.TypeIs (.ref D) "set") (h : Q false s) : wpAny (model prog w) A (Builtin.List.listLengthHint (.ref D)) Q E s := by
  unfold Builtin.List.listLengthHint
  refine wpAny_bind (wpAny_specialOf hT PySem.F.slot_set_len.lookup ?_)
  generalize hid : ("set.__len__" : String) = id0
  wp_delta
  rw [show splitId id0 = some ("set", "__len__") from by subst hid; decide +kernel]
  subst hid
  refine wpAny_bind (wpAny_isInstance (T := "set") (b := true) hT (by rw [isSubtype_type]; kernel_rfl) ?_)
  refine wpAny_ite_split (fun hab => absurd hab (by decide)) (fun _ => ?_)
  refine wpAny_ite_split (fun _ => ?_) (fun hab => absurd (by decide +kernel) hab)
  refine wpAny_bind (wpAny_typeOf hT ?_)
  exact wpAny_pure h
theorem set_src {D : Addr} {so : Obj} (hso : OneSet w so k x) : KdlSrc prog w "set" D D 1 (fun _ v => v = x) (fun h => h.get? D = some so) := by
  obtain ⟨ep, nx, hep, hents, hnx0, hnx1⟩ := next_one prog w hso
  have hT : ∀ s : Shared, s.heap.get? D = some so → s.TypeIs (.ref D) "set" := fun s e => ⟨so, e, hso.1.1⟩
  refine ⟨hT, fun h e => ⟨Heap.lt_size e, Heap.lt_size e⟩, fun h h' e k' => k' D (.inl rfl) _ e, by decide, by decide, fun A E s Q e h => set_hint (hT s e) h, ?_⟩
  intro A s hh hD
  refine ⟨{ cls := .type "set_iterator", data := .fields #[.int 0 0, .int 0 0, .ref D, .int 1 0, .int ep 0] },
    fun i h => h.get? D = some so ∧ ∃ io, h.get? s.heap.objs.size = some io ∧ ((i = 0 ∧ SetIt io D ep 0 0) ∨ (i = 1 ∧ SetIt io D ep nx 1)), ?_, ?_, ?_⟩
  · intro E Q h
    refine wpAny_pyIter_slot (hT _ hD) PySem.F.slot_set_iter (wpAny_call_entry PySem.F.slot_set_iter (hT _ hD) entry_s_iter ?_ (PySem.F.args_set_iter_1 _))
    show wpAny _ _ (Builtin.Frozenset.sizeOf D >>= _) _ _ s
    unfold Builtin.Frozenset.sizeOf
    refine wpAny_bind (wpAny_bind (hents _ _ _ _ _ hD (wpAny_pure ?_)))
    refine wpAny_bind (drawn_one_ hso hD ?_)
    rw [if_neg (by decide)]
    refine wpAny_bind (wpAny_pure ?_)
    refine wpAny_bind (hep _ _ _ _ _ hD ?_)
    refine wpAny_bind (wpAny_newObj_type (wpAny_pure ⟨_, rfl, "set_iterator", _, ⟨_, Heap.get?_push_size _ rfl, rfl⟩, slot_si_next.lookup, h⟩))
  · have hDI : D ≠ s.heap.objs.size := Nat.ne_of_lt (Heap.lt_size hD)
    refine ⟨fun b hb => List.mem_cons.mpr (.inl (List.mem_singleton.mp hb)), ?_, ?_, ?_, ?_⟩
    · rintro i h h' ⟨e1, io, e2, e3⟩ hk
      exact ⟨hk D (by simp) _ e1, io, hk _ (by simp) _ e2, e3⟩
    · rintro i s' Q E hi ⟨e1, io, e2, e3⟩ hQ
      rcases e3 with ⟨rfl, e3⟩ | ⟨rfl, e3⟩
      · refine si_item e1 e2 e3 hDI hents hnx0 fun h' io' hio' e2' hs => hQ x h' _ rfl ⟨(hs.2 D hDI).trans e1, io', e2', .inr ⟨rfl, hio'⟩⟩ fun b o hb e => (hs.2 b (by simpa using hb)).trans e
      · omega
    · rintro s' Q E ⟨e1, io, e2, e3⟩ hQ
      rcases e3 with ⟨e0, e3⟩ | ⟨_, e3⟩
      · cases e0
      · exact si_end hh e1 e2 e3 hents hnx1 fun h' hs => hQ h' _ fun b o hb e => hs b o (by simpa using hb) e
    · rintro i s' Q E ⟨e1, io, e2, e3⟩ hQ
      have hTi : s'.TypeIs (.ref s.heap.objs.size) "set_iterator" := ⟨io, e2, by rcases e3 with ⟨_, e3⟩ | ⟨_, e3⟩ <;> exact e3.1⟩
      refine wpAny_pyIter_slot hTi slot_si_iter (wpAny_call_entry slot_si_iter hTi entry_si_iter ?_ (args_si_iter _))
      exact wpAny_pure ⟨_, rfl, "set_iterator", _, hTi, slot_si_next.lookup, hQ⟩
  · exact ⟨Heap.get?_push_of_some _ hD, _, Heap.get?_push_size _ rfl, .inl ⟨rfl, rfl, rfl⟩⟩
end
end
section
section
variable {prog : Program} {w : World} {A : Around} {E : Value → Shared → Prop} {s : Shared} {h₀ : Heap} {L sa : Addr} {m : Str → Option Value} {news : List (Addr × Obj)} {k : Int} {x : Value}
theorem sort_one {f : Addr} {a : Addr} {n : Nat} {P : PySem.Fin → Shared → Prop} (F : Fr h₀ L s.heap m) (N : News h₀ L s.heap ((a, seqObj "list" #[x] n) :: news)) (hna : ∀ p ∈ news, p.1 ≠ a)
    (turn : ∀ (h : Heap) (tk : Nat) (own : List (Addr × Obj)), Fr h₀ L h m → News h₀ L h (own ++ news) → (∀ p ∈ own, ∀ q ∈ news, p.1 ≠ q.1) →
      wpAny (model prog w) A (call (.ref f) [x]) (fun _ s' => ∃ h' tk', s' = { s with heap := h', toks := tk' } ∧ Fr h₀ L h' m ∧ News h₀ L h' (own ++ news)) (fun _ _ => False) { s with heap := h, toks := tk })
    (h : ∀ h' tk c, Fr h₀ L h' m → News h₀ L h' ((a, seqObj "list" #[x] c) :: news) → P (.done (.ret .none)) { s with heap := h', toks := tk }) :
    wpAny (model prog w) A (ksk_tree a (.ref f) false) P E s := by
  obtain ⟨ho, haL, ha0⟩ := N _ (.head _)
  have Nn : News h₀ L s.heap news := fun p hp => N p (.tail _ hp)
  have s1 := Heap.SameBut.update s.heap a (Obj.mapSeq fun _ => (#[] : Array Value))
  obtain ⟨e1, ho1⟩ : ∃ e1, (s.heap.update a (Obj.mapSeq fun _ => (#[] : Array Value))).get? a = some (seqObj "list" #[] e1) := ⟨_, get?_update_seq ho fun _ => #[]⟩
  have F1 := ksk_fr F s1 haL ha0
  have N1 := ksk_news Nn s1 hna
  unfold ksk_tree
  refine wpAny_bind (listItems_at ho rfl ?_)
  refine wpAny_bind (listUpdate_at ho rfl ?_ (by simp [sizeLine_eq]) (Nat.zero_le _))
  refine wpAny_bind (seqEpoch_at ho1 rfl ?_)
  refine wpAny_bind (wpAny_newTuple ?_ (by simp [sizeLine_eq]))
  refine wpAny_bind (wpAny_newList ?_ (Nat.zero_le _))
  refine wpAny_holding ?_
  generalize hH1 : s.heap.update a (Obj.mapSeq fun _ => (#[] : Array Value)) = H1 at F1 N1 ho1 ⊢
  have F2 := F1.push (seqObj "tuple" #[x] 0)
  have N2 := News.push F1 (fun p hp => by
    rcases List.mem_cons.mp hp with rfl | hp
    · exact ⟨ho1, haL, ha0⟩
    · exact N1 p hp : News h₀ L H1 ((a, seqObj "list" #[] e1) :: news)) (seqObj "tuple" #[x] 0) rfl
  show wpAny _ _ _ _ _ { s with heap := (H1.push (seqObj "tuple" #[x] 0)).push (seqObj "list" #[] 0) }
  have hkS : (H1.push (seqObj "tuple" #[x] 0)).objs.size = H1.objs.size + 1 := by rw [size_push']
  have N3 := News.push F2 N2 (seqObj "list" #[] 0) rfl
  have F3 := F2.push (seqObj "list" #[] 0)
  have ltN : ∀ q ∈ news, q.1 < H1.objs.size := fun q hq => Heap.lt_size (N1 q hq).1
  have lta : a < H1.objs.size := Heap.lt_size ho1
  generalize hK : (H1.push (seqObj "tuple" #[x] 0)).objs.size = kS at hkS N3 ⊢
  unfold ksk_rest
  refine wpAny_bind (wpAny_rule ?_)
  rw [← Array.forIn_toList]
  show wpAny _ _ (forIn [x] PUnit.unit _ >>= _) _ _ _
  rw [List.forIn_cons]
  refine wpAny_bind (wpAny_bind (wpAny_bind (wpAny_attempt (wpAny_mono (turn _ _ [(kS, seqObj "list" #[] 0), (H1.objs.size, seqObj "tuple" #[x] 0), (a, seqObj "list" #[] e1)] F3 N3 ?_) (fun v s' he => ?_) fun _ _ hF => hF.elim))))
  · intro p hp q hq
    have := ltN q hq
    simp only [List.mem_cons, List.not_mem_nil, or_false] at hp
    rcases hp with rfl | rfl | rfl
    · rw [hkS]; exact Nat.ne_of_gt (Nat.lt_succ_of_lt this)
    · exact Nat.ne_of_gt this
    · exact (hna q hq).symm
  obtain ⟨g, tk2, rfl, F4, N4⟩ := he
  have nk := N4 (kS, seqObj "list" #[] 0) (.head _)
  have na := N4 (a, seqObj "list" #[] e1) (.tail _ (.tail _ (.head _)))
  have N4n : News h₀ L g news := fun p hp => N4 p (List.mem_append_right _ hp)
  have hka : kS ≠ a := by rw [hkS]; exact Nat.ne_of_gt (Nat.lt_succ_of_lt lta)
  have hkn : ∀ p ∈ news, p.1 ≠ kS := fun p hp => by rw [hkS]; exact Nat.ne_of_lt (Nat.lt_succ_of_lt (ltN p hp))
  have t1 := Heap.SameBut.update g kS (Obj.mapSeq (·.push v))
  obtain ⟨c2, hc2⟩ : ∃ c2, (g.update kS (Obj.mapSeq (·.push v))).get? kS = some (seqObj "list" #[v] c2) := ⟨_, get?_update_seq nk.1 (·.push v)⟩
  dsimp only
  refine wpAny_bind (listUpdate_at nk.1 rfl ?_ (by simp [sizeLine_eq]) (by simp [sizeLine_eq]))
  refine wpAny_pure ?_
  dsimp only
  rw [List.forIn_nil]
  refine wpAny_pure ?_
  refine wpAny_bind (listItems_at hc2 rfl ?_)
  have F5 := ksk_fr F4 t1 nk.2.1 nk.2.2
  have N5 := ksk_news N4n t1 hkn
  have na5 : (g.update kS (Obj.mapSeq (·.push v))).get? a = some (seqObj "list" #[] e1) := (t1.2 a hka.symm).trans na.1
  generalize (g.update kS (Obj.mapSeq (·.push v))) = G at hc2 F5 N5 na5 ⊢
  unfold ksk_end
  dsimp only
  rw [if_neg (by decide), if_pos (by show 1 < 2; decide), if_pos (by show 1 < 2; decide)]
  refine wpAny_bind (wpAny_pure ?_)
  rw [StateT.run_pure]
  refine wpAny_bind (wpAny_pure ?_)
  try dsimp only
  unfold ksk_tail
  try dsimp only
  have hz : (if false = true then (Array.map (fun x => x.snd) (arrOf (SortSt.mk' general' (if false = true then (#[v].zip #[x]).reverse else #[v].zip #[x]) #[] 7 none))).reverse else Array.map (fun x => x.snd) (arrOf (SortSt.mk' general' (if false = true then (#[v].zip #[x]).reverse else #[v].zip #[x]) #[] 7 none))) = #[x] := by
    rw [if_neg (by decide), if_neg (by decide)]
    show Array.map (fun x => x.snd) (#[v].zip #[x]) = #[x]
    simp
  rw [hz]
  have u1 := Heap.SameBut.update G kS (Obj.mapSeq fun _ => (#[] : Array Value))
  have na6 : (G.update kS (Obj.mapSeq fun _ => (#[] : Array Value))).get? a = some (seqObj "list" #[] e1) := (u1.2 a hka.symm).trans na5
  refine wpAny_bind (listUpdate_at hc2 rfl ?_ (by simp [sizeLine_eq]) (Nat.zero_le _))
  refine wpAny_bind (wpAny_letGo ?_)
  refine wpAny_bind (seqEpoch_at na6 rfl ?_)
  have u2 := Heap.SameBut.update (G.update kS (Obj.mapSeq fun _ => (#[] : Array Value))) a (Obj.mapSeq fun _ => #[x])
  obtain ⟨c3, hc3⟩ : ∃ c3, ((G.update kS (Obj.mapSeq fun _ => (#[] : Array Value))).update a (Obj.mapSeq fun _ => #[x])).get? a = some (seqObj "list" #[x] c3) := ⟨_, get?_update_seq na6 fun _ => #[x]⟩
  refine wpAny_bind (listUpdate_at na6 rfl ?_ (Nat.zero_le _) ?_)
  · rw [if_neg (by simp)]
    refine wpAny_pure ?_
    refine h _ _ c3 (ksk_fr (ksk_fr F5 u1 nk.2.1 nk.2.2) u2 na.2.1 na.2.2) (fun p hp => ?_)
    rcases List.mem_cons.mp hp with rfl | hp
    · exact ⟨hc3, na.2⟩
    · exact ksk_news (ksk_news N5 u1 hkn) u2 hna p hp
  · show (#[x] : Array Value).size ≤ _
    simp [sizeLine_eq]
theorem sorted_one {f D : Addr} {so : Obj} {Q : Value → Shared → Prop} (hh : A.handled = none) (hso : OneSet w so k x) (F : Fr h₀ L s.heap m) (N : News h₀ L s.heap news) (hD : (D, so) ∈ news)
    (turn : ∀ (h : Heap) (tk : Nat) (own : List (Addr × Obj)), Fr h₀ L h m → News h₀ L h (own ++ news) → (∀ p ∈ own, ∀ q ∈ news, p.1 ≠ q.1) →
      wpAny (model prog w) A.in1.in1 (call (.ref f) [x]) (fun _ s' => ∃ h' tk', s' = { s with heap := h', toks := tk' } ∧ Fr h₀ L h' m ∧ News h₀ L h' (own ++ news)) (fun _ _ => False) { s with heap := h, toks := tk })
    (h : ∀ l c h' tk, Fr h₀ L h' m → News h₀ L h' ((l, listOf #[x] c) :: news) → (∀ q ∈ news, q.1 < l) → Q (.ref l) { s with heap := h', toks := tk }) :
    wpAny (model prog w) A (call (.builtin "sorted") [.ref D] [(Str.ofString "key", .ref f)]) Q E s := by
  refine call_function_entry_kw kind_sorted plain_sorted entry_sorted (ksk_s1 _ _) ?_
  unfold Builtin.«sorted»
  refine wpAny_bind (m := checkCount "sorted" 1 1 _) (wpAny_pure ?_)
  refine wpAny_bind (kdu_collect (set_src hso) hh (N _ hD).1 (by simp [sizeLine_eq]) fun h' tk acc hk hacc => ?_)
  have hax : acc.toList = [x] := by
    obtain ⟨h1, h2⟩ := hacc
    have h3 : acc[0]? = some acc[0] := by simp
    have h4 := h2 0 _ h3
    have : acc = #[acc[0]] := by
      apply Array.ext
      · simpa using h1
      · intro i q1 q2
        have : i = 0 := by omega
        subst this; rfl
    rw [this, h4]
  rw [hax]
  refine wpAny_bind (wpAny_newList ?_ (by simp [sizeLine_eq]))
  have F1 := F.keeps hk
  have N1 := N.grown hk
  have N2 := News.push F1 N1 (seqObj "list" #[x] 0) rfl
  have hlt : ∀ q ∈ news, q.1 < h'.objs.size := fun q hq => Heap.lt_size (N1 q hq).1
  show wpAny _ _ _ _ _ { s with heap := h'.push (seqObj "list" #[x] 0), toks := tk }
  have hoL : (h'.push (seqObj "list" #[x] 0)).get? h'.objs.size = some (seqObj "list" #[x] 0) := (N2 _ (.head _)).1
  refine wpAny_bind (wpAny_holding (wpAny_call_entry_kw slot_list_sort ⟨_, hoL, rfl⟩ entry_list_sort ?body (ksk_l1 _ _)))
  case body =>
    show wpAny (model prog w) A.in1.in1 (Builtin.«list.sort» ⟨[.ref h'.objs.size], [(Str.ofString "key", .ref f)]⟩) _ _ _
    rw [ksk_t1]
    refine sort_one (s := { s with heap := h'.push (seqObj "list" #[x] 0), toks := tk }) (F1.push _) N2 (fun p hp => Nat.ne_of_lt (hlt p hp)) (fun h2 tk2 own F2 N2 off => turn h2 tk2 own F2 N2 off) fun h3 tk3 c F3 N3 => ⟨_, rfl, ?_⟩
    exact wpAny_pure ⟨_, rfl, h _ c h3 tk3 F3 N3 hlt⟩
end
end
section
open PyProof.Rows.LCg (NsObj Off3 Off1 fr_but news_but ns_obj)
section
variable {prog : Program} {w : World} {A : Around} {E : Value → Shared → Prop} {s : Shared} {h₀ : Heap} {L : Addr} {m : Str → Option Value} {env : Env} {K : Type} [DecidableEq K] {knd : KeyKind prog w K}
/-- one turn of a dict comprehension, its ledger told -/
def DTurn (prog : Program) (w : World) (A : Around) (h₀ : Heap) (L : Addr) (m : Str → Option Value) (env : Env) {K : Type} [DecidableEq K] (knd : KeyKind prog w K) (kx vx : PySem.Expr) (x : Str) (scope : Scope) (cl : List (Str × Addr)) (s : Shared) (I : Addr) (xs : Nat → Value → Prop) (Inv : Nat → List (K × Value) → List (Addr × Obj) → Prop) (n : Nat) : Prop :=
  ∀ i kvs news v C oC D oD oI m₂ h tk (E' : Value → Shared → Prop), i < n → xs i v → Inv i kvs news → NsObj oC m₂ → m₂ x = some v → oD.IsDictOf knd kvs → Fr h₀ L h m → News h₀ L h ((I, oI) :: (C, oC) :: (D, oD) :: news) → Off3 I C D news → ((@Ne Nat I C) ∧ (@Ne Nat I D) ∧ (@Ne Nat C D)) →
    wpAny (model prog w) A (eval kx (compEnvC scope cl C env)) (fun kv s₄ => wpAny (model prog w) A (eval vx (compEnvC scope cl C env)) (fun vv s₅ => ∃ k h' tk' news', knd.is k kv = true ∧ s₅ = { s with heap := h', toks := tk' } ∧ Fr h₀ L h' m ∧
      News h₀ L h' ((I, oI) :: (C, oC) :: (D, oD) :: news') ∧ Off3 I C D news' ∧ Inv (i + 1) (stored kvs k vv) news') E' s₄) E' { s with heap := h, toks := tk }
def DFinA (prog : Program) (w : World) (h₀ : Heap) (L : Addr) (m : Str → Option Value) {K : Type} [DecidableEq K] (knd : KeyKind prog w K) (y : Str) (Q : Flow → Shared → Prop) (s : Shared) (Inv : List (K × Value) → List (Addr × Obj) → Prop) : Prop :=
  ∀ D oD h tk kvs news', Fr h₀ L h (fun z => if z = y then some (.ref D) else m z) → News h₀ L h ((D, oD) :: news') → oD.IsDictOf knd kvs → Off1 D news' → (D == sysModules) = false → Inv kvs news' → Q .next { s with heap := h, toks := tk }
theorem block_D {kx vx iter : PySem.Expr} {x : Str} {px : Pos} {scope : Scope} {cl : List (Str × Addr)} {pos : Pos} {s₂ : Shared} {I : Addr} {fp : List Addr} {n : Nat} {xs : Nat → Value → Prop} {St : Nat → Heap → Prop} (Inv : Nat → List (K × Value) → List (Addr × Obj) → Prop) {news : List (Addr × Obj)}
    {RR : Value → Addr → Result → Shared → Prop}
    (W : Walks prog w A I fp [I] n xs St) (hsz : n ≤ sizeLine) (hIo : ∀ i h, St i h → ∃ o, h.get? I = some o)
    (hSt : ∀ i kvs h h' o nw, St i h → h.get? I = some o → h'.get? I = some o → (∀ b o, h₀.get? b = some o → h'.get? b = some o) → News h₀ L h' nw → Inv i kvs nw → St i h')
    (hlen : ∀ i kvs nw, Inv i kvs nw → kvs.length ≤ i)
    (hcell : ∀ y ∈ scope.names, y.2 ≠ .cell) (hkind : scope.kind = .function) (hx : scope.names.lookup x = some .local) (hst : St 0 s₂.heap) (hfp : ∀ b ∈ fp, b < s₂.heap.objs.size)
    (hbig : h₀.NoLimit)
    (F : Fr h₀ L s₂.heap m) (N : News h₀ L s₂.heap news) (hIL : L ≠ I) (hI₀ : h₀.get? I = none) (off : ∀ p ∈ news, p.1 ≠ I) (hI : Inv 0 [] news)
    (turn : DTurn prog w A h₀ L m env knd kx vx x scope cl s₂ I xs Inv n)
    (hRR : ∀ D oD C h tk m' kvs news', Fr h₀ L h m → News h₀ L h ((D, oD) :: news') → oD.IsDictOf knd kvs → Off1 D news' → h.Ns C m' → h₀.get? C = none → h₀.get? D = none → C ≠ L → D ≠ L → C ≠ D → (∀ p ∈ news', p.1 ≠ C) → (D == sysModules) = false → Inv n kvs news' → RR (.ref D) C (.ok .next) { s₂ with heap := h, toks := tk }) :
    wpAny (model prog w) A newDict (fun acc s₃ => wpAny (model prog w) A (newFunctionEnv scope env.globals cl [] env.qual none .none (some env)) (fun cenv s₄ =>
      codeAny (model prog w) A (.compStart (.DictComp kx vx [⟨.Name x px, iter, [], 0⟩] scope pos) 0 (.ref I) acc { cenv with scope := relabel scope env }) (RR acc cenv.locals) s₄) E s₃) E s₂ := by
  have hDs : (s₂.heap.objs.size == sysModules) = false := F.notModules (modules_low hbig)
  refine wpAny_newObj_type (wpAny_newFunctionEnv hcell (by intro y hy; simp at hy) (fun h₁ hns₁ hsb₁ => ?_) hkind)
  dsimp only at hns₁ hsb₁ ⊢
  have hnew : (s₂.heap.push { cls := .type "dict", dict := none, data := .dict #[] }).DictOf knd s₂.heap.objs.size [] := Heap.DictOf.new s₂.heap
  generalize hH2 : s₂.heap.push { cls := .type "dict", dict := none, data := .dict #[] } = H2 at hns₁ hsb₁ hnew ⊢
  have hC : H2.objs.size = s₂.heap.objs.size + 1 := by rw [← hH2, Heap.size_push]
  generalize hDq : s₂.heap.objs.size = D at hC hDs hnew ⊢
  generalize hCq : H2.objs.size = C at hC hns₁ hsb₁ ⊢
  have hDC : D ≠ C := by rw [hC]; exact Nat.ne_of_lt (Nat.lt_succ_self _)
  have hold : ∀ b, b < D → b ≠ C ∧ b ≠ D := fun b hb => ⟨by rw [hC]; exact Nat.ne_of_lt (Nat.lt_succ_of_lt hb), Nat.ne_of_lt hb⟩
  have hDf : D ∉ fp := fun hm => Nat.lt_irrefl _ (hDq ▸ hfp _ hm)
  have hCf : C ∉ fp := fun hm => by have := hfp _ hm; rw [hC, hDq] at this; exact Nat.lt_irrefl _ (Nat.lt_of_succ_lt this)
  have hIlt : I < D := hDq ▸ hfp I (W.sub I (List.mem_singleton.mpr rfl))
  have old : ∀ b o, s₂.heap.get? b = some o → h₁.get? b = some o := fun b o e => hsb₁.extBut b o (hold b (hDq ▸ Heap.lt_size e)).1 (Heap.get?_push_of_some _ (hH2 ▸ Heap.get?_push_of_some _ e))
  have hacc : h₁.DictOf knd D [] := hnew.at fun o e => hsb₁.extBut _ _ hDC (Heap.get?_push_of_some _ e)
  have hst₁ : St 0 h₁ := W.frame _ _ _ hst fun b _ o e => old b o e
  have none₀ : ∀ a, D ≤ a → h₀.get? a = none := fun a ha => by
    cases e : h₀.get? a with
    | none => rfl
    | some o' => exact absurd (Heap.lt_size (F.keep a o' e)) (Nat.not_lt.mpr (hDq ▸ ha))
  have hD₀ := none₀ D (Nat.le_refl _)
  have hC₀ := none₀ C (by rw [hC]; exact Nat.le_succ _)
  have hLlt : L < D := hDq ▸ F.ns.lt
  have hDL : D ≠ L := Ne.symm (hold L hLlt).2
  have hCL : C ≠ L := Ne.symm (hold L hLlt).1
  have hIC : I ≠ C := (hold I hIlt).1
  have hID : I ≠ D := (hold I hIlt).2
  have off₀ : Off3 I C D news := Off3.of fun p hp => ⟨off p hp, hold _ (hDq ▸ Heap.lt_size (N p hp).1)⟩
  obtain ⟨oD₁, hoD₁, hdD₁⟩ := Heap.dictOf_iff.mp hacc
  have loop : ∀ s₃ : Shared, s₃ = { s₂ with heap := h₁, toks := s₂.toks + ([] : List (Str × Value)).length } →
      codeAny (model prog w) A (.compLoop (.DictComp kx vx [⟨.Name x px, iter, [], 0⟩] scope pos) 0 (.ref I) (.ref D) (compEnvC scope cl C env)) (RR (.ref D) C) s₃ := by
    rintro s₃ rfl
    refine codeAny_compLoop_testsD
      (fun k s' => ∃ h' tk i kvs oD m' news', s' = { s₂ with heap := h', toks := tk } ∧ i ≤ n ∧ k = n + 1 - i ∧ St i h' ∧ Fr h₀ L h' m ∧ h'.Ns C m' ∧ News h₀ L h' ((D, oD) :: news') ∧ oD.IsDictOf knd kvs ∧ Off3 I C D news' ∧ Inv i kvs news') ?_ (n + 1)
      ⟨h₁, _, 0, [], oD₁, _, news, rfl, Nat.zero_le _, rfl, hst₁, F.keeps old, hns₁, fun p hp => ?_, hdD₁, off₀, hI⟩
    · rintro k s' ⟨h', tk, i, kvs, oD, m', news', rfl, hi, rfl, hst', F', hn', N', hdD, off', hI'⟩
      by_cases hlt : i < n
      · refine W.item i _ _ _ hlt hst' fun v h₂ tk₂ hPv hst₂ hk₂ => ?_
        refine wpAny_assign_Name (wpAny_storeName_local (lookup_relabel_local hx) (hn'.at' fun o e => hk₂ _ o (by simpa using Ne.symm hIC) e) (fun h₃ hn₃ hs₃ => ?_) (by simp [compEnvC, relabel, hkind]))
        refine wpAny_tests_nil ?_
        simp only [if_true]
        have hst₃ : St (i + 1) h₃ := W.frame _ _ _ hst₂ fun b hb o e => hs₃.extBut b o (fun q => hCf (by have q' : b = C := q; rw [← q']; exact hb)) e
        obtain ⟨oI, heI⟩ := hIo _ _ hst₃
        obtain ⟨oC, heC, hoC⟩ := ns_obj hn₃
        have F₃ : Fr h₀ L h₃ m := (fr_but F' hk₂ hIL hI₀).change hs₃ hCL hC₀
        have off3 := off'.mem
        have N₂ : News h₀ L h₂ ((D, oD) :: news') := news_but N' hk₂ fun p hp => by
          rcases List.mem_cons.mp hp with rfl | hp
          · exact Ne.symm hID
          · exact (off3 p hp).1
        have N₃ : News h₀ L h₃ ((I, oI) :: (C, oC) :: (D, oD) :: news') := fun p hp => by
          rcases List.mem_cons.mp hp with rfl | hp
          · exact ⟨heI, Ne.symm hIL, hI₀⟩
          · rcases List.mem_cons.mp hp with rfl | hp
            · exact ⟨heC, hCL, hC₀⟩
            · have z := N₂ p hp
              refine ⟨hs₃.extBut _ _ ?_ z.1, z.2⟩
              rcases List.mem_cons.mp hp with rfl | hp
              · exact hDC
              · exact (off3 p hp).2.1
        refine wpAny_mono (turn i kvs news' v C oC D oD oI _ h₃ _ _ hlt hPv hI' hoC (by simp) hdD F₃ N₃ off' ⟨hIC, hID, Ne.symm hDC⟩) (fun kv s₄ h₄ => wpAny_mono h₄ (fun vv s₅ h₅ => ?_) fun _ _ e => e) fun _ _ e => e
        obtain ⟨key, h₄, tk₄, news₄, hkey, rfl, F₄, N₄, off₄, hI₄⟩ := h₅
        have zI := (N₄ (I, oI) (.head _)).1
        have zC := (N₄ (C, oC) (.tail _ (.head _))).1
        have zD := (N₄ (D, oD) (.tail _ (.tail _ (.head _)))).1
        have N₄' : News h₀ L h₄ news₄ := fun p hp => N₄ p (.tail _ (.tail _ (.tail _ hp)))
        have hst₄ : St (i + 1) h₄ := hSt _ _ _ _ _ _ hst₃ heI zI F₄.keep N₄' hI₄
        have off4 := off₄.mem
        refine wpAny_dictSet_pairs (hsz := Nat.le_trans (hlen _ _ _ hI') (Nat.le_trans hi hsz)) hkey (Heap.dictOf_iff.mpr ⟨_, zD, hdD⟩) fun h₅ hD₅ hs₅ => ?_
        obtain ⟨oD₅, hoD₅, hdD₅⟩ := Heap.dictOf_iff.mp hD₅
        refine ⟨n + 1 - (i + 1), by omega, h₅, _, i + 1, _, oD₅, _, news₄, rfl, hlt, rfl, W.frame _ _ _ hst₄ fun b hb o e => hs₅.extBut b o (fun q => hDf (q ▸ hb)) e, F₄.change hs₅ hDL hD₀,
          (hoC.ns zC).sameBut hs₅ (Ne.symm hDC), fun p hp => ?_, hdD₅, off₄, hI₄⟩
        rcases List.mem_cons.mp hp with rfl | hp
        · exact ⟨hoD₅, hDL, hD₀⟩
        · exact ⟨hs₅.extBut _ _ (off4 p hp).2.2 (N₄' p hp).1, (N₄' p hp).2⟩
      · obtain rfl : i = n := Nat.le_antisymm hi (Nat.not_lt.mp hlt)
        refine W.done _ _ _ hst' fun h₂ tk₂ hk₂ => ?_
        have off3 := off'.mem
        exact hRR _ _ _ h₂ tk₂ _ kvs news' (fr_but F' hk₂ hIL hI₀) (news_but N' hk₂ fun p hp => by
          rcases List.mem_cons.mp hp with rfl | hp
          · exact Ne.symm hID
          · exact (off3 p hp).1) hdD off'.one (hn'.at' fun o e => hk₂ _ o (by simpa using Ne.symm hIC) e) hC₀ hD₀ hCL hDL (Ne.symm hDC) (fun p hp => (off3 p hp).2.1) hDs hI'
    · rcases List.mem_cons.mp hp with rfl | hp
      · exact ⟨hoD₁, hDL, hD₀⟩
      · exact ⟨old _ _ (N p hp).1, (N p hp).2⟩
  exact codeAny_compStart_dict (loop _ rfl) (W.self 0 _ _ _ hst₁ (loop _ rfl))
/-- what the iterable gives a dict comprehension -/
def DSrc (prog : Program) (w : World) (A : Around) (h₀ : Heap) (L : Addr) (m : Str → Option Value) (env : Env) {K : Type} [DecidableEq K] (knd : KeyKind prog w K) (kx vx : PySem.Expr) (x : Str) (scope : Scope) (cl : List (Str × Addr)) (Fin : Shared → (List (K × Value) → List (Addr × Obj) → Prop) → Prop) (it : Value) (s₂ : Shared) : Prop :=
  ∃ I fp n xs St Inv news, it = .ref I ∧ Walks prog w A I fp [I] n xs St ∧ n ≤ sizeLine ∧ (∀ i h, St i h → ∃ o, h.get? I = some o) ∧
    (∀ i kvs h h' o nw, St i h → h.get? I = some o → h'.get? I = some o → (∀ b o, h₀.get? b = some o → h'.get? b = some o) → News h₀ L h' nw → Inv i kvs nw → St i h') ∧
    (∀ i (kvs : List (K × Value)) nw, Inv i kvs nw → kvs.length ≤ i) ∧ St 0 s₂.heap ∧ (∀ b ∈ fp, b < s₂.heap.objs.size) ∧
    Fr h₀ L s₂.heap m ∧ News h₀ L s₂.heap news ∧ L ≠ I ∧ h₀.get? I = none ∧ (∀ p ∈ news, p.1 ≠ I) ∧ Inv 0 [] news ∧ DTurn prog w A h₀ L m env knd kx vx x scope cl s₂ I xs Inv n ∧
    Fin s₂ (Inv n)
theorem Assign_DictComp_U {kx vx iter : PySem.Expr} {x y : Str} {px py : Pos} {scope : Scope} {cl : List (Str × Addr)} {pos spos : Pos} {Q : Flow → Shared → Prop} (knd : KeyKind prog w K) (F₀ : Fr h₀ L s.heap m) (hLe : env.locals = L)
    (hsw : swapsWith (.DictComp kx vx [⟨.Name x px, iter, [], 0⟩] scope pos) (some (.Name y py)) spos.line env = pure true)
    (hclos : closureFor scope env = pure cl) (hcell : ∀ z ∈ scope.names, z.2 ≠ .cell) (hkind : scope.kind = .function)
    (hnames : ∀ z ∈ scope.names, z.2 = .local → scope.names.lookup z.1 = some .local) (hx : scope.names.lookup x = some .local)
    (hy : env.kindOf y = some .local) (hp : (env.scope.kind == .class || (env.scope.kind == .module && env.locals != env.globals)) = false)
    (hbig : h₀.NoLimit)
    (h : wpAny (model prog w) A (eval iter env) (fun xv s₁ => wpAny (model prog w) A (pyIter xv) (DSrc prog w A h₀ L m env knd kx vx x scope cl (DFinA prog w h₀ L m knd y Q)) E s₁) E s)
    (hs : ∀ x, foldedSetIterable iter env x = pure x := by intro _; rfl) :
    wpAny (model prog w) A (exec (.Assign [.Name y py] (.DictComp kx vx [⟨.Name x px, iter, [], 0⟩] scope pos) spos) env) Q E s := by
  subst hLe
  rw [exec_Assign_Name_used _ _ _ _ hsw]
  refine wpAny_bind (wpAny_standAt (wpAny_bind ?_))
  show wpAny _ A (do let _ ← comprehension (.DictComp kx vx [⟨.Name x px, iter, [], 0⟩] scope pos) scope env _ newDict false (eval iter env) (some (assign (.Name y py) env))) _ _ s
  refine wpAny_bind (wpAny_mono (wpAny_comprehension_free (use := some (assign (.Name y py) env)) (Q := fun _ s' => Q .next s') rfl hs hclos hkind hnames
    (wpAny_mono h (fun xv s₁ h₁ => wpAny_mono h₁ (fun it s₂ h₂ => ?_) fun _ _ e => e) fun _ _ e => e)) (fun _ s' hq => wpAny_pure (wpAny_pure hq)) fun _ _ e => e)
  obtain ⟨I, fp, n, xs, St, Inv, news, rfl, W, hsz, hIo, hSt, hlen, hst, hfp, F, N, hIL, hI₀, off, hI, turn, fin⟩ := h₂
  refine block_D (knd := knd) Inv W hsz hIo hSt hlen hcell hkind hx hst hfp hbig F N hIL hI₀ off hI turn fun D oD C h' tk m' kvs news' F' N' hd o1 hn hC₀ hD₀ hCL hDL hCD offC hsys hI' => ?_
  show wpAny _ A (assign (.Name y py) env (.ref D)) _ _ _
  refine wpAny_assign_Name (wpAny_storeName_local hy F'.ns (fun h₂ hn₂ hs₂ => ?_) hp)
  have hL₀ : h₀.get? env.locals = none := Heap.get?_none_of_le F'.above
  have F₂ : Fr h₀ env.locals h₂ (fun z => if z = y then some (.ref D) else m z) := ⟨hn₂, fun b o e => hs₂.extBut b o (fun q => by rw [q, hL₀] at e; cases e) (F'.keep b o e), F'.above⟩
  refine ⟨m', hn.sameBut hs₂ hCL, fun h'' hs'' => fin D oD h'' _ kvs news' (F₂.change hs'' hCL hC₀) (fun p hp => ?_) hd o1 hsys hI'⟩
  have z : h₂.get? p.1 = some p.2 := hs₂.extBut _ _ (N' p hp).2.1 (N' p hp).1
  refine ⟨hs''.extBut _ _ ?_ z, (N' p hp).2⟩
  rcases List.mem_cons.mp hp with rfl | hp
  · exact Ne.symm hCD
  · exact offC p hp
/-- the iterable is a list of the ledger -/
theorem DSrc.list {kx vx : PySem.Expr} {x : Str} {scope : Scope} {cl : List (Str × Addr)} {knd : KeyKind prog w K} {Fin : Shared → (List (K × Value) → List (Addr × Obj) → Prop) → Prop} {news : List (Addr × Obj)} {l : Addr} {vs : List Value} {nn : Nat} (Inv : Nat → List (K × Value) → List (Addr × Obj) → Prop)
    (hh : A.handled = none) (F : Fr h₀ L s.heap m) (N : News h₀ L s.heap news) (hsz : vs.length ≤ sizeLine) (hl : (l, listOf vs.toArray nn) ∈ news)
    (hin : ∀ i kvs nw, Inv i kvs nw → (l, listOf vs.toArray nn) ∈ nw) (hlen : ∀ i (kvs : List (K × Value)) nw, Inv i kvs nw → kvs.length ≤ i) (h0 : Inv 0 [] news)
    (turn : ∀ I h, DTurn prog w A h₀ L m env knd kx vx x scope cl { s with heap := h } I (fun i v => vs[i]? = some v) Inv vs.length)
    (fin : ∀ h, Fin { s with heap := h } (Inv vs.length)) :
    wpAny (model prog w) A (pyIter (.ref l)) (DSrc prog w A h₀ L m env knd kx vx x scope cl Fin) E s := by
  have hol : s.heap.get? l = some (listOf vs.toArray nn) := (N _ hl).1
  have hls : s.heap.IsList l vs.toArray := ⟨_, hol, rfl, nn, rfl⟩
  have hne : l ≠ s.heap.objs.size := Nat.ne_of_lt (Heap.lt_size hol)
  refine wpAny_pyIter_list hls ?_
  have up : ∀ b o, s.heap.get? b = some o → (s.heap.push { cls := .type "list_iterator", data := .fields #[.ref l, .int 0 0] }).get? b = some o := fun b o e => Heap.get?_push_of_some _ e
  have W := Walks.list (prog := prog) (w := w) hh s.heap.objs.size l hne vs.toArray
  refine ⟨_, _, vs.length, _, _, Inv, news, rfl, W, hsz, fun i h st => ?_, ?_, hlen, ⟨⟨_, Heap.get?_push_size _ rfl, rfl, rfl⟩, hls.push _⟩, ?_, F.keeps up, N.grown up, Nat.ne_of_lt F.ns.lt, next_is_new F, fun p hp => Nat.ne_of_lt (Heap.lt_size (N p hp).1), h0, ?_, fin _⟩
  · obtain ⟨o, e, _⟩ := st.1; exact ⟨o, e⟩
  · intro i kvs h h' o nw st e e' k N' hi
    refine ⟨by obtain ⟨o', q, r⟩ := st.1; rw [e] at q; cases q; exact ⟨o, e', r⟩, ⟨_, (N' _ (hin _ _ _ hi)).1, rfl, nn, rfl⟩⟩
  · intro b hb
    show b < (s.heap.push _).objs.size
    rw [Heap.size_push]
    rcases List.mem_cons.mp hb with rfl | hb
    · exact Nat.lt_succ_self _
    · rw [List.mem_singleton.mp hb]; exact Nat.lt_succ_of_lt (Heap.lt_size hol)
  · intro i kvs news v C oC D oD oI m₂ h tk E' hi hv hI hC hx hd F' N' off' hne'
    exact turn _ _ i kvs news v C oC D oD oI m₂ h tk E' hi (by simpa using hv) hI hC hx hd F' N' off' hne'
end
end
section
theorem updF_mid {d : Addr} {o : Obj} {post : List (Addr × Obj)} : ∀ {pre : List (Addr × Obj)}, (∀ p ∈ pre, p.1 ≠ d) → (∀ p ∈ post, p.1 ≠ d) → UpdF d o (pre ++ (d, o) :: post) (fun o' => pre ++ (d, o') :: post)
  | [], _, h => .head h
  | _ :: _, h1, h => .tail (h1 _ (.head _)) (updF_mid (fun q hq => h1 q (.tail _ hq)) h)
abbrev lamQ : Str := "C14NWriterTarget._start.<locals>.<lambda>"
/-- the table of _start's inner code: nothing made yet, or the key's code made -/
def tabS : Option (Addr × Obj) → List (Addr × Obj)
  | none => [(168, tabObj #[])]
  | some p => [(168, tabObj #[rawInt 250, rawInt 71, .ref p.1]), (p.1, p.2)]
def TabOk : Option (Addr × Obj) → Prop
  | none => True
  | some p => ∃ vs t, p.2.data = .fields vs ∧ vs[1]? = some (.str lamQ t)
section
variable {M : Model} {A : Around} {E : Value → Shared → Prop} {s : Shared} {h₀ : Heap} {L a : Addr} {m mg mb : Str → Option Value} {cn : Str} {cs : Scope} {ccd : Value} {cl : List (Str × Addr)} {pre post : List (Addr × Obj)}
  {p : Program} {loose : List Str} {mean : ExcName → Option Value} {params : Arguments} {body : PySem.Expr} {scope : Scope} {clos : List (Str × Addr)}
theorem lam_start {Q : Value → Shared → Prop} {tb : Option (Addr × Obj)} (F : Fr h₀ L s.heap m) (N : News h₀ L s.heap (pre ++ (tabS tb ++ post))) (T : Top p loose mean mg mb h₀) (C : CodeHd h₀ 170 168) (hpre : ∀ q ∈ pre, q.1 ≠ 168) (hpost : ∀ q ∈ post, q.1 ≠ 168) (htb : TabOk tb)
    (hcl : closureFor scope (envX cn cs L a (.ref 170) cl) = pure clos)
    (h : ∀ f c' oc ctv h' tk, Fr h₀ L h' m →
      News h₀ L h' ((f, kla_obj "<lambda>" lamQ params body scope clos ((mg "__name__").getD .none) c' ctv) :: (pre ++ (tabS (some (c', oc)) ++ post))) →
      TabOk (some (c', oc)) → (∀ q ∈ pre ++ (tabS (some (c', oc)) ++ post), q.1 < f) → (tb = some (c', oc) ∨ ∀ q ∈ pre ++ (tabS none ++ post), q.1 < c') → Q (.ref f) { s with heap := h', toks := tk }) :
    wpAny M A (makeFunction "<lambda>" lamQ params (.expr body) scope (envX cn cs L a (.ref 170) cl) [] [] [] ⟨250, 71, 250, 96⟩ 250) Q E s := by
  cases tb with
  | none =>
    refine kla_nest (c := 170) (P := 168) (ps := #[]) F N T C rfl (updF_mid hpre hpost) (by exact True.intro) rfl hcl ?_
    intro f c' oc vs t ctv h' tk F' N' hd hv lc lf
    have lall : ∀ q ∈ pre ++ (tabS (some (c', oc)) ++ post), q.1 < f := by
      intro q hq
      rcases List.mem_append.mp hq with hq | hq
      · exact Nat.lt_trans (lc q (List.mem_append_left _ hq)) lf
      · rcases List.mem_append.mp hq with hq | hq
        · simp only [tabS, List.mem_cons, List.not_mem_nil, or_false] at hq
          rcases hq with rfl | rfl
          · exact Nat.lt_trans (lc (168, tabObj #[]) (List.mem_append_right _ (.head _))) lf
          · exact lf
        · exact Nat.lt_trans (lc q (List.mem_append_right _ (.tail _ hq))) lf
    refine h f c' oc ctv h' tk F' (fun q hq => N' q ?_) ⟨vs, t, hd, hv⟩ lall (.inr lc)
    rcases List.mem_cons.mp hq with rfl | hq
    · exact .head _
    · refine .tail _ ?_
      rcases List.mem_append.mp hq with hq | hq
      · exact .tail _ (List.mem_append_left _ hq)
      · rcases List.mem_append.mp hq with hq | hq
        · simp only [tabS, List.mem_cons, List.not_mem_nil, or_false] at hq
          rcases hq with rfl | rfl
          · exact .tail _ (List.mem_append_right _ (.head _))
          · exact .head _
        · exact .tail _ (List.mem_append_right _ (.tail _ hq))
  | some q =>
    obtain ⟨c', oc⟩ := q
    refine kla_hit (c := 170) (P := 168) (ps := #[rawInt 250, rawInt 71, .ref c']) F N T C rfl (List.mem_append_right _ (.head _)) (by simp [TriplesOk, rawInt]) (c' := c') (by simp [codeAmong, rawInt]) hcl ?_
    intro f ctv h' tk F' N' lf
    exact h f c' oc ctv h' tk F' N' htb lf (.inl rfl)
end
end
section
/-- the law's 48 operators, from 7 on -/
def ops : List Str := [Str.ofString "(", Str.ofString ")", Str.ofString "[", Str.ofString "]", Str.ofString ":", Str.ofString ",", Str.ofString ";", Str.ofString "+", Str.ofString "-", Str.ofString "*", Str.ofString "/", Str.ofString "|", Str.ofString "&", Str.ofString "<", Str.ofString ">", Str.ofString "=", Str.ofString ".", Str.ofString "%", Str.ofString "{", Str.ofString "}", Str.ofString "==", Str.ofString "!=", Str.ofString "<=", Str.ofString ">=", Str.ofString "~", Str.ofString "^", Str.ofString "<<", Str.ofString ">>", Str.ofString "**", Str.ofString "+=", Str.ofString "-=", Str.ofString "*=", Str.ofString "/=", Str.ofString "%=", Str.ofString "&=", Str.ofString "|=", Str.ofString "^=", Str.ofString "<<=", Str.ofString ">>=", Str.ofString "**=", Str.ofString "//", Str.ofString "//=", Str.ofString "@", Str.ofString "@=", Str.ofString "->", Str.ofString "...", Str.ofString ":=", Str.ofString "!"]
def intOf : PyData → Option Int
  | .int n => some n
  | _ => none
section
variable {prog : Program} {w : World} {A : Around} {E : Value → Shared → Prop} {s : Shared} {h₀ : Heap} {L : Addr} {m : Str → Option Value} {env : Env} {news : List (Addr × Obj)}
theorem valueAt_stored {K : Type} [DecidableEq K] (kvs : List (K × Value)) (k k' : K) (v : Value) : valueAt (stored kvs k v) k' = if k' = k then some v else valueAt kvs k' := by
  by_cases hv : valueAt kvs k = none
  · rw [stored_absent hv]
    unfold valueAt at hv ⊢
    rw [List.find?_append]
    by_cases h : k' = k
    · subst h
      have h1 : kvs.find? (fun kv => kv.1 = k') = none := by
        cases e : kvs.find? (fun kv => kv.1 = k') with
        | none => rfl
        | some p => rw [e] at hv; cases hv
      rw [h1]; simp
    · have h' : ¬ k = k' := fun e => h e.symm
      simp only [List.find?_cons, List.find?_nil, h', decide_false, if_neg h, Option.or_none]
  · unfold stored
    have ha : kvs.any (fun kv => decide (kv.1 = k)) = true := by
      cases e : kvs.any (fun kv => decide (kv.1 = k)) with
      | true => rfl
      | false =>
        refine absurd ?_ hv
        have : kvs.find? (fun kv => decide (kv.1 = k)) = none := List.find?_eq_none.mpr fun p hp hq => by
          have h9 : kvs.any (fun kv => decide (kv.1 = k)) = true := List.any_eq_true.mpr ⟨p, hp, hq⟩
          rw [e] at h9; cases h9
        unfold valueAt
        rw [this]; rfl
    rw [if_pos ha]
    clear hv
    unfold valueAt
    induction kvs with
    | nil => simp at ha
    | cons p r ih =>
      simp only [List.map_cons, List.find?_cons]
      by_cases hp : p.1 = k
      · rw [if_pos hp]
        by_cases h : k' = k
        · rw [if_pos h, h, hp]; simp
        · rw [if_neg h]
          have h2 : ¬ p.1 = k' := fun e => h (e.symm.trans hp)
          simp only [h2, decide_false]
          by_cases hr : r.any (fun kv => decide (kv.1 = k)) = true
          · have := ih hr
            rw [if_neg h] at this
            exact this
          · have e : r.map (fun kv => if kv.1 = k then (kv.1, v) else kv) = r := by
              refine (List.map_congr_left fun q hq => ?_).trans (List.map_id r)
              rw [if_neg]; rfl
              intro e
              exact hr (List.any_eq_true.mpr ⟨q, hq, by simpa using e⟩)
            rw [e]
      · rw [if_neg hp]
        have hr : r.any (fun kv => decide (kv.1 = k)) = true := by simpa [hp] using ha
        have := ih hr
        by_cases h3 : p.1 = k'
        · have h : ¬ k' = k := fun e => hp (h3.trans e)
          simp only [h3, decide_true, if_neg h]
        · simp only [h3, decide_false]
          exact this
/-- iter of a list of the ledger -/
theorem iter_list {l : Addr} {vs : List Value} {k : Nat} {Q : Value → Shared → Prop} (F : Fr h₀ L s.heap m) (N : News h₀ L s.heap news) (hl : (l, listOf vs.toArray k) ∈ news)
    (h : ∀ I io h', IterO io l 0 → Fr h₀ L h' m → News h₀ L h' ((I, io) :: news) → (∀ p ∈ news, p.1 < I) → Q (.ref I) { s with heap := h' }) :
    wpAny (model prog w) A (call (.builtin "iter") [.ref l]) Q E s := by
  refine call_function_entry (by decide +kernel) (by decide +kernel) kdk_entry_iter (kdk_args_iter _) ?_
  unfold Builtin.«iter»
  refine wpAny_bind (m := someArgs "iter" 1 2 _) (wpAny_of_eq (a := [Value.ref l]) (by first | rfl | kernel_rfl!) ?_)
  show wpAny _ _ (pyIter (.ref l) >>= _) _ _ _
  have hls : s.heap.IsList l vs.toArray := ⟨_, (N _ hl).1, rfl, k, rfl⟩
  refine wpAny_bind (wpAny_pyIter_list hls ?_)
  exact wpAny_pure ⟨_, rfl, h _ _ _ ⟨rfl, rfl⟩ (F.push _) (News.push F N _ rfl) (fun q hq => Heap.lt_size (N q hq).1)⟩
theorem tok_lookup : ∀ p ∈ tokD, ∃ n, p.2 = .int n ∧ lookup (.str p.1) (tokD.map fun p => (PyData.str p.1, p.2)) = some (.int n) := by
  have h : (tokD.all fun p => match lookup (.str p.1) (tokD.map fun p => (PyData.str p.1, p.2)), p.2 with | some (.int a), .int b => a == b | _, _ => false) = true := by decide +kernel
  intro p hp
  have := List.all_eq_true.mp h p hp
  revert this
  cases e1 : lookup (.str p.1) (tokD.map fun p => (PyData.str p.1, p.2)) with
  | none => intro h; cases h
  | some d =>
    cases d <;> try (intro h; cases h; done)
    rename_i a
    cases e2 : p.2 <;> try (intro h; cases h; done)
    rename_i b
    intro h
    have : a = b := by simpa using h
    exact ⟨b, rfl, by rw [this]⟩
theorem tok_inj : ∀ p ∈ tokD, ∀ q ∈ tokD, p.2 = q.2 → p.1 = q.1 := by
  have h : ∀ p ∈ tokD, ∀ q ∈ tokD, intOf p.2 = intOf q.2 → p.1 = q.1 := by decide +kernel
  exact fun p hp q hq e => h p hp q hq (by rw [e])
theorem tok_ops : ∀ i : Nat, i < 48 → ∃ j < 48, ∃ k n, tokD[j]? = some (k, .int n) ∧ n = (i : Int) + 7 ∧ ops[i]? = some k := by
  have h : ∀ i : Nat, i < 48 → ∃ j < 48, (tokD[j]?.bind fun p => intOf p.2) = some ((i : Int) + 7) ∧ ops[i]? = tokD[j]?.map (·.1) := by decide +kernel
  intro i hi
  obtain ⟨j, hj, h1, h2⟩ := h i hi
  cases e : tokD[j]? with
  | none => rw [e] at h1; cases h1
  | some p =>
    rw [e] at h1 h2
    obtain ⟨k, d⟩ := p
    cases d <;> try (cases h1; done)
    rename_i n
    exact ⟨j, hj, k, n, e, by simpa [intOf] using h1, by rw [h2]; rfl⟩
/-- the words read so far -/
structure WordsTo (i : Nat) (kvs : List (Int × Value)) : Prop where
  len : kvs.length ≤ i
  all : ∀ j < i, ∀ k n, tokD[j]? = some (k, .int n) → ∃ t, valueAt kvs n = some (.str k t)
theorem WordsTo.step {i : Nat} {kvs : List (Int × Value)} {k : Str} {n : Int} {t : Tok} (W : WordsTo i kvs) (h : tokD[i]? = some (k, .int n)) : WordsTo (i + 1) (stored kvs n (.str k t)) := by
  refine ⟨?_, fun j hj k' n' h' => ?_⟩
  · have := stored_length_le kvs n (.str k t)
    have := W.len
    omega
  · rw [valueAt_stored]
    by_cases e : n' = n
    · rw [if_pos e]
      refine ⟨t, ?_⟩
      have := tok_inj _ (List.mem_of_getElem? h') _ (List.mem_of_getElem? h) (by rw [e])
      rw [show k' = k from this]
    · rw [if_neg e]
      refine W.all j ?_ k' n' h'
      have : j ≠ i := fun q => by rw [q, h] at h'; cases h'; exact e rfl
      omega
theorem WordsTo.word {kvs : List (Int × Value)} (W : WordsTo 48 kvs) {i : Nat} {y : Str} (h : ops[i]? = some y) : ∃ t, valueAt kvs ((i : Int) + 7) = some (.str y t) := by
  have hi : i < 48 := (List.getElem?_eq_some_iff.mp h).1
  obtain ⟨j, hj, k, n, h1, rfl, h3⟩ := tok_ops i hi
  obtain ⟨t, ht⟩ := W.all j hj k _ h1
  rw [h] at h3
  cases h3
  exact ⟨t, ht⟩
theorem DSrc.tok {K : Type} [DecidableEq K] {knd : KeyKind PR w K} {kx vx : PySem.Expr} {x : Str} {scope : Scope} {cl : List (Str × Addr)} {Fin : Shared → (List (K × Value) → List (Addr × Obj) → Prop) → Prop} (Inv : Nat → List (K × Value) → List (Addr × Obj) → Prop)
    (hh : A.handled = none) (F : Fr h₀ L s.heap m) (X : (Mine.hd0.heap_1_41 w.params).In h₀) (N : News h₀ L s.heap news) (hlen : ∀ i (kvs : List (K × Value)) nw, Inv i kvs nw → kvs.length ≤ i) (h0 : Inv 0 [] news)
    (turn : ∀ I h, DTurn PR w A h₀ L m env knd kx vx x scope cl { s with heap := h } I (fun i v => ∃ k dv t, tokD[i]? = some (k, dv) ∧ v = .str k t) Inv tokD.length)
    (fin : ∀ h, Fin { s with heap := h } (Inv tokD.length)) :
    wpAny (model PR w) A (pyIter (.ref 46)) (DSrc PR w A h₀ L m env knd kx vx x scope cl Fin) E s := by
  obtain ⟨lo, kvs, hdo, hf⟩ := tok_tab X
  obtain ⟨ep, hat₀⟩ := hdo.dictAt
  have hat : s.heap.DictAt (PySem.strKind PR w) 46 kvs ep := hat₀.at' fun o e => F.keep _ _ e
  refine wpAny_pyIter_dict lo hat ?_
  have hne : (46 : Addr) ≠ s.heap.objs.size := Nat.ne_of_lt hat.lt_size
  have hfl : tokD.length = kvs.length := by have := hf.length; simpa using this
  refine ⟨s.heap.objs.size, [s.heap.objs.size, 46], _, _, _, Inv, news, rfl, (Walks.dictKeys (knd := strKind PR w) hh _ 46 hne kvs ep).weaken (P' := fun i v => ∃ k dv t, tokD[i]? = some (k, dv) ∧ v = .str k t) ?_, ?_, fun i h st => ?_, ?_, hlen, ⟨⟨_, Heap.get?_push_size _ rfl, rfl, rfl⟩, hat.push _⟩, ?_, F.push _, N.grown (fun b o e => Heap.get?_push_of_some _ e), Nat.ne_of_lt F.ns.lt, next_is_new F, fun p hp => Nat.ne_of_lt (Heap.lt_size (N p hp).1), h0, ?_, ?_⟩
  · rintro i v ⟨k, xv, hx, hkey⟩
    obtain ⟨dv, hD, _⟩ := hf.at hx
    obtain ⟨t, rfl⟩ := Value.isStrOf_shape hkey
    rw [List.getElem?_map] at hD
    cases e : tokD[i]? with
    | none => rw [e] at hD; cases hD
    | some p =>
      rw [e] at hD
      simp only [Option.map_some, Option.some.injEq, Prod.mk.injEq, PyData.str.injEq] at hD
      exact ⟨p.1, p.2, t, rfl, by rw [hD.1]⟩
  · rw [← hfl]; exact Nat.le_of_ble_eq_true rfl
  · obtain ⟨o, e, _⟩ := st.1; exact ⟨o, e⟩
  · intro i kvs' h h' o nw st e e' k N' hi
    exact ⟨by obtain ⟨o', q, r⟩ := st.1; rw [e] at q; cases q; exact ⟨o, e', r⟩, hat₀.at' fun o e => k _ _ e⟩
  · intro b hb
    show b < (s.heap.push _).objs.size
    rw [Heap.size_push]
    rcases List.mem_cons.mp hb with rfl | hb
    · exact Nat.lt_succ_self _
    · rw [List.mem_singleton.mp hb]; exact Nat.lt_succ_of_lt hat.lt_size
  · rw [← hfl]; exact turn _ _
  · rw [← hfl]; exact fin _
end
end
section
theorem st_canLayAll0 : ∀ ns : List Str, (∀ y ∈ ns, PyData.strOk y = true) → PyData.canLayAll0 (ns.map PyData.str) = true
  | [], _ => rfl
  | y :: r, h => by simp [PyData.canLayAll0, PyData.canLay0, st_canLayAll0 r (fun z hz => h z (.tail _ hz)), h y (.head _)]
theorem st_depthAll : ∀ ns : List Str, PyData.depthAll (ns.map PyData.str) = 0
  | [] => rfl
  | _ :: r => by simp [PyData.depthAll, PyData.depth, st_depthAll r]
theorem st_shaped (ns : List Str) (h : ∀ y ∈ ns, PyData.strOk y = true) : SeqAt.shaped (.list (ns.map PyData.str)) = true := by
  simp [SeqAt.shaped, PyData.canLay0, PyData.depth, st_canLayAll0 ns h, st_depthAll]
theorem st_sameNil : ∀ ns : List Str, PySem.Spec.same (.list (ns.map PyData.str)) (.list ([] : List PyData)) = decide (ns = [])
  | [] => by simp [PySem.Spec.same, PySem.Spec.sameAll]
  | _ :: _ => by simp [PySem.Spec.same, PySem.Spec.sameAll]
theorem st_carried : ∀ {vs : List Value} {ns : List Str}, StrsAre vs ns → CarriedAll vs (ns.map PyData.str)
  | _, _, .nil => .nil
  | _, _, .cons _ t r => .cons (.str _ t) (st_carried r)
section
variable {prog : Program} {w : World} {A : Around} {E : Value → Shared → Prop} {s : Shared} {a b : Addr} {xs ys : List Value} {ns : List Str} {Q : Value → Shared → Prop}
theorem ne_nil_strs (ha : s.heap.IsList a xs.toArray) (hb : s.heap.IsList b #[]) (hi : StrsAre xs ns) (hok : ∀ y ∈ ns, PyData.strOk y = true) (hu : A.units + 64 < cLine) (h : Q (.bool (!decide (ns = []))) s) :
    wpAny (model prog w) A (compareOp .NotEq (.ref a) (.ref b)) Q E s :=
  ne_dataH_same (reads_newData ha (st_carried hi)) (reads_newData hb (st_carried (ns := []) .nil)) (st_shaped _ hok) (st_shaped [] (fun _ h => nomatch h)) hu (SeqAt.noMix_of_shape (.list .str) rfl _ _ (list_map_has fun _ => rfl) (list_map_has (l := ([] : List Str)) fun _ => rfl)) (by rw [List.map_nil, st_sameNil]; exact h)
end
theorem join_strs {prog : Program} {w : World} {A : Around} {E : Value → Shared → Prop} {s : Shared} {D : Addr} {items : List Value} {ys : List Str} {x : Str} {t : Tok} {Q : Value → Shared → Prop} (hl : s.heap.IsList D items.toArray) (hi : StrsAre items ys) (hw : (ys.map (·.length)).sum + ys.length ≤ 1048576) (hs : x.length ≤ 16)
    (hq : ∀ t' k, Q (.str (Txt.join x ys) t') { s with toks := k }) : wpAny (model prog w) A (call (.builtin "str.join") [.str x t, .ref D]) Q E s := by
  obtain ⟨l, hv, ht⟩ := strsAre_values hi
  subst hv
  subst ht
  exact SC.join hl rfl (joinOk_of (total_of_weight hw hs)) hq
theorem ConX.use {prog : Program} {w : World} {K : Frag} {f : Addr} {dp un dp' un' : Nat} {vs : List Value} {news : List (Addr × Obj)} {post : Value → List (Addr × Obj) → Prop} {cls : String} {newsX : List (Addr × Obj)} (C : ConX prog w K f dp un vs news post cls newsX) (hd : dp' ≤ dp) (hu : un' ≤ un)
    {p : Program} {loose : List Str} {mean : ExcName → Option Value} {mg mb : Str → Option Value} {gd : Option (List Code)} {cn : Str} {cs : Scope} {a : Addr} {ccd : Value} {cl : List (Str × Addr)} {outer : List Env} {A₀ : Around} {base h₀ : Heap} {L : Addr} {m : Str → Option Value} {s : Shared} {Q E : Value → Shared → Prop}
    (B : Below A₀ base outer h₀) (F : Fr h₀ L s.heap m) (X : K.In h₀) (N : News h₀ L s.heap news) (T : Top p loose mean mg mb h₀) (hk : cs.kind = .function)
    (ret : ∀ v news' h' tk', post v news' → Fr h₀ L h' m → News h₀ L h' news' → Q v { s with heap := h', toks := tk' })
    (exc : ∀ e g h' tk', Fr h₀ L g m → RaisedN base (envX cn cs L a ccd cl :: outer) e (.type cls) newsX h' → g.UpToSlots h' → E (.ref e) { s with heap := h', toks := tk' }) :
    wpAny (model prog w) (ktrTop dp' un' gd cn cs L a ccd cl outer) (call (.ref f) vs) Q E s :=
  around_mono (C p loose mean mg mb gd cn cs a ccd cl outer A₀ base h₀ L m s Q E B F X N T hk ret exc) rfl hd rfl rfl hu
section
variable {prog : Program} {w : World} {A₀ : Around} {E : Value → Shared → Prop} {s' : Shared} {h₀ g2 : Heap} {outer : List Env} {L a e : Addr} {m : Str → Option Value} {name : Str} {scope : Scope} {cd : Value}
  {b₀ : Stmt} {suite : List Stmt} {pos np : Pos} {rest : List ExceptHandler} {Q : Flow → Shared → Prop} {news : List (Addr × Obj)}
  {p : Program} {loose : List Str} {mean : ExcName → Option Value} {mg mb : Str → Option Value}
theorem caught_K (hst : A₀.frames = some outer) (F : Fr h₀ L g2 m) (hsm : g2.UpToSlots s'.heap) (R : RaisedN h₀ (envOf name scope L a cd :: outer) e (.type "StopIteration") news s'.heap) (T : Top p loose mean mg mb h₀)
    (k : ∀ h', Fr h₀ L h' m → News h₀ L h' news → g2.UpToSlots h' → wpAny (model prog w) ((A₀.deeper (envOf name scope L a cd)).mark (some (.ref e))) (execs (b₀ :: suite) (envOf name scope L a cd)) Q E { s' with heap := h' })
    (hmg : mg (Str.ofString "StopIteration") = none)
    (hk : scope.kind = .function) (hx : (envOf name scope L a cd).kindOf (Str.ofString "StopIteration") = some .globalImplicit)
    (hE : PassesOwnAt (model prog w) ((A₀.deeper (envOf name scope L a cd)).mark (some (.ref e))) (A₀.deeper (envOf name scope L a cd)) (envOf name scope L a cd) E := by passes_own) :
    wpAny (model prog w) (A₀.deeper (envOf name scope L a cd)) (noteFrame (.ref e) (envOf name scope L a cd))
      (fun _ s₂ => wpAny (model prog w) (A₀.deeper (envOf name scope L a cd)) (setFlight (.ref e) none) (fun _ s₃ =>
        wpAny (model prog w) (A₀.deeper (envOf name scope L a cd)) (handleBy (.ref e) (envOf name scope L a cd) (.ExceptHandler (some (.Name (Str.ofString "StopIteration") np)) none (b₀ :: suite) pos :: rest)) Q E s₃) E s₂) E s' := by
  obtain ⟨B, a0, hB, hl, hfl⟩ := R
  have hL : B.get? L = none := by
    obtain ⟨_, ⟨L', _, hf, hn', _⟩, _⟩ := hfl.2.2.1
    obtain rfl : L = L' := Option.some.inj hf
    exact hn'
  refine wpAny_looks_onW (Around.frames_deeper hst) rfl hfl fun h₄ held₄ u₄ => ?_
  refine wpAny_landsW held₄ fun h₅ fly₅ u₅ => ?_
  have st₅ : g2.UpToSlots h₅ := hsm.trans (u₄.trans u₅)
  have F₅ : Fr h₀ L h₅ m := ⟨st₅.ns F.ns, fun b o q => fly₅.1 b o (hB b o q), F.above⟩
  obtain ⟨ob, hob, hobc⟩ := fly₅.there
  refine wpAny_handleBy_builtin (X := "StopIteration") (T := "StopIteration") (b := true) (isSubtype_of_subB (by decide +kernel)) (isSubtype_of_subB (by decide +kernel)) (isSubtype_of_subB (by decide +kernel))
    (ld_builtin_at F₅ T.g hmg T.b ((T.builtins _ (by decide +kernel)).trans PyProof.Rows.Boot.«StopIteration») ⟨rfl, ⟨ob, hob, hobc⟩, ?_⟩ hk hx (by decide))
  refine lands_againW fly₅ fun h₆ fly₆ u₆ => ?_
  have st₆ := st₅.trans u₆
  have F₆ : Fr h₀ L h₆ m := ⟨st₆.ns F.ns, fun b o q => fly₆.1 b o (hB b o q), F.above⟩
  exact wpAny_passesOwnAt hE (k h₆ F₆ (fun q hq => ⟨fly₆.1 _ _ (hl q hq).1, (fun z => by have := (hl q hq).1; rw [z, hL] at this; cases this), (hl q hq).2⟩) st₆)
end
end
section
open PyProof.Rows.LCg (NsObj Off3 Off1 FinE FinA CompRest CompEnd block_U lst CompSrc SrcAt)
section
variable {prog : Program} {w : World} {A : Around} {E : Value → Shared → Prop} {s : Shared} {h₀ : Heap} {L : Addr} {m : Str → Option Value} {env : Env}
/-- the turns of a list comprehension, by an invariant -/
theorem rest_ind {elt : PySem.Expr} {x : Str} {scope : Scope} {cl : List (Str × Addr)} {S : List (Addr × Obj) → Prop} {P : Nat → Value → Prop} {Fin : List Value → List (Addr × Obj) → Prop} (Inv : Nat → List Value → List (Addr × Obj) → Prop) (n : Nat)
    (fin : ∀ ys nw, Inv n ys nw → Fin ys nw)
    (turn : ∀ i ys nw v I oI C oC D m₂ h tk (E' : Value → Shared → Prop), i < n → Inv i ys nw → P i v → NsObj oC m₂ → m₂ x = some v → Fr h₀ L h m → News h₀ L h ((I, oI) :: (C, oC) :: (D, lst ys) :: nw) → Off3 I C D nw → ((@Ne Nat I C) ∧ (@Ne Nat I D) ∧ (@Ne Nat C D)) →
      wpAny (model prog w) A (eval elt (compEnvC scope cl C env)) (CompEnd h₀ L m { s with heap := h, toks := tk } I oI C oC D (lst ys) S (fun y nw' => Inv (i + 1) (ys ++ [y]) nw')) E' { s with heap := h, toks := tk }) :
    ∀ k i ys nw, i + k = n → Inv i ys nw → CompRest prog w A h₀ L m env elt x scope cl s S P Fin k i ys nw
  | 0, i, ys, nw, e, hI => CompRest.zero (fin ys nw (by rw [← e]; exact hI))
  | k + 1, i, ys, nw, e, hI => CompRest.succ fun v I oI C oC D m₂ h tk E' hv hC hx F N off hne => by
    refine wpAny_mono (turn i ys nw v I oI C oC D m₂ h tk E' (by omega) hI hv hC hx F N off hne) (fun y s₂ hE => ?_) fun _ _ e => e
    obtain ⟨h', tk', nw', rfl, F', N', off', hS, hr⟩ := hE
    exact ⟨h', tk', nw', rfl, F', N', off', hS, rest_ind Inv n fin turn k (i + 1) _ _ (by omega) hr⟩
end
end
section
/-- the price of two ways, their first low places alike -/
def dD (low i j : Nat) : Int := 2 * (max i j : Nat) - (min (min i j) low : Nat)
theorem dD_le {low i j : Nat} (h : i ≤ j) : dD low i j = 2 * (j : Int) - (min i low : Nat) := by
  unfold dD
  rw [Nat.max_eq_right h, Nat.min_eq_left h]
theorem dD_ge {low i j : Nat} (h : j ≤ i) : dD low i j = 2 * (i : Int) - (min j low : Nat) := by
  unfold dD
  rw [Nat.max_eq_left h, Nat.min_eq_right h]
theorem min_step (k low : Nat) : (min k low : Nat) ≤ (min (k + 1) low : Nat) ∧ (min (k + 1) low : Nat) ≤ (min k low : Nat) + 1 := by
  rcases Nat.le_total low k with h | h
  · rw [Nat.min_eq_right h, Nat.min_eq_right (Nat.le_succ_of_le h)]; exact ⟨Nat.le_refl _, Nat.le_succ _⟩
  · rw [Nat.min_eq_left h]
    exact ⟨Nat.le_min.mpr ⟨Nat.le_succ _, h⟩, Nat.min_le_left _ _⟩
theorem cell_off {x a b r s : Int} (h1 : a ≤ b) (h2 : b ≤ a + 1) (hs : s = x - b) (hr : s ≤ r) : min (min r s + 2) (x - a + 2) = x + 2 - b := by
  rw [Int.min_eq_right hr, Int.min_eq_left (by omega)]
  omega
theorem cell_off2 {x a b r s : Int} (h1 : a ≤ b) (h2 : b ≤ a + 1) (hs : s = x - b) (hr : s ≤ r) : min (min s r + 2) (x - a + 2) = x + 2 - b := by
  rw [Int.min_eq_left hr, Int.min_eq_left (by omega)]
  omega
theorem cell_all {low k j : Nat} (hlow : 0 < low) {res r d c : Int} (hr : r = dD low (k + 1) j) (hd : d = dD low k j) (hc : c = if k = j ∧ j < low then 1 else 2) (h0 : k = 0 → res = 2 * (j : Int)) (h1 : k ≠ 0 → res = dD low k (j + 1)) :
    min (min res r + 2) (d + c) = dD low (k + 1) (j + 1) := by
  rcases Nat.lt_trichotomy k j with h | h | h
  · rw [dD_le (Nat.succ_le_of_lt h)] at hr
    rw [dD_le (Nat.le_of_lt h)] at hd
    rw [if_neg (fun e => Nat.ne_of_lt h e.1)] at hc
    obtain ⟨m1, m2⟩ := min_step k low
    have hres : r ≤ res := by
      by_cases hk : k = 0
      · rw [h0 hk, hr]; omega
      · rw [h1 hk, dD_le (Nat.le_succ_of_le (Nat.le_of_lt h)), hr]; omega
    rw [dD_le (Nat.succ_le_succ (Nat.le_of_lt h)), hd, hc, cell_off (by omega) (by omega) hr hres]
    omega
  · subst h
    rw [dD_ge (Nat.le_succ k)] at hr
    rw [dD_le (Nat.le_refl k)] at hd
    rw [dD_le (Nat.le_refl _), hd, hc]
    rcases Nat.lt_or_ge k low with hl | hl
    · rw [if_pos ⟨rfl, hl⟩, Nat.min_eq_left hl]
      rw [Nat.min_eq_left (Nat.le_of_lt hl)] at hr ⊢
      by_cases hk : k = 0
      · rw [h0 hk, hr]; omega
      · have := h1 hk
        rw [dD_le (Nat.le_succ k), Nat.min_eq_left (Nat.le_of_lt hl)] at this
        rw [this, hr]; omega
    · rw [if_neg (fun e => Nat.not_lt.mpr hl e.2), Nat.min_eq_right (Nat.le_succ_of_le hl)]
      rw [Nat.min_eq_right hl] at hr ⊢
      by_cases hk : k = 0
      · omega
      · have := h1 hk
        rw [dD_le (Nat.le_succ k), Nat.min_eq_right hl] at this
        rw [this, hr]; omega
  · rw [dD_ge (Nat.le_succ_of_le (Nat.le_of_lt h))] at hr
    rw [dD_ge (Nat.le_of_lt h)] at hd
    rw [if_neg (fun e => Nat.ne_of_gt h e.1)] at hc
    have hk : k ≠ 0 := Nat.ne_of_gt (Nat.zero_lt_of_lt h)
    have h2 := h1 hk
    rw [dD_ge (Nat.succ_le_of_lt h)] at h2
    obtain ⟨m1, m2⟩ := min_step j low
    rw [dD_ge (Nat.succ_le_succ (Nat.le_of_lt h)), hd, hc, cell_off2 (by omega) (by omega) h2 (by rw [h2, hr]; omega)]
    omega
theorem inner_ways {α : Type} (cost : α → α → Int) (low : Nat) (hlow : 0 < low) (bc : α) (j : Nat) : ∀ (ar : List α) (k : Nat) (rs : List Int) (dist res mn : Int),
    rs.length = ar.length → (∀ i x, ar[i]? = some x → cost bc x = if k + i = j ∧ j < low then 1 else 2) → (∀ i, i < ar.length → rs.getD i 0 = dD low (k + i + 1) j) → dist = dD low k j →
      (k = 0 → res = 2 * (j : Int)) → (k ≠ 0 → res = dD low k (j + 1)) →
      (inner cost bc ar rs dist res mn).1.length = ar.length ∧ (∀ i, i < ar.length → (inner cost bc ar rs dist res mn).1.getD i 0 = dD low (k + i + 1) (j + 1)) ∧
      (ar ≠ [] → (inner cost bc ar rs dist res mn).2.1 = dD low (k + ar.length) (j + 1)) ∧
      (inner cost bc ar rs dist res mn).2.2 ≤ mn ∧ (∀ i, i < ar.length → (inner cost bc ar rs dist res mn).2.2 ≤ dD low (k + i + 1) (j + 1))
  | [], k, rs, dist, res, mn, _, _, _, _, _, _ => by
    cases rs <;> simp [inner]
  | x :: ar, k, [], dist, res, mn, h, _, _, _, _, _ => by simp at h
  | x :: ar, k, r :: rs, dist, res, mn, hl, hc, hr, hd, h0, h1 => by
    have hr0 := hr 0 (by simp)
    have hcx := hc 0 x rfl
    simp only [List.getD_cons_zero, Nat.add_zero] at hr0 hcx
    generalize hv : min (min res r + 2) (dist + cost bc x) = v
    have hcell : v = dD low (k + 1) (j + 1) := by
      rw [← hv]
      exact cell_all hlow hr0 hd hcx h0 h1
    have ih := inner_ways cost low hlow bc j ar (k + 1) rs r v (if v < mn then v else mn) (by simpa using hl) (fun i y hy => by
        have := hc (i + 1) y (by simpa using hy)
        rw [this, show k + (i + 1) = k + 1 + i by omega]) (fun i hi => by
        have := hr (i + 1) (by simpa using hi)
        rw [List.getD_cons_succ] at this
        rw [this, show k + (i + 1) + 1 = k + 1 + i + 1 by omega]) hr0 (fun e => by omega) (fun _ => hcell)
    simp only [inner, hv]
    obtain ⟨i1, i2, i3, i4, i5⟩ := ih
    refine ⟨by simp [i1], ?_, ?_, ?_, ?_⟩
    · intro i hi
      cases i with
      | zero => simpa using hcell
      | succ i =>
        have := i2 i (by simpa using hi)
        rw [List.getD_cons_succ, this, show k + (i + 1) + 1 = k + 1 + i + 1 by omega]
    · intro _
      cases ar with
      | nil => cases rs <;> simpa [inner] using hcell
      | cons z ar =>
        have := i3 (by simp)
        rw [this]
        congr 1
        simp only [List.length_cons]
        omega
    · by_cases hlt : v < mn
      · rw [if_pos hlt] at i4 ⊢; omega
      · rw [if_neg hlt] at i4 ⊢; omega
    · intro i hi
      cases i with
      | zero =>
        rw [← hcell]
        by_cases hlt : v < mn
        · rw [if_pos hlt] at i4 ⊢; omega
        · rw [if_neg hlt] at i4 ⊢; omega
      | succ i =>
        have := i5 i (by simpa using hi)
        rw [show k + (i + 1) + 1 = k + 1 + i + 1 by omega]
        exact this
theorem mono_min {low x y : Nat} (h : x ≤ y) : x + (min y low : Nat) ≤ y + (min x low : Nat) := by
  rcases Nat.le_total x low with q | q
  · rw [Nat.min_eq_left q]
    have := Nat.min_le_left y low
    omega
  · rw [Nat.min_eq_right q, Nat.min_eq_right (Nat.le_trans q h)]
    omega
theorem outer_ways {α : Type} (cost : α → α → Int) (low : Nat) (hlow : 0 < low) (a : List α) (ha : low ≤ a.length) (mx : Int) : ∀ (bs : List α) (j : Nat) (row : List Int) (res : Int),
    row.length = a.length → (∀ i, i < a.length → row.getD i 0 = dD low (i + 1) j) → (∀ (i q : Nat) x y, a[i]? = some x → bs[q]? = some y → cost y x = if i = j + q ∧ j + q < low then 1 else 2) → a.length ≤ j + bs.length →
      (bs = [] → res = dD low a.length j) → dD low a.length (j + bs.length) - 1 ≤ mx → outer cost a mx bs (j : Int) row res = dD low a.length (j + bs.length)
  | [], j, row, res, _, _, _, _, hr, _ => by
    simp only [outer, List.length_nil, Nat.add_zero]
    exact hr rfl
  | bc :: bs, j, row, res, hl, hrow, hc, hlen, _, hmx => by
    have hne : a ≠ [] := by intro e; rw [e] at ha; simp at ha; omega
    have hp : 0 < a.length := by omega
    obtain ⟨i1, i2, i3, i4, i5⟩ := inner_ways cost low hlow bc j a 0 row ((j : Int) * 2) ((j : Int) * 2) 9223372036854775807 hl (fun i x hx => by
        have := hc i 0 x bc hx rfl
        rw [this]
        simp only [Nat.zero_add, Nat.add_zero]) (fun i hi => by rw [hrow i hi, show 0 + i + 1 = i + 1 by omega]) (by unfold dD; omega) (fun _ => by omega) (fun e => absurd rfl e)
    simp only [Nat.zero_add] at i2 i3 i5
    have e1 : (bc :: bs).length = bs.length + 1 := rfl
    rw [e1] at hlen hmx ⊢
    simp only [outer]
    by_cases hgt : (inner cost bc a row ((j : Int) * 2) ((j : Int) * 2) 9223372036854775807).2.2 > mx
    · rw [if_pos hgt]
      have hm : a.length ≤ j + (bs.length + 1) := hlen
      have hf := dD_le (low := low) hm
      rcases Nat.lt_or_ge j a.length with q | q
      · have h9 := i5 j q
        rw [dD_le (Nat.le_refl _)] at h9
        rw [hf] at hmx ⊢
        have := mono_min (low := low) (Nat.succ_le_of_lt q)
        omega
      · have h9 := i5 (a.length - 1) (by omega)
        rw [Nat.sub_add_cancel hp, dD_le (Nat.le_succ_of_le q)] at h9
        rw [hf] at hmx ⊢
        omega
    · rw [if_neg hgt]
      have ih := outer_ways cost low hlow a ha mx bs (j + 1) _ (inner cost bc a row ((j : Int) * 2) ((j : Int) * 2) 9223372036854775807).2.1 i1 i2 (fun i q x y hx hy => by
        have := hc i (q + 1) x y hx (by simpa using hy)
        rw [this, show j + (q + 1) = j + 1 + q by omega]) (by omega) (fun _ => i3 hne) (by rw [show j + 1 + bs.length = j + (bs.length + 1) by omega]; exact hmx)
      rw [show j + 1 + bs.length = j + (bs.length + 1) by omega] at ih
      rw [← ih]
      push_cast
      rfl
theorem row0_getD (n i : Nat) (h : i < n) : (row0 n).getD i 0 = 2 + 2 * (i : Int) := by
  unfold row0
  rw [List.getD_eq_getElem?_getD, List.getElem?_map, List.getElem?_range h]
  rfl
theorem levS_ways {α : Type} (cost : α → α → Int) (low : Nat) (hlow : 0 < low) (a b : List α) (ha : low ≤ a.length) (hab : a.length ≤ b.length) (mx : Int)
    (hc : ∀ (i q : Nat) x y, a[i]? = some x → b[q]? = some y → cost y x = if i = q ∧ q < low then 1 else 2) (hmx : dD low a.length b.length - 1 ≤ mx) : levS cost a b mx = dD low a.length b.length := by
  unfold levS
  by_cases h : ((b.length : Int) - a.length) * 2 > mx
  · rw [if_pos h]
    unfold dD at hmx ⊢
    omega
  · rw [if_neg h]
    have := outer_ways cost low hlow a ha mx b 0 (row0 a.length) 0 (row0_length _) (fun i hi => by rw [row0_getD _ _ hi]; unfold dD; omega) (fun i q x y hx hy => by
      have := hc i q x y hx hy
      rw [this]
      simp only [Nat.zero_add]) (by omega) (fun e => by (have h9 := congrArg List.length e); simp only [List.length_nil] at h9; omega) (by rw [Nat.zero_add]; exact hmx)
    rw [Nat.zero_add] at this
    exact this
theorem cpl_first {α : Type} [DecidableEq α] {a b : List α} (h : ∀ x ∈ a, ∀ y ∈ b, x ≠ y) : cpl a b = 0 := by
  cases a with
  | nil => simp [cpl]
  | cons x a =>
    cases b with
    | nil => simp [cpl]
    | cons y b =>
      simp only [cpl]
      rw [if_neg (h x (.head _) y (.head _))]
theorem levD_noshare {α : Type} [DecidableEq α] (cost : α → α → Int) (a b : List α) (hne : ∀ x ∈ a, ∀ y ∈ b, x ≠ y) (ha : a ≠ []) (mx : Int) : levD cost a b mx = levT cost a b mx := by
  unfold levD
  have h0 : a ≠ b := by
    intro e
    obtain ⟨x, l, rfl⟩ := List.exists_cons_of_ne_nil ha
    exact hne x (.head _) x (by rw [← e]; exact .head _) rfl
  rw [if_neg h0, cpl_first hne]
  simp only [List.drop_zero]
  unfold cutEnd
  rw [cpl_first (a := a.reverse) (fun x hx y hy => hne x (List.mem_reverse.mp hx) y (List.mem_reverse.mp hy)), cpl_first (a := b.reverse) (fun y hy x hx e => hne x (List.mem_reverse.mp hx) y (List.mem_reverse.mp hy) e.symm)]
  simp
theorem levD_ways {α : Type} [DecidableEq α] (cost : α → α → Int) (low : Nat) (hlow : 0 < low) (a b : List α) (ha : low ≤ a.length) (hb : low ≤ b.length) (h40 : a.length ≤ 40 ∧ b.length ≤ 40) (hne : ∀ x ∈ a, ∀ y ∈ b, x ≠ y) (mx : Int)
    (hc : ∀ (i q : Nat) x y, a[i]? = some x → b[q]? = some y → cost y x = (if i = q ∧ q < low then 1 else 2) ∧ cost x y = cost y x) (hmx : dD low a.length b.length - 1 ≤ mx) : levD cost a b mx = dD low a.length b.length := by
  have hane : a ≠ [] := by intro e; rw [e] at ha; simp at ha; omega
  have hbne : b ≠ [] := by intro e; rw [e] at hb; simp at hb; omega
  have hcomm : dD low b.length a.length = dD low a.length b.length := by unfold dD; omega
  rw [levD_noshare cost a b hne hane]
  unfold levT
  rw [if_neg (by intro h; rcases h with h | h; exact hane h; exact hbne h), if_neg (by omega)]
  by_cases h : b.length < a.length
  · rw [if_pos h, levS_ways cost low hlow b a hb (by omega) mx (fun i q x y hx hy => by
      have := hc q i y x hy hx
      rw [this.2, this.1]
      by_cases e : i = q
      · subst e; rfl
      · rw [if_neg (by omega), if_neg (by omega)]) (by rw [hcomm]; exact hmx), hcomm]
  · rw [if_neg h, levS_ways cost low hlow a b ha (by omega) mx (fun i q x y hx hy => (hc i q x y hx hy).1) hmx]
end
section
/-- law 2's tree: symbols, (low, height) ahead of each operator, the next number, height, low -/
structure H2 where
  ss : List Int
  hs : List (Int × Int)
  fr : Int
  ht : Int
  lo : Int
def hStep (S : H2) (x : Int) : H2 :=
  if x % 3 = 0 then ⟨S.ss ++ [S.fr], S.hs, S.fr + 1, S.ht + 1, S.lo⟩
  else if x % 3 = 1 ∧ 1 < S.ht then ⟨S.ss ++ [0], S.hs, S.fr, S.ht - 1, min S.lo (S.ht - 1)⟩
  else ⟨S.ss ++ [7 + x / 3 % 48], S.hs ++ [(S.lo, S.ht)], S.fr, S.ht, S.ht⟩
def H0 : H2 := ⟨[256], [], 257, 1, 1⟩
def hItems (ns : List Int) : List Int := [0, 38, 0, 62] ++ ns.take 8
def hTree (ns : List Int) : H2 := (hItems ns).foldl hStep H0
def hSyms (ns : List Int) : List Int := (hTree ns).ss ++ List.replicate (hTree ns).ht.toNat 0
def tupI (a b : Int) (u v : Tok) : Obj := { cls := .type "tuple", data := .seq #[.int a u, .int b v] }
/-- a list of pairs of ints, its tuples in the ledger -/
def IPairs (pt : List (Addr × Obj)) (vs : List Value) (ps : List (Int × Int)) : Prop :=
  vs.length = ps.length ∧ ∀ (i : Nat) (a b : Int), ps[i]? = some (a, b) → ∃ t u v, vs[i]? = some (Value.ref t) ∧ (t, tupI a b u v) ∈ pt
theorem IPairs.snoc {pt : List (Addr × Obj)} {vs : List Value} {ps : List (Int × Int)} {a b : Int} {t : Addr} {u v : Tok} (h : IPairs pt vs ps) : IPairs ((t, tupI a b u v) :: pt) (vs ++ [Value.ref t]) (ps ++ [(a, b)]) := by
  refine ⟨by simp [h.1], fun i a' b' e => ?_⟩
  by_cases hi : i < ps.length
  · rw [List.getElem?_append_left hi] at e
    obtain ⟨t', u', v', h1, h2⟩ := h.2 i a' b' e
    exact ⟨t', u', v', by rw [List.getElem?_append_left (by rw [h.1]; exact hi)]; exact h1, .tail _ h2⟩
  · have hi2 : i = ps.length := by
      have := (List.getElem?_eq_some_iff.mp e).1
      simp only [List.length_append, List.length_singleton] at this
      omega
    subst hi2
    rw [List.getElem?_concat_length] at e
    cases e
    exact ⟨t, u, v, by rw [← h.1]; exact List.getElem?_concat_length, .head _⟩
theorem IPairs.mono {pt pt' : List (Addr × Obj)} {vs : List Value} {ps : List (Int × Int)} (h : IPairs pt vs ps) (hs : ∀ p ∈ pt, p ∈ pt') : IPairs pt' vs ps :=
  ⟨h.1, fun i a b e => let ⟨t, u, v, h1, h2⟩ := h.2 i a b e; ⟨t, u, v, h1, hs _ h2⟩⟩
/-- bounds that hold along the way, k steps done -/
structure HB (S : H2) (k : Nat) : Prop where
  ss : S.ss.length = k + 1
  hs : S.hs.length ≤ k
  fr : 257 ≤ S.fr ∧ S.fr ≤ 257 + k
  ht : 1 ≤ S.ht ∧ S.ht ≤ 1 + k
  lo : 1 ≤ S.lo ∧ S.lo ≤ S.ht
  sy : ∀ n ∈ S.ss, 0 ≤ n ∧ n < 300
  hb : ∀ p ∈ S.hs, 1 ≤ p.1 ∧ p.1 ≤ p.2 ∧ p.2 ≤ 1 + k
theorem HB.zero : HB H0 0 := ⟨rfl, Nat.le_refl _, ⟨by decide, by decide⟩, ⟨by decide, by decide⟩, ⟨by decide, by decide⟩, by intro n hn; rw [List.mem_singleton.mp hn]; decide, fun p hp => nomatch hp⟩
theorem HB.step {S : H2} {k : Nat} (h : HB S k) (hk : k ≤ 20) (x : Int) : HB (hStep S x) (k + 1) := by
  obtain ⟨h1, h2, h3, h4, h5, h6, h7⟩ := h
  have hsy : ∀ n : Int, 0 ≤ n ∧ n < 300 → ∀ m ∈ S.ss ++ [n], 0 ≤ m ∧ m < 300 := by
    intro n hn m hm
    rcases List.mem_append.mp hm with hm | hm
    · exact h6 m hm
    · rw [List.mem_singleton.mp hm]; exact hn
  have hh7 : ∀ p ∈ S.hs, 1 ≤ p.1 ∧ p.1 ≤ p.2 ∧ p.2 ≤ 1 + ((k + 1 : Nat) : Int) := by
    intro p hp
    have := h7 p hp
    omega
  unfold hStep
  by_cases e1 : x % 3 = 0
  · rw [if_pos e1]
    exact ⟨by simp [h1], by simp only []; omega, by simp only []; omega, by simp only []; omega, by simp only []; omega, hsy _ (by omega), hh7⟩
  · rw [if_neg e1]
    by_cases e2 : x % 3 = 1 ∧ 1 < S.ht
    · rw [if_pos e2]
      exact ⟨by simp [h1], by simp only []; omega, by simp only []; omega, by simp only []; omega, by simp only []; omega, hsy _ (by omega), hh7⟩
    · rw [if_neg e2]
      refine ⟨by simp [h1], by simp only [List.length_append, List.length_singleton]; omega, by simp only []; omega, by simp only []; omega, by simp only []; omega, hsy _ (by omega), ?_⟩
      intro p hp
      rcases List.mem_append.mp hp with hp | hp
      · exact hh7 p hp
      · rw [List.mem_singleton.mp hp]
        simp only []
        omega
theorem HB.fold : ∀ (l : List Int) {S : H2} {k : Nat}, HB S k → k + l.length ≤ 20 → HB (l.foldl hStep S) (k + l.length)
  | [], _, _, h, _ => h
  | x :: l, S, k, h, hk => by
    have := HB.fold l (h.step (by simp only [List.length_cons] at hk; omega) x) (by simp only [List.length_cons] at hk; omega)
    rw [List.foldl_cons, List.length_cons, show k + (l.length + 1) = k + 1 + l.length by omega]
    exact this
theorem hItems_len (ns : List Int) : (hItems ns).length ≤ 12 := by
  unfold hItems
  simp only [List.length_append, List.length_take, List.length_cons, List.length_nil]
  omega
theorem HB.tree (ns : List Int) : HB (hTree ns) (hItems ns).length := by
  have := HB.fold (hItems ns) HB.zero (by have := hItems_len ns; omega)
  rw [Nat.zero_add] at this
  exact this
structure HC where
  sv : List Value
  sk : Nat
  hv : List Value
  hk : Nat
  pt : List (Addr × Obj)
  tf : Tok
  th : Tok
  tl : Tok
  S : H2
/-- the walk's state holds a tree -/
structure HInv (sa ha cl : Addr) (S : H2) (c : HC) : Prop where
  eq : c.S = S
  ss : IntsAre c.sv S.ss
  hs : IPairs c.pt c.hv S.hs
  p1 : ∀ p ∈ c.pt, @LT.lt Nat _ cl p.1
  tu : ∀ p ∈ c.pt, p.2.cls = .type "tuple"
theorem ints_oneH {vs : List Value} {ns : List Int} {a : Int} {t : Tok} (h : IntsAre vs ns) : IntsAre (vs ++ [Value.int a t]) (ns ++ [a]) := by
  induction h with
  | nil => exact .cons _ _ .nil
  | cons _ _ _ ih => exact .cons _ _ ih
def twoOfH (a b : Addr) : Obj := { cls := .type "tuple", data := .seq #[.ref a, .ref b] }
theorem HInv.next {sa ha cl T : Addr} {S S' : H2} {c : HC} {sv' : List Value} {sk' hk' : Nat} {a b : Int} {u v tf th tl : Tok} (I : HInv sa ha cl S c) (hss : IntsAre sv' S'.ss) (hhs : S'.hs = S.hs ++ [(a, b)]) (h1 : @LT.lt Nat _ cl T) :
    HInv sa ha cl S' ⟨sv', sk', c.hv ++ [Value.ref T], hk', (T, tupI a b u v) :: c.pt, tf, th, tl, S'⟩ := by
  refine ⟨rfl, hss, by rw [hhs]; exact I.hs.snoc, ?_, ?_⟩
  · intro p hp
    rcases List.mem_cons.mp hp with rfl | hp
    · exact h1
    · exact I.p1 p hp
  · intro p hp
    rcases List.mem_cons.mp hp with rfl | hp
    · rfl
    · exact I.tu p hp
end
section
section
variable {prog : Program} {w : World} {A : Around} {E : Value → Shared → Prop} {s : Shared} {h₀ : Heap} {env : Env} {x : Str} {px : Pos} {body : List Stmt} {Q : Flow → Shared → Prop}
/-- a for over a list of the ledger; in each turn the next value's number is not nought -/
theorem forListK {σ : Type} {l : Addr} {vs : List Value} {nn : Nat} {m₀ : Str → Option Value} (Led : σ → List (Addr × Obj)) (ps : σ → List (Str × Value)) (P : Nat → σ → Prop) (X : σ → Prop) (c₀ : σ)
    (hx : env.kindOf x = some .local) (hp : (env.scope.kind == .class || (env.scope.kind == .module && env.locals != env.globals)) = false)
    (hh : A.handled = none) (hl : ∀ c, (l, listOf vs.toArray nn) ∈ Led c)
    (F : Fr h₀ env.locals s.heap m₀) (N : News h₀ env.locals s.heap (Led c₀)) (hk : ∀ p ∈ ps c₀, m₀ p.1 = some p.2) (hP0 : P 0 c₀)
    (turn : ∀ i v (c : σ) (u : Str → Option Value) h tk own, vs[i]? = some v → OwnOff own ((Led c).map (·.1)) → P i c → 1 ≤ tk →
      Fr h₀ env.locals h (fun y => if y = x then some v else kstB u (ps c) y) → News h₀ env.locals h (Led c ++ own) →
      wpAny (model prog w) A (execs body env) (FPost h₀ env.locals { s with heap := h, toks := tk } Led ps (P (i + 1)) X own ((Led c).map (·.1)) "list_iterator" Q) E { s with heap := h, toks := tk })
    (done : ∀ (c : σ) (u : Str → Option Value) h tk, X c → Fr h₀ env.locals h (kstB u (ps c)) → News h₀ env.locals h (Led c) → Q .next { s with heap := h, toks := tk })
    (last : ∀ c, P vs.length c → X c)
    (hE : PassesOwn (model prog w) A env E := by passes_own) :
    wpAny (model prog w) A (pyIter (.ref l)) (fun it s₂ => codeAny (model prog w) A (.forLoop (.Name x px) it body [] env) (fun r s' => match r with | .ok f => Q f s' | .error e => cameBackBy (model prog w) A env E e s') s₂) E s := by
  have hol : s.heap.get? l = some (listOf vs.toArray nn) := (N _ (hl c₀)).1
  have hls : s.heap.IsList l vs.toArray := ⟨_, hol, rfl, nn, rfl⟩
  refine wpAny_pyIter_list hls ?_
  generalize hI : s.heap.objs.size = I
  have hI₀ : h₀.get? I = none := by rw [← hI]; exact next_is_new F
  have hIL : I ≠ env.locals := by rw [← hI]; exact Ne.symm (Nat.ne_of_lt F.ns.lt)
  have up : ∀ b o, s.heap.get? b = some o → (s.heap.push { cls := .type "list_iterator", data := .fields #[.ref l, .int 0 0] }).get? b = some o := fun b o e => Heap.get?_push_of_some _ e
  refine codeAny_forLoop (fun k s' => ∃ h' tk m' c i, s' = { s with heap := h', toks := tk } ∧ h'.IsListIter I l i ∧ Fr h₀ env.locals h' m' ∧ News h₀ env.locals h' (Led c) ∧ (∀ p ∈ Led c, p.1 ≠ I) ∧ (∀ p ∈ ps c, m' p.1 = some p.2) ∧ P i c ∧ i ≤ vs.length ∧ k = vs.length + 1 - i) ?_ (vs.length + 1)
    ⟨_, s.toks, m₀, c₀, 0, rfl, ⟨_, by rw [← hI]; exact Heap.get?_push_size _ rfl, rfl, rfl⟩, F.keeps up, fun p hp => ⟨up _ _ (N p hp).1, (N p hp).2⟩, fun p hp e => absurd (Heap.lt_size (N p hp).1) (by rw [hI, e]; exact Nat.lt_irrefl _), hk, hP0, Nat.zero_le _, rfl⟩
  rintro k s' ⟨h', tk, m', c, i, rfl, hit, F', N', hnI, hk', hP, hi, rfl⟩
  have hl' : ({ s with heap := h', toks := tk } : Shared).heap.IsList l vs.toArray := ⟨_, (N' _ (hl c)).1, rfl, nn, rfl⟩
  have hlI : l ≠ I := hnI _ (hl c)
  have next : ∀ h₁ : Heap, (∀ b o, b ≠ I → h'.get? b = some o → h₁.get? b = some o) → Fr h₀ env.locals h₁ m' ∧ News h₀ env.locals h₁ (Led c) := fun h₁ hk₁ =>
    ⟨⟨F'.ns.at' fun o e => hk₁ _ o (Ne.symm hIL) e, fun b o e => hk₁ b o (fun q => by rw [q, hI₀] at e; cases e) (F'.keep b o e), F'.above⟩, fun p hp => ⟨hk₁ _ _ (hnI p hp) (N' p hp).1, (N' p hp).2⟩⟩
  by_cases hlt : i < vs.length
  · obtain ⟨v, hv⟩ : ∃ v, vs[i]? = some v := ⟨_, List.getElem?_eq_getElem hlt⟩
    refine wpAny_pyNext_list_item hit hl' (x := v) (by simpa using hv) fun h₁ hit₁ hs₁ => ?_
    obtain ⟨F₁, N₁⟩ := next h₁ fun b o hb e => hs₁.extBut _ _ hb e
    refine wpAny_assign_Name (wpAny_storeName_local hx F₁.ns (fun h₂ hn₂ hs₂ => ?_) hp)
    have F₂ := F₁.set hn₂ hs₂
    have hit₂ : h₂.IsListIter I l (i + 1) := by
      obtain ⟨o, e, r⟩ := hit₁
      exact ⟨o, (hs₂.2 I hIL).trans e, r⟩
    obtain ⟨oI, heI, hcI, hdI⟩ := id hit₂
    have hoff : OwnOff [(I, oI)] ((Led c).map (·.1)) := by
      intro p hp b hb e
      obtain ⟨q, hq, rfl⟩ := List.mem_map.mp hb
      rw [List.mem_singleton.mp hp] at e
      exact hnI q hq e.symm
    have N₂ : News h₀ env.locals h₂ (Led c ++ [(I, oI)]) := fun p hp => by
      rcases List.mem_append.mp hp with hp | hp
      · exact (N₁.set hs₂) p hp
      · rw [List.mem_singleton.mp hp]
        exact ⟨heI, hIL, hI₀⟩
    have F₃ : Fr h₀ env.locals h₂ (fun y => if y = x then some v else kstB m' (ps c) y) := by
      rw [kstB_self hk']; exact F₂
    refine wpAny_mono (wpAny_passesOwn hE (turn i v c m' h₂ (tk + 1) [(I, oI)] hv hoff hP (Nat.le_add_left _ _) F₃ N₂)) (fun f s₃ q => ?_) fun _ _ e => e
    have fin : Ends h₀ env.locals { s with heap := h₂, toks := tk + 1 } Led ps (fun c' => P (i + 1) c' ∧ ∀ p ∈ Led c', p.1 ∈ (Led c).map (·.1) ∨ p.2.cls ≠ .type "list_iterator") [(I, oI)] s₃ →
        ∃ m, m < vs.length + 1 - i ∧ ∃ h' tk m' c i, s₃ = { s with heap := h', toks := tk } ∧ h'.IsListIter I l i ∧ Fr h₀ env.locals h' m' ∧ News h₀ env.locals h' (Led c) ∧ (∀ p ∈ Led c, p.1 ≠ I) ∧ (∀ p ∈ ps c, m' p.1 = some p.2) ∧ P i c ∧ i ≤ vs.length ∧ m = vs.length + 1 - i := by
      rintro ⟨c', h3, tk3, m3, news', rfl, F3, N3, hl3, ho3, hk3, hP3, hcl⟩
      have hI3 := (N3 (I, oI) (ho3 _ (List.mem_singleton.mpr rfl))).1
      refine ⟨vs.length + 1 - (i + 1), by omega, h3, tk3, m3, c', i + 1, rfl, ⟨oI, hI3, hcI, hdI⟩, F3, fun p hp => N3 p (hl3 p hp), fun p hp e => ?_, hk3, hP3, hlt, rfl⟩
      rcases hcl p hp with hold | hcl
      · obtain ⟨q, hq, hqe⟩ := List.mem_map.mp hold
        exact hnI q hq (hqe.trans e)
      · have h2 := (N3 p (hl3 p hp)).1
        rw [e, hI3] at h2
        exact hcl (by rw [← Option.some.inj h2]; exact hcI)
    cases f with
    | ret v => exact q
    | brk =>
      obtain ⟨c', h3, tk3, m3, news', rfl, F3, N3, hl3, -, hk3, hX⟩ := q
      exact done c' m3 h3 tk3 hX (by rw [kstB_self hk3]; exact F3) fun p hp => N3 p (hl3 p hp)
    | next => exact fin q
    | cont => exact fin q
  · have hin : i = vs.length := by omega
    subst hin
    refine wpAny_pyNext_list_end hh hit hl' (by simp) fun h₁ he => wpAny_execs_nil ?_
    obtain ⟨F₁, N₁⟩ := next h₁ fun b o hb e => he _ _ hb e
    exact done c m' h₁ tk (last c hP) (by rw [kstB_self hk']; exact F₁) N₁
end
section
open PySem.Builtin PySem.Builtin.Str
variable {prog : Program} {w : World} {A : Around} {E : Value → Shared → Prop} {s : Shared}
/-- x.replace(y, z), the next value's number kept above nought -/
theorem replaceK {x y z : Str} {t u v : Tok} {Q : Value → Shared → Prop} (hs : 1 ≤ s.toks) (hu : u ≠ 0) (hv : v ≠ 0) (huv : u ≠ v) (hyz : (y == z) = false) (hb : x.length ≤ 1000) (hz : z.length ≤ 10)
    (hq : ∀ t' k, 1 ≤ k → Q (.str (Txt.replace x y z) t') { s with toks := k }) : wpAny (model prog w) A (call (.builtin "str.replace") [.str x t, .str y u, .str z v]) Q E s := by
  have hprod : x.length + (x.length + 1) * z.length ≤ 16777216 := by
    have h1 : (x.length + 1) * z.length ≤ (x.length + 1) * 10 := Nat.mul_le_mul_left _ hz
    omega
  have hl : tooLong (x.length + (occurrences x y 0 x.length (x.length + 1)).length * z.length) = false := by
    have h1 := StrLaws.occ_length_le x y 0 x.length (x.length + 1)
    have h2 : (occurrences x y 0 x.length (x.length + 1)).length * z.length ≤ (x.length + 1) * z.length := Nat.mul_le_mul_right _ h1
    unfold tooLong
    rw [sizeLine_eq]
    exact decide_eq_false (by omega)
  refine call_gives F.slot_str_replace (typeIs_str _ _ _) F.entry_str_replace (F.args_str_replace_3 _ _ _) (gives_str_replace x y z t u v fun _ => ⟨by simp [hu, hv], by simp [huv], hyz, hl⟩) ?_
  have e : Txt.replace x y z = if ((occurrences x y 0 x.length (x.length + 1)).isEmpty || (y.length == 0 && z.length == 0)) = true then x else glued z (partsBetween x (occurrences x y 0 x.length (x.length + 1)) y.length) := rfl
  by_cases hc : ((occurrences x y 0 x.length (x.length + 1)).isEmpty || (y.length == 0 && z.length == 0)) = true
  · rw [if_pos hc]
    rw [if_pos hc] at e
    have h9 := hq t s.toks hs
    rw [e] at h9
    exact h9
  · rw [if_neg hc]
    rw [if_neg hc] at e
    refine ⟨fits_replaced y hprod, ?_⟩
    have h9 := hq s.toks (s.toks + 1) (Nat.le_add_left _ _)
    rw [e] at h9
    exact h9
end
end
section
section
open PySem.StrLaws PySem.Builtin PySem.Builtin.Str
theorem cutp {c : Nat} : ∀ {p p' t t' : List Nat}, c ∉ p → c ∉ p' → (t = [] ∨ ∃ s, t = c :: s) → (t' = [] ∨ ∃ s, t' = c :: s) → p ++ t = p' ++ t' → p = p' ∧ t = t'
  | [], [], _, _, _, _, _, _, e => ⟨rfl, e⟩
  | [], a :: p', t, t', _, h2, h3, _, e => by
    rcases h3 with rfl | ⟨s, rfl⟩
    · exact absurd e (by simp)
    · have : c = a := by simpa using congrArg List.head? e
      exact absurd (this ▸ List.mem_cons_self) h2
  | a :: p, [], t, t', h1, _, _, h4, e => by
    rcases h4 with rfl | ⟨s, rfl⟩
    · exact absurd e (by simp)
    · have : a = c := by simpa using congrArg List.head? e
      exact absurd (this ▸ List.mem_cons_self) h1
  | a :: p, b :: p', t, t', h1, h2, h3, h4, e => by
    rw [List.cons_append, List.cons_append] at e
    injection e with e1 e2
    obtain ⟨r1, r2⟩ := cutp (fun h => h1 (.tail _ h)) (fun h => h2 (.tail _ h)) h3 h4 e2
    exact ⟨by rw [e1, r1], r2⟩
theorem tails {c : Nat} (r : List Str) : r.flatMap (fun q => c :: q.cps.toList) = [] ∨ ∃ s, r.flatMap (fun q => c :: q.cps.toList) = c :: s := by
  cases r with
  | nil => exact .inl rfl
  | cons q r => exact .inr ⟨_, rfl⟩
theorem uniq {c : Nat} : ∀ {r r' : List Str} {p p' : Str}, (∀ q ∈ p :: r, c ∉ q.cps.toList) → (∀ q ∈ p' :: r', c ∉ q.cps.toList) → p.cps.toList ++ r.flatMap (fun q => c :: q.cps.toList) = p'.cps.toList ++ r'.flatMap (fun q => c :: q.cps.toList) → p :: r = p' :: r'
  | r, r', p, p', h1, h2, e => by
    obtain ⟨e1, e2⟩ := cutp (h1 p (.head _)) (h2 p' (.head _)) (tails r) (tails r') e
    have ep := str_ext e1
    cases r with
    | nil =>
      cases r' with
      | nil => rw [ep]
      | cons q' r' => simp at e2
    | cons q r =>
      cases r' with
      | nil => simp at e2
      | cons q' r' =>
        rw [List.flatMap_cons, List.flatMap_cons, List.cons_append, List.cons_append] at e2
        injection e2 with _ e2
        rw [ep, uniq (fun z hz => h1 z (.tail _ hz)) (fun z hz => h2 z (.tail _ hz)) e2]
theorem join_tail (c : Nat) : ∀ (r : List Str) (p : Str), (Str.join ⟨#[c]⟩ (p :: r)).cps.toList = p.cps.toList ++ r.flatMap (fun q => c :: q.cps.toList)
  | [], p => by show p.cps.toList = _; simp
  | q :: r, p => by
    show (p ++ ⟨#[c]⟩ ++ Str.join ⟨#[c]⟩ (q :: r)).cps.toList = _
    rw [Str.cps_append, Str.cps_append, Array.toList_append, Array.toList_append, join_tail c r q, List.flatMap_cons]
    simp
theorem split_ne (x y : Str) : ∃ p r, Txt.split x y = p :: r := by
  unfold Txt.split
  split
  · exact ⟨_, _, rfl⟩
  · split
    · exact ⟨_, _, rfl⟩
    · rw [partsBetween_eq]; exact partsFrom_ne ..
theorem split_at {x p : Str} {c : Nat} {r : List Str} (h1 : ∀ q ∈ p :: r, c ∉ q.cps.toList) (e : x.cps.toList = p.cps.toList ++ r.flatMap (fun q => c :: q.cps.toList)) : Txt.split x ⟨#[c]⟩ = p :: r := by
  obtain ⟨q, s, hs⟩ := split_ne x ⟨#[c]⟩
  have hf := split_free x c
  have hj := join_split x ⟨#[c]⟩
  rw [hs] at hf hj ⊢
  have := congrArg (fun z : Str => z.cps.toList) hj
  simp only [join_tail] at this
  exact uniq hf h1 (this.trans e)
theorem split_max1 {x p q : Str} {c : Nat} (hc : c < 256) (hp : c ∉ p.cps.toList) (e : x.cps.toList = p.cps.toList ++ c :: q.cps.toList) : Txt.splitMax x ⟨#[c]⟩ 1 = [p, q] := by
  have hl : x.length = p.cps.toList.length + 1 + q.cps.toList.length := by
    have := congrArg List.length e
    simp only [List.length_append, List.length_cons] at this
    have e2 : x.length = x.cps.toList.length := by simp [Str.length]
    omega
  have hat : ∀ i, At x ⟨#[c]⟩ x.length i ↔ x.cps.toList[i]? = some c := fun i => subAt_one x c i
  have hpi : At x ⟨#[c]⟩ x.length p.cps.toList.length := (hat _).mpr (by rw [e]; simp)
  unfold Txt.splitMax
  have k1 : Builtin.Str.strKind ⟨#[c]⟩ = 1 := by unfold Builtin.Str.strKind; rw [if_pos (by simpa using hc)]
  have k2 : 1 ≤ Builtin.Str.strKind x := by unfold Builtin.Str.strKind; split; exact Nat.le_refl _; split <;> decide
  have l1 : (⟨#[c]⟩ : Str).length = 1 := rfl
  rw [if_neg (by rw [k1, l1]; simp; omega)]
  have hlim : limitOf x 1 = 1 := rfl
  rw [hlim]
  rcases occ_head x ⟨#[c]⟩ 1 (Nat.le_refl _) with ⟨_, hn⟩ | ⟨i, r, he, hi, hn⟩
  · exact absurd hpi (hn _)
  · have hr : r = [] := by
      have := occ_length_le x ⟨#[c]⟩ 0 x.length 1
      rw [he, List.length_cons] at this
      exact List.length_eq_zero_iff.mp (by omega)
    have hip : i = p.cps.toList.length := by
      rcases Nat.lt_trichotomy i p.cps.toList.length with h | h | h
      · have := (hat i).mp hi
        rw [e, List.getElem?_append_left h] at this
        exact absurd (List.mem_of_getElem? this) hp
      · exact h
      · exact absurd hpi (hn _ h)
    rw [he, hr, if_neg (by simp), partsBetween_eq]
    show [strSub x 0 i, strSub x (i + 1) x.length] = _
    have e1 : strSub x 0 i = p := str_ext (by rw [strSub_toList, e, hip]; simp)
    have e2 : strSub x (i + 1) x.length = q := str_ext (by
      rw [strSub_toList, e, hip, hl]
      rw [List.drop_append, List.drop_eq_nil_of_le (by omega), List.nil_append, show p.cps.toList.length + 1 - p.cps.toList.length = 1 by omega]
      simp only [List.drop_succ_cons, List.drop_zero]
      exact List.take_of_length_le (by omega))
    rw [e1, e2]
end
end
section
theorem lay_2 : True := by
  k_with "my:ne" => first | exact inferInstance | exact ne_world | exact ne_shared | (refine ne_prod ?_ ?_ <;> k_extra "my:ne")
  exact True.intro
local macro_rules | `(tactic| walk_at "g1") => `(tactic| (refine gen_all (ne := ?gN) (P := ?gP) ((?gf : ∀ a, ?gP a) (gen ?gN ?gP)); (case gN => k_extra "my:ne")))
local macro_rules | `(tactic| walk_at "g2") => `(tactic| (refine gen_all2 (ne := ?gN) (P := ?gP) ((?gf : ∀ a0 a1, ?gP a0 a1) (gen2 ?gN ?gP).1 (gen2 ?gN ?gP).2); (case gN => k_extra "my:ne")))
local macro_rules | `(tactic| walk_at "g3") => `(tactic| (refine gen_all3 (ne := ?gN) (P := ?gP) ((?gf : ∀ a0 a1 a2, ?gP a0 a1 a2) (gen3 ?gN ?gP).1 (gen3 ?gN ?gP).2.1 (gen3 ?gN ?gP).2.2); (case gN => k_extra "my:ne")))
local macro_rules | `(tactic| walk_at "g4") => `(tactic| (refine gen_all4 (ne := ?gN) (P := ?gP) ((?gf : ∀ a0 a1 a2 a3, ?gP a0 a1 a2 a3) (gen4 ?gN ?gP).1 (gen4 ?gN ?gP).2.1 (gen4 ?gN ?gP).2.2.1 (gen4 ?gN ?gP).2.2.2); (case gN => k_extra "my:ne")))
local macro_rules | `(tactic| walk_at "g5") => `(tactic| (refine gen_all5 (ne := ?gN) (P := ?gP) ((?gf : ∀ a0 a1 a2 a3 a4, ?gP a0 a1 a2 a3 a4) (gen5 ?gN ?gP).1 (gen5 ?gN ?gP).2.1 (gen5 ?gN ?gP).2.2.1 (gen5 ?gN ?gP).2.2.2.1 (gen5 ?gN ?gP).2.2.2.2); (case gN => k_extra "my:ne")))
local macro_rules | `(tactic| k_lt $h:ident) => `(tactic| skip)
theorem lay_3 : True := by
  k_with "my:k_ne" => (refine neN ?_; (try dsimp only); first | (refine ne_lo (o := _) (by assumption) (by k_extra "my:mem1")) | (refine ne_hi (o := _) (by assumption) (by k_extra "my:mem1")) | (refine ne_al (o := _) (by assumption) (by k_extra "my:mem1")) | (refine ne_ar (o := _) (by assumption) (by k_extra "my:mem1")) | assumption | exact Ne.symm (by assumption) | k_extra "my:ne2" | omega)
  k_with "my:k_all" => first | assumption | exact all_lo (by assumption) (by k_extra "my:sub")
  k_with "my:sub" => first | exact fun _ h => h | (refine fun p hp => List.mem_cons_of_mem _ ?_; revert hp; revert p; k_extra "my:sub")
  exact True.intro
theorem lay_4 : True := by
  k_with "my:execs cons" => ((with_reducible refine wpAny_execs_cons ?_); (try dsimp only); (try (with_reducible refine toks_gen ?_; walk_at "g1"; intro _)))
  k_with "my:storeName" => (k_here; k_dflt (refine storeX_L (by k_asm) (by k_asm) ?_ (by rfl) (by rfl); k_whole; walk_at "g1"; intro _ _ _; (try k_sweep)))
  k_with "my:newList" => (k_here; k_dflt (refine newList_K (by k_asm) (by k_asm) ?_; k_whole); walk_at "g2"; intros _ _; intro _ _ _; (try k_sweep))
  k_with "my:call builtin:list.append" => (k_here; (with_reducible show wpAny _ _ (call (Value.builtin _) [Value.ref _, _]) _ _ _); k_dflt (refine append_K (by k_asm) (by k_asm) (by k_upd) ?_ (by size_fits); k_whole); walk_at "g1"; intro _ _ _; (try k_sweep))
  k_with "my:setAttr ref" => (k_here; k_dflt (refine set_dict (by k_asm) (by k_asm) (by k_asm) (by k_inst) (by exact rfl) (by k_is) (by k_is) (by k_is) (by k_is) (by k_get) (by k_put) (by k_upd) (by exact Nat.le_of_ble_eq_true rfl) ?_; k_whole; walk_at "g1"; intro _ _ _; (try k_sweep)))
  k_with "my:storeC" => (k_dflt (refine storeX_C (by k_asm) (by k_asm) (by rfl) (by k_updF) (by k_asm) ?_ rfl rfl; k_whole; walk_at "g2"; intros _ _; walk_at "dsN"))
  k_with "my:storeName" => (k_here; first | k_dflt (refine storeX_L (by k_asm) (by k_asm) ?_ (by rfl) (by rfl); k_whole; walk_at "g1"; intro _ _ _; (try k_sweep)) | k_extra "my:storeC")
  k_with "my:eval Dict nil nil" => (k_here; k_dflt (refine newDict_K (by k_asm) (by k_asm) (TopRead.nolimit (by k_asm)) ?_; k_whole); walk_at "g3"; intros _ _ _; intro _ _ _ _ _ _ _ _; (try k_sweep))
  k_with "my:call builtin:str.split" => ((refine splitN2A (hsz := by size_fits) (by k_asm) (by k_asm) (by first | rfl | assumption) (by first | decide | exact fitsIdx (N := 9223372036854775808) (by omega) (by omega) (Int.le_refl _)) ?_); walk_at "g3"; intros _ _ _; intro _ _ _ _ _ _)
  k_with "my:binaryOp Add str str" => ((refine SBL.add (hsz := by size_fits) ?_); walk_at "g2"; intros _ _; intro _)
  k_with "my:formatField str" => (refine formatField_str ?_; walk_at "g2"; intros _ _)
  k_with "my:newTuple" => (k_here; kup_bare; k_dflt (refine kup_newTuple (by k_asm) (by k_asm) ?_ (by kmk_size)); walk_at "g2"; intros _ _; intro _ _ _; (try k_sweep))
  k_with "my:kbm" => (k_here; k_dflt (refine kbm_bound (by k_asm) (by k_asm) (by k_asm) (by k_inst) (by k_is) (by k_is) (by k_is) (by k_is) (by k_is) (by k_is) (by decide +kernel) (by k_get) ?_; k_whole); walk_at "g2"; intros _ _; intro _ _ _; (try k_sweep))
  k_with "my:rg1_0" => (rename_i a1; revert a1; walk_at "g1"; intro _)
  k_with "my:rg1_2" => (rename_i a1 b1 b2; revert a1 b1 b2; walk_at "g1"; intro _ _ _; (try k_sweep))
  k_with "my:rg1_5" => (rename_i a1 b1 b2 b3 b4 b5; revert a1 b1 b2 b3 b4 b5; walk_at "g1"; intro _ _ _ _ _ _; (try k_sweep))
  k_with "my:rg2_2" => (rename_i a1 a2 b1 b2; revert a1 a2 b1 b2; walk_at "g2"; intros _ _; intro _ _; (try k_sweep))
  k_with "my:rg5_4" => (rename_i a1 a2 a3 a4 a5 b1 b2 b3 b4; revert a1 a2 a3 a4 a5 b1 b2 b3 b4; walk_at "g5"; intros _ _ _ _ _; intro _ _ _ _; (try k_sweep))
  k_with "my:call builtin:min cons" => ((first | with_reducible walk_at "call builtin:min" | walk_at "call builtin:min"); k_extra "my:rg2_2")
  k_with "my:call type:range cons" => ((first | with_reducible walk_at "call type:range" | walk_at "call type:range"); k_extra "my:rg5_4")
  k_with "my:setItem ref int int" => ((first | with_reducible walk_at "setItem ref int" | walk_at "setItem ref int"); k_extra "my:rg1_5")
  k_with "my:unpackItems ref" => (k_here; k_dflt (refine unpackItemsN_ (by k_asm) (by k_asm) (by kun_tup) (by exact rfl) (by exact rfl) ?_; k_whole); walk_at "g1"; intro _ _ _; (try k_sweep))
  k_with "my:subscriptTail Name Slice str ref" => ((with_reducible show wpAny _ _ (subscriptTail _ (PySem.Expr.Slice none (some _) none _) _ _) _ _ _); refine slice_strN_ns_len (s := ⟨_, _, _, _, _⟩) (by k_asm) (by k_asm) ?_; walk_at "g3"; intros _ _ _; intro _ _ _)
  k_with "my:subscriptTail Name Slice str ref" => ((with_reducible show wpAny _ _ (subscriptTail _ (PySem.Expr.Slice (some _) none none _) _ _) _ _ _); refine slice_strN_sn_len (s := ⟨_, _, _, _, _⟩) (by k_asm) (by k_asm) ?_; walk_at "g3"; intros _ _ _; intro _ _ _)
  k_with "my:subscriptTail Name Slice str ref" => ((with_reducible show wpAny _ _ (subscriptTail _ (PySem.Expr.Slice none (some (PySem.Expr.BoolOp _ _ _)) none _) _ _) _ _ _); (refine slice_all_step (s := ⟨_, _, _, _, _⟩) (by k_asm) (by k_asm) ?_); walk_at "g3"; intros _ _ _; intro _ _)
  k_with "my:rg2_3" => (rename_i a1 a2 b1 b2 b3; revert a1 a2 b1 b2 b3; walk_at "g2"; intros _ _; intro _ _ _; (try k_sweep))
  k_with "my:assign Tuple cons ref" => ((first | with_reducible walk_at "assign Tuple" | walk_at "assign Tuple"); k_extra "my:rg1_2")
  k_with "my:call builtin:set.add cons" => ((first | with_reducible walk_at "call builtin:set.add" | walk_at "call builtin:set.add"); k_extra "my:rg2_3")
  k_with "my:truthy str" => (k_here; (with_reducible show wpAny _ _ (PySem.truthy (Value.str _ _)) _ _ _); (refine KXt.truthy (by k_dflt kxw_bool) (by decide +kernel) ?_); walk_at "g1"; intro _)
  exact True.intro
section
def subcost (x y : Str) : Int := if x == y then 0 else if Txt.lower x == Txt.lower y then 1 else 2
theorem con_sub (w : World) (x y : Str) (t u : Tok) (hx : x.length ≤ 100) (hy : y.length ≤ 100) (news : List (Addr × Obj)) :
    Con PySem.Challenge.rw_tv0054_02.row.prog w (Mine.hd0.heap_1_41 w.params) 76 700 6000 [.str x t, .str y u] news (fun v n => (∃ t, v = .int (subcost x y) t) ∧ n = news) := by
  revert w x y t u hx hy news
  walk_at "g5"
  intros w x y t u
  intro hx hy
  walk_at "g1"
  intro news
  w_top off
  k_fill
  refine' Con.of (binds := [("ch_a", .str x t), ("ch_b", .str y u)]) ?k6 ?k7 ?k8 ?k9 ?kB ?kN ?c2 ?c3 ?c4 ?c5 ?_
  (( (case k6 => k_is); (case k7 => k_is); (case k8 => decide); (case k9 => (intro s9 X9; first | exact BindsTo.of_eq rfl | exact binds_K X9 rfl (by k_is) rfl rfl rfl | (refine kp_binds X9 ?_; exact fun _ => rfl))); (case kB => exact locs rfl); (case kN => (simp only [List.map_cons, List.map_nil]; decide)); (case c2 => exact rfl); (case c3 => exact rfl); (case c4 => exact rfl); (case c5 => decide); k_with "WPost" => dsimp only [WPost]; k_with "FPost" => dsimp only [FPost]))
  ((refine gen_all10 (ne := ?gN_2) (P := ?gP_2) ((?gf_2 : ∀ a0 a1 a2 a3 a4 a5 a6 a7 a8 a9, ?gP_2 a0 a1 a2 a3 a4 a5 a6 a7 a8 a9) (gen10 ?gN_2 ?gP_2).1 (gen10 ?gN_2 ?gP_2).2.1 (gen10 ?gN_2 ?gP_2).2.2.1 (gen10 ?gN_2 ?gP_2).2.2.2.1 (gen10 ?gN_2 ?gP_2).2.2.2.2.1 (gen10 ?gN_2 ?gP_2).2.2.2.2.2.1 (gen10 ?gN_2 ?gP_2).2.2.2.2.2.2.1 (gen10 ?gN_2 ?gP_2).2.2.2.2.2.2.2.1 (gen10 ?gN_2 ?gP_2).2.2.2.2.2.2.2.2.1 (gen10 ?gN_2 ?gP_2).2.2.2.2.2.2.2.2.2); (case gN_2 => k_extra "my:ne")))
  intros p loose mean mg mb gd cn cs a ccd
  ((refine gen_all10 (ne := ?gN_3) (P := ?gP_3) ((?gf_3 : ∀ a0 a1 a2 a3 a4 a5 a6 a7 a8 a9, ?gP_3 a0 a1 a2 a3 a4 a5 a6 a7 a8 a9) (gen10 ?gN_3 ?gP_3).1 (gen10 ?gN_3 ?gP_3).2.1 (gen10 ?gN_3 ?gP_3).2.2.1 (gen10 ?gN_3 ?gP_3).2.2.2.1 (gen10 ?gN_3 ?gP_3).2.2.2.2.1 (gen10 ?gN_3 ?gP_3).2.2.2.2.2.1 (gen10 ?gN_3 ?gP_3).2.2.2.2.2.2.1 (gen10 ?gN_3 ?gP_3).2.2.2.2.2.2.2.1 (gen10 ?gN_3 ?gP_3).2.2.2.2.2.2.2.2.1 (gen10 ?gN_3 ?gP_3).2.2.2.2.2.2.2.2.2); (case gN_3 => k_extra "my:ne")))
  intros cl outer base g h₁ L' L₀ s tk R
  intro F' N' B' X' T'
  k_extra "my:go"
  all_goals ((((try dsimp only); refine ⟨_, _, _, _, _, _, rfl, by k_asm, by k_asm, (by first | (((try dsimp only); k_extra "my:inl")) | exact fun _ h => h), ?_⟩)); exact ⟨ktn_int (by simp [subcost, *]), rfl⟩)
end
section
def StopIf : Prop := True
theorem lay_5 : True := by
  k_with "my:exec If" => ((fail_if_success k_extra "off25"); ((with_reducible have mk9 : StopIf := by assumption); clear mk9; (with_reducible show wpAny _ _ (exec (PySem.Stmt.If _ [PySem.Stmt.Assign [PySem.Expr.Tuple _ _ _] _ _] _ _) _) _ _ _); (with_reducible refine stop_in ?_)))
  k_with "my:call type:list" => ((fail_if_success k_extra "off25"); (with_reducible refine stop_in ?_))
  k_with "my:pyIter ref" => ((fail_if_success k_extra "off25"); ((with_reducible show wpAny _ _ (pyIter (Value.ref _)) (fun it s₂ => LoopAtV _ _ _ _ _ _ _ _ _ it s₂) _ _); (with_reducible refine stop_in ?_)))
  k_with "my:last pyIter ref" => ((fail_if_success k_extra "off25"); ((with_reducible show wpAny _ _ (pyIter (Value.ref _)) (fun it s₂ => LoopAtV _ _ _ _ _ _ _ _ _ it s₂) _ _); (with_reducible refine stop_in ?_)))
  k_with "my:cs" => ((fail_if_success k_extra "off25"); (k_dflt refine Con.useT (con_sub _ _ _ _ _ (by assumption) (by assumption) _) (by k_extra "my:us1") (by k_extra "my:us1") (by k_asm) (by k_asm) (by k_asm) (by k_asm) (by k_asm) (by k_extra "my:us2") ?_; walk_at "g3"; intros _ _ _; intro _ _; k_sweep))
  k_with "my:call ref" => ((fail_if_success k_extra "off25"); ((with_reducible show wpAny _ _ (call (Value.ref _) [_, _]) _ _ _); k_extra "my:cs"))
  exact True.intro
theorem strsAre_length_ {vs : List Value} {ys : List Str} (h : StrsAre vs ys) : vs.length = ys.length := by
  induction h with
  | nil => rfl
  | cons _ _ _ ih => simp [ih]
theorem st_same : ∀ as bs : List Str, PySem.Spec.sameAll (as.map PyData.str) (bs.map PyData.str) = decide (as = bs)
  | [], [] => by simp [PySem.Spec.sameAll]
  | [], _ :: _ => by simp [PySem.Spec.sameAll]
  | _ :: _, [] => by simp [PySem.Spec.sameAll]
  | x :: as, y :: bs => by
    simp only [List.map_cons, PySem.Spec.sameAll, PySem.Spec.same, st_same as bs]
    by_cases h : x = y
    · subst h; simp
    · simp [h]
section
variable {prog : Program} {w : World} {A : Around} {E : Value → Shared → Prop} {s : Shared} {h₀ : Heap} {L : Addr} {m : Str → Option Value} {news : List (Addr × Obj)} {Q : Value → Shared → Prop}
theorem eq_strs {a b : Addr} {xs ys : List Value} {as bs : List Str} (ha : s.heap.IsList a xs.toArray) (hb : s.heap.IsList b ys.toArray) (hi : StrsAre xs as) (hj : StrsAre ys bs) (hok : ∀ y ∈ as, PyData.strOk y = true) (hok2 : ∀ y ∈ bs, PyData.strOk y = true)
    (hu : A.units + 64 < cLine) (h : Q (.bool (decide (as = bs))) s) : wpAny (model prog w) A (compareOp .Eq (.ref a) (.ref b)) Q E s :=
  eq_dataH_same (reads_newData ha (st_carried hi)) (reads_newData hb (st_carried hj)) (st_shaped _ hok) (st_shaped _ hok2) hu
    (SeqAt.noMix_of_shape (.list .str) rfl _ _ (list_map_has fun _ => rfl) (list_map_has fun _ => rfl)) (by
      have e : PySem.Spec.same (.list (as.map PyData.str)) (.list (bs.map PyData.str)) = decide (as = bs) := by
        rw [← st_same]; simp [PySem.Spec.same]
      rw [e]; exact h)
/-- x[0:], x[:] of a list of the ledger -/
theorem slice_whole {value slice : PySem.Expr} {l : Addr} {vs : List Value} {n : Nat} {vl vu : Value} (F : Fr h₀ L s.heap m) (N : News h₀ L s.heap news) (hm : (l, listOf vs.toArray n) ∈ news)
    (hp : ∃ lo hi, IsPart vl lo ∧ IsPart vu hi ∧ slicePick vs.toArray lo hi none = vs.toArray) (hsz : vs.length ≤ 1000)
    (h : ∀ D h', Fr h₀ L h' m → News h₀ L h' ((D, listOf vs.toArray 0) :: news) → (∀ p ∈ news, p.1 < D) → Q (.ref D) { s with heap := h' })
    (hs : subscripted slice false (.ref l) (.ref s.heap.objs.size) = operate [.ref s.heap.objs.size, .ref l] (getItem (.ref l) (.ref s.heap.objs.size)) := by with_unfolding_all rfl)
    (ht : ∀ r, letTemporaryGo value (.ref l) r = pure () := by intro _; with_unfolding_all rfl) :
    wpAny (model prog w) A (subscriptTail value slice (.ref l) (.ref s.heap.objs.size)) Q E { s with heap := s.heap.push { cls := .type "slice", data := .fields #[vl, vu, .none] } } := by
  obtain ⟨lo, hi, pl, pu, he⟩ := hp
  refine slice_list F N ⟨_, (N _ hm).1, rfl, _, rfl⟩ pl pu (fun h' F' N' => ?_) hs ht (by rw [sizeLine_eq]; simp only [List.size_toArray]; omega)
  rw [he] at N'
  exact h _ h' F' N' fun p hp => Nat.lt_succ_of_lt (Heap.lt_size (N p hp).1)
theorem pick_from (vs : List Value) (t : Tok) : ∃ lo hi, IsPart (.int 0 t) lo ∧ IsPart .none hi ∧ slicePick vs.toArray lo hi none = vs.toArray :=
  ⟨some 0, none, .int _ _, .none, by have := slicePick_from' vs.toArray 0; simpa using this⟩
theorem pick_all (vs : List Value) : ∃ lo hi, IsPart .none lo ∧ IsPart .none hi ∧ slicePick vs.toArray lo hi none = vs.toArray :=
  ⟨none, none, .none, .none, slicePick_all _⟩
theorem strs_get {vs : List Value} {ys : List Str} (h : StrsAre vs ys) : ∀ {k : Nat} {y : Str}, ys[k]? = some y → ∃ t, vs[k]? = some (.str y t) := by
  induction h with
  | nil => intro k y e; simp at e
  | @cons z t vs ys h ih =>
    intro k y e
    cases k with
    | zero => simp only [List.getElem?_cons_zero, Option.some.injEq] at e; subst e; exact ⟨t, rfl⟩
    | succ k => simpa using ih (by simpa using e)
theorem item_strs {value slice : PySem.Expr} {l : Addr} {vs : List Value} {n : Nat} {ys : List Str} {k : Int} {u : Tok} {y : Str} (N : News h₀ L s.heap news) (hm : (l, listOf vs.toArray n) ∈ news) (hi : StrsAre vs ys) (h0 : 0 ≤ k) (h1 : k < 1000) (hy : ys[k.toNat]? = some y)
    (h : ∀ t, vs[k.toNat]? = some (.str y t) → Q (.str y t) s)
    (hs : subscripted slice false (.ref l) (.int k u) = operate [.ref l, .int k u] (getItem (.ref l) (.int k u)) := by with_unfolding_all rfl) (hg : ∀ r, letTemporaryGo value (.ref l) r = pure () := by intro _; with_unfolding_all rfl) :
    wpAny (model prog w) A (subscriptTail value slice (.ref l) (.int k u)) Q E s := by
  obtain ⟨t, ht⟩ := strs_get hi hy
  exact item_listL ⟨_, (N _ hm).1, rfl, _, rfl⟩ h0 (by omega) ht (h t ht) hs hg
/-- the last text of a list: x[-1] -/
theorem last_strs {value slice : PySem.Expr} {l : Addr} {vs : List Value} {n : Nat} {ys : List Str} {u : Tok} {y : Str} (N : News h₀ L s.heap news) (hm : (l, listOf vs.toArray n) ∈ news) (hi : StrsAre vs ys) (h1 : ys.length < 1000) (hy : ys[ys.length - 1]? = some y)
    (h : ∀ t, Q (.str y t) s)
    (hs : subscripted slice false (.ref l) (.int (-1) u) = operate [.ref l, .int (-1) u] (getItem (.ref l) (.int (-1) u)) := by with_unfolding_all rfl) (hg : ∀ r, letTemporaryGo value (.ref l) r = pure () := by intro _; with_unfolding_all rfl) :
    wpAny (model prog w) A (subscriptTail value slice (.ref l) (.int (-1) u)) Q E s := by
  obtain ⟨t, ht⟩ := strs_get hi hy
  have hl := strsAre_length_ hi
  have h0 : ys.length - 1 < ys.length := (List.getElem?_eq_some_iff.mp hy).1
  refine subscriptTail_builtin (Heap.IsList.typeIs (⟨_, (N _ hm).1, rfl, _, rfl⟩ : s.heap.IsList l vs.toArray)) slot_list_getitem.lookup (wpAny_getItem_list_neg ⟨_, (N _ hm).1, rfl, _, rfl⟩ (by decide) (by simp only [List.size_toArray]; omega) (by decide) ?_ (h t)) hs hg
  simp only [List.size_toArray, List.getElem?_toArray]
  rw [show (-1 + (vs.length : Int)).toNat = ys.length - 1 by omega]
  exact ht
theorem truthy_full {l : Addr} {vs : List Value} {n : Nat} {Q : Bool → Shared → Prop} (N : News h₀ L s.heap news) (hm : (l, listOf vs.toArray n) ∈ news) (h0 : 0 < vs.length) (h1 : vs.length ≤ 1000) (h : ∀ k, Q true { s with toks := k }) : wpAny (model prog w) A (PySem.truthy (.ref l)) Q E s := by
  refine wpAny_truthy_list (l := l) (items := vs.toArray) ⟨_, (N _ hm).1, rfl, _, rfl⟩ (by simp only [List.size_toArray]; omega) ?_
  have e : (!(vs.toArray).isEmpty) = true := by
    cases vs with
    | nil => simp at h0
    | cons v vs => rfl
  rw [e]
  exact h _
end
theorem lay_6 : True := by
  k_with "my:compareOp Eq ref ref" => ((fail_if_success k_extra "off25"); (with_reducible refine stop_in ?_))
  k_with "my:subscriptTail Name Slice ref ref" => ((fail_if_success k_extra "off25"); ((with_reducible show wpAny _ _ (subscriptTail _ (PySem.Expr.Slice _ _ none _) (Value.ref _) (Value.ref _)) _ _ _); k_dflt (refine slice_whole (s := ⟨_, _, _, _, _⟩) (by k_asm) (by k_asm) (by k_extra "my:mem") (by first | exact pick_from _ _ | exact pick_all _) (by omega) ?_); walk_at "g2"; intros _ _; intro _ _ _; (try k_sweep)))
  k_with "my:truthy ref" => ((fail_if_success k_extra "off25"); ((with_reducible show wpAny _ _ (PySem.truthy (Value.ref _)) _ _ _); k_dflt (refine truthy_full (by k_asm) (by k_extra "my:mem") (by omega) (by omega) ?_); walk_at "g1"; intro _))
  k_with "my:subscriptTail Name Name ref int" => ((fail_if_success k_extra "off25"); ((with_reducible show wpAny _ _ (subscriptTail (PySem.Expr.Name (Str.ofString "a") _) _ _ _) _ _ _); (with_reducible refine stop_in ?_)))
  k_with "my:subscriptTail Name Name ref int" => ((fail_if_success k_extra "off25"); ((with_reducible show wpAny _ _ (subscriptTail (PySem.Expr.Name (Str.ofString "b") _) _ _ _) _ _ _); (with_reducible refine stop_in ?_)))
  k_with "my:subscriptTail Name BinOp ref int" => ((fail_if_success k_extra "off25"); (with_reducible refine stop_in ?_))
  exact True.intro
/-- the two lists as the table's loops find them -/
structure LevIn (as bs : List Str) (b : Int) (news : List (Addr × Obj)) (A : Addr) (va : List Value) (as2 : List Str) (B : Addr) (vb : List Value) (bs2 : List Str) : Prop where
  hA : StrsAre va as2
  hB : StrsAre vb bs2
  hp : 0 < as2.length
  hab : as2.length ≤ bs2.length
  h30 : bs2.length ≤ 30
  hsa : ∀ y ∈ as2, y.length ≤ 100
  hsb : ∀ y ∈ bs2, y.length ≤ 100
  lA : ∀ p ∈ news, @LT.lt Nat _ p.1 A
  lB : ∀ p ∈ news, @LT.lt Nat _ p.1 B
  ne : @Ne Nat A B
  eq : levT subcost as bs b = levS subcost as2 bs2 b
theorem con_levL (w : World) (la lb : Addr) (va vb : List Value) (na nb : Nat) (as bs : List Str) (b : Int) (tb : Tok) (hA : StrsAre va as) (hB : StrsAre vb bs) (hoa : ∀ y ∈ as, PyData.strOk y = true) (hob : ∀ y ∈ bs, PyData.strOk y = true) (hne : ∀ x ∈ as, ∀ y ∈ bs, x ≠ y) (ha0 : as ≠ []) (hb0 : bs ≠ [])
    (hla : as.length ≤ 30) (hlb : bs.length ≤ 30) (hsa : ∀ y ∈ as, y.length ≤ 100) (hsb : ∀ y ∈ bs, y.length ≤ 100) (hb : -1000 ≤ b ∧ b ≤ 100000) (news : List (Addr × Obj)) (hma : (la, listOf va.toArray na) ∈ news) (hmb : (lb, listOf vb.toArray nb) ∈ news) :
    Con PySem.Challenge.rw_tv0054_02.row.prog w (Mine.hd0.heap_1_41 w.params) 83 600 5000 [.ref la, .ref lb, .int b tb] news (fun v n => (∃ t, v = .int (levD subcost as bs b) t) ∧ n = news) := by
  rw [levD_noshare subcost as bs hne ha0]
  obtain ⟨x0, as', has⟩ := List.exists_cons_of_ne_nil ha0
  obtain ⟨y0, bs', hbs⟩ := List.exists_cons_of_ne_nil hb0
  have hxy : x0 ≠ y0 := hne x0 (by rw [has]; exact .head _) y0 (by rw [hbs]; exact .head _)
  obtain ⟨x9, hx9⟩ : ∃ x9, as[as.length - 1]? = some x9 := ⟨_, List.getElem?_eq_getElem (by rw [has]; simp)⟩
  obtain ⟨y9, hy9⟩ : ∃ y9, bs[bs.length - 1]? = some y9 := ⟨_, List.getElem?_eq_getElem (by rw [hbs]; simp)⟩
  have hxy9 : x9 ≠ y9 := hne x9 (List.mem_of_getElem? hx9) y9 (List.mem_of_getElem? hy9)
  have h0a : as[(0 : Int).toNat]? = some x0 := by rw [has]; rfl
  have h0b : bs[(0 : Int).toNat]? = some y0 := by rw [hbs]; rfl
  have hvla := strsAre_length_ hA
  have hvlb := strsAre_length_ hB
  have hpa : 0 < as.length := List.length_pos_iff.mpr ha0
  have hpb : 0 < bs.length := List.length_pos_iff.mpr hb0
  clear has hbs as' bs'
  revert w la lb va vb na nb as bs b tb hA hB hoa hob hne ha0 hb0 hla hlb hsa hsb hb news hma hmb x0 y0 hxy x9 hx9 y9 hy9 hxy9 h0a h0b hvla hvlb hpa hpb
  ((refine gen_all7 (ne := ?gN_6) (P := ?gP_6) ((?gf_6 : ∀ a0 a1 a2 a3 a4 a5 a6, ?gP_6 a0 a1 a2 a3 a4 a5 a6) (gen7 ?gN_6 ?gP_6).1 (gen7 ?gN_6 ?gP_6).2.1 (gen7 ?gN_6 ?gP_6).2.2.1 (gen7 ?gN_6 ?gP_6).2.2.2.1 (gen7 ?gN_6 ?gP_6).2.2.2.2.1 (gen7 ?gN_6 ?gP_6).2.2.2.2.2.1 (gen7 ?gN_6 ?gP_6).2.2.2.2.2.2); (case gN_6 => k_extra "my:ne")))
  intros w la lb va vb na nb
  walk_at "g4"
  intros as bs b tb
  intro hA hB hoa hob hne ha0 hb0 hla hlb hsa hsb hb
  walk_at "g1"
  intro news hma hmb
  walk_at "g2"
  intros x0 y0
  intro hxy
  walk_at "g1"
  intro x9 hx9
  walk_at "g1"
  intro y9 hy9
  intro hxy9 h0a h0b hvla hvlb hpa hpb
  w_top off
  k_fill
  refine' Con.of (binds := [("a", .ref la), ("b", .ref lb), ("max_cost", .int b tb)]) ?k6 ?k7 ?k8 ?k9 ?kB ?kN ?c2 ?c3 ?c4 ?c5 ?_
  (( (case k6 => k_is); (case k7 => k_is); (case k8 => decide); (case k9 => (intro s9 X9; first | exact BindsTo.of_eq rfl | exact binds_K X9 rfl (by k_is) rfl rfl rfl | (refine kp_binds X9 ?_; exact fun _ => rfl))); (case kB => exact locs rfl); (case kN => (simp only [List.map_cons, List.map_nil]; decide)); (case c2 => exact rfl); (case c3 => exact rfl); (case c4 => exact rfl); (case c5 => decide); k_with "WPost" => dsimp only [WPost]; k_with "FPost" => dsimp only [FPost]))
  ((refine gen_all10 (ne := ?gN_8) (P := ?gP_8) ((?gf_8 : ∀ a0 a1 a2 a3 a4 a5 a6 a7 a8 a9, ?gP_8 a0 a1 a2 a3 a4 a5 a6 a7 a8 a9) (gen10 ?gN_8 ?gP_8).1 (gen10 ?gN_8 ?gP_8).2.1 (gen10 ?gN_8 ?gP_8).2.2.1 (gen10 ?gN_8 ?gP_8).2.2.2.1 (gen10 ?gN_8 ?gP_8).2.2.2.2.1 (gen10 ?gN_8 ?gP_8).2.2.2.2.2.1 (gen10 ?gN_8 ?gP_8).2.2.2.2.2.2.1 (gen10 ?gN_8 ?gP_8).2.2.2.2.2.2.2.1 (gen10 ?gN_8 ?gP_8).2.2.2.2.2.2.2.2.1 (gen10 ?gN_8 ?gP_8).2.2.2.2.2.2.2.2.2); (case gN_8 => k_extra "my:ne")))
  intros p loose mean mg mb gd cn cs a ccd
  ((refine gen_all10 (ne := ?gN_9) (P := ?gP_9) ((?gf_9 : ∀ a0 a1 a2 a3 a4 a5 a6 a7 a8 a9, ?gP_9 a0 a1 a2 a3 a4 a5 a6 a7 a8 a9) (gen10 ?gN_9 ?gP_9).1 (gen10 ?gN_9 ?gP_9).2.1 (gen10 ?gN_9 ?gP_9).2.2.1 (gen10 ?gN_9 ?gP_9).2.2.2.1 (gen10 ?gN_9 ?gP_9).2.2.2.2.1 (gen10 ?gN_9 ?gP_9).2.2.2.2.2.1 (gen10 ?gN_9 ?gP_9).2.2.2.2.2.2.1 (gen10 ?gN_9 ?gP_9).2.2.2.2.2.2.2.1 (gen10 ?gN_9 ?gP_9).2.2.2.2.2.2.2.2.1 (gen10 ?gN_9 ?gP_9).2.2.2.2.2.2.2.2.2); (case gN_9 => k_extra "my:ne")))
  intros cl outer base g h₁ L' L₀ s tk R
  intro F' N' B' X' T'
  simp only [kstB] at F'
  k_extra "my:go"
  refine eq_strs (xs := va) (ys := vb) ⟨_, (N' _ hma).1, rfl, _, rfl⟩ ⟨_, (N' _ hmb).1, rfl, _, rfl⟩ hA hB hoa hob (by ke_room) ?_
  rw [show decide (as = bs) = false by rw [decide_eq_false_iff_not]; intro e; exact hne x0 (List.mem_of_getElem? h0a) x0 (by rw [← e]; exact List.mem_of_getElem? h0a) rfl]
  k_extra "my:go"
  rename (Fr _ _ _ _) => F'
  rename (News _ _ _ _) => N'
  refine whileR (σ := Tok) (fun _ => news) (fun c => [("a", .ref la), ("b", .ref lb), ("max_cost", .int b tb), ("pre", .int 0 c)])
    (fun _ => True) (fun _ => True) (fun _ => 0) _ (by assumption) (by assumption) (by k_extra "my:names") trivial ?_ ?_
  · walk_at "g4"
    intros c u' h tk
    intro _ F' N'
    k_sweep
    simp only [kstB] at F'
    k_extra "my:go"
    refine stop_out ?_
    rename (News _ _ _ _) => N'
    refine item_strs N' (show (la, listOf va.toArray na) ∈ _ by k_extra "my:mem") hA (by omega) (by omega) h0a ?_
    walk_at "g1"
    intro t8 ht8
    clear ht8
    k_extra "my:go"
    refine stop_out ?_
    rename (News _ _ _ _) => N'
    refine item_strs N' (show (lb, listOf vb.toArray nb) ∈ _ by k_extra "my:mem") hB (by omega) (by omega) h0b ?_
    walk_at "g1"
    intro t9 ht9
    clear ht9
    k_extra "my:go"
    all_goals first
      | (exfalso; rename (x0 == y0) = true => q; exact hxy (beq_iff_eq.mp q))
      | skip
    exact ⟨_, _, _, _, _, rfl, by k_asm, by k_asm, by (((try dsimp only); k_extra "my:inl")), by (((try dsimp only); k_extra "my:inl")), by k_extra "my:names", trivial⟩
  walk_at "g4"
  intros tp u' h tk
  intro _ F' N'
  simp only [kstB] at F'
  k_sweep
  k_extra "my:go"
  rename_i Da _ l1 _ _ Db _ l2 _ _ h9 F9 N9 t9
  have ldb : @LT.lt Nat _ Da Db := l2 _ (.head _)
  clear l2
  refine whileR (σ := Tok) (fun _ => (Db, listOf vb.toArray 0) :: (Da, listOf va.toArray 0) :: news) (fun c => [("a", .ref Da), ("b", .ref Db), ("max_cost", .int b tb), ("post", .int 0 c)])
    (fun _ => True) (fun _ => True) (fun _ => 0) _ (by assumption) (by assumption) (by k_extra "my:names") trivial ?_ ?_
  · walk_at "g4"
    intros c u' h tk
    intro _ F' N'
    k_sweep
    simp only [kstB] at F'
    k_extra "my:go"
    refine stop_out ?_
    rename (News _ _ _ _) => N'
    refine last_strs N' (show (Da, listOf va.toArray 0) ∈ _ by k_extra "my:mem") hA (by omega) hx9 ?_
    walk_at "g1"
    intro t8
    k_extra "my:go"
    refine stop_out ?_
    rename (News _ _ _ _) => N'
    refine last_strs N' (show (Db, listOf vb.toArray 0) ∈ _ by k_extra "my:mem") hB (by omega) hy9 ?_
    walk_at "g1"
    intro t9
    k_extra "my:go"
    all_goals first
      | (exfalso; rename (x9 == y9) = true => q; exact hxy9 (beq_iff_eq.mp q))
      | skip
    exact ⟨_, _, _, _, _, rfl, by k_asm, by k_asm, by (((try dsimp only); k_extra "my:inl")), by (((try dsimp only); k_extra "my:inl")), by k_extra "my:names", trivial⟩
  walk_at "g4"
  intros tp u' h tk
  intro _ F' N'
  simp only [kstB] at F'
  k_sweep
  have mk : StopIf := trivial
  k_extra "my:go"
  rename_i Xa _ l3 _ _ Xb _ l4 _ F9 N9 _ _ _ _ _
  have lab : @LT.lt Nat _ Xa Xb := l4 _ (.head _)
  have lxa : ∀ p ∈ news, @LT.lt Nat _ p.1 Xa := fun p hp => l3 p (.tail _ (.tail _ hp))
  clear l3 l4
  refine cutR F9 (σ := Addr × List Value × List Str × Addr × List Value × List Str) (fun c => (c.1, listOf c.2.1.toArray 0) :: (c.2.2.2.1, listOf c.2.2.2.2.1.toArray 0) :: news) (fun c => [("a", .ref c.1), ("b", .ref c.2.2.2.1), ("max_cost", .int b tb)])
    (fun c => LevIn as bs b news c.1 c.2.1 c.2.2.1 c.2.2.2.1 c.2.2.2.2.1 c.2.2.2.2.2) ?_ ?_
  · (rename StopIf => mk); clear mk
    k_extra "my:go"
    · refine ⟨(Xb, vb, bs, Xa, va, as), _, _, _, _, rfl, by k_asm, by k_asm, by (((try dsimp only); k_extra "my:inl")), by (((try dsimp only); k_extra "my:inl")), by k_extra "my:names", ?_⟩
      refine ⟨by assumption, by assumption, hpb, by dsimp only; omega, by dsimp only; omega, hsb, hsa, fun p hp => Nat.lt_trans (lxa p hp) lab, lxa, Ne.symm (Nat.ne_of_lt lab), ?_⟩
      unfold levT
      rw [if_neg (by intro h; rcases h with h | h; exact ha0 h; exact hb0 h), if_neg (by omega), if_pos (by omega)]
    · refine ⟨(Xa, va, as, Xb, vb, bs), _, _, _, _, rfl, by k_asm, by k_asm, by (((try dsimp only); k_extra "my:inl")), by (((try dsimp only); k_extra "my:inl")), by k_extra "my:names", ?_⟩
      refine ⟨by assumption, by assumption, hpa, by dsimp only; omega, by dsimp only; omega, hsa, hsb, lxa, fun p hp => Nat.lt_trans (lxa p hp) lab, Nat.ne_of_lt lab, ?_⟩
      unfold levT
      rw [if_neg (by intro h; rcases h with h | h; exact ha0 h; exact hb0 h), if_neg (by omega), if_neg (by omega)]
  rename StopIf => mk
  clear F9 N9 mk
  refine pr6 ?_
  ((refine gen_all6 (ne := ?gN_18) (P := ?gP_18) ((?gf_18 : ∀ a0 a1 a2 a3 a4 a5, ?gP_18 a0 a1 a2 a3 a4 a5) (gen6 ?gN_18 ?gP_18).1 (gen6 ?gN_18 ?gP_18).2.1 (gen6 ?gN_18 ?gP_18).2.2.1 (gen6 ?gN_18 ?gP_18).2.2.2.1 (gen6 ?gN_18 ?gP_18).2.2.2.2.1 (gen6 ?gN_18 ?gP_18).2.2.2.2.2); (case gN_18 => k_extra "my:ne")))
  intros A va as2 B vb bs2
  walk_at "g3"
  intros u' h tk
  rintro ⟨hA2, hB2, hp2, hab, hb30, hsa2, hsb2, lA, lB, hAB, hl3⟩ F' N'
  dsimp only at hA2 hB2 hp2 hab hb30 hsa2 hsb2 lA lB hAB hl3 F' N'
  simp only [kstB] at F'
  k_sweep
  rw [hl3]
  have hA9 := hid_in hA2
  have hB9 := hid_in hB2
  have hva2 := strsAre_length_ hA2
  have hvb2 := strsAre_length_ hB2
  have hS : levS subcost as2 bs2 b = if ((bs2.length : Int) - as2.length) * 2 > b then b + 1 else Mine.outer subcost as2 b bs2 0 (row0 as2.length) 0 := rfl
  rw [hS]
  clear hl3 hS hne ha0 hb0 hla hlb hsa hsb hma hmb hxy hx9 hy9 hxy9 h0a h0b hvla hvlb hpa hpb lab lxa ldb l1 hoa hob
  dsimp only
  k_extra "my:go"
  · dsimp only
    refine ⟨_, _, _, _, _, news, rfl, by k_asm, by k_asm, by (((try dsimp only); k_extra "my:inl")), ktn_int (by rw [if_pos (by omega)]), rfl⟩
  rw [if_neg (by omega)]
  rename IsRange _ _ _ _ _ _ _ _ => rgX
  with_reducible rename Fr _ _ _ _ => F'
  with_reducible rename News _ _ _ _ => N'
  (try rw [hva2] at rgX)
  with_unfolding_all refine list_row rfl F' N' rgX (by omega) (by omega) ?_
  walk_at "g5"
  intros D us cap h' tk'
  intro F' N' l1 hI
  k_sweep
  clear rgX
  k_extra "my:go"
  (((with_reducible rename Fr _ _ _ _ => lF'); (with_unfolding_all refine' For_invVF lF' ?k1_20 ?k2_20 ?_; (case k1_20 => exact rfl); (case k2_20 => exact rfl); k_whole); k_extra "my:go"))
  rename IsRange _ _ _ _ _ _ _ _ => rgX
  with_reducible rename Fr _ _ _ _ => F'
  with_reducible rename News _ _ _ _ => N'
  refine forRangeR (σ := List Value × Nat × List Int × Int × Tok) (n := bs2.length) (fun c => (D, listOf (List.toArray c.1) c.2.1) :: (A, listOf va.toArray 0) :: (B, listOf vb.toArray 0) :: news) (fun c => [("a", .ref A), ("b", .ref B), ("max_cost", .int b tb), ("row", .ref D), ("result", .int c.2.2.2.1 c.2.2.2.2)])
    (fun i c => IntsAre c.1 c.2.2.1 ∧ c.2.2.1.length = as2.length ∧ Mine.outer subcost as2 b bs2 0 (row0 as2.length) 0 = Mine.outer subcost as2 b (bs2.drop i) i c.2.2.1 c.2.2.2.1)
    (fun c => Mine.outer subcost as2 b bs2 0 (row0 as2.length) 0 = c.2.2.2.1) (us, cap, row0 as2.length, 0, _) rfl rgX (small_one (by omega) (by omega) (by omega) (by omega)) (by rw [rangeSize_nat]; omega) F' N' (by k_extra "my:names") ⟨hI, row0_length _, rfl⟩ ?_ ?_ ?_
  · walk_at "g2"
    intros i tI
    refine pr5 ?_
    ((refine gen_all9 (ne := ?gN_21) (P := ?gP_21) ((?gf_21 : ∀ a0 a1 a2 a3 a4 a5 a6 a7 a8, ?gP_21 a0 a1 a2 a3 a4 a5 a6 a7 a8) (gen9 ?gN_21 ?gP_21).1 (gen9 ?gN_21 ?gP_21).2.1 (gen9 ?gN_21 ?gP_21).2.2.1 (gen9 ?gN_21 ?gP_21).2.2.2.1 (gen9 ?gN_21 ?gP_21).2.2.2.2.1 (gen9 ?gN_21 ?gP_21).2.2.2.2.2.1 (gen9 ?gN_21 ?gP_21).2.2.2.2.2.2.1 (gen9 ?gN_21 ?gP_21).2.2.2.2.2.2.2.1 (gen9 ?gN_21 ?gP_21).2.2.2.2.2.2.2.2); (case gN_21 => k_extra "my:ne")))
    intros us1 cap1 row1 res1 tr1 u' h tk own
    rintro hi hown ⟨hI1, hl1, hT⟩ F' N'
    dsimp only at hI1 hl1 hT F' N'
    simp only [kstB, Int.zero_add] at F'
    simp only [List.cons_append] at N'
    clear hI rgX
    have hTH := hid_in hT
    clear hT
    k_sweep
    refine ex_in (⟨_, List.getElem?_eq_getElem hi⟩ : ∃ y, bs2[i]? = some y) ?_
    walk_at "g1"
    intro bc hbi
    have hbl : bc.length ≤ 100 := hsb2 bc (List.mem_of_getElem? hbi)
    k_extra "my:go"
    rename (News _ _ _ _) => N'
    refine item_strs N' (show (B, listOf vb.toArray 0) ∈ _ by k_extra "my:mem") (hid_out hB9) (by omega) (by omega) (by rw [Int.toNat_natCast]; exact hbi) ?_
    walk_at "g1"
    intro tbc htbc
    clear htbc
    k_extra "my:go"
    (((with_reducible rename Fr _ _ _ _ => lF'); (with_unfolding_all refine' For_invVF lF' ?k1_22 ?k2_22 ?_; (case k1_22 => exact rfl); (case k2_22 => exact rfl); k_whole); k_extra "my:go"))
    rename IsRange _ _ _ _ _ _ _ _ => rgX
    with_reducible rename Fr _ _ _ _ => F'
    with_reducible rename News _ _ _ _ => N'
    generalize hTT : inner subcost bc as2 row1 ((i : Int) * 2) ((i : Int) * 2) 9223372036854775807 = T
    have hTTH := hid_in hTT
    refine forRangeR (σ := List Value × Nat × List Int × Int × Tok × Int × Tok × Int × Tok × Tok) (n := as2.length) (fun c => (D, listOf (List.toArray c.1) c.2.1) :: (A, listOf va.toArray 0) :: (B, listOf vb.toArray 0) :: (news ++ own))
      (fun c => [("a", .ref A), ("b", .ref B), ("max_cost", .int b tb), ("row", .ref D), ("result", .int c.2.2.2.1 c.2.2.2.2.1), ("distance", .int c.2.2.2.2.2.1 c.2.2.2.2.2.2.1), ("minimum", .int c.2.2.2.2.2.2.2.1 c.2.2.2.2.2.2.2.2.1), ("bchar", .str bc c.2.2.2.2.2.2.2.2.2)])
      (fun k c => IntsAre c.1 c.2.2.1 ∧ c.2.2.1.length = as2.length ∧ T.1 = c.2.2.1.take k ++ (inner subcost bc (as2.drop k) (c.2.2.1.drop k) c.2.2.2.2.2.1 c.2.2.2.1 c.2.2.2.2.2.2.2.1).1 ∧ T.2 = (inner subcost bc (as2.drop k) (c.2.2.1.drop k) c.2.2.2.2.2.1 c.2.2.2.1 c.2.2.2.2.2.2.2.1).2)
      (fun c => IntsAre c.1 c.2.2.1 ∧ c.2.2.1.length = as2.length ∧ T = (c.2.2.1, c.2.2.2.1, c.2.2.2.2.2.2.2.1)) (us1, cap1, row1, (i : Int) * 2, _, (i : Int) * 2, _, 9223372036854775807, _, _) rfl rgX (small_one (by omega) (by omega) (by omega) (by omega)) (by rw [rangeSize_nat]; omega) F' N' (by k_extra "my:names") ⟨hI1, hl1, by rw [← hTT]; rfl, by rw [← hTT]; rfl⟩ ?_ ?_ ?_
    · walk_at "g2"
      intros k tk2
      refine pr10 ?_
      ((refine gen_all10 (ne := ?gN_23) (P := ?gP_23) ((?gf_23 : ∀ a0 a1 a2 a3 a4 a5 a6 a7 a8 a9, ?gP_23 a0 a1 a2 a3 a4 a5 a6 a7 a8 a9) (gen10 ?gN_23 ?gP_23).1 (gen10 ?gN_23 ?gP_23).2.1 (gen10 ?gN_23 ?gP_23).2.2.1 (gen10 ?gN_23 ?gP_23).2.2.2.1 (gen10 ?gN_23 ?gP_23).2.2.2.2.1 (gen10 ?gN_23 ?gP_23).2.2.2.2.2.1 (gen10 ?gN_23 ?gP_23).2.2.2.2.2.2.1 (gen10 ?gN_23 ?gP_23).2.2.2.2.2.2.2.1 (gen10 ?gN_23 ?gP_23).2.2.2.2.2.2.2.2.1 (gen10 ?gN_23 ?gP_23).2.2.2.2.2.2.2.2.2); (case gN_23 => k_extra "my:ne")))
      intros us2 cap2 row2 res2 tr2 di2 td2 mn2 tm2 tb2
      walk_at "g4"
      intros u' h tk own2
      rintro hk hown2 ⟨hI2, hl2, hT1, hT2⟩ F' N'
      dsimp only at hI2 hl2 hT1 hT2 F' N'
      simp only [kstB, Int.zero_add] at F'
      simp only [List.cons_append] at N'
      clear hI1 rgX
      k_sweep
      refine ex_in (⟨_, List.getElem?_eq_getElem hk⟩ : ∃ y, as2[k]? = some y) ?_
      walk_at "g1"
      intro ac hai
      have hal : ac.length ≤ 100 := hsa2 ac (List.mem_of_getElem? hai)
      rw [drop_of_get hai] at hT1 hT2
      have hturn := inner_turn subcost bc ac (as2.drop (k + 1)) row2 k di2 res2 mn2 (by omega) T ⟨hT1, hT2⟩
      clear hT1 hT2 hTT
      k_extra "my:go"
      rename (News _ _ _ _) => N'
      refine item_strs N' (show (A, listOf va.toArray 0) ∈ _ by k_extra "my:mem") (hid_out hA9) (by omega) (by omega) (by rw [Int.toNat_natCast]; exact hai) ?_
      walk_at "g1"
      intro tac htac
      clear htac
      k_extra "my:go"
      all_goals (try dsimp only)
      · rename IntsAre (List.set _ _ _) (List.set _ _ _) => hi9
        refine ⟨(us2.set (k : Int).toNat _, cap2, row2.set (k : Int).toNat (if di2 + subcost bc ac < (if (row2.getD (k : Int).toNat 0) < res2 then (row2.getD (k : Int).toNat 0) else res2) + 2 then di2 + subcost bc ac else (if (row2.getD (k : Int).toNat 0) < res2 then (row2.getD (k : Int).toNat 0) else res2) + 2), (if di2 + subcost bc ac < (if (row2.getD (k : Int).toNat 0) < res2 then (row2.getD (k : Int).toNat 0) else res2) + 2 then di2 + subcost bc ac else (if (row2.getD (k : Int).toNat 0) < res2 then (row2.getD (k : Int).toNat 0) else res2) + 2), _, (row2.getD (k : Int).toNat 0), _, (if di2 + subcost bc ac < (if (row2.getD (k : Int).toNat 0) < res2 then (row2.getD (k : Int).toNat 0) else res2) + 2 then di2 + subcost bc ac else (if (row2.getD (k : Int).toNat 0) < res2 then (row2.getD (k : Int).toNat 0) else res2) + 2), _, _), _, _, _, _, rfl, by k_asm, by k_asm, by (((try dsimp only); k_extra "my:inl")), by (((try dsimp only); k_extra "my:inl")), by k_extra "my:names", ?_⟩
        refine ⟨⟨hi9, by rw [List.length_set]; exact hl2, ?_⟩, same_old rfl⟩
        dsimp only
        refine hturn _ (by rw [Int.toNat_natCast]) _ (by rw [Int.toNat_natCast, mins]) _ ?_
        exact (if_pos ‹_›).symm
      · rename IntsAre (List.set _ _ _) (List.set _ _ _) => hi9
        refine ⟨(us2.set (k : Int).toNat _, cap2, row2.set (k : Int).toNat (if di2 + subcost bc ac < (if (row2.getD (k : Int).toNat 0) < res2 then (row2.getD (k : Int).toNat 0) else res2) + 2 then di2 + subcost bc ac else (if (row2.getD (k : Int).toNat 0) < res2 then (row2.getD (k : Int).toNat 0) else res2) + 2), (if di2 + subcost bc ac < (if (row2.getD (k : Int).toNat 0) < res2 then (row2.getD (k : Int).toNat 0) else res2) + 2 then di2 + subcost bc ac else (if (row2.getD (k : Int).toNat 0) < res2 then (row2.getD (k : Int).toNat 0) else res2) + 2), _, (row2.getD (k : Int).toNat 0), _, mn2, _, _), _, _, _, _, rfl, by k_asm, by k_asm, by (((try dsimp only); k_extra "my:inl")), by (((try dsimp only); k_extra "my:inl")), by k_extra "my:names", ?_⟩
        refine ⟨⟨hi9, by rw [List.length_set]; exact hl2, ?_⟩, same_old rfl⟩
        dsimp only
        refine hturn _ (by rw [Int.toNat_natCast]) _ (by rw [Int.toNat_natCast, mins]) _ ?_
        exact (if_neg ‹_›).symm
    · refine pr10 ?_
      ((refine gen_all10 (ne := ?gN_28) (P := ?gP_28) ((?gf_28 : ∀ a0 a1 a2 a3 a4 a5 a6 a7 a8 a9, ?gP_28 a0 a1 a2 a3 a4 a5 a6 a7 a8 a9) (gen10 ?gN_28 ?gP_28).1 (gen10 ?gN_28 ?gP_28).2.1 (gen10 ?gN_28 ?gP_28).2.2.1 (gen10 ?gN_28 ?gP_28).2.2.2.1 (gen10 ?gN_28 ?gP_28).2.2.2.2.1 (gen10 ?gN_28 ?gP_28).2.2.2.2.2.1 (gen10 ?gN_28 ?gP_28).2.2.2.2.2.2.1 (gen10 ?gN_28 ?gP_28).2.2.2.2.2.2.2.1 (gen10 ?gN_28 ?gP_28).2.2.2.2.2.2.2.2.1 (gen10 ?gN_28 ?gP_28).2.2.2.2.2.2.2.2.2); (case gN_28 => k_extra "my:ne")))
      intros us2 cap2 row2 res2 tr2 di2 td2 mn2 tm2 tb2
      walk_at "g3"
      intros u' h tk
      rintro ⟨hI2, hl2, hT2⟩ F' N'
      dsimp only at hI2 hl2 hT2 F' N'
      simp only [kstB] at F'
      k_sweep
      have hT' := hid_out hTH
      rw [drop_of_get hbi, outer_step, hTT, hT2] at hT'
      dsimp only at hT'
      have hTH' := hid_in hT'
      clear hT' hTT hT2
      dsimp only
      k_extra "my:go"
      · (try dsimp only)
        refine ⟨_, _, _, _, _, _, rfl, by k_asm, by k_asm, by (((try dsimp only); k_extra "my:inl")), ?_, rfl⟩
        refine ktn_int ?_
        rw [hid_out hTH', if_pos (by omega)]
      · (try dsimp only)
        refine ⟨(us2, cap2, row2, res2, tr2), _, _, _, _, rfl, by k_asm, by k_asm, by (((try dsimp only); k_extra "my:inl")), by (((try dsimp only); k_extra "my:inl")), by k_extra "my:names", ?_⟩
        refine ⟨⟨hI2, hl2, ?_⟩, same_old rfl⟩
        dsimp only
        rw [hid_out hTH', if_neg (by omega)]
        push_cast
        rfl
    · rintro ⟨us2, cap2, row2, res2, tr2, di2, td2, mn2, tm2, tb2⟩ ⟨hI2, hl2, hT1, hT2⟩
      dsimp only at hI2 hl2 hT1 hT2 ⊢
      refine ⟨hI2, hl2, Prod.ext ?_ ?_⟩
      · rw [hT1, List.drop_of_length_le (by simp)]
        simp [inner, ← hl2]
      · rw [hT2, List.drop_of_length_le (by simp)]
        rfl
  · refine pr5 ?_
    ((refine gen_all8 (ne := ?gN_32) (P := ?gP_32) ((?gf_32 : ∀ a0 a1 a2 a3 a4 a5 a6 a7, ?gP_32 a0 a1 a2 a3 a4 a5 a6 a7) (gen8 ?gN_32 ?gP_32).1 (gen8 ?gN_32 ?gP_32).2.1 (gen8 ?gN_32 ?gP_32).2.2.1 (gen8 ?gN_32 ?gP_32).2.2.2.1 (gen8 ?gN_32 ?gP_32).2.2.2.2.1 (gen8 ?gN_32 ?gP_32).2.2.2.2.2.1 (gen8 ?gN_32 ?gP_32).2.2.2.2.2.2.1 (gen8 ?gN_32 ?gP_32).2.2.2.2.2.2.2); (case gN_32 => k_extra "my:ne")))
    intros us1 cap1 row1 res1 tr1 u' h tk
    rintro hT F' N'
    dsimp only at hT F' N'
    simp only [kstB] at F'
    k_sweep
    dsimp only
    k_extra "my:go"
    (((try dsimp only); refine ⟨_, _, _, _, _, _, rfl, by k_asm, by k_asm, by (((try dsimp only); k_extra "my:inl")), ?_, rfl⟩; refine ktn_int ?_))
    exact hT.symm
  · rintro ⟨us1, cap1, row1, res1, tr1⟩ ⟨hI1, hl1, hT⟩
    dsimp only at hT ⊢
    rw [hT, List.drop_of_length_le (by simp)]
    rfl
end
theorem lay_7 : True := by
  k_with "off25" => skip
  exact True.intro
section
theorem lay_8 : True := by
  k_with "my:pyIter ref" => ((fail_if_success k_extra "off26"); with_reducible refine stop_in ?_)
  k_with "my:binaryOp Mult ref int" => ((fail_if_success k_extra "off26"); with_reducible refine stop_in ?_)
  k_with "my:ite" => ((fail_if_success k_extra "off26"); first | (refine ite_yes (by (try simp only [beq_iff_eq, decide_eq_true_eq, fm3]); omega) ?_) | (refine ite_no (by (try simp only [beq_iff_eq, decide_eq_true_eq, fm3]); omega) ?_))
  exact True.intro
theorem fm3 (x : Int) : x.fmod 3 = x % 3 := Int.fmod_eq_emod_of_nonneg x (by decide)
theorem ints_at {vs : List Value} {ns : List Int} (h : IntsAre vs ns) : ∀ {i : Nat} {v : Value}, vs[i]? = some v → ∃ x t, v = .int x t ∧ ns[i]? = some x := by
  induction h with
  | nil => intro i v e; simp at e
  | cons n t h ih =>
    intro i v e
    cases i with
    | zero => simp at e; exact ⟨n, t, e.symm, by simp⟩
    | succ i => simpa using ih (by simpa using e)
/-- a def's contract, where a list of the base is told of -/
def ConS (prog : Program) (w : World) (K : Frag) (sa : Addr) (its : Array Value) (f : Addr) (dp un : Nat) (vs : List Value) (news : List (Addr × Obj)) (post : Value → List (Addr × Obj) → Prop) : Prop :=
  ∀ (p : Program) (loose : List Str) (mean : ExcName → Option Value) (mg mb : Str → Option Value) (gd : Option (List Code)) (cn : Str) (cs : Scope) (a : Addr) (ccd : Value) (cl : List (Str × Addr)) (outer : List Env) (A₀ : Around) (base h₀ : Heap) (L : Addr) (m : Str → Option Value) (s : Shared) (Q E : Value → Shared → Prop),
    Below A₀ base outer h₀ → Fr h₀ L s.heap m → K.In h₀ → h₀.IsList sa its → News h₀ L s.heap news → Top p loose mean mg mb h₀ → cs.kind = .function →
    (∀ v news' h' tk', post v news' → Fr h₀ L h' m → News h₀ L h' news' → Q v { s with heap := h', toks := tk' }) →
    wpAny (model prog w) (ktrTop dp un gd cn cs L a ccd cl outer) (call (.ref f) vs) Q E s
theorem isList_keep {h h' : Heap} {a : Addr} {its : Array Value} (x : h.IsList a its) (k : ∀ b o, h.get? b = some o → h'.get? b = some o) : h'.IsList a its := let ⟨o, e, r⟩ := x; ⟨o, k _ _ e, r⟩
theorem ConS.of {prog : Program} {w : World} {K : Frag} {sa : Addr} {its : Array Value} {f : Addr} {dp un : Nat} {vs : List Value} {news : List (Addr × Obj)} {post : Value → List (Addr × Obj) → Prop}
    {name qual : Str} {params : Arguments} {body : List Stmt} {scope : Scope} {dV kV doc pm cdv ct oc : Value} {an od : Option Addr} {osl : Array (Option Value)} {binds : List (Str × Value)}
    (ho : K.lookup f = some ⟨oc, od, .func (fnOf name qual params body scope dV kV doc pm an cdv ct), osl⟩) (hcd : codeIn K cdv qual = true) (hroom : dp < recursionLimit)
    (hbind : ∀ s : Shared, K.In s.heap → BindsTo s (fnOf name qual params body scope dV kV doc pm an cdv ct) ⟨vs, []⟩ binds) (hloc : ∀ y ∈ binds, scope.names.lookup y.1 = some .local) (hnd : (binds.map (·.1)).Nodup)
    (hco : scope.isCoroutine = false) (hgen : scope.isGenerator = false) (hk : scope.kind = .function) (hcell : ∀ x ∈ scope.names, x.2 ≠ .cell)
    (h : ∀ (p : Program) (loose : List Str) (mean : ExcName → Option Value) (mg mb : Str → Option Value) (gd : Option (List Code)) (cn : Str) (cs : Scope) (a : Addr) (ccd : Value) (cl : List (Str × Addr)) (outer : List Env) (base g h₁ : Heap) (L' L₀ : Addr) (s : Shared) (tk : Nat) (R : Value → Shared → Prop),
      Fr g L' h₁ (kstB (fun _ => none) binds) → News g L' h₁ news → Below (ktrTop dp un gd cn cs L₀ a ccd cl outer) base (envX cn cs L₀ a ccd cl :: outer) g → K.In g → g.IsList sa its → Top p loose mean mg mb g →
      wpAny (model prog w) ((ktrTop dp un gd cn cs L₀ a ccd cl outer).deeper (envOf qual scope L' f cdv)) (execs body (envOf qual scope L' f cdv))
        (fun fl s' => Out g s post (match fl with | .ret v => v | _ => .none) s')
        (fun e s' => wpAny (model prog w) ((ktrTop dp un gd cn cs L₀ a ccd cl outer).deeper (envOf qual scope L' f cdv)) (leaving (envOf qual scope L' f cdv) e) (fun _ s'' => R e s'') (fun e' s'' => R e' s'') s')
        { s with heap := h₁, toks := tk }) : ConS prog w K sa its f dp un vs news post := by
  intro p loose mean mg mb gd cn cs a ccd cl outer A₀ base h₀ L m s Q E B F X hS N T hkc ret
  refine wpAny_call ?_
  refine code_def B F X N T rfl rfl hkc ho hcd hroom (hbind s (X.keeps F.keep)) hloc (fun g L' h₁ FG F' N' B' X' T' => ?_) hco hgen hk hcell
  have F2 : Fr g L' h₁ (kstB (fun _ => none) binds) := by
    have e : (fun y => binds.reverse.lookup y) = kstB (fun _ => none) binds := funext fun y => kstB_of hnd
    rw [← e]; exact F'
  refine wpAny_mono (h p loose mean mg mb gd cn cs a ccd cl outer base g h₁ L' L s (s.toks + binds.length) E F2 N' B' X' (isList_keep hS FG.keep) T') (fun fl s' hO => ?_) fun _ _ x => x
  obtain ⟨h', tk', L'', m', more, news', rfl, F'', N'', hs, hp⟩ := hO
  exact leaveK_ F'' N'' fun kF kN => ret _ news' h' tk' hp kF fun q hq => kN q (hs q hq)
theorem lay_9 : True := by
  k_with "my:binaryOp Add ref ref" => ((fail_if_success k_extra "off26"); (k_here; (with_reducible show wpAny _ _ (binaryOp _ (Value.ref _) (Value.ref _)) _ _ _); k_dflt (refine kmk_add_ints (by k_asm) (by k_asm) (by kmk_list) (by kmk_list) (by l_ints) (by l_ints) ?_ (by kmk_sum)); walk_at "g3"; intros _ _ _; intro _ _ _ _; (try k_sweep)))
  k_with "my:subscriptTail Name Slice ref ref" => ((fail_if_success k_extra "off26"); (k_here; (with_reducible show wpAny _ _ (subscriptTail _ (PySem.Expr.Slice _ _ none _) (Value.ref _) (Value.ref _)) _ _ _); k_dflt (refine kmk_slice_ints (by k_asm) (by k_asm) (by kmk_list) (by kmk_part) (by kmk_part) (by l_ints) (by kmk_nums) (by kmk_len) ?_ (by with_unfolding_all rfl) (by kmk_pure) (by kmk_size)); walk_at "g3"; intros _ _ _; walk_at "kmsE"))
  exact True.intro
theorem ne_gtH {l : List (Addr × Obj)} {a d : Addr} (h : ∀ p ∈ l, @LT.lt Nat _ a p.1) (h1 : @LE.le Nat _ d a) : ∀ p ∈ l, p.1 ≠ d := fun p hp e => by
  have := h p hp
  have e' : @Eq Nat p.1 d := e
  omega
theorem ne_ltH {l : List (Addr × Obj)} {a d : Addr} (h : ∀ p ∈ l, @LT.lt Nat _ p.1 a) (h1 : @LE.le Nat _ a d) : ∀ p ∈ l, p.1 ≠ d := fun p hp e => by
  have := h p hp
  have e' : @Eq Nat p.1 d := e
  omega
theorem news_subH {h₀ h : Heap} {L : Addr} {a b : List (Addr × Obj)} (N : News h₀ L h a) (hs : ∀ p ∈ b, p ∈ a) : News h₀ L h b := fun p hp => N p (hs p hp)
theorem fr_names2H {h₀ h : Heap} {L : Addr} {m : Str → Option Value} (F : Fr h₀ L h m) (ps : List (Str × Value)) (hk : ∀ p ∈ ps, m p.1 = some p.2) : ∃ u, Fr h₀ L h (kstB u ps) := ⟨m, by rw [kstB_self hk]; exact F⟩
theorem prHC {P : HC → Prop} (h : ∀ sv sk hv hk pt tf th tl S, P ⟨sv, sk, hv, hk, pt, tf, th, tl, S⟩) : ∀ z, P z := fun ⟨sv, sk, hv, hk, pt, tf, th, tl, S⟩ => h sv sk hv hk pt tf th tl S
theorem ne_H2 : Nonempty H2 := ⟨H0⟩
theorem ne_HC : Nonempty HC := ⟨⟨[], 0, [], 0, [], 0, 0, 0, H0⟩⟩
theorem lay_10 : True := by
  k_with "my:ne" => ((fail_if_success k_extra "off26"); first | exact ne_H2 | exact ne_HC)
  exact True.intro
theorem fold_rep (v : Value) : ∀ (n : Nat) (a : Array Value), List.foldl (fun x1 x2 => x1 ++ x2) a (List.replicate n #[v]) = a ++ (List.replicate n v).toArray
  | 0, a => by simp
  | n + 1, a => by
    rw [List.replicate_succ, List.foldl_cons, fold_rep v n (a ++ #[v]), List.replicate_succ]
    apply Array.toList_inj.mp
    simp
theorem ints_rep (t : Tok) : ∀ n : Nat, IntsAre (List.replicate n (.int 0 t)) (List.replicate n 0)
  | 0 => .nil
  | n + 1 => by rw [List.replicate_succ, List.replicate_succ]; exact .cons _ _ (ints_rep t n)
/-- [0] * x -/
theorem mul_zero {prog : Program} {w : World} {A : Around} {E : Value → Shared → Prop} {s : Shared} {h₀ : Heap} {L l : Addr} {m : Str → Option Value} {news : List (Addr × Obj)} {t u : Tok} {x : Int} {k : Nat} {Q : Value → Shared → Prop} (F : Fr h₀ L s.heap m) (N : News h₀ L s.heap news) (hm : (l, listOf #[.int 0 t] k) ∈ news) (h0 : 0 ≤ x) (h1 : x ≤ 1000)
    (h : ∀ D us h', Fr h₀ L h' m → News h₀ L h' ((D, listOf (List.toArray us) 0) :: news) → (∀ p ∈ news, p.1 < D) → IntsAre us (List.replicate x.toNat 0) → Q (.ref D) { s with heap := h' }) :
    wpAny (model prog w) A (binaryOp .Mult (.ref l) (.int x u)) Q E s := by
  refine mul_list F N (N _ hm).1 (by omega) (by omega) (by simp only [List.size_toArray, List.length_singleton]; omega) fun h' F' N' => ?_
  rw [show (List.foldl (fun x1 x2 => x1 ++ x2) #[] (List.replicate (if (#[Value.int 0 t] : Array Value).isEmpty = true then 0 else x.toNat) #[Value.int 0 t])) = (List.replicate x.toNat (Value.int 0 t)).toArray by
    rw [if_neg (by simp), fold_rep]; simp] at N'
  exact h _ _ h' F' N' (fun p hp => Heap.lt_size (N p hp).1) (ints_rep t _)
theorem HLed_cls {cl ha ra T : Addr} {o1 o2 o3 o2' o3' : Obj} {pt news : List (Addr × Obj)} {a b : Int} {u v : Tok} :
    ∀ p ∈ (cl, o1) :: (ha, o2') :: (ra, o3') :: ((T, tupI a b u v) :: pt ++ news), p.1 ∈ ((cl, o1) :: (ha, o2) :: (ra, o3) :: (pt ++ news)).map (·.1) ∨ p.2.cls ≠ .type "list_iterator" := by
  simp only [List.map_cons, List.map_append]
  refine List.forall_mem_cons.mpr ⟨.inl (.head _), List.forall_mem_cons.mpr ⟨.inl (.tail _ (.head _)), List.forall_mem_cons.mpr ⟨.inl (.tail _ (.tail _ (.head _))), ?_⟩⟩⟩
  intro p hp
  rcases List.mem_append.mp hp with hp | hp
  · rcases List.mem_cons.mp hp with rfl | hp
    · right
      show (Value.type "tuple" : Value) ≠ .type "list_iterator"
      decide
    · exact .inl (.tail _ (.tail _ (.tail _ (List.mem_append_left _ (List.mem_map_of_mem hp)))))
  · exact .inl (.tail _ (.tail _ (.tail _ (List.mem_append_right _ (List.mem_map_of_mem hp)))))
theorem con_tree (w : World) (sa : Addr) (svs : List Value) (sns : List Int) (hs : IntsAre svs sns) (hsl : svs.length ≤ 63) (news : List (Addr × Obj)) : ConS PySem.Challenge.rw_tv0054_02.row.prog w (Mine.hd0.heap_1_41 w.params) sa svs.toArray 220 630 5300 [.ref sa] news
      (fun v n => ∃ T ra ha rvs hv hk pt, v = .ref T ∧ IntsAre rvs (hSyms sns) ∧ IPairs pt hv (hTree sns).hs ∧
        (∀ q ∈ news, @LT.lt Nat _ q.1 ra ∧ @LT.lt Nat _ q.1 ha ∧ ∀ p ∈ pt, @LT.lt Nat _ q.1 p.1) ∧ n = (T, twoOfH ra ha) :: (ra, listOf rvs.toArray 0) :: (ha, listOf hv.toArray hk) :: (pt ++ news)) := by
  revert w sa svs sns hs hsl news
  walk_at "g4"
  intros w sa svs sns
  intro hs hsl
  walk_at "g1"
  intro news
  w_top off
  k_fill
  refine' ConS.of (binds := [("script", .ref sa)]) ?k6 ?k7 ?k8 ?k9 ?kB ?kN ?c2 ?c3 ?c4 ?c5 ?_
  (( (case k6 => k_is); (case k7 => k_is); (case k8 => decide); (case k9 => (intro s9 X9; first | exact BindsTo.of_eq rfl | exact binds_K X9 rfl (by k_is) rfl rfl rfl | (refine kp_binds X9 ?_; exact fun _ => rfl))); (case kB => exact locs rfl); (case kN => (simp only [List.map_cons, List.map_nil]; decide)); (case c2 => exact rfl); (case c3 => exact rfl); (case c4 => exact rfl); (case c5 => decide); k_with "WPost" => dsimp only [WPost]; k_with "FPost" => dsimp only [FPost]))
  ((refine gen_all10 (ne := ?gN_36) (P := ?gP_36) ((?gf_36 : ∀ a0 a1 a2 a3 a4 a5 a6 a7 a8 a9, ?gP_36 a0 a1 a2 a3 a4 a5 a6 a7 a8 a9) (gen10 ?gN_36 ?gP_36).1 (gen10 ?gN_36 ?gP_36).2.1 (gen10 ?gN_36 ?gP_36).2.2.1 (gen10 ?gN_36 ?gP_36).2.2.2.1 (gen10 ?gN_36 ?gP_36).2.2.2.2.1 (gen10 ?gN_36 ?gP_36).2.2.2.2.2.1 (gen10 ?gN_36 ?gP_36).2.2.2.2.2.2.1 (gen10 ?gN_36 ?gP_36).2.2.2.2.2.2.2.1 (gen10 ?gN_36 ?gP_36).2.2.2.2.2.2.2.2.1 (gen10 ?gN_36 ?gP_36).2.2.2.2.2.2.2.2.2); (case gN_36 => k_extra "my:ne")))
  intros p loose mean mg mb gd cn cs ad ccd
  ((refine gen_all10 (ne := ?gN_37) (P := ?gP_37) ((?gf_37 : ∀ a0 a1 a2 a3 a4 a5 a6 a7 a8 a9, ?gP_37 a0 a1 a2 a3 a4 a5 a6 a7 a8 a9) (gen10 ?gN_37 ?gP_37).1 (gen10 ?gN_37 ?gP_37).2.1 (gen10 ?gN_37 ?gP_37).2.2.1 (gen10 ?gN_37 ?gP_37).2.2.2.1 (gen10 ?gN_37 ?gP_37).2.2.2.2.1 (gen10 ?gN_37 ?gP_37).2.2.2.2.2.1 (gen10 ?gN_37 ?gP_37).2.2.2.2.2.2.1 (gen10 ?gN_37 ?gP_37).2.2.2.2.2.2.2.1 (gen10 ?gN_37 ?gP_37).2.2.2.2.2.2.2.2.1 (gen10 ?gN_37 ?gP_37).2.2.2.2.2.2.2.2.2); (case gN_37 => k_extra "my:ne")))
  intros cl outer base g h₁ L' L₀ s tk R
  intro F' N' B' X' hS0 T'
  simp only [kstB] at F'
  k_extra "my:go"
  (((with_reducible rename Fr _ _ _ _ => lF'); (with_unfolding_all refine' For_invVF lF' ?k1_38 ?k2_38 ?_; (case k1_38 => exact rfl); (case k2_38 => exact rfl); k_whole); k_extra "my:go"))
  refine stop_out ?_
  rename_i ra _ lra _ _ ha _ lha _ _ _ _ _ _ _ _ l0 _ ll0 sl slv _ lsl hI1 hC1 hL1 cl9 ws hz F9 N9 lcl hws
  have hrh : @LT.lt Nat _ ra ha := lt_in lha (show (ra, _) ∈ _ by k_extra "my:mem")
  have hhc : @LT.lt Nat _ ha cl9 := lt_in lcl (show (ha, _) ∈ _ by k_extra "my:mem")
  have lnc : ∀ p ∈ news, @LT.lt Nat _ p.1 ra := lra
  refine ex_in (fr_names2H F9 [("symbols", .ref ra), ("heights", .ref ha), ("fresh", .int 257 _), ("height", .int 1 _), ("low", .int 1 _), ("script", .ref sa)] (by k_extra "my:names")) ?_
  walk_at "g1"
  intro u1 F2
  refine forListR (σ := HC) (l := cl9) (vs := ws) (nn := 0) (fun c => (cl9, listOf ws.toArray 0) :: (ha, listOf c.hv.toArray c.hk) :: (ra, listOf c.sv.toArray c.sk) :: (c.pt ++ news))
    (fun c => [("symbols", .ref ra), ("heights", .ref ha), ("fresh", .int c.S.fr c.tf), ("height", .int c.S.ht c.th), ("low", .int c.S.lo c.tl), ("script", .ref sa)])
    (fun i c => HInv ra ha cl9 (((hItems sns).take i).foldl hStep H0) c) (fun c => HInv ra ha cl9 (hTree sns) c) ⟨[.int 256 _], 0, [], 0, [], _, _, _, H0⟩ rfl (fun c => .head _) F2 (news_subH N9 (by (((try dsimp only); k_extra "my:inl")))) (by k_extra "my:names") ?_ ?_ ?_ ?_
  · exact ⟨rfl, .cons _ _ .nil, ⟨rfl, fun i a b e => by simp [H0] at e⟩, fun p hp => (nomatch hp), fun p hp => (nomatch hp)⟩
  · clear F2 F9 N9 lha ll0 lsl lcl hI1 hC1 hL1 lra
    walk_at "g2"
    intros i v
    refine prHC ?_
    ((refine gen_all9 (ne := ?gN_40) (P := ?gP_40) ((?gf_40 : ∀ a0 a1 a2 a3 a4 a5 a6 a7 a8, ?gP_40 a0 a1 a2 a3 a4 a5 a6 a7 a8) (gen9 ?gN_40 ?gP_40).1 (gen9 ?gN_40 ?gP_40).2.1 (gen9 ?gN_40 ?gP_40).2.2.1 (gen9 ?gN_40 ?gP_40).2.2.2.1 (gen9 ?gN_40 ?gP_40).2.2.2.2.1 (gen9 ?gN_40 ?gP_40).2.2.2.2.2.1 (gen9 ?gN_40 ?gP_40).2.2.2.2.2.2.1 (gen9 ?gN_40 ?gP_40).2.2.2.2.2.2.2.1 (gen9 ?gN_40 ?gP_40).2.2.2.2.2.2.2.2); (case gN_40 => k_extra "my:ne")))
    intros sv sk hv hk pt tf th tl SS
    walk_at "g4"
    intros u h tk own
    intro hv9 hown I F' N'
    (try dsimp only at N')
    simp only [List.cons_append] at N'
    simp only [kstB] at F'
    (try k_sweep)
    refine ex_in (⟨_, rfl⟩ : ∃ S, S = ((hItems sns).take i).foldl hStep H0) ?_
    walk_at "g1"
    intro S hS1
    rw [← hS1] at I
    have hS := hS1.symm
    clear hS1
    have hi12 : ((hItems sns).take i).length ≤ 12 := by have := hItems_len sns; simp only [List.length_take]; omega
    have hbd := HB.fold ((hItems sns).take i) HB.zero (by omega)
    rw [hS, Nat.zero_add] at hbd
    obtain ⟨hb1, hb2, hb3, hb4, hb5, hb6, hb7⟩ := hbd
    have I9 := hid_in I
    obtain ⟨Ieq, Iss, Ihs, Ip1, Itu⟩ := I
    (try dsimp only at Ieq Iss Ihs Ip1 Itu)
    subst Ieq
    have hol : sv.length ≤ 20 := by have := Iss.length; omega
    have hpl : hv.length ≤ 20 := by have := Ihs.1; omega
    have hq1 : ∀ p ∈ pt, p.1 ≠ ra := ne_gtH Ip1 (by omega)
    have hq2 : ∀ p ∈ pt, p.1 ≠ ha := ne_gtH Ip1 (by omega)
    have hq3 : ∀ p ∈ news, p.1 ≠ ra := ne_ltH lnc (Nat.le_refl _)
    have hq4 : ∀ p ∈ news, p.1 ≠ ha := ne_ltH lnc (by omega)
    refine ex_in2 (ints_at hws hv9) ?_
    walk_at "g2"
    intros x t
    rintro ⟨hvx, hxi⟩
    subst hvx
    replace hxi : (hItems sns)[i]? = some x := hxi
    have hnext : ((hItems sns).take (i + 1)).foldl hStep H0 = hStep SS x := by
      rw [List.take_add_one, hxi, List.foldl_append, hS]; rfl
    rcases (by omega : x % 3 = 0 ∨ (x % 3 = 1 ∧ 1 < SS.ht) ∨ (x % 3 ≠ 0 ∧ ¬ (x % 3 = 1 ∧ 1 < SS.ht))) with hc | hc | hc
    · have hstep : hStep SS x = ⟨SS.ss ++ [SS.fr], SS.hs, SS.fr + 1, SS.ht + 1, SS.lo⟩ := if_pos hc
      k_extra "my:go"
      rename (News _ _ _ _) => N'
      simp only [List.push_toArray] at N'
      refine' ⟨⟨sv ++ [.int SS.fr tf], sk + 1, hv, hk, pt, _, _, tl, ⟨SS.ss ++ [SS.fr], SS.hs, SS.fr + 1, SS.ht + 1, SS.lo⟩⟩, _, _, _, _, rfl, by k_asm, by k_asm, by (((try dsimp only); k_extra "my:inl")), by (((try dsimp only); k_extra "my:inl")), by k_extra "my:names", ?inv, same_old rfl⟩
      case inv =>
        rw [hnext, hstep]
        exact ⟨rfl, ints_oneH Iss, Ihs, Ip1, Itu⟩
    · have hstep : hStep SS x = ⟨SS.ss ++ [0], SS.hs, SS.fr, SS.ht - 1, min SS.lo (SS.ht - 1)⟩ := by unfold hStep; rw [if_neg (by omega), if_pos hc]
      obtain ⟨hc1, hc2⟩ := hc
      k_extra "my:go"
      rename (News _ _ _ _) => N'
      simp only [List.push_toArray] at N'
      refine' ⟨⟨sv ++ [.int 0 _], sk + 1, hv, hk, pt, tf, _, _, ⟨SS.ss ++ [0], SS.hs, SS.fr, SS.ht - 1, if SS.ht - 1 < SS.lo then SS.ht - 1 else SS.lo⟩⟩, _, _, _, _, rfl, by k_asm, by k_asm, by (((try dsimp only); k_extra "my:inl")), by (((try dsimp only); k_extra "my:inl")), by k_extra "my:names", ?inv, same_old rfl⟩
      case inv =>
        rw [hnext, hstep, show min SS.lo (SS.ht - 1) = if SS.ht - 1 < SS.lo then SS.ht - 1 else SS.lo by split <;> omega]
        exact ⟨rfl, ints_oneH Iss, Ihs, Ip1, Itu⟩
    · have hstep : hStep SS x = ⟨SS.ss ++ [7 + x / 3 % 48], SS.hs ++ [(SS.lo, SS.ht)], SS.fr, SS.ht, SS.ht⟩ := by unfold hStep; rw [if_neg hc.1, if_neg hc.2]
      obtain ⟨hc1, hc2⟩ := hc
      have hkx : x.fdiv 3 = x / 3 := Int.fdiv_eq_ediv_of_nonneg x (by decide)
      have hkm : (x / 3).fmod 48 = x / 3 % 48 := Int.fmod_eq_emod_of_nonneg _ (by decide)
      k_extra "my:go"
      all_goals (
        rename_i T9 _ lT _ _ _ _ _ F9 N9
        simp only [List.push_toArray, hkx, hkm] at N9
        have hT1 : @LT.lt Nat _ cl9 T9 := lt_in lT (show (cl9, _) ∈ _ by k_extra "my:mem")
        refine' ⟨⟨sv ++ [.int (7 + x / 3 % 48) _], sk + 1, hv ++ [.ref T9], hk + 1, (T9, tupI SS.lo SS.ht tl th) :: pt, tf, th, th, ⟨SS.ss ++ [7 + x / 3 % 48], SS.hs ++ [(SS.lo, SS.ht)], SS.fr, SS.ht, SS.ht⟩⟩, _, _, _, _, rfl, by k_asm, by k_asm, ?_, by (((try dsimp only); k_extra "my:inl")), by k_extra "my:names", ?_, ?_⟩
        · simp only [tupI, List.cons_append]; (((try dsimp only); k_extra "my:inl"))
        · rw [hnext, hstep]
          exact (hid_out I9).next (ints_oneH Iss) rfl hT1
        · exact HLed_cls)
  · refine prHC ?_
    ((refine gen_all9 (ne := ?gN_47) (P := ?gP_47) ((?gf_47 : ∀ a0 a1 a2 a3 a4 a5 a6 a7 a8, ?gP_47 a0 a1 a2 a3 a4 a5 a6 a7 a8) (gen9 ?gN_47 ?gP_47).1 (gen9 ?gN_47 ?gP_47).2.1 (gen9 ?gN_47 ?gP_47).2.2.1 (gen9 ?gN_47 ?gP_47).2.2.2.1 (gen9 ?gN_47 ?gP_47).2.2.2.2.1 (gen9 ?gN_47 ?gP_47).2.2.2.2.2.1 (gen9 ?gN_47 ?gP_47).2.2.2.2.2.2.1 (gen9 ?gN_47 ?gP_47).2.2.2.2.2.2.2.1 (gen9 ?gN_47 ?gP_47).2.2.2.2.2.2.2.2); (case gN_47 => k_extra "my:ne")))
    intros sv sk hv hk pt tf th tl SS
    walk_at "g3"
    intros u h tk
    intro I F' N'
    (try dsimp only at N' I)
    simp only [kstB] at F'
    clear F2 F9 N9
    k_sweep
    obtain ⟨Ieq, Iss, Ihs, Ip1, Itu⟩ := I
    (try dsimp only at Ieq Iss Ihs Ip1 Itu)
    subst Ieq
    (try dsimp only)
    have hbt := HB.tree sns
    have hlt := hItems_len sns
    obtain ⟨hb1, hb2, hb3, hb4, hb5, hb6, hb7⟩ := hbt
    k_extra "my:go"
    refine stop_out ?_
    rename (Fr _ _ _ _) => F'
    rename (News _ _ _ _) => N'
    rename_i lz _ _
    refine mul_zero F' N' (l := lz) (.head _) (by omega) (by omega) ?_
    clear F' N'
    walk_at "g3"
    intros D us h'
    intro F' N' lD hus
    k_sweep
    k_extra "my:go"
    rename_i rr rvs _ lr hrv T9 _ F9 N9 _
    have lrc : @LT.lt Nat _ cl9 rr := lt_in lr (show (cl9, _) ∈ _ by k_extra "my:mem")
    refine' ⟨_, _, _, _, _, (T9, twoOfH rr ha) :: (rr, listOf rvs.toArray 0) :: (ha, listOf hv.toArray hk) :: (pt ++ news), rfl, by k_asm, by k_asm, ?mm, T9, rr, ha, rvs, hv, hk, pt, rfl, hrv, Ihs, fun q hq => ?_, rfl⟩
    case mm =>
      simp only [twoOfH]
      (((try dsimp only); k_extra "my:inl"))
    have h9 := lnc q hq
    refine ⟨Nat.lt_trans h9 (by omega), Nat.lt_trans h9 hrh, fun p hp => ?_⟩
    have h8 := Ip1 p hp
    omega
  · intro c I
    rw [hws.length] at I
    have e : List.take (hItems sns).length (hItems sns) = hItems sns := List.take_length
    replace I : HInv ra ha cl9 (List.foldl hStep H0 (List.take (hItems sns).length (hItems sns))) c := I
    rw [e] at I
    exact I
end
theorem lay_11 : True := by
  k_with "off26" => skip
  exact True.intro
section
theorem lay_12 : True := by
  k_with "my:pyIter ref" => ((fail_if_success k_extra "off27"); with_reducible refine stop_in ?_)
  k_with "my:eval ListComp" => ((fail_if_success k_extra "off27"); with_reducible refine stop_in ?_)
  k_with "my:CompSrc" => ((fail_if_success k_extra "off27"); with_reducible refine stop_in ?_)
  exact True.intro
open PyProof.Rows.LCg (FinE CompEnd lst)
theorem lay_13 : True := by
  k_with "my:eval Name" => ((fail_if_success k_extra "off27"); (k_here; (with_reducible show wpAny _ _ (eval (Expr.Name _ _) (compEnvC _ _ _ _)) _ _ _); k_dflt (refine ld_cellH (by k_asm) (by rfl) (by k_extra "my:mem") (by k_asm) ?_)))
  k_with "my:subscriptTail Name Name ref int" => ((fail_if_success k_extra "off27"); (with_reducible refine stop_in ?_))
  k_with "my:CompEnd int" => ((fail_if_success k_extra "off27"); with_reducible refine stop_in ?_)
  exact True.intro
theorem ld_cellH {prog : Program} {w : World} {A : Around} {E : Value → Shared → Prop} {s : Shared} {h₀ : Heap} {L C : Addr} {news : List (Addr × Obj)} {cl : List (Str × Addr)} {Q : Value → Shared → Prop} {env : Env} {scope : Scope} {x : Str} {pos : Pos} {c : Addr} {o : Obj} {v : Value} (N : News h₀ L s.heap news) (hc : cl.lookup x = some c) (hm : (c, o) ∈ news) (hd : o.data = .cell (some v)) (h : Q v s)
    (hk : (compEnvC scope cl C env).scope.kind = .function := by rfl) (hl : (compEnvC scope cl C env).kindOf x = some .cell := by rfl) (hb : (x == ("__debug__" : Str)) = false := by decide) :
    wpAny (model prog w) A (eval (.Name x pos) (compEnvC scope cl C env)) Q E s := wpAny_Name (wpAny_loadName_cell hk hl hc ⟨o, N.get hm, hd⟩ h) hb
def rawOne (n : Int) : List Int := if 63 < n then [64 + n / 64, n % 64] else [n % 64]
def rawOcts (ns : List Int) : List Int := ns.flatMap rawOne
def octs2 (os : List Int) (side : Int) : List Int := (List.range os.length).map fun k => os.getD k 0 + 128 * (((k : Int) + side) % 2)
theorem octs2_take {os : List Int} {side : Int} {i : Nat} {n : Int} (h : os[i]? = some n) : (octs2 os side).take (i + 1) = (octs2 os side).take i ++ [n + 128 * (((i : Int) + side) % 2)] := by
  have hi : i < os.length := (List.getElem?_eq_some_iff.mp h).1
  rw [List.take_add_one]
  congr 1
  unfold octs2
  rw [List.getElem?_map, List.getElem?_range hi]
  simp [List.getD_eq_getElem?_getD, h]
theorem raw_len : ∀ ns : List Int, (rawOcts ns).length ≤ 2 * ns.length
  | [] => Nat.le_refl _
  | n :: ns => by
    have := raw_len ns
    have h1 : (rawOne n).length ≤ 2 := by unfold rawOne; split <;> simp
    show (rawOne n ++ rawOcts ns).length ≤ _
    simp only [List.length_append, List.length_cons]
    omega
theorem ints_twoH {vs : List Value} {ns : List Int} {a b : Int} {t u : Tok} (h : IntsAre vs ns) : IntsAre (vs ++ [Value.int a t, Value.int b u]) (ns ++ [a, b]) := by
  induction h with
  | nil => exact .cons _ _ (.cons _ _ .nil)
  | cons _ _ _ ih => exact .cons _ _ ih
theorem namedH {h₀ h : Heap} {L : Addr} {l : List (Addr × Obj)} (N : News h₀ L h l) : ∃ b, b = l ∧ News h₀ L h b := ⟨l, rfl, N⟩
theorem off1_memH {D : Addr} {l : List (Addr × Obj)} (h : PyProof.Rows.LCg.Off1 D l) : ∀ p ∈ l, @Ne Nat p.1 D := by
  induction l with
  | nil => intro p hp; exact nomatch hp
  | cons q r ih =>
    intro p hp
    rcases List.mem_cons.mp hp with e | hp
    · rw [e]; exact h.1
    · exact ih h.2 p hp
theorem ints_getH {vs : List Value} {ns : List Int} (h : IntsAre vs ns) : ∀ {i : Nat} {x : Int}, ns[i]? = some x → ∃ t, vs[i]? = some (.int x t) := by
  induction h with
  | nil => intro i x e; simp at e
  | cons n t h ih =>
    intro i x e
    cases i with
    | zero => simp at e; subst e; exact ⟨t, rfl⟩
    | succ i => simpa using ih (by simpa using e)
theorem ints_one_eqH {vs : List Value} {ns : List Int} {a b : Int} {t : Tok} (h : IntsAre vs ns) (e : a = b) : IntsAre (vs ++ [Value.int a t]) (ns ++ [b]) := by subst e; exact ints_oneH h
theorem con_octets (w : World) (la : Addr) (vs : List Value) (ns : List Int) (k : Nat) (side : Int) (ts : Tok) (hi : IntsAre vs ns) (hl : ns.length ≤ 40) (hn : ∀ n ∈ ns, 0 ≤ n ∧ n < 300) (h0 : 0 ≤ side ∧ side ≤ 1) (rest : List (Addr × Obj)) :
    Con PySem.Challenge.rw_tv0054_02.row.prog w (Mine.hd0.heap_1_41 w.params) 225 630 5300 [.ref la, .int side ts] ((la, listOf vs.toArray k) :: rest)
      (fun v n => ∃ D us kk, v = .ref D ∧ IntsAre us (octs2 (rawOcts ns) side) ∧ (∀ p ∈ (la, listOf vs.toArray k) :: rest, @Ne Nat p.1 D) ∧ n = (D, listOf us.toArray kk) :: (la, listOf vs.toArray k) :: rest) := by
  revert w la vs ns k side ts hi hl hn h0 rest
  ((refine gen_all7 (ne := ?gN_49) (P := ?gP_49) ((?gf_49 : ∀ a0 a1 a2 a3 a4 a5 a6, ?gP_49 a0 a1 a2 a3 a4 a5 a6) (gen7 ?gN_49 ?gP_49).1 (gen7 ?gN_49 ?gP_49).2.1 (gen7 ?gN_49 ?gP_49).2.2.1 (gen7 ?gN_49 ?gP_49).2.2.2.1 (gen7 ?gN_49 ?gP_49).2.2.2.2.1 (gen7 ?gN_49 ?gP_49).2.2.2.2.2.1 (gen7 ?gN_49 ?gP_49).2.2.2.2.2.2); (case gN_49 => k_extra "my:ne")))
  intros w la vs ns k side ts
  intro hi hl hn h0
  walk_at "g1"
  intro rest
  w_top off
  k_fill
  refine' Con.ofC (binds := [("symbols", .ref la), ("side", .int side ts)]) ?k6 ?k7 ?k8 ?k9 ?kB ?kD ?c2 ?c3 ?c4 ?_
  (( (case k6 => k_is); (case k7 => k_is); (case k8 => decide); (case k9 => (intro s9 X9; first | exact BindsTo.of_eq rfl | exact binds_K X9 rfl (by k_is) rfl rfl rfl | (refine kp_binds X9 ?_; exact fun _ => rfl))); (case kB => exact rfl); (case kD => decide +kernel); (case c2 => exact rfl); (case c3 => exact rfl); (case c4 => exact rfl); k_with "WPost" => dsimp only [WPost]; k_with "FPost" => dsimp only [FPost]))
  ((refine gen_all10 (ne := ?gN_51) (P := ?gP_51) ((?gf_51 : ∀ a0 a1 a2 a3 a4 a5 a6 a7 a8 a9, ?gP_51 a0 a1 a2 a3 a4 a5 a6 a7 a8 a9) (gen10 ?gN_51 ?gP_51).1 (gen10 ?gN_51 ?gP_51).2.1 (gen10 ?gN_51 ?gP_51).2.2.1 (gen10 ?gN_51 ?gP_51).2.2.2.1 (gen10 ?gN_51 ?gP_51).2.2.2.2.1 (gen10 ?gN_51 ?gP_51).2.2.2.2.2.1 (gen10 ?gN_51 ?gP_51).2.2.2.2.2.2.1 (gen10 ?gN_51 ?gP_51).2.2.2.2.2.2.2.1 (gen10 ?gN_51 ?gP_51).2.2.2.2.2.2.2.2.1 (gen10 ?gN_51 ?gP_51).2.2.2.2.2.2.2.2.2); (case gN_51 => k_extra "my:ne")))
  intros p loose mean mg mb gd cn cs ad ccd
  ((refine gen_all10 (ne := ?gN_52) (P := ?gP_52) ((?gf_52 : ∀ a0 a1 a2 a3 a4 a5 a6 a7 a8 a9, ?gP_52 a0 a1 a2 a3 a4 a5 a6 a7 a8 a9) (gen10 ?gN_52 ?gP_52).1 (gen10 ?gN_52 ?gP_52).2.1 (gen10 ?gN_52 ?gP_52).2.2.1 (gen10 ?gN_52 ?gP_52).2.2.2.1 (gen10 ?gN_52 ?gP_52).2.2.2.2.1 (gen10 ?gN_52 ?gP_52).2.2.2.2.2.1 (gen10 ?gN_52 ?gP_52).2.2.2.2.2.2.1 (gen10 ?gN_52 ?gP_52).2.2.2.2.2.2.2.1 (gen10 ?gN_52 ?gP_52).2.2.2.2.2.2.2.2.1 (gen10 ?gN_52 ?gP_52).2.2.2.2.2.2.2.2.2); (case gN_52 => k_extra "my:ne")))
  intros cl outer base g h₁ L' L₀ s tk cells
  walk_at "g1"
  intro R F' N' Y' B' X' T' l1
  refine ex_in2 (CellsAre.two Y') ?_
  walk_at "g2"
  intros o' o2'
  rintro ⟨hE', d1', d2'⟩
  subst hE'
  clear Y'
  simp only [List.cons_append, List.nil_append] at N'
  have hla : @LT.lt Nat _ la L' := l1 _ (.head _)
  have lnw : ∀ p ∈ rest, @LT.lt Nat _ p.1 L' := fun p hp => l1 p (.tail _ hp)
  have lnw1 : ∀ p ∈ rest, @LT.lt Nat _ p.1 (L' + 1) := fun p hp => Nat.lt_succ_of_lt (lnw p hp)
  have lnw2 : ∀ p ∈ rest, @LT.lt Nat _ p.1 (L' + 1 + 1) := fun p hp => Nat.lt_succ_of_lt (lnw1 p hp)
  have hvl := hi.length
  k_extra "my:go"
  (((with_reducible rename Fr _ _ _ _ => lF'); (with_unfolding_all refine' For_invVF lF' ?k1_53 ?k2_53 ?_; (case k1_53 => exact rfl); (case k2_53 => exact rfl); k_whole); k_extra "my:go"))
  refine stop_out ?_
  rename_i oa _ loa hz oc2 N9 hoc t9
  have hLoa : @LT.lt Nat _ (L' + 1 + 1) oa := lt_in loa (show (L' + 1 + 1, _) ∈ _ by k_extra "my:mem")
  have hro : ∀ p ∈ rest, p.1 ≠ oa := ne_ltH lnw (by omega)
  refine ex_in (fr_names2H lF' [("symbols", .ref la)] (by k_extra "my:names")) ?_
  walk_at "g1"
  intro u1 F2
  clear lF'
  refine forListR (σ := List Value × Nat) (l := la) (vs := vs) (nn := k) (fun c => (oa, listOf c.1.toArray c.2) :: (L' + 1 + 1, oc2) :: (L' + 1, o2') :: (la, listOf vs.toArray k) :: rest)
    (fun _ => [("symbols", .ref la)]) (fun i c => IntsAre c.1 (rawOcts (ns.take i))) (fun c => IntsAre c.1 (rawOcts ns)) ([], 0) rfl (fun c => by k_extra "my:mem") F2 N9 (by k_extra "my:names") .nil ?_ ?_ ?_
  · clear F2 N9 l1 loa
    walk_at "g2"
    intros i v
    refine pr2 ?_
    ((refine gen_all6 (ne := ?gN_54) (P := ?gP_54) ((?gf_54 : ∀ a0 a1 a2 a3 a4 a5, ?gP_54 a0 a1 a2 a3 a4 a5) (gen6 ?gN_54 ?gP_54).1 (gen6 ?gN_54 ?gP_54).2.1 (gen6 ?gN_54 ?gP_54).2.2.1 (gen6 ?gN_54 ?gP_54).2.2.2.1 (gen6 ?gN_54 ?gP_54).2.2.2.2.1 (gen6 ?gN_54 ?gP_54).2.2.2.2.2); (case gN_54 => k_extra "my:ne")))
    intros ov ok u h tk own
    intro hv9 hown I F' N'
    (try dsimp only at N' I)
    simp only [List.cons_append] at N'
    simp only [kstB] at F'
    (try k_sweep)
    refine ex_in2 (ints_at hi hv9) ?_
    walk_at "g2"
    intros n t
    rintro ⟨hvx, hni⟩
    subst hvx
    have hnb := hn n (List.mem_of_getElem? hni)
    have hnext : rawOcts (ns.take (i + 1)) = rawOcts (ns.take i) ++ rawOne n := by
      rw [List.take_add_one, hni]
      show List.flatMap _ (_ ++ [n]) = _
      rw [List.flatMap_append]
      simp [rawOcts]
    have hd64 : n.fdiv 64 = n / 64 := Int.fdiv_eq_ediv_of_nonneg n (by decide)
    have hm64 : n.fmod 64 = n % 64 := Int.fmod_eq_emod_of_nonneg n (by decide)
    have hol : ov.length ≤ 80 := by
      have h1 := I.length
      have h2 := raw_len (ns.take i)
      have h3 : (ns.take i).length ≤ 40 := by simp only [List.length_take]; omega
      omega
    have I9 := hid_in I
    clear I
    by_cases hc : 63 < n
    · have hone : rawOne n = [64 + n / 64, n % 64] := if_pos hc
      k_extra "my:go"
      rename (News _ _ _ _) => N'
      simp only [List.push_toArray, hd64, hm64, List.append_assoc, List.cons_append, List.nil_append] at N'
      refine' ⟨(ov ++ [.int (64 + n / 64) _, .int (n % 64) _], ok + 1 + 1), _, _, _, _, rfl, by k_asm, by k_asm, by (((try dsimp only); k_extra "my:inl")), by (((try dsimp only); k_extra "my:inl")), by k_extra "my:names", ?inv, same_old rfl⟩
      case inv =>
        rw [hnext, hone]
        exact ints_twoH (hid_out I9)
    · have hone : rawOne n = [n % 64] := if_neg hc
      k_extra "my:go"
      rename (News _ _ _ _) => N'
      simp only [List.push_toArray, hm64] at N'
      refine' ⟨(ov ++ [.int (n % 64) _], ok + 1), _, _, _, _, rfl, by k_asm, by k_asm, by (((try dsimp only); k_extra "my:inl")), by (((try dsimp only); k_extra "my:inl")), by k_extra "my:names", ?inv, same_old rfl⟩
      case inv =>
        rw [hnext, hone]
        exact ints_oneH (hid_out I9)
  · refine pr2 ?_
    walk_at "g5"
    intros ov ok u h tk
    intro I F' N'
    (try dsimp only at N' I)
    simp only [kstB] at F'
    clear F2 N9
    k_sweep
    have hol : ov.length = (rawOcts ns).length := I.length
    have hol2 : (rawOcts ns).length ≤ 80 := by have := raw_len ns; omega
    have I9 := hid_in I
    clear I
    (try dsimp only)
    k_extra "my:go"
    refine stop_out ?_
    rename (Fr _ _ _ _) => F'
    rename (News _ _ _ _) => N'
    k_dflt refine PyProof.Rows.LCg.ListComp_U F' (by with_unfolding_all rfl) (by decide) rfl (by decide) rfl ?_
    k_extra "my:go"
    refine stop_out ?_
    rename (IsRange _ _ _ _ _ _ _ _) => hrg
    rename (Fr _ _ _ _) => F'
    rename (News _ _ _ _) => N'
    refine ex_in (namedH N') ?_
    walk_at "g1"
    rintro nl ⟨hnl, Nb⟩
    have hsm9 : Builtin.Range.small 0 ((rawOcts ns).length : Int) 1 = true := small_one (by omega) (by omega) (by omega) (by omega)
    have hrn9 : Builtin.Range.rangeSize 0 ((rawOcts ns).length : Int) 1 = (((rawOcts ns).length : Nat) : Int) := by rw [rangeSize_nat]; omega
    refine PyProof.Rows.LCg.CompSrc.range (n := (rawOcts ns).length) rfl F' Nb hrg hsm9 hrn9 (by rw [sizeLine_eq]; omega) ?_
    walk_at "g1"
    intro g2
    refine rest_ind (fun i ys nw => nw = nl ∧ IntsAre ys ((octs2 (rawOcts ns) side).take i)) _ ?_ ?_ _ 0 [] _ (Nat.zero_add _) ⟨rfl, .nil⟩
    · walk_at "g2"
      intros ys nw
      rintro ⟨hnw, hS⟩
      replace hnw := hnw.symm
      subst hnw
      walk_at "g3"
      intros D h9 tk9
      intro F9 N9 o9
      clear F' N' Nb hsm9 hrn9 hrg
      rw [hnl] at N9
      have hoc8 : (octs2 (rawOcts ns) side).length = (rawOcts ns).length := by simp [octs2]
      rw [← hoc8, List.take_length] at hS
      have hyl : ys.length ≤ 80 := by have h9 : ys.length = (octs2 (rawOcts ns) side).length := hS.length; omega
      k_extra "my:go"
      rename (Fr _ _ _ _) => F'
      rename (News _ _ _ _) => N'
      rw [show (PyProof.Rows.LCg.lst ys) = listOf ys.toArray ys.length from rfl] at N'
      rw [hnl] at o9
      have o9m := off1_memH o9
      refine ⟨_, _, _, _, _, (D, listOf ys.toArray ys.length) :: (la, listOf vs.toArray k) :: rest, rfl, by k_asm, by k_asm, by (((try dsimp only); k_extra "my:inl")), D, ys, ys.length, rfl, by assumption, fun q hq => ?_, rfl⟩
      exact o9m q (.tail _ (.tail _ (.tail _ hq)))
    · ((refine gen_all6 (ne := ?gN_60) (P := ?gP_60) ((?gf_60 : ∀ a0 a1 a2 a3 a4 a5, ?gP_60 a0 a1 a2 a3 a4 a5) (gen6 ?gN_60 ?gP_60).1 (gen6 ?gN_60 ?gP_60).2.1 (gen6 ?gN_60 ?gP_60).2.2.1 (gen6 ?gN_60 ?gP_60).2.2.2.1 (gen6 ?gN_60 ?gP_60).2.2.2.2.1 (gen6 ?gN_60 ?gP_60).2.2.2.2.2); (case gN_60 => k_extra "my:ne")))
      intros i ys nw v I oI
      ((refine gen_all7 (ne := ?gN_61) (P := ?gP_61) ((?gf_61 : ∀ a0 a1 a2 a3 a4 a5 a6, ?gP_61 a0 a1 a2 a3 a4 a5 a6) (gen7 ?gN_61 ?gP_61).1 (gen7 ?gN_61 ?gP_61).2.1 (gen7 ?gN_61 ?gP_61).2.2.1 (gen7 ?gN_61 ?gP_61).2.2.2.1 (gen7 ?gN_61 ?gP_61).2.2.2.2.1 (gen7 ?gN_61 ?gP_61).2.2.2.2.2.1 (gen7 ?gN_61 ?gP_61).2.2.2.2.2.2); (case gN_61 => k_extra "my:ne")))
      intros C oC D m2 h9 tk9 E9
      rintro hi9 ⟨hnw, hS⟩ hv hC hx F9 N9 off hne
      replace hnw := hnw.symm
      subst hnw
      refine ex_in hv ?_
      clear hv
      walk_at "g1"
      intro t8 hv
      rw [hv] at hx
      clear hv
      clear F' N' Nb hsm9 hrn9 hrg
      rw [hnl] at N9
      refine ex_in (⟨_, List.getElem?_eq_getElem hi9⟩ : ∃ n, (rawOcts ns)[i]? = some n) ?_
      walk_at "g1"
      intro n9 hn9
      refine ex_in (ints_getH (hid_out I9) hn9) ?_
      walk_at "g1"
      intro u9 hu9
      have htk := octs2_take (side := side) hn9
      k_extra "my:go"
      refine stop_out ?_
      rename (Fr _ _ _ _) => F'
      rename (News _ _ _ _) => N'
      have hom := (N' (oa, listOf ov.toArray ok) (by k_extra "my:mem")).1
      refine item_listL (k := 0 + (i : Int)) (x := .int n9 u9) ⟨_, hom, rfl, _, rfl⟩ (by omega) (by omega) (by rw [show (0 + (i : Int)).toNat = i by omega]; exact hu9) ?_
      k_extra "my:go"
      refine stop_out ?_
      refine ⟨_, _, nl, rfl, by k_asm, by rw [hnl]; k_asm, off, trivial, rfl, ?_⟩
      rw [htk]
      refine ints_one_eqH hS ?_
      simp only [Int.fmod_eq_emod_of_nonneg _ (show (0 : Int) ≤ 2 by decide)]
      omega
  · intro c I
    rw [hvl, List.take_length] at I
    exact I
end
theorem lay_14 : True := by
  k_with "off27" => skip
  exact True.intro
section
def pvGo : Int → Int → List Int → Option (Int × List Int)
  | val, b, [] => if b / 64 % 2 = 1 then none else some (val, [])
  | val, b, c :: l => if b / 64 % 2 = 1 then pvGo (val * 64 + c % 64) c l else some (val, c :: l)
theorem bits_low {b : Int} (h0 : 0 ≤ b) (h1 : b < 256) : Builtin.bitAnd b 63 = b % 64 ∧ Builtin.bitAnd b 64 = 64 * (b / 64 % 2) := by
  have key : ∀ n : Fin 256, Builtin.bitAnd (n.val : Int) 63 = (n.val : Int) % 64 ∧ Builtin.bitAnd (n.val : Int) 64 = 64 * ((n.val : Int) / 64 % 2) := by decide +kernel
  have := key ⟨b.toNat, by omega⟩
  simpa [Int.toNat_of_nonneg h0] using this
theorem or_low {v c : Int} (hv : 0 ≤ v) (h0 : 0 ≤ c) (h1 : c < 64) : Builtin.bitOr (v * 64) c = v * 64 + c := by
  obtain ⟨a, rfl⟩ := Int.eq_ofNat_of_zero_le hv
  obtain ⟨d, rfl⟩ := Int.eq_ofNat_of_zero_le h0
  have e1 : decide (0 ≤ Builtin.bitNot ((a : Int) * 64)) = false := by simp [Builtin.bitNot]; omega
  have e2 : decide (0 ≤ Builtin.bitNot (d : Int)) = false := by simp [Builtin.bitNot]; omega
  have nn : ∀ x : Int, Builtin.bitNot (Builtin.bitNot x) = x := fun x => by simp only [Builtin.bitNot]; omega
  unfold Builtin.bitOr Builtin.bitAnd
  rw [e1, e2]
  dsimp only
  rw [nn, nn, nn]
  have := Nat.two_pow_add_eq_or_of_lt (i := 6) (b := d) (by omega) a
  have e3 : ((a : Int) * 64).toNat = 2 ^ 6 * a := by omega
  rw [e3, Int.toNat_natCast, ← this]
  push_cast
  omega
theorem pvGo_le : ∀ (l : List Int) (val b V : Int) (r : List Int), 0 ≤ val → pvGo val b l = some (V, r) → val ≤ V
  | [], val, b, V, r, h0, h => by
    simp only [pvGo] at h
    split at h
    · cases h
    · simp only [Option.some.injEq, Prod.mk.injEq] at h; omega
  | c :: l, val, b, V, r, h0, h => by
    simp only [pvGo] at h
    split at h
    · have := pvGo_le l _ _ _ _ (by omega) h; omega
    · simp only [Option.some.injEq, Prod.mk.injEq] at h; omega
theorem pvGo_more {l : List Int} {val b V : Int} {r : List Int} (h : pvGo val b l = some (V, r)) (hb : b / 64 % 2 = 1) : ∃ c l', l = c :: l' ∧ pvGo (val * 64 + c % 64) c l' = some (V, r) := by
  cases l with
  | nil => simp [pvGo, hb] at h
  | cons c l => simp only [pvGo, if_pos hb] at h; exact ⟨c, l, rfl, h⟩
theorem pvGo_stop {l : List Int} {val b V : Int} {r : List Int} (h : pvGo val b l = some (V, r)) (hb : ¬ b / 64 % 2 = 1) : val = V ∧ l = r := by
  cases l with
  | nil => simp only [pvGo, if_neg hb, Option.some.injEq, Prod.mk.injEq] at h; exact h
  | cons c l => simp only [pvGo, if_neg hb, Option.some.injEq, Prod.mk.injEq] at h; exact h
theorem ints_get {vs : List Value} {ns : List Int} (h : IntsAre vs ns) : ∀ {i : Nat} {n : Int}, ns[i]? = some n → ∃ t, vs[i]? = some (.int n t) := by
  induction h with
  | nil => intro i n e; simp at e
  | cons n t h ih =>
    intro i n' e
    cases i with
    | zero => simp at e; exact ⟨t, by simp [e]⟩
    | succ i => simpa using ih (by simpa using e)
theorem lay_15 : True := by
  k_with "my:call builtin:next" => ((fail_if_success k_extra "off28"); (with_reducible refine stop_in ?_))
  exact True.intro
theorem con_pv (w : World) (it oa : Addr) (io : Obj) (ovs : List Value) (ons : List Int) (k i : Nat) (V : Int) (r : List Int) (b0 : Int) (rest : List (Addr × Obj)) (hio : IntsAre ovs ons) (hoct : ∀ (j : Nat) (n : Int), ons[j]? = some n → 0 ≤ n ∧ n < 256) (hi : IterO io oa i)
    (h0 : ons[i]? = some b0) (hv : pvGo (b0 % 64) b0 (ons.drop (i + 1)) = some (V, r)) (hV : V < 1000000) (off : ∀ p ∈ (oa, listOf ovs.toArray k) :: rest, p.1 ≠ it) :
    Con PySem.Challenge.rw_tv0054_02.row.prog w (Mine.hd0.heap_1_41 w.params) 45 700 6000 [.ref it] ((it, io) :: (oa, listOf ovs.toArray k) :: rest)
      (fun v n => (∃ t, v = .int V t) ∧ ∃ io' j, IterO io' oa j ∧ r = ons.drop j ∧ n = (it, io') :: (oa, listOf ovs.toArray k) :: rest) := by
  revert w it oa io ovs ons k i V r b0 rest hio hoct hi h0 hv hV off
  ((refine gen_all8 (ne := ?gN_62) (P := ?gP_62) ((?gf_62 : ∀ a0 a1 a2 a3 a4 a5 a6 a7, ?gP_62 a0 a1 a2 a3 a4 a5 a6 a7) (gen8 ?gN_62 ?gP_62).1 (gen8 ?gN_62 ?gP_62).2.1 (gen8 ?gN_62 ?gP_62).2.2.1 (gen8 ?gN_62 ?gP_62).2.2.2.1 (gen8 ?gN_62 ?gP_62).2.2.2.2.1 (gen8 ?gN_62 ?gP_62).2.2.2.2.2.1 (gen8 ?gN_62 ?gP_62).2.2.2.2.2.2.1 (gen8 ?gN_62 ?gP_62).2.2.2.2.2.2.2); (case gN_62 => k_extra "my:ne")))
  intros w it oa io ovs ons k i
  walk_at "g4"
  intros V r b0 rest
  intro hio hoct hi h0 hv hV off
  w_top off
  k_fill
  refine' Con.of (binds := [("iterator", .ref it)]) ?k6 ?k7 ?k8 ?k9 ?kB ?kN ?c2 ?c3 ?c4 ?c5 ?_
  (( (case k6 => k_is); (case k7 => k_is); (case k8 => decide); (case k9 => (intro s9 X9; first | exact BindsTo.of_eq rfl | exact binds_K X9 rfl (by k_is) rfl rfl rfl | (refine kp_binds X9 ?_; exact fun _ => rfl))); (case kB => exact locs rfl); (case kN => (simp only [List.map_cons, List.map_nil]; decide)); (case c2 => exact rfl); (case c3 => exact rfl); (case c4 => exact rfl); (case c5 => decide); k_with "WPost" => dsimp only [WPost]; k_with "FPost" => dsimp only [FPost]))
  ((refine gen_all10 (ne := ?gN_64) (P := ?gP_64) ((?gf_64 : ∀ a0 a1 a2 a3 a4 a5 a6 a7 a8 a9, ?gP_64 a0 a1 a2 a3 a4 a5 a6 a7 a8 a9) (gen10 ?gN_64 ?gP_64).1 (gen10 ?gN_64 ?gP_64).2.1 (gen10 ?gN_64 ?gP_64).2.2.1 (gen10 ?gN_64 ?gP_64).2.2.2.1 (gen10 ?gN_64 ?gP_64).2.2.2.2.1 (gen10 ?gN_64 ?gP_64).2.2.2.2.2.1 (gen10 ?gN_64 ?gP_64).2.2.2.2.2.2.1 (gen10 ?gN_64 ?gP_64).2.2.2.2.2.2.2.1 (gen10 ?gN_64 ?gP_64).2.2.2.2.2.2.2.2.1 (gen10 ?gN_64 ?gP_64).2.2.2.2.2.2.2.2.2); (case gN_64 => k_extra "my:ne")))
  intros p loose mean mg mb gd cn cs a ccd
  ((refine gen_all10 (ne := ?gN_65) (P := ?gP_65) ((?gf_65 : ∀ a0 a1 a2 a3 a4 a5 a6 a7 a8 a9, ?gP_65 a0 a1 a2 a3 a4 a5 a6 a7 a8 a9) (gen10 ?gN_65 ?gP_65).1 (gen10 ?gN_65 ?gP_65).2.1 (gen10 ?gN_65 ?gP_65).2.2.1 (gen10 ?gN_65 ?gP_65).2.2.2.1 (gen10 ?gN_65 ?gP_65).2.2.2.2.1 (gen10 ?gN_65 ?gP_65).2.2.2.2.2.1 (gen10 ?gN_65 ?gP_65).2.2.2.2.2.2.1 (gen10 ?gN_65 ?gP_65).2.2.2.2.2.2.2.1 (gen10 ?gN_65 ?gP_65).2.2.2.2.2.2.2.2.1 (gen10 ?gN_65 ?gP_65).2.2.2.2.2.2.2.2.2); (case gN_65 => k_extra "my:ne")))
  intros cl outer base g h₁ L' L₀ s tk R
  intro F' N' B' X' T'
  simp only [kstB] at F'
  refine ex_in (ints_get hio h0) ?_
  walk_at "g1"
  intro t0 hx0
  have hb0 := hoct _ _ h0
  k_extra "my:go"
  refine next_item F' N' hi (List.Mem.head _) off hx0 ?_
  clear F' N'
  walk_at "g2"
  intros h' io1
  intro hi1 F' N'
  k_sweep
  k_extra "my:go"
  refine whileR (σ := Obj × Nat × Int × Tok × Int × Tok) (fun c => (it, c.1) :: (oa, listOf ovs.toArray k) :: rest) (fun c => [("iterator", .ref it), ("b", .int c.2.2.1 c.2.2.2.1), ("val", .int c.2.2.2.2.1 c.2.2.2.2.2)])
    (fun c => IterO c.1 oa c.2.1 ∧ (0 ≤ c.2.2.1 ∧ c.2.2.1 < 256) ∧ 0 ≤ c.2.2.2.2.1 ∧ c.2.2.2.2.1 < 1000000 ∧ pvGo c.2.2.2.2.1 c.2.2.1 (ons.drop c.2.1) = some (V, r)) (fun c => IterO c.1 oa c.2.1 ∧ c.2.2.2.2.1 = V ∧ ons.drop c.2.1 = r) (fun c => ons.length - c.2.1) (io1, i + 1, b0, _, Builtin.bitAnd b0 63, _) (by assumption) (by assumption) (by k_extra "my:names") ?_ ?_ ?_
  · dsimp only
    have := pvGo_le _ _ _ _ _ (by omega) hv
    rw [(bits_low hb0.1 hb0.2).1]
    exact ⟨hi1, hb0, by omega, by omega, hv⟩
  · refine pr6 ?_
    ((refine gen_all9 (ne := ?gN_66) (P := ?gP_66) ((?gf_66 : ∀ a0 a1 a2 a3 a4 a5 a6 a7 a8, ?gP_66 a0 a1 a2 a3 a4 a5 a6 a7 a8) (gen9 ?gN_66 ?gP_66).1 (gen9 ?gN_66 ?gP_66).2.1 (gen9 ?gN_66 ?gP_66).2.2.1 (gen9 ?gN_66 ?gP_66).2.2.2.1 (gen9 ?gN_66 ?gP_66).2.2.2.2.1 (gen9 ?gN_66 ?gP_66).2.2.2.2.2.1 (gen9 ?gN_66 ?gP_66).2.2.2.2.2.2.1 (gen9 ?gN_66 ?gP_66).2.2.2.2.2.2.2.1 (gen9 ?gN_66 ?gP_66).2.2.2.2.2.2.2.2); (case gN_66 => k_extra "my:ne")))
    intros io2 j b tb val tv u' h tk
    rintro hp F' N'
    dsimp only at hp N'
    simp only [kstB] at F'
    k_sweep
    obtain ⟨hi2, hb, hv0, hv1, hgo⟩ := hp
    have hb6 := (bits_low hb.1 hb.2).2
    k_extra "my:go"
    · refine ex_in2 (pvGo_more hgo (by omega)) ?_
      walk_at "g2"
      intros c l'
      rintro ⟨hl', hgo'⟩
      have hj : ons[j]? = some c := by
        have := congrArg (·[0]?) hl'
        simpa using this
      have hd1 : ons.drop (j + 1) = l' := by
        have := congrArg (·.drop 1) hl'
        simpa using this
      have hc := hoct _ _ hj
      have hle := pvGo_le _ _ _ _ _ (by omega) hgo'
      have hjl : j < ons.length := (List.getElem?_eq_some_iff.mp hj).1
      refine ex_in (ints_get hio hj) ?_
      walk_at "g1"
      intro tc hxc
      with_reducible rename Fr _ _ _ _ => F'
      with_reducible rename News _ _ _ _ => N'
      refine next_item F' N' hi2 (List.Mem.head _) off hxc ?_
      clear F' N'
      walk_at "g2"
      intros h' io3
      intro hi3 F' N'
      k_sweep
      k_extra "my:go"
      refine ⟨(io3, j + 1, c, _, Builtin.bitOr (val * 2 ^ (6 : Int).toNat) (Builtin.bitAnd c 63), _), _, _, _, _, rfl, by k_asm, by k_asm, by (((try dsimp only); k_extra "my:inl")), by (((try dsimp only); k_extra "my:inl")), by k_extra "my:names", ?_⟩
      dsimp only
      rw [(bits_low hc.1 hc.2).1]
      have e6 : val * 2 ^ (6 : Int).toNat = val * 64 := rfl
      rw [e6, or_low hv0 (by omega) (by omega), hd1]
      exact ⟨⟨hi3, hc, by omega, by omega, hgo'⟩, by omega⟩
    · obtain ⟨hs1, hs2⟩ := pvGo_stop hgo (by omega)
      refine ⟨(io2, j, b, tb, val, tv), _, _, _, _, rfl, by k_asm, by k_asm, by (((try dsimp only); k_extra "my:inl")), by (((try dsimp only); k_extra "my:inl")), by k_extra "my:names", ?_⟩
      exact ⟨hi2, hs1, hs2⟩
  refine pr6 ?_
  ((refine gen_all9 (ne := ?gN_71) (P := ?gP_71) ((?gf_71 : ∀ a0 a1 a2 a3 a4 a5 a6 a7 a8, ?gP_71 a0 a1 a2 a3 a4 a5 a6 a7 a8) (gen9 ?gN_71 ?gP_71).1 (gen9 ?gN_71 ?gP_71).2.1 (gen9 ?gN_71 ?gP_71).2.2.1 (gen9 ?gN_71 ?gP_71).2.2.2.1 (gen9 ?gN_71 ?gP_71).2.2.2.2.1 (gen9 ?gN_71 ?gP_71).2.2.2.2.2.1 (gen9 ?gN_71 ?gP_71).2.2.2.2.2.2.1 (gen9 ?gN_71 ?gP_71).2.2.2.2.2.2.2.1 (gen9 ?gN_71 ?gP_71).2.2.2.2.2.2.2.2); (case gN_71 => k_extra "my:ne")))
  intros io2 j b tb val tv u' h tk
  rintro hp F' N'
  dsimp only at hp N'
  simp only [kstB] at F'
  k_sweep
  obtain ⟨hi2, hvV, hr⟩ := hp
  subst hvV
  dsimp only
  k_extra "my:go"
  (((try dsimp only); refine ⟨_, _, _, _, _, _, rfl, by k_asm, by k_asm, (by first | (((try dsimp only); k_extra "my:inl")) | exact fun _ h => h), ?_⟩))
  exact ⟨⟨_, rfl⟩, io2, j, hi2, hr.symm, rfl⟩
theorem con_pvX (w : World) (it oa : Addr) (io : Obj) (ovs : List Value) (k i : Nat) (rest : List (Addr × Obj)) (hi : IterO io oa i) (h0 : ovs[i]? = none) (off : ∀ p ∈ (oa, listOf ovs.toArray k) :: rest, p.1 ≠ it) :
    ConX PySem.Challenge.rw_tv0054_02.row.prog w (Mine.hd0.heap_1_41 w.params) 45 700 6000 [.ref it] ((it, io) :: (oa, listOf ovs.toArray k) :: rest) (fun _ _ => False) "StopIteration" ((oa, listOf ovs.toArray k) :: rest) := by
  revert w it oa io ovs k i rest hi h0 off
  ((refine gen_all8 (ne := ?gN_73) (P := ?gP_73) ((?gf_73 : ∀ a0 a1 a2 a3 a4 a5 a6 a7, ?gP_73 a0 a1 a2 a3 a4 a5 a6 a7) (gen8 ?gN_73 ?gP_73).1 (gen8 ?gN_73 ?gP_73).2.1 (gen8 ?gN_73 ?gP_73).2.2.1 (gen8 ?gN_73 ?gP_73).2.2.2.1 (gen8 ?gN_73 ?gP_73).2.2.2.2.1 (gen8 ?gN_73 ?gP_73).2.2.2.2.2.1 (gen8 ?gN_73 ?gP_73).2.2.2.2.2.2.1 (gen8 ?gN_73 ?gP_73).2.2.2.2.2.2.2); (case gN_73 => k_extra "my:ne")))
  intros w it oa io ovs k i rest
  intro hi h0 off
  w_top off
  k_fill
  refine' ConX.of (binds := [("iterator", .ref it)]) ?k6 ?k7 ?k8 ?k9 ?kB ?kN ?c2 ?c3 ?c4 ?c5 ?_
  (( (case k6 => k_is); (case k7 => k_is); (case k8 => decide); (case k9 => (intro s9 X9; first | exact BindsTo.of_eq rfl | exact binds_K X9 rfl (by k_is) rfl rfl rfl | (refine kp_binds X9 ?_; exact fun _ => rfl))); (case kB => exact locs rfl); (case kN => (simp only [List.map_cons, List.map_nil]; decide)); (case c2 => exact rfl); (case c3 => exact rfl); (case c4 => exact rfl); (case c5 => decide); k_with "WPost" => dsimp only [WPost]; k_with "FPost" => dsimp only [FPost]))
  ((refine gen_all10 (ne := ?gN_75) (P := ?gP_75) ((?gf_75 : ∀ a0 a1 a2 a3 a4 a5 a6 a7 a8 a9, ?gP_75 a0 a1 a2 a3 a4 a5 a6 a7 a8 a9) (gen10 ?gN_75 ?gP_75).1 (gen10 ?gN_75 ?gP_75).2.1 (gen10 ?gN_75 ?gP_75).2.2.1 (gen10 ?gN_75 ?gP_75).2.2.2.1 (gen10 ?gN_75 ?gP_75).2.2.2.2.1 (gen10 ?gN_75 ?gP_75).2.2.2.2.2.1 (gen10 ?gN_75 ?gP_75).2.2.2.2.2.2.1 (gen10 ?gN_75 ?gP_75).2.2.2.2.2.2.2.1 (gen10 ?gN_75 ?gP_75).2.2.2.2.2.2.2.2.1 (gen10 ?gN_75 ?gP_75).2.2.2.2.2.2.2.2.2); (case gN_75 => k_extra "my:ne")))
  intros p loose mean mg mb gd cn cs a ccd
  ((refine gen_all10 (ne := ?gN_76) (P := ?gP_76) ((?gf_76 : ∀ a0 a1 a2 a3 a4 a5 a6 a7 a8 a9, ?gP_76 a0 a1 a2 a3 a4 a5 a6 a7 a8 a9) (gen10 ?gN_76 ?gP_76).1 (gen10 ?gN_76 ?gP_76).2.1 (gen10 ?gN_76 ?gP_76).2.2.1 (gen10 ?gN_76 ?gP_76).2.2.2.1 (gen10 ?gN_76 ?gP_76).2.2.2.2.1 (gen10 ?gN_76 ?gP_76).2.2.2.2.2.1 (gen10 ?gN_76 ?gP_76).2.2.2.2.2.2.1 (gen10 ?gN_76 ?gP_76).2.2.2.2.2.2.2.1 (gen10 ?gN_76 ?gP_76).2.2.2.2.2.2.2.2.1 (gen10 ?gN_76 ?gP_76).2.2.2.2.2.2.2.2.2); (case gN_76 => k_extra "my:ne")))
  intros cl outer base g h₁ L' L₀ s tk R
  intro F' N' B' X' T' hR
  simp only [kstB] at F'
  k_extra "my:go"
  refine next_end rfl F' N' hi (List.Mem.head _) off h0 ?_
  clear F' N'
  walk_at "g3"
  intros h1 h2 e
  intro F1 N1 hx
  refine leaves B' hx F1 N1 (fun h' hr hu => ?_) rfl
  exact hR _ _ _ hr hu
end
theorem lay_16 : True := by
  k_with "off28" => skip
  exact True.intro
section
theorem pick_rev (items : List Value) : slicePick items.toArray none none (some (-1)) = items.reverse.toArray := by
  unfold slicePick
  have e : sliceBounds none none (some (-1)) items.toArray.size = ((items.length : Int) - 1, -1, -1) := rfl
  rw [e]
  dsimp only
  congr 1
  have hr : ∀ n : Nat, sliceRange ((n : Int) - 1) (-1) (-1) = (List.range n).map fun k => n - 1 - k := fun n => by
    unfold sliceRange
    have h0 : ¬ ((-1 : Int) > 0) := by decide
    simp only [h0, if_false]
    by_cases hn : 0 < n
    · have h1 : ((n : Int) - 1) > -1 := by omega
      have h2 : (((n : Int) - 1 - -1 - -1 - 1) / - -1) = (n : Int) := by rw [show (- -1 : Int) = 1 from rfl, Int.ediv_one]; omega
      rw [if_pos h1, h2, Int.toNat_natCast]
      apply List.map_congr_left
      intro k hk
      have := List.mem_range.mp hk
      omega
    · have : n = 0 := by omega
      subst this
      rfl
  rw [hr]
  rw [List.filterMap_map]
  apply List.ext_getElem?
  intro i
  have key : ∀ l : List Nat, (∀ k ∈ l, k < items.length) → l.filterMap (((fun x => items.toArray[x]?) ∘ fun k => items.length - 1 - k)) = l.map fun k => items.getD (items.length - 1 - k) .none := by
    intro l hl
    induction l with
    | nil => rfl
    | cons k l ih =>
      have hk := hl k (by simp)
      have e : items.toArray[items.length - 1 - k]? = some (items.getD (items.length - 1 - k) .none) := by
        have : items.length - 1 - k < items.length := by omega
        simp [List.getD_eq_getElem?_getD, this]
      rw [List.filterMap_cons]
      simp only [Function.comp, e, List.map_cons]
      rw [← ih fun j hj => hl j (by simp [hj])]
  rw [key _ fun k hk => List.mem_range.mp hk]
  rw [List.getElem?_map]
  by_cases hi : i < items.length
  · rw [List.getElem?_range hi, List.getElem?_reverse hi]
    have : items.length - 1 - i < items.length := by omega
    simp [List.getD_eq_getElem?_getD, this]
  · have h1 : (List.range items.length)[i]? = none := List.getElem?_eq_none (by simpa using hi)
    rw [h1, List.getElem?_eq_none (by simpa using hi)]
    rfl
section
variable {prog : Program} {w : World} {A : Around} {E : Value → Shared → Prop} {s : Shared} {h₀ : Heap} {L : Addr} {m : Str → Option Value} {news : List (Addr × Obj)}
theorem rev_step {value slice : PySem.Expr} {l : Addr} {items : List Value} {n : Nat} {t : Tok} {ops : List Value} {Q : Value → Shared → Prop} (F : Fr h₀ L s.heap m) (N : News h₀ L s.heap news) (hm : (l, listOf items.toArray n) ∈ news)
    (h : ∀ D h', Fr h₀ L h' m → News h₀ L h' ((D, listOf items.reverse.toArray 0) :: news) → (∀ p ∈ news, p.1 < D) → Q (.ref D) { s with heap := h' })
    (hs : subscripted slice false (.ref l) (.ref s.heap.objs.size) = operate ops (getItem (.ref l) (.ref s.heap.objs.size)) := by with_unfolding_all rfl)
    (ht : ∀ r, letTemporaryGo value (.ref l) r = pure () := by intro _; with_unfolding_all rfl) (hsz : items.length ≤ 1000) :
    wpAny (model prog w) A (subscriptTail value slice (.ref l) (.ref s.heap.objs.size)) Q E { s with heap := s.heap.push { cls := .type "slice", data := .fields #[.none, .none, .int (-1) t] } } := by
  refine slice_list3 F N (l := l) (items := items.toArray) ⟨_, (N _ hm).1, rfl, n, rfl⟩ .none .none (.int (-1) t) (by decide) (fun h' F' N' => ?_) hs ht (by rw [List.size_toArray]; exact Nat.le_trans hsz (Nat.le_of_ble_eq_true rfl))
  rw [pick_rev] at N'
  exact h _ h' F' N' fun p hp => Nat.lt_succ_of_lt (Heap.lt_size (N p hp).1)
end
theorem lay_17 : True := by
  k_with "my:pyIter ref" => ((fail_if_success k_extra "off29"); ((with_reducible show wpAny _ _ (pyIter (Value.ref _)) (fun it s₂ => LoopAtV _ _ _ _ _ _ _ _ _ it s₂) _ _); (with_reducible refine stop_in ?_)))
  k_with "my:last pyIter ref" => ((fail_if_success k_extra "off29"); ((with_reducible show wpAny _ _ (pyIter (Value.ref _)) (fun it s₂ => LoopAtV _ _ _ _ _ _ _ _ _ it s₂) _ _); (with_reducible refine stop_in ?_)))
  k_with "my:subscriptTail Name Slice ref ref" => ((fail_if_success k_extra "off29"); (with_reducible refine stop_in ?_))
  k_with "my:call builtin:list.extend" => ((fail_if_success k_extra "off29"); (with_reducible refine stop_in ?_))
  exact True.intro
theorem con_walk (w : World) (A l0 tp : Addr) (es : List Value) (cc c0 : Nat) (rest : List (Addr × Obj)) (hes : ∀ e ∈ es, ∃ a c, e = .ref a ∧ (a, listOf #[] c) ∈ rest) (h0 : (l0, listOf #[.ref tp] c0) ∈ rest) (hl : es.length ≤ 500) :
    Con PySem.Challenge.rw_tv0054_02.row.prog w (Mine.hd0.heap_1_41 w.params) 232 650 5500 [.ref A] ((A, listOf (Value.ref l0 :: es).toArray cc) :: rest)
      (fun v n => ∃ D c', v = .ref D ∧ (∀ p ∈ (A, listOf (Value.ref l0 :: es).toArray cc) :: rest, p.1 < D) ∧ n = (D, listOf #[.ref tp] c') :: (A, listOf (Value.ref l0 :: es).toArray cc) :: rest) := by
  revert w A l0 tp es cc c0 rest hes h0 hl
  ((refine gen_all8 (ne := ?gN_78) (P := ?gP_78) ((?gf_78 : ∀ a0 a1 a2 a3 a4 a5 a6 a7, ?gP_78 a0 a1 a2 a3 a4 a5 a6 a7) (gen8 ?gN_78 ?gP_78).1 (gen8 ?gN_78 ?gP_78).2.1 (gen8 ?gN_78 ?gP_78).2.2.1 (gen8 ?gN_78 ?gP_78).2.2.2.1 (gen8 ?gN_78 ?gP_78).2.2.2.2.1 (gen8 ?gN_78 ?gP_78).2.2.2.2.2.1 (gen8 ?gN_78 ?gP_78).2.2.2.2.2.2.1 (gen8 ?gN_78 ?gP_78).2.2.2.2.2.2.2); (case gN_78 => k_extra "my:ne")))
  intros w A l0 tp es cc c0 rest
  intro hes h0 hl
  w_top off
  k_fill
  refine' Con.of (binds := [("levels", .ref A)]) ?k6 ?k7 ?k8 ?k9 ?kB ?kN ?c2 ?c3 ?c4 ?c5 ?_
  (( (case k6 => k_is); (case k7 => k_is); (case k8 => decide); (case k9 => (intro s9 X9; first | exact BindsTo.of_eq rfl | exact binds_K X9 rfl (by k_is) rfl rfl rfl | (refine kp_binds X9 ?_; exact fun _ => rfl))); (case kB => exact locs rfl); (case kN => (simp only [List.map_cons, List.map_nil]; decide)); (case c2 => exact rfl); (case c3 => exact rfl); (case c4 => exact rfl); (case c5 => decide); k_with "WPost" => dsimp only [WPost]; k_with "FPost" => dsimp only [FPost]))
  ((refine gen_all10 (ne := ?gN_80) (P := ?gP_80) ((?gf_80 : ∀ a0 a1 a2 a3 a4 a5 a6 a7 a8 a9, ?gP_80 a0 a1 a2 a3 a4 a5 a6 a7 a8 a9) (gen10 ?gN_80 ?gP_80).1 (gen10 ?gN_80 ?gP_80).2.1 (gen10 ?gN_80 ?gP_80).2.2.1 (gen10 ?gN_80 ?gP_80).2.2.2.1 (gen10 ?gN_80 ?gP_80).2.2.2.2.1 (gen10 ?gN_80 ?gP_80).2.2.2.2.2.1 (gen10 ?gN_80 ?gP_80).2.2.2.2.2.2.1 (gen10 ?gN_80 ?gP_80).2.2.2.2.2.2.2.1 (gen10 ?gN_80 ?gP_80).2.2.2.2.2.2.2.2.1 (gen10 ?gN_80 ?gP_80).2.2.2.2.2.2.2.2.2); (case gN_80 => k_extra "my:ne")))
  intros p loose mean mg mb gd cn cs a ccd
  ((refine gen_all10 (ne := ?gN_81) (P := ?gP_81) ((?gf_81 : ∀ a0 a1 a2 a3 a4 a5 a6 a7 a8 a9, ?gP_81 a0 a1 a2 a3 a4 a5 a6 a7 a8 a9) (gen10 ?gN_81 ?gP_81).1 (gen10 ?gN_81 ?gP_81).2.1 (gen10 ?gN_81 ?gP_81).2.2.1 (gen10 ?gN_81 ?gP_81).2.2.2.1 (gen10 ?gN_81 ?gP_81).2.2.2.2.1 (gen10 ?gN_81 ?gP_81).2.2.2.2.2.1 (gen10 ?gN_81 ?gP_81).2.2.2.2.2.2.1 (gen10 ?gN_81 ?gP_81).2.2.2.2.2.2.2.1 (gen10 ?gN_81 ?gP_81).2.2.2.2.2.2.2.2.1 (gen10 ?gN_81 ?gP_81).2.2.2.2.2.2.2.2.2); (case gN_81 => k_extra "my:ne")))
  intros cl outer base g h₁ L' L₀ s tk R
  intro F' N' B' X' T'
  simp only [kstB] at F'
  k_extra "my:go"
  (((with_reducible rename Fr _ _ _ _ => lF'); (with_unfolding_all refine' For_invVF lF' ?k1_82 ?k2_82 ?_; (case k1_82 => exact rfl); (case k2_82 => exact rfl); k_whole); k_extra "my:go"))
  rename (Fr _ _ _ _) => F'
  rename (News _ _ _ _) => N'
  refine rev_step (s := ⟨_, _, _, _, _⟩) F' N' (.tail _ (.head _)) ?_ (hsz := by simp; omega)
  walk_at "g2"
  intros S h'
  intro F' N' l1
  k_sweep
  k_extra "my:go"
  rename (Fr _ _ _ _) => F'
  rename (News _ _ _ _) => N'
  refine forListR (σ := Addr × List Value × Nat) (l := S) (vs := (Value.ref l0 :: es).reverse) (nn := 0) (fun c => (S, listOf (Value.ref l0 :: es).reverse.toArray 0) :: (c.1, listOf c.2.1.toArray c.2.2) :: (A, listOf (Value.ref l0 :: es).toArray cc) :: rest) (fun c => [("pairs", .ref c.1), ("levels", .ref A)])
    (fun i c => (@LT.lt Nat _ c.1 S) ∧ (∀ p ∈ (A, listOf (Value.ref l0 :: es).toArray cc) :: rest, p.1 < c.1) ∧ (i ≤ es.length → c.2.1 = []) ∧ (i = es.length + 1 → c.2.1 = [.ref tp]))
    (fun c => (∀ p ∈ (A, listOf (Value.ref l0 :: es).toArray cc) :: rest, p.1 < c.1) ∧ c.2.1 = [.ref tp]) (_, [], 0) rfl (fun _ => .head _) F' N' (by k_extra "my:names") ?_ ?_ ?_ ?_
  · dsimp only
    refine ⟨l1 _ (.head _), fun p hp => ?_, fun _ => rfl, fun e => absurd e (by omega)⟩
    rename (∀ p ∈ (A, _) :: rest, p.1 < _) => l2
    exact l2 p hp
  · walk_at "g2"
    intros i v
    refine pr3 ?_
    ((refine gen_all7 (ne := ?gN_83) (P := ?gP_83) ((?gf_83 : ∀ a0 a1 a2 a3 a4 a5 a6, ?gP_83 a0 a1 a2 a3 a4 a5 a6) (gen7 ?gN_83 ?gP_83).1 (gen7 ?gN_83 ?gP_83).2.1 (gen7 ?gN_83 ?gP_83).2.2.1 (gen7 ?gN_83 ?gP_83).2.2.2.1 (gen7 ?gN_83 ?gP_83).2.2.2.2.1 (gen7 ?gN_83 ?gP_83).2.2.2.2.2.1 (gen7 ?gN_83 ?gP_83).2.2.2.2.2.2); (case gN_83 => k_extra "my:ne")))
    intros D its n u' h tk own
    rintro hv hown ⟨hDS, hlt, hi0, _⟩ F' N'
    dsimp only at hDS hlt hi0 F' N' hown
    simp only [kstB] at F'
    simp only [List.cons_append] at N'
    k_sweep
    have hA : @LT.lt Nat _ A D := hlt _ (.head _)
    have hR : ∀ p ∈ rest, p.1 < D := fun p hp => hlt p (.tail _ hp)
    have hii : i < es.length + 1 := by
      have := (List.getElem?_eq_some_iff.mp hv).1
      simpa using this
    have e0 := hi0 (by omega)
    subst e0
    by_cases hie : i < es.length
    · have hv' : v ∈ es := by
        have e : (Value.ref l0 :: es).reverse = es.reverse ++ [Value.ref l0] := by simp
        rw [e, List.getElem?_append_left (by simpa using hie)] at hv
        exact List.mem_reverse.mp (List.mem_of_getElem? hv)
      refine ex_in2 (hes v hv') ?_
      walk_at "g2"
      intros a' c'
      rintro ⟨rfl, hm⟩
      k_extra "my:go"
      rename (Fr _ _ _ _) => F'
      rename (News _ _ _ _) => N'
      k_dflt refine kxn_extend (its := #[]) (its2 := #[]) F' N' (by k_extra "my:mem") rfl (by k_upd) (by decide) (by decide) (by decide) ?_
      clear F' N'
      walk_at "g1"
      intro h' F' N'
      k_sweep
      k_extra "my:go"
      refine ⟨(D, [], n), _, _, _, _, rfl, by k_asm, by k_asm, by (((try dsimp only); k_extra "my:inl")), by (((try dsimp only); k_extra "my:inl")), by k_extra "my:names", ?_⟩
      refine ⟨⟨hDS, hlt, fun _ => rfl, fun e => absurd e (by omega)⟩, same_old rfl⟩
    · have hv' : v = Value.ref l0 := by
        have e : (Value.ref l0 :: es).reverse = es.reverse ++ [Value.ref l0] := by simp
        have hi2 : i = es.length := by omega
        rw [e, List.getElem?_append_right (by simp; omega)] at hv
        simp [hi2] at hv
        exact hv.symm
      subst hv'
      k_extra "my:go"
      rename (Fr _ _ _ _) => F'
      rename (News _ _ _ _) => N'
      k_dflt refine kl_extend (its := #[]) (its2 := #[.ref tp]) (l := [.ref tp]) F' N' (by k_extra "my:mem") rfl (Nat.succ_ne_zero _) (by k_upd) Bool.false_ne_true (by decide) (Nat.le_of_ble_eq_true rfl) ?_
      clear F' N'
      walk_at "g1"
      intro h' F' N'
      k_sweep
      k_extra "my:go"
      refine ⟨(D, [.ref tp], n + 1), _, _, _, _, rfl, by k_asm, by k_asm, by (((try dsimp only); k_extra "my:inl")), by (((try dsimp only); k_extra "my:inl")), by k_extra "my:names", ?_⟩
      refine ⟨⟨hDS, hlt, fun e => absurd e (by omega), fun _ => rfl⟩, same_old rfl⟩
  · refine pr3 ?_
    ((refine gen_all6 (ne := ?gN_88) (P := ?gP_88) ((?gf_88 : ∀ a0 a1 a2 a3 a4 a5, ?gP_88 a0 a1 a2 a3 a4 a5) (gen6 ?gN_88 ?gP_88).1 (gen6 ?gN_88 ?gP_88).2.1 (gen6 ?gN_88 ?gP_88).2.2.1 (gen6 ?gN_88 ?gP_88).2.2.2.1 (gen6 ?gN_88 ?gP_88).2.2.2.2.1 (gen6 ?gN_88 ?gP_88).2.2.2.2.2); (case gN_88 => k_extra "my:ne")))
    intros D its n u' h tk
    rintro ⟨hlt, hits⟩ F' N'
    dsimp only at hlt hits F' N'
    subst hits
    simp only [kstB] at F'
    k_sweep
    dsimp only
    k_extra "my:go"
    refine ⟨_, _, _, _, _, _, rfl, by k_asm, by k_asm, ?_, D, n, rfl, hlt, rfl⟩
    (((try dsimp only); k_extra "my:inl"))
  · rintro ⟨D, its, n⟩ ⟨_, hlt, _, hl⟩
    exact ⟨hlt, hl (by simp)⟩
end
theorem lay_18 : True := by
  k_with "off29" => skip
  exact True.intro
section
def rep1 (c : Nat) (z : List Nat) (l : List Nat) : List Nat := l.flatMap fun k => if k = c then z else [k]
theorem rep1_free {c : Nat} {z l : List Nat} (h : c ∉ l) : rep1 c z l = l := by
  induction l with
  | nil => rfl
  | cons k l ih =>
    have h1 : ¬ k = c := fun e => h (by simp [e])
    unfold rep1 at ih ⊢
    rw [List.flatMap_cons, if_neg h1, ih fun m => h (by simp [m])]
    rfl
theorem rep1_append (c : Nat) (z a b : List Nat) : rep1 c z (a ++ b) = rep1 c z a ++ rep1 c z b := by simp [rep1]
theorem rep1_one (c : Nat) (z : List Nat) : rep1 c z [c] = z := by simp [rep1]
theorem rep1_join (c : Nat) (z : Str) : ∀ parts : List Str, (∀ p ∈ parts, c ∉ p.cps.toList) → rep1 c z.cps.toList (Str.join ⟨#[c]⟩ parts).cps.toList = (Str.join z parts).cps.toList
  | [], _ => rfl
  | [p], h => rep1_free (h p (by simp))
  | p :: q :: r, h => by
    have ih := rep1_join c z (q :: r) fun a ha => h a (List.mem_cons_of_mem _ ha)
    show rep1 c z.cps.toList (p ++ ⟨#[c]⟩ ++ Str.join ⟨#[c]⟩ (q :: r)).cps.toList = (p ++ z ++ Str.join z (q :: r)).cps.toList
    simp only [Str.cps_append, Array.toList_append]
    rw [rep1_append, rep1_append, ih, rep1_free (h p (by simp))]
    show p.cps.toList ++ rep1 c z.cps.toList [c] ++ _ = _
    rw [rep1_one]
theorem replace_rep1 (x z : Str) (c : Nat) : Txt.replace x ⟨#[c]⟩ z = ⟨(rep1 c z.cps.toList x.cps.toList).toArray⟩ := by
  have h := rep1_join c z _ (StrLaws.split_free x c)
  rw [StrLaws.join_split] at h
  rw [StrLaws.replace_one, h]
theorem rep1_none {x : Str} {c : Nat} {z : List Nat} (h : (Builtin.Str.occurrences x ⟨#[c]⟩ 0 x.length 1).isEmpty = true) : rep1 c z x.cps.toList = x.cps.toList := by
  rw [empty_one] at h
  exact rep1_free (by simpa using h)
theorem rep1_len (c : Nat) (z l : List Nat) (n : Nat) (hz : z.length ≤ n) (hn : 1 ≤ n) : (rep1 c z l).length ≤ n * l.length := by
  induction l with
  | nil => simp [rep1]
  | cons k l ih =>
    have e : rep1 c z (k :: l) = (if k = c then z else [k]) ++ rep1 c z l := by simp [rep1]
    rw [e, List.length_append, List.length_cons, Nat.mul_succ]
    by_cases hk : k = c
    · rw [if_pos hk]; omega
    · rw [if_neg hk]; simp only [List.length_singleton]; omega
def esc1 (c : Nat) (z : Str) (x : Str) : Str := ⟨(rep1 c z.cps.toList x.cps.toList).toArray⟩
theorem esc1_len (c : Nat) (z x : Str) (hz : z.length ≤ 5) : (esc1 c z x).length ≤ 5 * x.length := by
  have := rep1_len c z.cps.toList x.cps.toList 5 (by simpa [Str.length] using hz) (by omega)
  simpa [esc1, Str.length] using this
def escT (x : Str) : Str := esc1 13 "&#xD;" (esc1 62 "&gt;" (esc1 60 "&lt;" (esc1 38 "&amp;" x)))
section
variable {prog : Program} {w : World} {A : Around} {E : Value → Shared → Prop} {s : Shared} {x y z : Str} {c : Nat} {t u v : Tok} {Q : Value → Shared → Prop}
theorem replace_esc1 (hy : y = ⟨#[c]⟩) (hu : u ≠ 0) (hv : v ≠ 0) (huv : u ≠ v) (hyz : ((⟨#[c]⟩ : Str) == z) = false) (hx : x.length ≤ 100000) (hz : z.length ≤ 5)
    (hq : ∀ t' k, Q (.str (esc1 c z x) t') { s with toks := k }) : wpAny (model prog w) A (call (.builtin "str.replace") [.str x t, .str y u, .str z v]) Q E s := by
  subst hy
  refine SC.replace hu hv huv hyz ?_ fun t' k => ?_
  · have h2 : (x.length + 1) * z.length ≤ (x.length + 1) * 5 := Nat.mul_le_mul_left _ hz
    omega
  · rw [replace_rep1]; exact hq t' k
end
theorem esc1_none {x y : Str} {c : Nat} {z : Str} (hy : y = ⟨#[c]⟩) (h : (Builtin.Str.occurrences x y 0 x.length 1).isEmpty = true) : esc1 c z x = x := by
  subst hy
  unfold esc1
  rw [rep1_none h]
def StopIf2 : Prop := True
theorem lay_19 : True := by
  k_with "my:execs cons" => ((fail_if_success k_extra "off30"); ((with_reducible refine wpAny_execs_cons ?_); (try dsimp only)))
  k_with "my:exec If" => ((fail_if_success k_extra "off30"); ((with_reducible have mk9 : StopIf2 := by assumption); clear mk9; (with_reducible refine stop_in ?_)))
  k_with "my:call builtin:str.replace" => ((fail_if_success k_extra "off30"); (with_reducible refine stop_in ?_))
  exact True.intro
theorem con_escape (w : World) (x : Str) (t : Tok) (hx : x.length ≤ 100) (news : List (Addr × Obj)) :
    Con PySem.Challenge.rw_tv0054_02.row.prog w (Mine.hd0.heap_1_41 w.params) 206 660 5600 [.str x t] news (fun v n => (∃ t, v = .str (escT x) t) ∧ n = news) := by
  revert w x t hx news
  walk_at "g3"
  intros w x t
  intro hx
  walk_at "g1"
  intro news
  w_top off
  k_fill
  refine' Con.of (binds := [("text", .str x t)]) ?k6 ?k7 ?k8 ?k9 ?kB ?kN ?c2 ?c3 ?c4 ?c5 ?_
  (( (case k6 => k_is); (case k7 => k_is); (case k8 => decide); (case k9 => (intro s9 X9; first | exact BindsTo.of_eq rfl | exact binds_K X9 rfl (by k_is) rfl rfl rfl | (refine kp_binds X9 ?_; exact fun _ => rfl))); (case kB => exact locs rfl); (case kN => (simp only [List.map_cons, List.map_nil]; decide)); (case c2 => exact rfl); (case c3 => exact rfl); (case c4 => exact rfl); (case c5 => decide); k_with "WPost" => dsimp only [WPost]; k_with "FPost" => dsimp only [FPost]))
  ((refine gen_all10 (ne := ?gN_91) (P := ?gP_91) ((?gf_91 : ∀ a0 a1 a2 a3 a4 a5 a6 a7 a8 a9, ?gP_91 a0 a1 a2 a3 a4 a5 a6 a7 a8 a9) (gen10 ?gN_91 ?gP_91).1 (gen10 ?gN_91 ?gP_91).2.1 (gen10 ?gN_91 ?gP_91).2.2.1 (gen10 ?gN_91 ?gP_91).2.2.2.1 (gen10 ?gN_91 ?gP_91).2.2.2.2.1 (gen10 ?gN_91 ?gP_91).2.2.2.2.2.1 (gen10 ?gN_91 ?gP_91).2.2.2.2.2.2.1 (gen10 ?gN_91 ?gP_91).2.2.2.2.2.2.2.1 (gen10 ?gN_91 ?gP_91).2.2.2.2.2.2.2.2.1 (gen10 ?gN_91 ?gP_91).2.2.2.2.2.2.2.2.2); (case gN_91 => k_extra "my:ne")))
  intros p loose mean mg mb gd cn cs a ccd
  ((refine gen_all10 (ne := ?gN_92) (P := ?gP_92) ((?gf_92 : ∀ a0 a1 a2 a3 a4 a5 a6 a7 a8 a9, ?gP_92 a0 a1 a2 a3 a4 a5 a6 a7 a8 a9) (gen10 ?gN_92 ?gP_92).1 (gen10 ?gN_92 ?gP_92).2.1 (gen10 ?gN_92 ?gP_92).2.2.1 (gen10 ?gN_92 ?gP_92).2.2.2.1 (gen10 ?gN_92 ?gP_92).2.2.2.2.1 (gen10 ?gN_92 ?gP_92).2.2.2.2.2.1 (gen10 ?gN_92 ?gP_92).2.2.2.2.2.2.1 (gen10 ?gN_92 ?gP_92).2.2.2.2.2.2.2.1 (gen10 ?gN_92 ?gP_92).2.2.2.2.2.2.2.2.1 (gen10 ?gN_92 ?gP_92).2.2.2.2.2.2.2.2.2); (case gN_92 => k_extra "my:ne")))
  intros cl outer base g h₁ L' L₀ s tk R
  intro F' N' B' X' T'
  simp only [kstB] at F'
  have mk : StopIf2 := trivial
  k_extra "my:go"
  refine cutR (by assumption) (σ := Tok) (fun _ => news) (fun c => [("text", .str (esc1 38 "&amp;" x) c)]) (fun c => True) ?_ ?_
  · (rename StopIf2 => mk); clear mk
    have hl : (x).length ≤ 12500 := by
      omega
    k_extra "my:go"
    all_goals first
      | ((try dsimp only)
         refine replace_esc1 (s := ⟨_, _, _, _, _⟩) (c := 38) (z := "&amp;") (by decide +kernel) (by first | omega | simp) (by first | omega | simp) (by first | omega | simp) (by decide +kernel) (by omega) (by decide +kernel) ?_
         walk_at "g2"
         intros t' k'
         k_extra "my:go"
         refine ⟨_, _, _, _, _, rfl, by k_asm, by k_asm, by (((try dsimp only); k_extra "my:inl")), by (((try dsimp only); k_extra "my:inl")), by k_extra "my:names", trivial⟩)
      | (rename ((Builtin.Str.occurrences _ _ _ _ _).isEmpty = true) => ho
         have he := esc1_none (c := 38) (z := "&amp;") (by decide +kernel) ho
         (try dsimp only)
         rw [he]
         refine ⟨_, _, _, _, _, rfl, by k_asm, by k_asm, by (((try dsimp only); k_extra "my:inl")), by (((try dsimp only); k_extra "my:inl")), by k_extra "my:names", trivial⟩)
  clear F' N'
  walk_at "g4"
  intros t0 u' h tk0
  rintro - F' N'
  (try dsimp only at F' N')
  simp only [kstB] at F'
  k_sweep
  (try dsimp only)
  k_extra "my:go"
  refine cutR (by assumption) (σ := Tok) (fun _ => news) (fun c => [("text", .str (esc1 60 "&lt;" (esc1 38 "&amp;" x)) c)]) (fun c => True) ?_ ?_
  · (rename StopIf2 => mk); clear mk
    have hl : (esc1 38 "&amp;" x).length ≤ 12500 := by
      have h1 := esc1_len 38 "&amp;" x (by decide +kernel)
      omega
    k_extra "my:go"
    all_goals first
      | ((try dsimp only)
         refine replace_esc1 (s := ⟨_, _, _, _, _⟩) (c := 60) (z := "&lt;") (by decide +kernel) (by first | omega | simp) (by first | omega | simp) (by first | omega | simp) (by decide +kernel) (by omega) (by decide +kernel) ?_
         walk_at "g2"
         intros t' k'
         k_extra "my:go"
         refine ⟨_, _, _, _, _, rfl, by k_asm, by k_asm, by (((try dsimp only); k_extra "my:inl")), by (((try dsimp only); k_extra "my:inl")), by k_extra "my:names", trivial⟩)
      | (rename ((Builtin.Str.occurrences _ _ _ _ _).isEmpty = true) => ho
         have he := esc1_none (c := 60) (z := "&lt;") (by decide +kernel) ho
         (try dsimp only)
         rw [he]
         refine ⟨_, _, _, _, _, rfl, by k_asm, by k_asm, by (((try dsimp only); k_extra "my:inl")), by (((try dsimp only); k_extra "my:inl")), by k_extra "my:names", trivial⟩)
  clear F' N'
  walk_at "g4"
  intros t0 u' h tk0
  rintro - F' N'
  (try dsimp only at F' N')
  simp only [kstB] at F'
  k_sweep
  (try dsimp only)
  k_extra "my:go"
  refine cutR (by assumption) (σ := Tok) (fun _ => news) (fun c => [("text", .str (esc1 62 "&gt;" (esc1 60 "&lt;" (esc1 38 "&amp;" x))) c)]) (fun c => True) ?_ ?_
  · (rename StopIf2 => mk); clear mk
    have hl : (esc1 60 "&lt;" (esc1 38 "&amp;" x)).length ≤ 12500 := by
      have h1 := esc1_len 38 "&amp;" x (by decide +kernel)
      have h2 := esc1_len 60 "&lt;" (esc1 38 "&amp;" x) (by decide +kernel)
      omega
    k_extra "my:go"
    all_goals first
      | ((try dsimp only)
         refine replace_esc1 (s := ⟨_, _, _, _, _⟩) (c := 62) (z := "&gt;") (by decide +kernel) (by first | omega | simp) (by first | omega | simp) (by first | omega | simp) (by decide +kernel) (by omega) (by decide +kernel) ?_
         walk_at "g2"
         intros t' k'
         k_extra "my:go"
         refine ⟨_, _, _, _, _, rfl, by k_asm, by k_asm, by (((try dsimp only); k_extra "my:inl")), by (((try dsimp only); k_extra "my:inl")), by k_extra "my:names", trivial⟩)
      | (rename ((Builtin.Str.occurrences _ _ _ _ _).isEmpty = true) => ho
         have he := esc1_none (c := 62) (z := "&gt;") (by decide +kernel) ho
         (try dsimp only)
         rw [he]
         refine ⟨_, _, _, _, _, rfl, by k_asm, by k_asm, by (((try dsimp only); k_extra "my:inl")), by (((try dsimp only); k_extra "my:inl")), by k_extra "my:names", trivial⟩)
  clear F' N'
  walk_at "g4"
  intros t0 u' h tk0
  rintro - F' N'
  (try dsimp only at F' N')
  simp only [kstB] at F'
  k_sweep
  (try dsimp only)
  k_extra "my:go"
  refine cutR (by assumption) (σ := Tok) (fun _ => news) (fun c => [("text", .str (esc1 13 "&#xD;" (esc1 62 "&gt;" (esc1 60 "&lt;" (esc1 38 "&amp;" x)))) c)]) (fun c => True) ?_ ?_
  · (rename StopIf2 => mk); clear mk
    have hl : (esc1 62 "&gt;" (esc1 60 "&lt;" (esc1 38 "&amp;" x))).length ≤ 12500 := by
      have h1 := esc1_len 38 "&amp;" x (by decide +kernel)
      have h2 := esc1_len 60 "&lt;" (esc1 38 "&amp;" x) (by decide +kernel)
      have h3 := esc1_len 62 "&gt;" (esc1 60 "&lt;" (esc1 38 "&amp;" x)) (by decide +kernel)
      omega
    k_extra "my:go"
    all_goals first
      | ((try dsimp only)
         refine replace_esc1 (s := ⟨_, _, _, _, _⟩) (c := 13) (z := "&#xD;") (by decide +kernel) (by first | omega | simp) (by first | omega | simp) (by first | omega | simp) (by decide +kernel) (by omega) (by decide +kernel) ?_
         walk_at "g2"
         intros t' k'
         k_extra "my:go"
         refine ⟨_, _, _, _, _, rfl, by k_asm, by k_asm, by (((try dsimp only); k_extra "my:inl")), by (((try dsimp only); k_extra "my:inl")), by k_extra "my:names", trivial⟩)
      | (rename ((Builtin.Str.occurrences _ _ _ _ _).isEmpty = true) => ho
         have he := esc1_none (c := 13) (z := "&#xD;") (by decide +kernel) ho
         (try dsimp only)
         rw [he]
         refine ⟨_, _, _, _, _, rfl, by k_asm, by k_asm, by (((try dsimp only); k_extra "my:inl")), by (((try dsimp only); k_extra "my:inl")), by k_extra "my:names", trivial⟩)
  clear F' N'
  walk_at "g4"
  intros t0 u' h tk0
  rintro - F' N'
  (try dsimp only at F' N')
  simp only [kstB] at F'
  k_sweep
  (try dsimp only)
  k_extra "my:go"
  (((try dsimp only); refine ⟨_, _, _, _, _, _, rfl, by k_asm, by k_asm, (by first | (((try dsimp only); k_extra "my:inl")) | exact fun _ h => h), ?_⟩))
  exact ⟨⟨_, rfl⟩, rfl⟩
end
theorem lay_20 : True := by
  k_with "off30" => skip
  exact True.intro
section
def esc0 (k : Nat) : List Nat := if k = 38 then [38, 97, 109, 112, 59] else if k = 60 then [38, 108, 116, 59] else if k = 62 then [38, 103, 116, 59] else if k = 13 then [38, 35, 120, 68, 59] else [k]
theorem rep1_flat (c : Nat) (z : List Nat) (f : Nat → List Nat) (l : List Nat) : rep1 c z (l.flatMap f) = l.flatMap (fun k => rep1 c z (f k)) := by
  induction l with
  | nil => rfl
  | cons k l ih => rw [List.flatMap_cons, List.flatMap_cons, rep1_append, ih]
theorem escT_cps (x : Str) : (escT x).cps.toList = x.cps.toList.flatMap esc0 := by
  show rep1 13 [38, 35, 120, 68, 59] (rep1 62 [38, 103, 116, 59] (rep1 60 [38, 108, 116, 59] (rep1 38 [38, 97, 109, 112, 59] x.cps.toList))) = _
  rw [show rep1 38 [38, 97, 109, 112, 59] x.cps.toList = x.cps.toList.flatMap (fun k => if k = 38 then [38, 97, 109, 112, 59] else [k]) from rfl, rep1_flat, rep1_flat, rep1_flat]
  congr 1
  funext k
  unfold esc0
  by_cases h1 : k = 38
  · simp [h1, rep1]
  · by_cases h2 : k = 60
    · simp [h2, rep1]
    · by_cases h3 : k = 62
      · simp [h3, rep1]
      · by_cases h4 : k = 13 <;> simp [h1, h2, h3, h4, rep1]
theorem esc0_len (k : Nat) : (esc0 k).length ≤ 5 := by
  unfold esc0
  repeat' split
  all_goals simp
theorem escT_len (x : Str) : (escT x).length ≤ 5 * x.length := by
  have h : ∀ l : List Nat, (l.flatMap esc0).length ≤ 5 * l.length := by
    intro l
    induction l with
    | nil => simp
    | cons k l ih =>
      have := esc0_len k
      rw [List.flatMap_cons, List.length_append, List.length_cons]; omega
  have := h x.cps.toList
  rw [← escT_cps] at this
  simpa [Str.length] using this
end
section
section
variable {w : World} {E : Value → Shared → Prop} {s : Shared} {h₀ base : Heap} {L : Addr} {m : Str → Option Value} {news : List (Addr × Obj)} {dp' un' : Nat} {p : Program} {loose : List Str} {mean : ExcName → Option Value} {mg mb : Str → Option Value} {gd : Option (List Code)} {cn : Str} {cs : Scope} {a : Addr} {ccd : Value} {cl : List (Str × Addr)} {outer : List Env} {A₀ : Around} {Q : Value → Shared → Prop}
theorem use_walk {A l0 tp : Addr} {es : List Value} {cc c0 : Nat} (hm : (A, listOf (Value.ref l0 :: es).toArray cc) ∈ news) (hes : ∀ e ∈ es, ∃ a c, e = .ref a ∧ (a, listOf #[] c) ∈ news) (h0 : (l0, listOf #[.ref tp] c0) ∈ news) (hl : es.length ≤ 500) (hd : dp' ≤ 650) (hu : un' ≤ 5500)
    (B : Below A₀ base outer h₀) (F : Fr h₀ L s.heap m) (X : (Mine.hd0.heap_1_41 w.params).In h₀) (N : News h₀ L s.heap news) (T : Top p loose mean mg mb h₀) (hk : cs.kind = .function)
    (ret : ∀ D c' h' tk', Fr h₀ L h' m → News h₀ L h' ((D, listOf #[.ref tp] c') :: news) → (∀ p ∈ news, p.1 < D) → Q (.ref D) { s with heap := h', toks := tk' }) :
    wpAny (model PR w) (ktrTop dp' un' gd cn cs L a ccd cl outer) (call (.ref 232) [.ref A]) Q E s :=
  (con_walk w A l0 tp es cc c0 news hes h0 hl).use hd hu B F X (fun q hq => (List.mem_cons.mp hq).elim (fun e => e ▸ N _ hm) (N q)) T hk fun v n h' tk' hp F' N' => by
    obtain ⟨D, c', rfl, hlt, rfl⟩ := hp
    refine ret D c' h' tk' F' (fun q hq => ?_) fun q hq => hlt q (.tail _ hq)
    rcases List.mem_cons.mp hq with rfl | hq
    · exact N' _ (.head _)
    · exact N' q (.tail _ (.tail _ hq))
end
def ent (P : Params) (n : Str) (t : Tok) (v : Value) : DictEntry := { hash := PyData.keyHash P n, key := .str n t, val := v }
def wents (P : Params) (T : Nat → Tok) (q dl ds ns pm ps : Addr) (xv : Value) (rs rd : Bool) (ig : Int) (ti : Tok) : List DictEntry :=
  [ent P "_write" (T 0) (.ref q), ent P "_data" (T 1) (.ref dl), ent P "_with_comments" (T 2) (.bool false), ent P "_strip_text" (T 3) (.bool false), ent P "_exclude_attrs" (T 4) .none, ent P "_exclude_tags" (T 5) xv, ent P "_rewrite_prefixes" (T 6) (.bool false),
   ent P "_qname_aware_tags" (T 7) .none, ent P "_find_qname_aware_attrs" (T 8) .none, ent P "_declared_ns_stack" (T 9) (.ref ds), ent P "_ns_stack" (T 10) (.ref ns), ent P "_prefix_map" (T 11) (.ref pm), ent P "_preserve_space" (T 12) (.ref ps),
   ent P "_pending_start" (T 13) .none, ent P "_root_seen" (T 14) (.bool rs), ent P "_root_done" (T 15) (.bool rd), ent P "_ignored_depth" (T 16) (.int ig ti), ent P "_iter_namespaces" (T 17) (.ref 232)]
/-- where the writer's parts lie -/
structure WA where
  x : Addr
  dx : Addr
  q : Addr
  wa : Addr
  dl : Addr
  ds : Addr
  l0 : Addr
  tp : Addr
  ns : Addr
  pm : Addr
  ps : Addr
  c0 : Nat
  xv : Value
  u1 : Tok
  u2 : Tok
  T : Nat → Tok
/-- what the writer's parts hold -/
structure WS where
  rs : Bool
  rd : Bool
  ig : Int
  ti : Tok
  wr : List Value
  cw : Nat
  da : List Value
  cd : Nat
  es : List Value
  ce : Nat
  nv : List Value
  cn : Nat
  pv : List Value
  cp : Nat
def WL (P : Params) (a : WA) (c : WS) : List (Addr × Obj) :=
  [(a.x, instObj 195 a.dx), (a.dx, dictOf (wents P a.T a.q a.dl a.ds a.ns a.pm a.ps a.xv c.rs c.rd c.ig c.ti) 18), (a.q, boundObj "list.append" (.ref a.wa)), (a.wa, listOf c.wr.toArray c.cw), (a.dl, listOf c.da.toArray c.cd),
   (a.ds, listOf (Value.ref a.l0 :: c.es).toArray c.ce), (a.l0, listOf #[.ref a.tp] a.c0), (a.tp, { cls := .type "tuple", data := .seq #[.str "http://www.w3.org/XML/1998/namespace" a.u1, .str "xml" a.u2] }), (a.ns, listOf c.nv.toArray c.cn), (a.ps, listOf c.pv.toArray c.cp)]
def WOrd (a : WA) : Prop := (@LT.lt Nat _ a.wa a.q) ∧ (@LT.lt Nat _ a.q a.dx) ∧ (@LT.lt Nat _ a.dx a.x) ∧ (@LT.lt Nat _ a.x a.dl) ∧ (@LT.lt Nat _ a.dl a.tp) ∧ (@LT.lt Nat _ a.tp a.l0) ∧ (@LT.lt Nat _ a.l0 a.ds) ∧ (@LT.lt Nat _ a.ds a.ns) ∧ (@LT.lt Nat _ a.ns a.pm) ∧ (@LT.lt Nat _ a.pm a.ps)
def WOut (a : WA) (rest : List (Addr × Obj)) : Prop := ∀ p ∈ rest, @LT.lt Nat _ p.1 a.wa ∨ @LT.lt Nat _ a.ps p.1 ∨ (@LT.lt Nat _ a.dl p.1 ∧ @LT.lt Nat _ p.1 a.tp)
end
section
theorem ne_WA : Nonempty WA := ⟨by constructor <;> exact default⟩
theorem ne_WS : Nonempty WS := ⟨by constructor <;> exact default⟩
/-- the writer's addresses from the lowest on -/
def wad (a : WA) : Nat → Addr
  | 0 => a.wa
  | 1 => a.q
  | 2 => a.dx
  | 3 => a.x
  | 4 => a.dl
  | 5 => a.tp
  | 6 => a.l0
  | 7 => a.ds
  | 8 => a.ns
  | 9 => a.pm
  | 10 => a.ps
  | k => a.ps + k
theorem wad_succ {a : WA} (h : WOrd a) : ∀ k, @LT.lt Nat _ (wad a k) (wad a (k + 1)) := by
  obtain ⟨h0, h1, h2, h3, h4, h5, h6, h7, h8, h9⟩ := h
  intro k
  match k with
  | 0 => exact h0
  | 1 => exact h1
  | 2 => exact h2
  | 3 => exact h3
  | 4 => exact h4
  | 5 => exact h5
  | 6 => exact h6
  | 7 => exact h7
  | 8 => exact h8
  | 9 => exact h9
  | 10 => exact Nat.lt_add_of_pos_right (by decide : 0 < 11)
  | k + 11 => exact Nat.lt_succ_self _
theorem wad_lt {a : WA} (h : WOrd a) (i : Nat) : ∀ d, @LT.lt Nat _ (wad a i) (wad a (i + (d + 1)))
  | 0 => wad_succ h i
  | d + 1 => Nat.lt_trans (wad_lt h i d) (wad_succ h _)
theorem wad_lt' {a : WA} (h : WOrd a) {i j : Nat} (hij : i < j) : @LT.lt Nat _ (wad a i) (wad a j) := by
  obtain ⟨d, rfl⟩ : ∃ d, j = i + (d + 1) := ⟨j - i - 1, by omega⟩
  exact wad_lt h i d
theorem wad_le {a : WA} (h : WOrd a) {i j : Nat} (hij : i ≤ j) : @LE.le Nat _ (wad a i) (wad a j) := by
  rcases Nat.eq_or_lt_of_le hij with rfl | hl
  · exact Nat.le_refl _
  · exact Nat.le_of_lt (wad_lt' h hl)
theorem w_ne {a : WA} {i j : Nat} {x y : Addr} (h : WOrd a) (hi : wad a i = x) (hj : wad a j = y) (hij : Nat.beq i j = false) : x ≠ y := by
  subst hi hj
  have hne : i ≠ j := fun e => by rw [e, Nat.beq_refl] at hij; cases hij
  rcases Nat.lt_or_gt_of_ne hne with hl | hl
  · exact Nat.ne_of_lt (wad_lt' h hl)
  · exact Nat.ne_of_gt (wad_lt' h hl)
theorem w_out {a : WA} {i : Nat} {d : Addr} {r : List (Addr × Obj)} (h : WOrd a) (hr : WOut a r) (hi : wad a i = d) (hb : Nat.ble i 10 = true) : ∀ p ∈ r, p.1 ≠ d := by
  subst hi
  intro p hp e
  have hb := Nat.le_of_ble_eq_true hb
  have e' : @Eq Nat p.1 (wad a i) := e
  have h0 : @LE.le Nat _ a.wa (wad a i) := wad_le h (Nat.zero_le i)
  have h1 : @LE.le Nat _ (wad a i) a.ps := wad_le h hb
  have h2 : @LE.le Nat _ (wad a i) a.dl ∨ @LE.le Nat _ a.tp (wad a i) := by
    rcases Nat.lt_or_ge i 5 with hl | hl
    · exact .inl (wad_le (j := 4) h (by omega))
    · exact .inr (wad_le (i := 5) h hl)
  rcases hr p hp with hq | hq | hq <;> omega
theorem w_k {a : WA} {i k : Nat} {x : Addr} (h : WOrd a) (hk : @LT.lt Nat _ k a.wa) (hi : wad a i = x) : x ≠ k := by
  subst hi
  exact Nat.ne_of_gt (Nat.lt_of_lt_of_le hk (wad_le (i := 0) h (Nat.zero_le i)))
end
theorem lay_21 : True := by
  k_with "my:wix" => first | exact (rfl : wad _ 0 = _) | exact (rfl : wad _ 1 = _) | exact (rfl : wad _ 2 = _) | exact (rfl : wad _ 3 = _) | exact (rfl : wad _ 4 = _) | exact (rfl : wad _ 5 = _) | exact (rfl : wad _ 6 = _) | exact (rfl : wad _ 7 = _) | exact (rfl : wad _ 8 = _) | exact (rfl : wad _ 9 = _) | exact (rfl : wad _ 10 = _)
  k_with "my:ne2" => k_dflt exact w_ne (by assumption) (by k_extra "my:wix") (by k_extra "my:wix") (by exact rfl)
  k_with "my:k_all" => k_dflt exact w_out (by assumption) (by assumption) (by k_extra "my:wix") (by exact rfl)
  k_with "my:ne" => first | exact inferInstance | exact ne_WA | exact ne_WS | exact ne_world | exact ne_shared | (refine ne_prod ?_ ?_ <;> k_extra "my:ne")
  exact True.intro
section
def dataS (c : WS) (v : Value) : WS := if c.ig = 0 then { c with da := c.da ++ [v], cd := c.cd + 1 } else c
theorem con_data (w : World) (a : WA) (c : WS) (rest : List (Addr × Obj)) (y : Str) (t : Tok) (ho : WOrd a) (hr : WOut a rest) (hda : c.da.length ≤ 1000) :
    Con PySem.Challenge.rw_tv0054_02.row.prog w (Mine.hd0.heap_1_41 w.params) 142 640 5400 [.ref a.x, .str y t] (WL w.params a c ++ rest) (fun v n => v = .none ∧ n = WL w.params a (dataS c (.str y t)) ++ rest) := by
  revert w a c rest y t ho hr hda
  ((refine gen_all6 (ne := ?gN_111) (P := ?gP_111) ((?gf_111 : ∀ a0 a1 a2 a3 a4 a5, ?gP_111 a0 a1 a2 a3 a4 a5) (gen6 ?gN_111 ?gP_111).1 (gen6 ?gN_111 ?gP_111).2.1 (gen6 ?gN_111 ?gP_111).2.2.1 (gen6 ?gN_111 ?gP_111).2.2.2.1 (gen6 ?gN_111 ?gP_111).2.2.2.2.1 (gen6 ?gN_111 ?gP_111).2.2.2.2.2); (case gN_111 => k_extra "my:ne")))
  intros w a c rest y t
  intro ho hr hda
  w_top off
  k_fill
  refine' Con.of (binds := [("self", .ref a.x), ("data", .str y t)]) ?k6 ?k7 ?k8 ?k9 ?kB ?kN ?c2 ?c3 ?c4 ?c5 ?_
  (( (case k6 => k_is); (case k7 => k_is); (case k8 => decide); (case k9 => (intro s9 X9; first | exact BindsTo.of_eq rfl | exact binds_K X9 rfl (by k_is) rfl rfl rfl | (refine kp_binds X9 ?_; exact fun _ => rfl))); (case kB => exact locs rfl); (case kN => (simp only [List.map_cons, List.map_nil]; decide)); (case c2 => exact rfl); (case c3 => exact rfl); (case c4 => exact rfl); (case c5 => decide); k_with "WPost" => dsimp only [WPost]; k_with "FPost" => dsimp only [FPost]))
  ((refine gen_all10 (ne := ?gN_113) (P := ?gP_113) ((?gf_113 : ∀ a0 a1 a2 a3 a4 a5 a6 a7 a8 a9, ?gP_113 a0 a1 a2 a3 a4 a5 a6 a7 a8 a9) (gen10 ?gN_113 ?gP_113).1 (gen10 ?gN_113 ?gP_113).2.1 (gen10 ?gN_113 ?gP_113).2.2.1 (gen10 ?gN_113 ?gP_113).2.2.2.1 (gen10 ?gN_113 ?gP_113).2.2.2.2.1 (gen10 ?gN_113 ?gP_113).2.2.2.2.2.1 (gen10 ?gN_113 ?gP_113).2.2.2.2.2.2.1 (gen10 ?gN_113 ?gP_113).2.2.2.2.2.2.2.1 (gen10 ?gN_113 ?gP_113).2.2.2.2.2.2.2.2.1 (gen10 ?gN_113 ?gP_113).2.2.2.2.2.2.2.2.2); (case gN_113 => k_extra "my:ne")))
  intros p loose mean mg mb gd cn cs ad ccd
  ((refine gen_all10 (ne := ?gN_114) (P := ?gP_114) ((?gf_114 : ∀ a0 a1 a2 a3 a4 a5 a6 a7 a8 a9, ?gP_114 a0 a1 a2 a3 a4 a5 a6 a7 a8 a9) (gen10 ?gN_114 ?gP_114).1 (gen10 ?gN_114 ?gP_114).2.1 (gen10 ?gN_114 ?gP_114).2.2.1 (gen10 ?gN_114 ?gP_114).2.2.2.1 (gen10 ?gN_114 ?gP_114).2.2.2.2.1 (gen10 ?gN_114 ?gP_114).2.2.2.2.2.1 (gen10 ?gN_114 ?gP_114).2.2.2.2.2.2.1 (gen10 ?gN_114 ?gP_114).2.2.2.2.2.2.2.1 (gen10 ?gN_114 ?gP_114).2.2.2.2.2.2.2.2.1 (gen10 ?gN_114 ?gP_114).2.2.2.2.2.2.2.2.2); (case gN_114 => k_extra "my:ne")))
  intros cl outer base g h₁ L' L₀ s tk R
  intro F' N' B' X' T'
  simp only [kstB] at F'
  simp only [WL, wents, ent, List.cons_append, List.nil_append] at N'
  obtain ⟨o1, o2, o3, o4, o5, o6, o7, o8, o9, o10⟩ := id ho
  k_extra "my:go"
  · have e : dataS c (.str y t) = c := if_neg (by assumption)
    rw [e]
    refine ⟨_, _, _, _, _, _, rfl, by k_asm, by k_asm, ?_, rfl, rfl⟩
    simp only [WL, wents, ent, List.cons_append, List.nil_append]
    (((try dsimp only); k_extra "my:inl"))
  · have e : dataS c (.str y t) = { c with da := c.da ++ [.str y t], cd := c.cd + 1 } := if_pos (by omega)
    rw [e]
    rename (News _ _ _ _) => N'
    try simp only [List.push_toArray] at N'
    refine ⟨_, _, _, _, _, _, rfl, by k_asm, by k_asm, ?_, rfl, rfl⟩
    simp only [WL, wents, ent, List.cons_append, List.nil_append]
    (((try dsimp only); k_extra "my:inl"))
end
section
theorem lay_22 : True := by
  k_with "my:delItem ref ref" => ((fail_if_success k_extra "off35"); (with_reducible refine stop_in ?_))
  k_with "my:callWith ref" => ((fail_if_success k_extra "off35"); ((with_reducible show wpAny _ _ (callWith _ (Value.ref 143) _ _ _) _ _ _); k_dflt refine callWith_boundG (ob := boundObj "str.join" (.str (Str.ofString "") 704)) rfl rfl ?_))
  k_with "my:And" => ((fail_if_success k_extra "off35"); ((with_reducible show Heap.get? _ 143 = _ ∧ _); k_dflt (refine ⟨fr_at (by k_asm) (by k_asm) (by k_is), ?_⟩); (try dsimp only [List.nil_append, List.cons_append])))
  k_with "my:call ref" => ((fail_if_success k_extra "off35"); ((with_reducible show wpAny _ _ (call (Value.ref 143) [_]) _ _ _); (with_reducible refine stop_in ?_)))
  exact True.intro
theorem sum_le_of (ys : List Str) (B : Nat) (h : ∀ y ∈ ys, y.length ≤ B) : (ys.map (·.length)).sum ≤ B * ys.length := by
  induction ys with
  | nil => simp
  | cons y ys ih =>
    have h1 := h y (by simp)
    have h2 := ih fun z hz => h z (by simp [hz])
    simp only [List.map_cons, List.sum_cons, List.length_cons, Nat.mul_succ]
    omega
theorem strsAre_length {vs : List Value} {ys : List Str} (h : StrsAre vs ys) : vs.length = ys.length := by
  induction h with
  | nil => rfl
  | cons _ _ _ ih => simp [ih]
theorem join_cps (ys : List Str) : (Txt.join (Str.ofString "") ys).cps.toList = ys.flatMap (·.cps.toList) := by
  unfold Txt.join
  rw [StrLaws.glued_eq_join]
  induction ys with
  | nil => rfl
  | cons y r ih =>
    cases r with
    | nil => simp [Str.join]
    | cons z r =>
      show (y ++ Str.ofString "" ++ Str.join (Str.ofString "") (z :: r)).cps.toList = _
      simp only [Str.cps_append, Array.toList_append]
      rw [ih]
      simp [show (Str.ofString "").cps = #[] from rfl]
theorem join_len (ys : List Str) : (Txt.join (Str.ofString "") ys).length = (ys.map (·.length)).sum := by
  have h := congrArg List.length (join_cps ys)
  rw [List.length_flatMap] at h
  simpa [Str.length] using h
theorem use_escape {w : World} {E : Value → Shared → Prop} {s : Shared} {h₀ base : Heap} {L : Addr} {m : Str → Option Value} {news : List (Addr × Obj)} {dp' un' : Nat} {p : Program} {loose : List Str} {mean : ExcName → Option Value} {mg mb : Str → Option Value} {gd : Option (List Code)} {cn : Str} {cs : Scope} {a : Addr} {ccd : Value} {cl : List (Str × Addr)} {outer : List Env} {A₀ : Around} {Q : Value → Shared → Prop}
    {x : Str} {t : Tok} (hx : x.length ≤ 100) (hd : dp' ≤ 660) (hu : un' ≤ 5600) (B : Below A₀ base outer h₀) (F : Fr h₀ L s.heap m) (X : (Mine.hd0.heap_1_41 w.params).In h₀) (N : News h₀ L s.heap news) (T : Top p loose mean mg mb h₀) (hk : cs.kind = .function)
    (ret : ∀ t h' tk', Fr h₀ L h' m → News h₀ L h' news → Q (.str (escT x) t) { s with heap := h', toks := tk' }) :
    wpAny (model PR w) (ktrTop dp' un' gd cn cs L a ccd cl outer) (call (.ref 206) [.str x t]) Q E s :=
  Con.useT (con_escape w x t hx news) hd hu B F X N T hk ret
theorem lay_23 : True := by
  k_with "my:callWith ref" => ((fail_if_success k_extra "off35"); ((try dsimp only); (with_reducible show wpAny _ _ (callWith _ (Value.ref (WA.q _)) _ _ _) _ _ _); k_dflt refine callWith_boundN (by k_asm) (by k_mem) ?_))
  k_with "my:And" => ((fail_if_success k_extra "off35"); ((with_reducible show Heap.get? _ (WA.q _) = _ ∧ _); k_dflt (refine ⟨(News.get (by k_asm) (by k_mem)), ?_⟩); (try dsimp only [List.nil_append, List.cons_append])))
  k_with "my:call ref" => ((fail_if_success k_extra "off35"); ((with_reducible show wpAny _ _ (call (Value.ref (WA.q _)) [_]) _ _ _); (with_reducible refine stop_in ?_)))
  k_with "my:call ref" => ((fail_if_success k_extra "off35"); ((with_reducible show wpAny _ _ (call (Value.ref 206) [_]) _ _ _); (k_dflt refine use_escape (by omega) (by k_extra "my:us1") (by k_extra "my:us1") (by k_asm) (by k_asm) (by k_asm) (by k_asm) (by k_asm) (by k_extra "my:us2") ?_; walk_at "g3"; intros _ _ _; intro _ _; k_sweep)))
  exact True.intro
theorem con_flush (w : World) (a : WA) (c : WS) (rest : List (Addr × Obj)) (ys : List Str) (hy : StrsAre c.da ys) (ho : WOrd a) (hr : WOut a rest) (hda : c.da.length ≤ 24) (hlen : ∀ y ∈ ys, 1 ≤ y.length ∧ y.length ≤ 4) (hn : c.da ≠ []) (hrs : c.rs = true) (hwr : c.wr.length ≤ 1000) :
    Con PySem.Challenge.rw_tv0054_02.row.prog w (Mine.hd0.heap_1_41 w.params) 151 630 5300 [.ref a.x] (WL w.params a c ++ rest) 
      (fun v n => v = .none ∧ ∃ t, n = WL w.params a { c with wr := c.wr ++ [.str (escT (Txt.join (Str.ofString "") ys)) t], cw := c.cw + 1, da := [], cd := c.cd + 1 } ++ rest) := by
  revert w a c rest ys hy ho hr hda hlen hn hrs hwr
  walk_at "g5"
  intros w a c rest ys
  intro hy ho hr hda hlen hn hrs hwr
  w_top off
  k_fill
  refine' Con.of (binds := [("self", .ref a.x), ("_join_text", .ref 143)]) ?k6 ?k7 ?k8 ?k9 ?kB ?kN ?c2 ?c3 ?c4 ?c5 ?_
  (( (case k6 => k_is); (case k7 => k_is); (case k8 => decide); (case k9 => (intro s9 X9; first | exact BindsTo.of_eq rfl | exact binds_K X9 rfl (by k_is) rfl rfl rfl | (refine kp_binds X9 ?_; exact fun _ => rfl))); (case kB => exact locs rfl); (case kN => (simp only [List.map_cons, List.map_nil]; decide)); (case c2 => exact rfl); (case c3 => exact rfl); (case c4 => exact rfl); (case c5 => decide); k_with "WPost" => dsimp only [WPost]; k_with "FPost" => dsimp only [FPost]))
  ((refine gen_all10 (ne := ?gN_118) (P := ?gP_118) ((?gf_118 : ∀ a0 a1 a2 a3 a4 a5 a6 a7 a8 a9, ?gP_118 a0 a1 a2 a3 a4 a5 a6 a7 a8 a9) (gen10 ?gN_118 ?gP_118).1 (gen10 ?gN_118 ?gP_118).2.1 (gen10 ?gN_118 ?gP_118).2.2.1 (gen10 ?gN_118 ?gP_118).2.2.2.1 (gen10 ?gN_118 ?gP_118).2.2.2.2.1 (gen10 ?gN_118 ?gP_118).2.2.2.2.2.1 (gen10 ?gN_118 ?gP_118).2.2.2.2.2.2.1 (gen10 ?gN_118 ?gP_118).2.2.2.2.2.2.2.1 (gen10 ?gN_118 ?gP_118).2.2.2.2.2.2.2.2.1 (gen10 ?gN_118 ?gP_118).2.2.2.2.2.2.2.2.2); (case gN_118 => k_extra "my:ne")))
  intros p loose mean mg mb gd cn cs ad ccd
  ((refine gen_all10 (ne := ?gN_119) (P := ?gP_119) ((?gf_119 : ∀ a0 a1 a2 a3 a4 a5 a6 a7 a8 a9, ?gP_119 a0 a1 a2 a3 a4 a5 a6 a7 a8 a9) (gen10 ?gN_119 ?gP_119).1 (gen10 ?gN_119 ?gP_119).2.1 (gen10 ?gN_119 ?gP_119).2.2.1 (gen10 ?gN_119 ?gP_119).2.2.2.1 (gen10 ?gN_119 ?gP_119).2.2.2.2.1 (gen10 ?gN_119 ?gP_119).2.2.2.2.2.1 (gen10 ?gN_119 ?gP_119).2.2.2.2.2.2.1 (gen10 ?gN_119 ?gP_119).2.2.2.2.2.2.2.1 (gen10 ?gN_119 ?gP_119).2.2.2.2.2.2.2.2.1 (gen10 ?gN_119 ?gP_119).2.2.2.2.2.2.2.2.2); (case gN_119 => k_extra "my:ne")))
  intros cl outer base g h₁ L' L₀ s tk R
  intro F' N' B' X' T'
  simp only [kstB] at F'
  simp only [WL, wents, ent, List.cons_append, List.nil_append] at N'
  obtain ⟨o1, o2, o3, o4, o5, o6, o7, o8, o9, o10⟩ := id ho
  k_extra "my:go"
  have hyl := strsAre_length hy
  have hsum := sum_le_of ys 4 fun y hy => (hlen y hy).2
  rename (Fr _ _ _ _) => F'
  rename (News _ _ _ _) => N'
  refine bound_join (ob := boundObj "str.join" (.str (Str.ofString "") 704)) (items := c.da.toArray) (ys := ys) rfl rfl (fr_at X' F' (by k_is)) ⟨_, (N' (a.dl, listOf c.da.toArray c.cd) (by k_extra "my:mem")).1, rfl, _, rfl⟩ hy (by omega) (by decide) ?_
  walk_at "g2"
  intros t' k'
  have hjl : (Txt.join (Str.ofString "") ys).length ≤ 96 := by
    rw [join_len]; omega
  have hj0 : 1 ≤ (Txt.join (Str.ofString "") ys).length := by
    rw [join_len]
    cases ys with
    | nil => exact absurd (List.length_eq_zero_iff.mp (by simpa using hyl)) hn
    | cons y r =>
      have := (hlen y (by simp)).1
      simp only [List.map_cons, List.sum_cons]; omega
  generalize hJ : Txt.join (Str.ofString "") ys = J at *
  k_extra "my:go"
  rename (Fr _ _ _ _) => F'
  rename (News _ _ _ _) => N'
  refine del_all (s := ⟨_, _, _, _, _⟩) (items := c.da.toArray) (n := c.cd) F' N' (by k_upd) (by simpa using hn) (by simp; omega) ?_
  clear F' N'
  walk_at "g1"
  intro h' F' N'
  k_sweep
  k_extra "my:go"
  all_goals (
    rename (Fr _ _ _ _) => F'
    rename (News _ _ _ _) => N'
    subst hJ
    refine bound_append (D := a.wa) (its := c.wr.toArray) (n := c.cw) F' N' (by k_mem) (by k_upd) (by simp; omega) ?_
    clear F' N'
    walk_at "g1"
    intro h' F' N'
    k_sweep
    simp only [List.push_toArray] at N'
    k_extra "my:go"
    refine' ⟨_, _, _, _, _, _, rfl, by k_asm, by k_asm, ?_, rfl, _, rfl⟩
    simp only [WL, wents, ent, List.cons_append, List.nil_append]
    (((try dsimp only); k_extra "my:inl")))
end
theorem lay_24 : True := by
  k_with "off35" => skip
  exact True.intro
section
theorem lay_25 : True := by
  k_with "my:pyIter ref" => ((fail_if_success k_extra "off36"); ((with_reducible show wpAny _ _ (pyIter (Value.ref _)) (fun it s₂ => LoopAtV _ _ _ _ _ _ _ _ _ it s₂) _ _); (with_reducible refine stop_in ?_)))
  k_with "my:last pyIter ref" => ((fail_if_success k_extra "off36"); ((with_reducible show wpAny _ _ (pyIter (Value.ref _)) (fun it s₂ => LoopAtV _ _ _ _ _ _ _ _ _ it s₂) _ _); (with_reducible refine stop_in ?_)))
  k_with "my:pyIter ref" => ((fail_if_success k_extra "off36"); ((with_reducible show wpAny _ _ (pyIter (Value.ref _)) (fun it s₂ => TurnsAt _ _ _ _ _ _ _ _ _ it s₂) _ _); (with_reducible refine stop_in ?_)))
  k_with "my:last pyIter ref" => ((fail_if_success k_extra "off36"); ((with_reducible show wpAny _ _ (pyIter (Value.ref _)) (fun it s₂ => TurnsAt _ _ _ _ _ _ _ _ _ it s₂) _ _); (with_reducible refine stop_in ?_)))
  k_with "my:call ref" => ((fail_if_success k_extra "off36"); ((with_reducible show wpAny _ _ (call (Value.ref 232) [_]) _ _ _); (with_reducible refine stop_in ?_)))
  k_with "my:getMethod ref" => ((fail_if_success k_extra "off36"); ((with_reducible show wpAny _ _ (getMethod (Value.ref _) (Str.ofString "_iter_namespaces") _) _ _ _); k_dflt (refine gm_shadow (by k_asm) (by k_asm) (by k_inst) (by k_is) (by k_is) (by k_is) (by k_is) (by k_is) (by k_is) (by k_get) (by k_handed) ?_; k_whole)))
  k_with "my:call type:set nil nil" => ((fail_if_success k_extra "off36"); (with_reducible refine stop_in ?_))
  exact True.intro
theorem con_qnC (w : World) (a : WA) (c : WS) (rest : List (Addr × Obj)) (y : Str) (t : Tok) (hy : y.length ≤ 4) (hy2 : (Txt.slice y none (some 1) == Str.ofString "{") = false) (hes : ∀ e ∈ c.es, ∃ a c, e = .ref a ∧ (a, listOf #[] c) ∈ rest) (hl : c.es.length ≤ 500) :
    ConC PySem.Challenge.rw_tv0054_02.row.prog w (Mine.hd0.heap_1_41 w.params) 135 640 5400 [.ref a.x, .str y t] (WL w.params a c ++ rest) 
      (fun v n => ∃ R t1 t2 t3, v = .ref R ∧ (∀ p ∈ WL w.params a c ++ rest, p.1 < R) ∧ n = (R, { cls := .type "tuple", data := .seq #[.str y t1, .str y t2, .str "" t3] }) :: (WL w.params a c ++ rest)) := by
  revert w a c rest y t hy hy2 hes hl
  ((refine gen_all6 (ne := ?gN_121) (P := ?gP_121) ((?gf_121 : ∀ a0 a1 a2 a3 a4 a5, ?gP_121 a0 a1 a2 a3 a4 a5) (gen6 ?gN_121 ?gP_121).1 (gen6 ?gN_121 ?gP_121).2.1 (gen6 ?gN_121 ?gP_121).2.2.1 (gen6 ?gN_121 ?gP_121).2.2.2.1 (gen6 ?gN_121 ?gP_121).2.2.2.2.1 (gen6 ?gN_121 ?gP_121).2.2.2.2.2); (case gN_121 => k_extra "my:ne")))
  intros w a c rest y t
  intro hy hy2 hes hl
  w_top off
  k_fill
  refine' ConC.of (binds := [("self", .ref a.x), ("qname", .str y t), ("uri", .none)]) ?k6 ?k7 ?k8 ?k9 ?kB ?kN ?c2 ?c3 ?c4 ?c5 ?_
  (( (case k6 => k_is); (case k7 => k_is); (case k8 => decide); (case k9 => (intro s9 X9; first | exact BindsTo.of_eq rfl | exact binds_K X9 rfl (by k_is) rfl rfl rfl | (refine kp_binds X9 ?_; exact fun _ => rfl))); (case kB => exact locs rfl); (case kN => (simp only [List.map_cons, List.map_nil]; decide)); (case c2 => exact rfl); (case c3 => exact rfl); (case c4 => exact rfl); (case c5 => decide); k_with "WPost" => dsimp only [WPost]; k_with "FPost" => dsimp only [FPost]))
  ((refine gen_all10 (ne := ?gN_123) (P := ?gP_123) ((?gf_123 : ∀ a0 a1 a2 a3 a4 a5 a6 a7 a8 a9, ?gP_123 a0 a1 a2 a3 a4 a5 a6 a7 a8 a9) (gen10 ?gN_123 ?gP_123).1 (gen10 ?gN_123 ?gP_123).2.1 (gen10 ?gN_123 ?gP_123).2.2.1 (gen10 ?gN_123 ?gP_123).2.2.2.1 (gen10 ?gN_123 ?gP_123).2.2.2.2.1 (gen10 ?gN_123 ?gP_123).2.2.2.2.2.1 (gen10 ?gN_123 ?gP_123).2.2.2.2.2.2.1 (gen10 ?gN_123 ?gP_123).2.2.2.2.2.2.2.1 (gen10 ?gN_123 ?gP_123).2.2.2.2.2.2.2.2.1 (gen10 ?gN_123 ?gP_123).2.2.2.2.2.2.2.2.2); (case gN_123 => k_extra "my:ne")))
  intros p loose mean mg mb gd cn cs ad ccd
  ((refine gen_all10 (ne := ?gN_124) (P := ?gP_124) ((?gf_124 : ∀ a0 a1 a2 a3 a4 a5 a6 a7 a8 a9, ?gP_124 a0 a1 a2 a3 a4 a5 a6 a7 a8 a9) (gen10 ?gN_124 ?gP_124).1 (gen10 ?gN_124 ?gP_124).2.1 (gen10 ?gN_124 ?gP_124).2.2.1 (gen10 ?gN_124 ?gP_124).2.2.2.1 (gen10 ?gN_124 ?gP_124).2.2.2.2.1 (gen10 ?gN_124 ?gP_124).2.2.2.2.2.1 (gen10 ?gN_124 ?gP_124).2.2.2.2.2.2.1 (gen10 ?gN_124 ?gP_124).2.2.2.2.2.2.2.1 (gen10 ?gN_124 ?gP_124).2.2.2.2.2.2.2.2.1 (gen10 ?gN_124 ?gP_124).2.2.2.2.2.2.2.2.2); (case gN_124 => k_extra "my:ne")))
  intros cl outer base g h₁ L' L₀ s tk R
  intro F' N' B' X' T'
  simp only [kstB] at F'
  simp only [WL, wents, ent, List.cons_append, List.nil_append] at N'
  k_extra "my:go"
  rename (Fr _ _ _ _) => F'
  rename (News _ _ _ _) => N'
  refine kse_new F' N' ?_
  clear F' N'
  walk_at "g3"
  intros SD h' led
  intro F' N' lS hs' hz'
  k_sweep
  k_extra "my:go"
  have hlS : ∀ p ∈ WL w.params a c ++ rest, p.1 < SD := fun p hp => lS p (.tail _ hp)
  have hSx : @LT.lt Nat _ a.tp SD := hlS (a.tp, _) (List.mem_append_left _ (by unfold WL; repeat (first | exact List.Mem.head _ | apply List.Mem.tail)))
  (((with_reducible rename Fr _ _ _ _ => lF'); (with_unfolding_all refine' For_turns lF' ?_; k_whole); k_extra "my:go"))
  rename (Fr _ _ _ _) => F'
  rename (News _ _ _ _) => N'
  refine use_walk (l0 := a.l0) (tp := a.tp) (es := c.es) (by k_extra "my:mem") (fun e he => ?_) (by k_extra "my:mem") hl (by k_extra "my:us1") (by k_extra "my:us1") (by k_asm) F' (by k_asm) N' (by k_asm) rfl ?_
  · obtain ⟨a', c', h1, h2⟩ := hes e he
    exact ⟨a', c', h1, by k_extra "my:mem"⟩
  clear F' N'
  walk_at "g4"
  intros D c' h' tk'
  intro F' N' l1
  have lD : @LT.lt Nat _ SD D := l1 (SD, _) (.head _)
  k_sweep
  k_extra "my:go"
  rename (Fr _ _ _ _) => F'
  rename (News _ _ _ _) => N'
  have NG : News g L' h' (WL w.params a c ++ rest) := fun p hp => N' p (.tail _ (.tail _ (.tail _ hp)))
  have htp : (a.tp, ({ cls := .type "tuple", data := .seq #[.str "http://www.w3.org/XML/1998/namespace" a.u1, .str "xml" a.u2] } : Obj)) ∈ WL w.params a c ++ rest := List.mem_append_left _ (by unfold WL; repeat (first | exact List.Mem.head _ | apply List.Mem.tail))
  generalize hG : WL w.params a c ++ rest = G at *
  refine forListT (σ := Obj) (l := D) (vs := [.ref a.tp]) (nn := c') (fun o => (D, listOf #[.ref a.tp] c') :: (a.tp, { cls := .type "tuple", data := .seq #[.str "http://www.w3.org/XML/1998/namespace" a.u1, .str "xml" a.u2] }) :: (SD, o) :: G) (fun _ => [("prefixes_seen", .ref SD), ("tag", .str y t), ("uri", .str "" _), ("self", .ref a.x)])
    (fun i o => (i = 0 → Obj.SetObjOf (PySem.strKind PR w) o (fun x => false) 0) ∧ (i = 1 → ∃ q, Obj.SetObjOf (PySem.strKind PR w) o q 1 ∧ q "" = false)) (fun o => ∃ q, Obj.SetObjOf (PySem.strKind PR w) o q 1 ∧ q "" = false)
    _ rfl (fun _ => .head _) F' (fun p hp => ?_) (by k_extra "my:names") ⟨fun _ => hz', fun e => absurd e (by decide)⟩ ?_ ?_ ?_
  · rcases List.mem_cons.mp hp with rfl | hp
    · exact N' _ (.head _)
    rcases List.mem_cons.mp hp with rfl | hp
    · exact NG _ htp
    rcases List.mem_cons.mp hp with rfl | hp
    · exact N' _ (.tail _ (.head _))
    · exact NG p hp
  · ((refine gen_all7 (ne := ?gN_126) (P := ?gP_126) ((?gf_126 : ∀ a0 a1 a2 a3 a4 a5 a6, ?gP_126 a0 a1 a2 a3 a4 a5 a6) (gen7 ?gN_126 ?gP_126).1 (gen7 ?gN_126 ?gP_126).2.1 (gen7 ?gN_126 ?gP_126).2.2.1 (gen7 ?gN_126 ?gP_126).2.2.2.1 (gen7 ?gN_126 ?gP_126).2.2.2.2.1 (gen7 ?gN_126 ?gP_126).2.2.2.2.2.1 (gen7 ?gN_126 ?gP_126).2.2.2.2.2.2); (case gN_126 => k_extra "my:ne")))
    intros i v o u' h tk own
    rintro hv hown ⟨hi0, _⟩ F' N'
    have hi : i = 0 ∧ v = Value.ref a.tp := by
      cases i with
      | zero => simp at hv; exact ⟨rfl, hv.symm⟩
      | succ i => simp at hv
    obtain ⟨rfl, rfl⟩ := hi
    have hso := hi0 rfl
    clear hi0 hs' hz'
    simp only [kstB] at F'
    simp only [List.cons_append] at N'
    k_sweep
    k_extra "my:go"
    rename (Obj.SetObjOf _ _ _ _) => hs9
    refine ⟨_, _, _, _, _, rfl, by k_asm, by k_asm, by (((try dsimp only); k_extra "my:inl")), by (((try dsimp only); k_extra "my:inl")), by k_extra "my:names", ?_⟩
    exact ⟨⟨fun e => absurd e (by decide), fun _ => ⟨_, hs9, by decide +kernel⟩⟩, same_old rfl⟩
  · walk_at "g4"
    intros o u' h tk
    intro hxq F' N'
    refine ex_in hxq ?_
    clear hxq
    walk_at "g1"
    rintro q ⟨hso, hq⟩
    simp only [kstB] at F'
    clear hs' hz'
    k_sweep
    subst hG
    simp only [WL, wents, ent, List.cons_append, List.nil_append] at N'
    dsimp only
    k_extra "my:go"
    rename (∀ p ∈ ((_, _) :: _ : List (Addr × Obj)), p.1 < _) => l9
    refine' ⟨_, _, _, _, _, _, rfl, by k_asm, by k_asm, ?_, _, t, t, _, rfl, fun p hp => l9 p (.tail _ (.tail _ (.tail _ hp))), rfl⟩
    simp only [WL, wents, ent, List.cons_append, List.nil_append]
    (((try dsimp only); k_extra "my:inl"))
  · rintro o ⟨_, h1⟩
    exact h1 rfl
theorem con_qn (w : World) (a : WA) (c : WS) (rest : List (Addr × Obj)) (y : Str) (t : Tok) (hy : y.length ≤ 4) (hy2 : (Txt.slice y none (some 1) == Str.ofString "{") = false) (hes : ∀ e ∈ c.es, ∃ a c, e = .ref a ∧ (a, listOf #[] c) ∈ rest) (hl : c.es.length ≤ 500) :
    Con PySem.Challenge.rw_tv0054_02.row.prog w (Mine.hd0.heap_1_41 w.params) 135 640 5400 [.ref a.x, .str y t] (WL w.params a c ++ rest) 
      (fun v n => ∃ R t1 t2 t3, v = .ref R ∧ (∀ p ∈ WL w.params a c ++ rest, p.1 < R) ∧ n = (R, { cls := .type "tuple", data := .seq #[.str y t1, .str y t2, .str "" t3] }) :: (WL w.params a c ++ rest)) :=
  ConC.con (con_qnC w a c rest y t hy hy2 hes hl)
end
theorem lay_26 : True := by
  k_with "off36" => skip
  exact True.intro
section
theorem lay_27 : True := by
  k_with "my:setAdd str" => ((fail_if_success k_extra "off37"); with_reducible refine stop_in ?_)
  k_with "my:eval Set cons" => ((fail_if_success k_extra "off37"); with_reducible refine stop_in ?_)
  k_with "my:eval Lambda" => ((fail_if_success k_extra "off37"); with_reducible refine stop_in ?_)
  k_with "my:eval Lambda Call" => ((fail_if_success k_extra "off37"); with_reducible refine stop_in ?_)
  exact True.intro
section
variable {w : World} {M : Model} {A : Around} {E : Value → Shared → Prop} {s : Shared} {h₀ base : Heap} {L C : Addr} {m : Str → Option Value} {news : List (Addr × Obj)} {dp' un' : Nat} {p : Program} {loose : List Str} {mean : ExcName → Option Value} {mg mb : Str → Option Value} {gd : Option (List Code)} {cn : Str} {cs : Scope} {b : Addr} {ccd : Value} {cl : List (Str × Addr)} {outer : List Env} {A₀ : Around} {Q : Value → Shared → Prop}
theorem use_qn {a : WA} {c : WS} {y : Str} {t : Tok} (hy : y.length ≤ 4) (hy2 : (Txt.slice y none (some 1) == Str.ofString "{") = false) (hes : ∀ e ∈ c.es, ∃ a c, e = .ref a ∧ (a, listOf #[] c) ∈ news) (hl : c.es.length ≤ 500) (hW : ∀ q ∈ WL w.params a c, q ∈ news) (hd : dp' ≤ 640) (hu : un' ≤ 5400)
    (B : Below A₀ base outer h₀) (F : Fr h₀ L s.heap m) (X : (Mine.hd0.heap_1_41 w.params).In h₀) (N : News h₀ L s.heap news) (T : Top p loose mean mg mb h₀) (hk : cs.kind = .function)
    (ret : ∀ R t1 t2 t3 h' tk', Fr h₀ L h' m → News h₀ L h' ((R, { cls := .type "tuple", data := .seq #[.str y t1, .str y t2, .str "" t3] }) :: news) → (∀ p ∈ news, p.1 < R) → Q (.ref R) { s with heap := h', toks := tk' }) :
    wpAny (model PR w) (ktrTop dp' un' gd cn cs L b ccd cl outer) (call (.ref 135) [.ref a.x, .str y t]) Q E s :=
  (con_qn w a c news y t hy hy2 hes hl).use hd hu B F X (fun q hq => (List.mem_append.mp hq).elim (fun e => N _ (hW q e)) (N q)) T hk fun v n h' tk' hp F' N' => by
    obtain ⟨R, t1, t2, t3, rfl, hlt, rfl⟩ := hp
    refine ret R t1 t2 t3 h' tk' F' (fun q hq => ?_) fun q hq => hlt q (List.mem_append_right _ hq)
    rcases List.mem_cons.mp hq with rfl | hq
    · exact N' _ (.head _)
    · exact N' q (.tail _ (List.mem_append_right _ hq))
theorem use_qnM {q : Addr} {a : WA} {c : WS} {y : Str} {t : Tok} (hy : y.length ≤ 4) (hy2 : (Txt.slice y none (some 1) == Str.ofString "{") = false) (hes : ∀ e ∈ c.es, ∃ a c, e = .ref a ∧ (a, listOf #[] c) ∈ news) (hl : c.es.length ≤ 500) (hW : ∀ q ∈ WL w.params a c, q ∈ news) (hq : (q, methodObj (.ref 135) (.ref a.x)) ∈ news) (hd : dp' ≤ 640) (hu : un' ≤ 5400)
    (B : Below A₀ base outer h₀) (F : Fr h₀ L s.heap m) (X : (Mine.hd0.heap_1_41 w.params).In h₀) (N : News h₀ L s.heap news) (T : Top p loose mean mg mb h₀) (hk : cs.kind = .function)
    (ret : ∀ R t1 t2 t3 h' tk', Fr h₀ L h' m → News h₀ L h' ((R, { cls := .type "tuple", data := .seq #[.str y t1, .str y t2, .str "" t3] }) :: news) → (∀ p ∈ news, p.1 < R) → Q (.ref R) { s with heap := h', toks := tk' }) :
    wpAny (model PR w) (ktrTop dp' un' gd cn cs L b ccd cl outer) (call (.ref q) [.str y t]) Q E s :=
  (con_qnC w a c news y t hy hy2 hes hl).useM hd hu N hq B F X (fun q hq => (List.mem_append.mp hq).elim (fun e => N _ (hW q e)) (N q)) T hk fun v n h' tk' hp F' N' => by
    obtain ⟨R, t1, t2, t3, rfl, hlt, rfl⟩ := hp
    refine ret R t1 t2 t3 h' tk' F' (fun q hq => ?_) fun q hq => hlt q (List.mem_append_right _ hq)
    rcases List.mem_cons.mp hq with rfl | hq
    · exact N' _ (.head _)
    · exact N' q (.tail _ (List.mem_append_right _ hq))
theorem ld_cell {env : Env} {scope : Scope} {x : Str} {pos : Pos} {c : Addr} {o : Obj} {v : Value} (N : News h₀ L s.heap news) (hc : cl.lookup x = some c) (hm : (c, o) ∈ news) (hd : o.data = .cell (some v)) (h : Q v s)
    (hk : (compEnvC scope cl C env).scope.kind = .function := by rfl) (hl : (compEnvC scope cl C env).kindOf x = some .cell := by rfl) (hb : (x == ("__debug__" : Str)) = false := by decide) :
    wpAny M A (eval (.Name x pos) (compEnvC scope cl C env)) Q E s := wpAny_Name (wpAny_loadName_cell hk hl hc ⟨o, N.get hm, hd⟩ h) hb
theorem item_list_neg {prog : Program} {A : Around} {value slice : PySem.Expr} {l : Addr} {items : Array Value} {k : Int} {u : Tok} {x : Value} (hl : s.heap.IsList l items)
    (h0 : k < 0) (h1 : -(items.size : Int) ≤ k) (hfit : -(2 ^ 63) ≤ k) (hx : items[(k + items.size).toNat]? = some x) (h : Q x s)
    (hs : subscripted slice false (.ref l) (.int k u) = operate [.ref l, .int k u] (getItem (.ref l) (.int k u)) := by with_unfolding_all rfl) (hg : ∀ r, letTemporaryGo value (.ref l) r = pure () := by intro _; with_unfolding_all rfl) :
    wpAny (model prog w) A (subscriptTail value slice (.ref l) (.int k u)) Q E s :=
  subscriptTail_builtin hl.typeIs slot_list_getitem.lookup (wpAny_getItem_list_neg hl h0 h1 hfit hx h) hs hg
theorem named {l : List (Addr × Obj)} {h : Heap} (N : News h₀ L h l) : ∃ b, b = l ∧ News h₀ L h b := ⟨l, rfl, N⟩
end
theorem lay_28 : True := by
  k_with "my:callWith ref" => ((fail_if_success k_extra "off37"); ((try dsimp only); (with_reducible show wpAny _ _ (callWith _ (Value.ref (WA.q _)) _ _ _) _ _ _); k_dflt refine callWith_boundN (by k_asm) (by k_mem) ?_))
  k_with "my:And" => ((fail_if_success k_extra "off37"); ((with_reducible show Heap.get? _ (WA.q _) = _ ∧ _); k_dflt (refine ⟨(News.get (by k_asm) (by k_mem)), ?_⟩); (try dsimp only [List.nil_append, List.cons_append])))
  k_with "my:call ref" => ((fail_if_success k_extra "off37"); ((with_reducible show wpAny _ _ (call (Value.ref _) [Value.str _ _]) _ _ _); (with_reducible refine stop_in ?_)))
  k_with "my:eval Name" => ((fail_if_success k_extra "off37"); (k_here; (with_reducible show wpAny _ _ (eval (Expr.Name _ _) (compEnvC _ _ _ _)) _ _ _); k_dflt (refine ld_cell (by k_asm) (by rfl) (by k_extra "my:mem") (by k_asm) ?_)))
  exact True.intro
def startS (c : WS) (y : Str) (t1 t2 : Tok) (E : Addr) : WS :=
  { c with rs := true, wr := c.wr ++ [.str (Str.ofString "<" ++ y) t1] ++ [.str (Str.ofString ">") t2], cw := c.cw + 1 + 1, nv := c.nv ++ [.ref E], cn := c.cn + 1, pv := c.pv ++ [.bool false], cp := c.cp + 1 }
theorem lay_29 : True := by
  k_with "my:newList" => ((fail_if_success k_extra "off37"); with_reducible refine stop_in ?_)
  k_with "my:getAttr ref" => ((fail_if_success k_extra "off37"); (with_reducible show wpAny _ _ (getAttr (Value.ref _) (Str.ofString "_qname") _) _ _ _; k_extra "my:kbm"))
  exact True.intro
theorem con_st (w : World) (a : WA) (c : WS) (tb : Option (Addr × Obj)) (htb : TabOk tb) (rest : List (Addr × Obj)) (y : Str) (t : Tok) (ae nn : Addr) (oe : Obj) (hoe : oe.IsDictOf (PySem.strKind PySem.Challenge.rw_tv0054_02.row.prog w) []) (has : (ae == sysModules) = false) (kn : Nat) (hy : y.length ≤ 4) (hy2 : (Txt.slice y none (some 1) == Str.ofString "{") = false) (ho : WOrd a) (hr : WOut a (tabS tb ++ rest)) (h168 : ∀ p ∈ rest, p.1 ≠ 168) (hwa : @LT.lt Nat _ 168 a.wa) (hm1 : (ae, oe) ∈ rest) (hm2 : (nn, listOf #[] kn) ∈ rest) (hes : ∀ e ∈ c.es, ∃ a c, e = .ref a ∧ (a, listOf #[] c) ∈ rest) (hl : c.es.length ≤ 500) (pv0 : List Value) (hpv : c.pv = pv0 ++ [.bool false]) (hpl : pv0.length ≤ 500) (hnv : c.nv.length ≤ 500) (hwl : c.wr.length ≤ 1000) :
    Con PySem.Challenge.rw_tv0054_02.row.prog w (Mine.hd0.heap_1_41 w.params) 171 620 5200 [.ref a.x, .str y t, .ref ae, .ref nn] (WL w.params a c ++ (tabS tb ++ rest))
      (fun v n => v = .none ∧ ∃ t1 t2 E c' oc, TabOk (some (c', oc)) ∧ WOut a (tabS (some (c', oc)) ++ (E, listOf #[] 0) :: rest) ∧ (@LT.lt Nat _ a.ps E) ∧ ((∀ p ∈ tabS (some (c', oc)) ++ rest, @LT.lt Nat _ p.1 E) ∧ (tb = some (c', oc) ∨ ∀ p ∈ rest, @LT.lt Nat _ p.1 c')) ∧ n = WL w.params a (startS c y t1 t2 E) ++ (tabS (some (c', oc)) ++ (E, listOf #[] 0) :: rest)) := by
  revert w a c tb htb rest y t ae nn oe hoe has kn hy hy2 ho hr h168 hwa hm1 hm2 hes hl pv0 hpv hpl hnv hwl
  walk_at "g4"
  intros w a c tb
  intro htb
  ((refine gen_all6 (ne := ?gN_130) (P := ?gP_130) ((?gf_130 : ∀ a0 a1 a2 a3 a4 a5, ?gP_130 a0 a1 a2 a3 a4 a5) (gen6 ?gN_130 ?gP_130).1 (gen6 ?gN_130 ?gP_130).2.1 (gen6 ?gN_130 ?gP_130).2.2.1 (gen6 ?gN_130 ?gP_130).2.2.2.1 (gen6 ?gN_130 ?gP_130).2.2.2.2.1 (gen6 ?gN_130 ?gP_130).2.2.2.2.2); (case gN_130 => k_extra "my:ne")))
  intros rest y t ae nn oe
  intro hoe has
  walk_at "g1"
  intro kn hy hy2 ho hr h168 hwa hm1 hm2 hes hl
  walk_at "g1"
  intro pv0 hpv hpl hnv hwl
  have hout := hr
  w_top off
  k_fill
  refine' Con.ofC (binds := [("self", .ref a.x), ("tag", .str y t), ("attrs", .ref ae), ("new_namespaces", .ref nn), ("qname_text", .none)]) ?k6 ?k7 ?k8 ?k9 ?kB ?kD ?c2 ?c3 ?c4 ?_
  (( (case k6 => k_is); (case k7 => k_is); (case k8 => decide); (case k9 => (intro s9 X9; first | exact BindsTo.of_eq rfl | exact binds_K X9 rfl (by k_is) rfl rfl rfl | (refine kp_binds X9 ?_; exact fun _ => rfl))); (case kB => exact rfl); (case kD => decide +kernel); (case c2 => exact rfl); (case c3 => exact rfl); (case c4 => exact rfl); k_with "WPost" => dsimp only [WPost]; k_with "FPost" => dsimp only [FPost]))
  ((refine gen_all7 (ne := ?gN_132) (P := ?gP_132) ((?gf_132 : ∀ a0 a1 a2 a3 a4 a5 a6, ?gP_132 a0 a1 a2 a3 a4 a5 a6) (gen7 ?gN_132 ?gP_132).1 (gen7 ?gN_132 ?gP_132).2.1 (gen7 ?gN_132 ?gP_132).2.2.1 (gen7 ?gN_132 ?gP_132).2.2.2.1 (gen7 ?gN_132 ?gP_132).2.2.2.2.1 (gen7 ?gN_132 ?gP_132).2.2.2.2.2.1 (gen7 ?gN_132 ?gP_132).2.2.2.2.2.2); (case gN_132 => k_extra "my:ne")))
  intros p loose mean mg mb gd cn
  ((refine gen_all7 (ne := ?gN_133) (P := ?gP_133) ((?gf_133 : ∀ a0 a1 a2 a3 a4 a5 a6, ?gP_133 a0 a1 a2 a3 a4 a5 a6) (gen7 ?gN_133 ?gP_133).1 (gen7 ?gN_133 ?gP_133).2.1 (gen7 ?gN_133 ?gP_133).2.2.1 (gen7 ?gN_133 ?gP_133).2.2.2.1 (gen7 ?gN_133 ?gP_133).2.2.2.2.1 (gen7 ?gN_133 ?gP_133).2.2.2.2.2.1 (gen7 ?gN_133 ?gP_133).2.2.2.2.2.2); (case gN_133 => k_extra "my:ne")))
  intros cs ad ccd cl outer base g
  ((refine gen_all7 (ne := ?gN_134) (P := ?gP_134) ((?gf_134 : ∀ a0 a1 a2 a3 a4 a5 a6, ?gP_134 a0 a1 a2 a3 a4 a5 a6) (gen7 ?gN_134 ?gP_134).1 (gen7 ?gN_134 ?gP_134).2.1 (gen7 ?gN_134 ?gP_134).2.2.1 (gen7 ?gN_134 ?gP_134).2.2.2.1 (gen7 ?gN_134 ?gP_134).2.2.2.2.1 (gen7 ?gN_134 ?gP_134).2.2.2.2.2.1 (gen7 ?gN_134 ?gP_134).2.2.2.2.2.2); (case gN_134 => k_extra "my:ne")))
  intros h₁ L' L₀ s tk cells R
  intro F' N' Y' B' X' T' l1
  refine ex_in2 (CellsAre.two Y') ?_
  walk_at "g2"
  intros o' o2'
  rintro ⟨hE', d1', d2'⟩
  subst hE'
  clear Y'
  simp only [WL, wents, ent, List.cons_append, List.nil_append] at N' l1
  have hc1 := lt_up l1
  have hc2 := lt_cons (o := o') hc1
  obtain ⟨o1, o2, o3, o4, o5, o6, o7, o8, o9, o10⟩ := id ho
  unfold WOut at hr
  k_extra "my:go"
  rename (Fr _ _ _ _) => F'
  rename (News _ _ _ _) => N'
  refine set_star (k := 0) F' N' (by k_asm) (by first | k_is | kernel_rfl!) rfl rfl ?_
  clear F' N'
  walk_at "g3"
  intros D h' led
  intro hled F' N' lD
  k_extra "my:go"
  refine' add_fresh hled F' N' ?u ?_
  case u => k_updF
  clear F' N'
  walk_at "g3"
  intros h' so' kk
  intro F' N' hone
  try dsimp only at N'
  k_extra "my:go"
  refine star_empty rfl F' N' (by k_extra "my:mem") (by k_extra "my:mem") hoe has hone ?_
  clear F' N'
  walk_at "g1"
  intro h' F' N'
  k_extra "my:go"
  refine stop_out ?_
  rename (Fr _ _ _ _) => F'
  rename (News _ _ _ _) => N'
  k_dflt refine Assign_DictComp_U (PySem.strKind _ w) F' rfl (by with_unfolding_all rfl) (by with_unfolding_all rfl) (by decide) rfl (by decide) rfl rfl rfl (Top.nolimit T') ?_
  k_extra "my:go"
  refine stop_out ?_
  k_dflt refine kla_eval rfl ?_
  rename (Fr _ _ _ _) => F'
  rename (News _ _ _ _) => N'
  have N2 : News _ _ _ (List.take 15 _ ++ List.drop 15 _) := (by rw [List.take_append_drop]; exact N')
  simp only [List.take_succ_cons, List.take_zero, List.drop_succ_cons, List.drop_zero] at N2
  refine lam_start F' N2 T' (codeHd_of_K X' (by first | k_is | kernel_rfl!)) ?hpre h168 htb (by with_unfolding_all rfl) ?_
  case hpre => (repeat' (refine List.forall_mem_cons.mpr ⟨?_, ?_⟩)) <;> first | exact List.forall_mem_nil _ | (dsimp only; exact w_k ho hwa (by k_extra "my:wix")) | (dsimp only; (refine' ne_k (o := _) hwa ?nh ?nm; (case nh => assumption); (case nm => k_extra "my:mem1"))) | (show @Ne Nat _ _; omega)
  clear F' N' N2
  ((refine gen_all6 (ne := ?gN_135) (P := ?gP_135) ((?gf_135 : ∀ a0 a1 a2 a3 a4 a5, ?gP_135 a0 a1 a2 a3 a4 a5) (gen6 ?gN_135 ?gP_135).1 (gen6 ?gN_135 ?gP_135).2.1 (gen6 ?gN_135 ?gP_135).2.2.1 (gen6 ?gN_135 ?gP_135).2.2.2.1 (gen6 ?gN_135 ?gP_135).2.2.2.2.1 (gen6 ?gN_135 ?gP_135).2.2.2.2.2); (case gN_135 => k_extra "my:ne")))
  intros f c' oc ctv h' tk
  intro F' N' hok lf hcase
  have hr2 : ∀ p ∈ tabS (some (c', oc)) ++ rest, @LT.lt Nat _ p.1 a.wa ∨ @LT.lt Nat _ a.ps p.1 ∨ (@LT.lt Nat _ a.dl p.1 ∧ @LT.lt Nat _ p.1 a.tp) := by
    intro p hp
    rcases List.mem_append.mp hp with hp | hp
    · simp only [tabS, List.mem_cons, List.not_mem_nil, or_false] at hp
      rcases hp with rfl | rfl
      · exact .inl hwa
      · rcases hcase with e | e
        · subst e
          exact hr (c', oc) (List.mem_append_left _ (.tail _ (.head _)))
        · exact .inr (.inl (e (a.ps, _) (List.mem_append_left _ (by k_mem))))
    · exact hr p (List.mem_append_right _ hp)
  have hmc : (c', oc) ∈ tabS (some (c', oc)) ++ rest := List.mem_append_left _ (.tail _ (.head _))
  have hm1' : (ae, oe) ∈ tabS (some (c', oc)) ++ rest := List.mem_append_right _ hm1
  have hm2' : (nn, listOf #[] kn) ∈ tabS (some (c', oc)) ++ rest := List.mem_append_right _ hm2
  have hes' : ∀ e ∈ c.es, ∃ a c1, e = .ref a ∧ (a, listOf #[] c1) ∈ tabS (some (c', oc)) ++ rest := fun e he => let ⟨a, c1, h1, h2⟩ := hes e he; ⟨a, c1, h1, List.mem_append_right _ h2⟩
  refine ex_in (⟨_, rfl⟩ : ∃ r, r = tabS (some (c', oc)) ++ rest) ?_
  walk_at "g1"
  intro rest2 hrest2
  rw [← hrest2] at N' lf hr2 hmc hm1' hm2' hes'
  simp only [List.cons_append, List.nil_append] at N' lf
  have hcase2 : Hid (tb = some (c', oc) ∨ ∀ p ∈ rest, @LT.lt Nat _ p.1 c') := hcase.elim (fun e => .inl e) (fun e => .inr fun p hp => e p (List.mem_append_right _ (List.mem_append_right _ hp)))
  clear hr hcase
  k_extra "my:go"
  rename (Fr _ _ _ _) => F'
  rename (News _ _ _ _) => N'
  show wpAny _ _ (call (.builtin "sorted") [.ref D] [(Str.ofString "key", .ref f)]) _ _ _
  refine sorted_one rfl hone F' N' (by k_extra "my:mem") ?turn ?_
  case turn =>
    clear F'
    walk_at "g3"
    intros h9 tk9 own
    intro F' N9 off
    refine wpAny_call ?_
    refine' kla_code B' F' X' N9 T' ?kA ?kF ?kK ?k6 ?k7 ?k8 ?k9 ?kB ?_ ?c2 ?c3 ?c4 ?c5
    case kA => exact rfl
    case kF => exact rfl
    case kK => exact rfl
    case k6 => exact List.mem_append_right _ (.head _)
    case k7 =>
      obtain ⟨vs9, t9, hoc1, hoc2⟩ := id hok
      exact codeRec_news N9 (List.mem_append_right _ (by k_extra "my:mem")) hoc1 hoc2
    case k8 => k_room
    case k9 => exact rfl
    case c5 => decide
    case kB => exact locs rfl
    case c2 => exact rfl
    case c3 => exact rfl
    case c4 => exact rfl
    clear F' N'
    walk_at "g3"
    intros g' L9 h'
    intro FG' F' N' B9 X9 T9
    (try dsimp only)
    k_extra "my:go"
    all_goals first | assumption | exact News.tail' (by assumption)
  clear F' N'
  walk_at "g4"
  intros lq cq h' tk
  intro F' N' lL
  k_extra "my:go"
  rename (Fr _ _ _ _) => F'
  rename (News _ _ _ _) => N'
  refine ex_in (named N') ?_
  walk_at "g1"
  rintro nl ⟨hnl, Nb⟩
  refine DSrc.list (nn := cq) (fun i kvs nw => (i = 0 ∧ kvs = [] ∧ nw = nl) ∨ (i = 1 ∧ ∃ T t1 t2 t3, kvs = [(y, .ref T)] ∧ nw = (T, { cls := .type "tuple", data := .seq #[.str y t1, .str y t2, .str "" t3] }) :: nl ∧ ∀ p ∈ nl, p.1 < T)) rfl F' Nb (by simp [sizeLine_eq]) (l := lq) (vs := [.str y t]) (by rw [hnl]; exact .head _) ?_ ?_ (.inl ⟨rfl, rfl, rfl⟩) ?_ ?_
  · rintro i kvs nw (⟨_, _, rfl⟩ | ⟨_, T, t1, t2, t3, _, rfl, _⟩)
    · rw [hnl]; exact .head _
    · rw [hnl]; exact .tail _ (.head _)
  · rintro i kvs nw (⟨rfl, rfl, _⟩ | ⟨rfl, T, t1, t2, t3, rfl, _⟩) <;> simp
  · walk_at "g2"
    intros I hI
    unfold DTurn
    ((refine gen_all7 (ne := ?gN_136) (P := ?gP_136) ((?gf_136 : ∀ a0 a1 a2 a3 a4 a5 a6, ?gP_136 a0 a1 a2 a3 a4 a5 a6) (gen7 ?gN_136 ?gP_136).1 (gen7 ?gN_136 ?gP_136).2.1 (gen7 ?gN_136 ?gP_136).2.2.1 (gen7 ?gN_136 ?gP_136).2.2.2.1 (gen7 ?gN_136 ?gP_136).2.2.2.2.1 (gen7 ?gN_136 ?gP_136).2.2.2.2.2.1 (gen7 ?gN_136 ?gP_136).2.2.2.2.2.2); (case gN_136 => k_extra "my:ne")))
    intros i kvs nw v C oC D2
    ((refine gen_all6 (ne := ?gN_137) (P := ?gP_137) ((?gf_137 : ∀ a0 a1 a2 a3 a4 a5, ?gP_137 a0 a1 a2 a3 a4 a5) (gen6 ?gN_137 ?gP_137).1 (gen6 ?gN_137 ?gP_137).2.1 (gen6 ?gN_137 ?gP_137).2.2.1 (gen6 ?gN_137 ?gP_137).2.2.2.1 (gen6 ?gN_137 ?gP_137).2.2.2.2.1 (gen6 ?gN_137 ?gP_137).2.2.2.2.2); (case gN_137 => k_extra "my:ne")))
    intros oD oI m2 h9 tk9 E9
    intro hi hv hinv hC hx hdD F9 N9 off hne
    have hi0 : i = 0 := by simp at hi; exact hi
    subst hi0
    simp only [List.getElem?_cons_zero, Option.some.injEq] at hv
    subst hv
    obtain ⟨rfl, rfl⟩ : kvs = [] ∧ nw = nl := by
      rcases hinv with ⟨_, h1, h2⟩ | ⟨h1, _⟩
      · exact ⟨h1, h2⟩
      · cases h1
    clear F' N' Nb
    rw [hnl] at N9
    k_extra "my:go"
    k_dflt refine use_qnM (c := c) hy hy2 (fun e he => ?_) hl ?_ (by k_extra "my:mem") (by k_extra "my:us1") (by k_extra "my:us1") (by k_asm) F9 (by k_asm) N9 (by k_asm) rfl ?_
    · obtain ⟨a1, c1, h1, h2⟩ := hes' e he
      exact ⟨a1, c1, h1, by k_extra "my:mem"⟩
    · simp only [WL, wents, ent]
      (((try dsimp only); k_extra "my:inl"))
    clear F9
    ((refine gen_all6 (ne := ?gN_139) (P := ?gP_139) ((?gf_139 : ∀ a0 a1 a2 a3 a4 a5, ?gP_139 a0 a1 a2 a3 a4 a5) (gen6 ?gN_139 ?gP_139).1 (gen6 ?gN_139 ?gP_139).2.1 (gen6 ?gN_139 ?gP_139).2.2.1 (gen6 ?gN_139 ?gP_139).2.2.2.1 (gen6 ?gN_139 ?gP_139).2.2.2.2.1 (gen6 ?gN_139 ?gP_139).2.2.2.2.2); (case gN_139 => k_extra "my:ne")))
    intros R t1 t2 t3 h9 tk9
    intro F9 N9 lR
    rw [← hnl] at N9 lR
    refine ⟨y, _, _, (R, _) :: nw, strKind_is _ _ _ _, rfl, F9, (fun q hq => ?_), ⟨⟨?_, ?_, ?_⟩, off⟩, .inr ⟨rfl, R, t1, t2, t3, by simp [stored], rfl, fun q hq => lR q (.tail _ (.tail _ (.tail _ hq)))⟩⟩
    · apply N9
      rcases List.mem_cons.mp hq with rfl | hq
      · exact .tail _ (.head _)
      · rcases List.mem_cons.mp hq with rfl | hq
        · exact .tail _ (.tail _ (.head _))
        · rcases List.mem_cons.mp hq with rfl | hq
          · exact .tail _ (.tail _ (.tail _ (.head _)))
          · rcases List.mem_cons.mp hq with rfl | hq
            · exact .head _
            · exact .tail _ (.tail _ (.tail _ (.tail _ hq)))
    · exact Nat.ne_of_gt (lR (I, oI) (.head _))
    · exact Nat.ne_of_gt (lR (C, oC) (.tail _ (.head _)))
    · exact Nat.ne_of_gt (lR (D2, oD) (.tail _ (.tail _ (.head _))))
  clear F' N' Nb
  ((refine gen_all7 (ne := ?gN_140) (P := ?gP_140) ((?gf_140 : ∀ a0 a1 a2 a3 a4 a5 a6, ?gP_140 a0 a1 a2 a3 a4 a5 a6) (gen7 ?gN_140 ?gP_140).1 (gen7 ?gN_140 ?gP_140).2.1 (gen7 ?gN_140 ?gP_140).2.2.1 (gen7 ?gN_140 ?gP_140).2.2.2.1 (gen7 ?gN_140 ?gP_140).2.2.2.2.1 (gen7 ?gN_140 ?gP_140).2.2.2.2.2.1 (gen7 ?gN_140 ?gP_140).2.2.2.2.2.2); (case gN_140 => k_extra "my:ne")))
  intros H9 D3 oD3 h' tk' kvs news'
  intro F' N' hD3 hoff hsys hinv
  have hT9 : ∃ T t1 t2 t3, kvs = [(y, .ref T)] ∧ news' = (T, { cls := .type "tuple", data := .seq #[.str y t1, .str y t2, .str "" t3] }) :: nl ∧ ∀ p ∈ nl, p.1 < T := by
    rcases hinv with ⟨h1, _⟩ | ⟨_, h⟩
    · cases h1
    · exact h
  refine ex_in4 hT9 ?_
  clear hT9
  walk_at "g4"
  intros T t1 t2 t3
  rintro ⟨hkv, hnw, lT⟩
  subst hkv hnw
  subst hnl
  replace hoff := off1_all hoff
  k_extra "my:go"
  rename (Fr _ _ _ _) => F'
  rename (News _ _ _ _) => N'
  refine wpAny_truthy_list (l := nn) (items := #[]) ⟨_, (N' _ (show (nn, listOf #[] kn) ∈ _ by k_extra "my:mem")).1, rfl, _, rfl⟩ (by decide) ?_
  dsimp only
  k_extra "my:go"
  refine stop_out ?_
  rename (Fr _ _ _ _) => F'
  rename (News _ _ _ _) => N'
  k_dflt refine newList_K F' N' ?_
  walk_at "g2"
  intros al h'
  clear F' N'
  intro F' N' lal
  k_sweep
  k_extra "my:go"
  rename (Fr _ _ _ _) => F'
  rename (News _ _ _ _) => N'
  refine wpAny_truthy_dict (knd := PySem.strKind _ w) (kvs := []) has (Heap.dictOf_iff.mpr ⟨oe, (N' _ (show (ae, oe) ∈ _ by k_extra "my:mem")).1, hoe⟩) (by decide) ?_
  k_extra "my:go"
  rename (Fr _ _ _ _) => F'
  rename (News _ _ _ _) => N'
  refine kdg_method N' (show (ae, oe) ∈ _ by k_extra "my:mem") hoe ?_
  k_extra "my:go"
  rename (Fr _ _ _ _) => F'
  rename (News _ _ _ _) => N'
  refine kdg_get1 N' (show (ae, oe) ∈ _ by k_extra "my:mem") hoe has (strKind_is _ _ _ _) none rfl ?_
  dsimp only [Option.getD_none]
  k_extra "my:go"
  rename (Fr _ _ _ _) => F'
  rename (News _ _ _ _) => N'
  have hpvl : c.pv.length ≤ 501 := by rw [hpv]; simp; omega
  have hpsz : (c.pv.toArray.size : Int) = pv0.length + 1 := by rw [hpv]; simp
  refine item_list_neg (l := a.ps) (items := c.pv.toArray) (x := .bool false) ⟨_, (N' _ (show (a.ps, listOf c.pv.toArray c.cp) ∈ _ by k_extra "my:mem")).1, rfl, _, rfl⟩ (by decide) (by omega) (by decide) (by rw [hpsz, hpv, show (-1 + ((pv0.length : Int) + 1)).toNat = pv0.length by omega]; simp) ?_
  k_extra "my:go"
  rename (Fr _ _ _ _) => F'
  rename (News _ _ _ _) => N'
  refine kdt_tail (knd := PySem.strKind _ w) N' (show (D3, oD3) ∈ _ by k_extra "my:mem") hD3 ?_
  refine kdt_getItem (knd := PySem.strKind _ w) N' (show (D3, oD3) ∈ _ by k_extra "my:mem") hD3 (strKind_is _ _ _ _) (v := .ref T) (by simp [valueAt]) ?_
  k_extra "my:go"
  rename (Fr _ _ _ _) => F'
  rename (News _ _ _ _) => N'
  refine bound_append (D := a.wa) (its := c.wr.toArray) (n := c.cw) F' N' (by k_mem) (by k_upd) (by simp; omega) ?_
  clear F' N'
  walk_at "g1"
  intro h' F' N'
  k_sweep
  simp only [List.push_toArray] at N'
  k_extra "my:go"
  rename (Fr _ _ _ _) => F'
  rename (News _ _ _ _) => N'
  refine bound_append (D := a.wa) (its := _) (n := _) F' N' (by k_mem) (by k_upd) (by simp; omega) ?_
  clear F' N'
  walk_at "g1"
  intro h' F' N'
  k_sweep
  simp only [List.push_toArray] at N'
  k_extra "my:go"
  refine stop_out ?_
  rename (Fr _ _ _ _) => F'
  rename (News _ _ _ _) => N'
  k_dflt refine newList_K F' N' ?_
  walk_at "g2"
  intros E h'
  clear F' N'
  intro F' N' lE
  k_sweep
  k_extra "my:go"
  rename (Fr _ _ _ _) => F'
  rename (News _ _ _ _) => N'
  simp only [List.push_toArray] at N'
  refine' ⟨_, _, _, _, _, _, rfl, by k_asm, by k_asm, ?mm, rfl, _, _, E, c', oc, hok, ?wo, ?lt, ⟨?fr, hid_out hcase2⟩, rfl⟩
  case mm =>
    subst hrest2
    simp only [WL, wents, ent, startS, List.cons_append, List.nil_append]
    (((try dsimp only); k_extra "my:inl"))
  case wo =>
    subst hrest2
    intro p hp
    rcases List.mem_append.mp hp with hp | hp
    · exact hr2 p (List.mem_append_left _ hp)
    · rcases List.mem_cons.mp hp with rfl | hp
      · right; left; exact lt_in lE (show (a.ps, listOf _ _) ∈ _ by k_extra "my:mem")
      · exact hr2 p (List.mem_append_right _ hp)
  case lt => exact lt_in lE (show (a.ps, listOf _ _) ∈ _ by k_extra "my:mem")
  case fr =>
    rw [← hrest2]
    exact fun p hp => lE p (by repeat (first | exact hp | with_reducible refine List.mem_cons_of_mem _ ?_))
end
theorem lay_30 : True := by
  k_with "off37" => skip
  exact True.intro
section
theorem lay_31 : True := by
  k_with "my:execs cons If cons" => ((fail_if_success k_extra "off38"); with_reducible refine stop_in ?_)
  k_with "my:call ref" => ((fail_if_success k_extra "off38"); ((with_reducible show wpAny _ _ (call (Value.ref 151) _) _ _ _); (with_reducible refine stop_in ?_)))
  k_with "my:call ref" => ((fail_if_success k_extra "off38"); ((with_reducible show wpAny _ _ (call (Value.ref 171) _) _ _ _); (with_reducible refine stop_in ?_)))
  exact True.intro
theorem News.sub {h₀ h : Heap} {L : Addr} {l l' : List (Addr × Obj)} (N : News h₀ L h l) (hs : ∀ p ∈ l', p ∈ l) : News h₀ L h l' := fun p hp => N p (hs p hp)
def XOk (w : World) (a : WA) (rest : List (Addr × Obj)) (ex : Bool) : Prop :=
  match ex with
  | false => a.xv = .none
  | true => ∃ sx so, a.xv = .ref sx ∧ (sx, so) ∈ rest ∧ so.SetObjOf (PySem.strKind PySem.Challenge.rw_tv0054_02.row.prog w) (fun k => decide (k = Str.ofString "x")) 1
/-- what a writer has been told, and wrote -/
structure AS where
  wr : List Str
  da : List Str
  dep : Nat
  ig : Nat
  rs : Bool
structure WInv (w : World) (a : WA) (ex : Bool) (A : AS) (c : WS) (tb : Option (Addr × Obj)) (rest : List (Addr × Obj)) : Prop where
  tab : TabOk tb
  off : ∀ p ∈ rest, p.1 ≠ 168
  out : WOut a (tabS tb ++ rest)
  wr : StrsAre c.wr A.wr
  da : StrsAre c.da A.da
  es : ∀ e ∈ c.es, ∃ a c, e = .ref a ∧ (a, listOf #[] c) ∈ rest
  esl : c.es.length = A.dep
  pv : c.pv = List.replicate (A.dep + 1) (.bool false)
  nv : c.nv.length = A.dep + 2
  ig : c.ig = A.ig
  rs : c.rs = A.rs
  xs : XOk w a rest ex
def aFlush (A : AS) : AS := if A.da = [] then A else { A with wr := A.wr ++ [escT (Txt.join (Str.ofString "") A.da)], da := [] }
def aStart (ex : Bool) (A : AS) (y : Str) : AS := if ex = true ∧ (A.ig ≠ 0 ∨ y = Str.ofString "x") then { A with ig := A.ig + 1 } else { aFlush A with wr := (aFlush A).wr ++ [Str.ofString "<" ++ y] ++ [Str.ofString ">"], dep := A.dep + 1, rs := true }
def aEnd (A : AS) (y : Str) : AS := if A.ig ≠ 0 then { A with ig := A.ig - 1 } else { aFlush A with wr := (aFlush A).wr ++ [Str.ofString "</" ++ y ++ Str.ofString ">"], dep := A.dep - 1 }
def aData (A : AS) (d : Str) : AS := if A.ig = 0 then { A with da := A.da ++ [d] } else A
/-- a state that the writer can take more in -/
structure ASOk (A : AS) : Prop where
  wr : A.wr.length ≤ 900
  da : A.da.length ≤ 24
  dl : ∀ y ∈ A.da, 1 ≤ y.length ∧ y.length ≤ 4
  dep : A.dep ≤ 400
  rs : A.da ≠ [] → A.rs = true
  ig : A.ig ≤ 400
theorem aFlush_dep (A : AS) : (aFlush A).dep = A.dep ∧ (aFlush A).ig = A.ig ∧ (aFlush A).rs = A.rs ∧ (aFlush A).da = [] := by
  unfold aFlush; split
  · rename_i h; exact ⟨rfl, rfl, rfl, h⟩
  · exact ⟨rfl, rfl, rfl, rfl⟩
theorem in_set_mem {prog : Program} {w : World} {A : Around} {E : Value → Shared → Prop} {s : Shared} {h₀ : Heap} {L sa : Addr} {news : List (Addr × Obj)} {so : Obj} {S : Str → Bool} {n : Nat} {y : Str} {t : Tok} {Q : Value → Shared → Prop} (N : News h₀ L s.heap news) (hm : (sa, so) ∈ news) (hso : so.SetObjOf (PySem.strKind prog w) S n) (hb : n < scanBound) (h : Q (.bool (S y)) { s with toks := s.toks + 1 }) :
    wpAny (model prog w) A (compareOp .In (.str y t) (.ref sa)) Q E s := by
  obtain ⟨l1, l2, rfl⟩ := List.append_of_mem hm
  exact in_sl1 N hso hb (strKind_is _ _ _ _) rfl h
theorem strsAre_snoc {vs : List Value} {ys : List Str} {y : Str} {t : Tok} : StrsAre vs ys → StrsAre (vs ++ [.str y t]) (ys ++ [y]) := fun h => by
  induction h with
  | nil => exact .cons _ _ .nil
  | cons _ _ _ ih => exact .cons _ _ ih
theorem XOk.mono {w : World} {a : WA} {rest rest' : List (Addr × Obj)} {ex : Bool} (h : XOk w a rest ex) (hs : ∀ p ∈ rest, p ∈ rest') : XOk w a rest' ex := by
  cases ex with
  | false => exact h
  | true => obtain ⟨sx, so, h1, h2, h3⟩ := h; exact ⟨sx, so, h1, hs _ h2, h3⟩
theorem aFlush_wr (A : AS) : (aFlush A).wr.length ≤ A.wr.length + 1 := by
  unfold aFlush; split
  · omega
  · simp
theorem ne_AS : Nonempty AS := ⟨by constructor <;> exact default⟩
theorem lay_32 : True := by
  k_with "my:ne" => ((fail_if_success k_extra "off38"); exact ne_AS)
  k_with "my:newList" => ((fail_if_success k_extra "off38"); with_reducible refine stop_in ?_)
  exact True.intro
theorem con_start (w : World) (a : WA) (ex : Bool) (A : AS) (c : WS) (tb : Option (Addr × Obj)) (R rest : List (Addr × Obj)) (I : WInv w a ex A c tb R) (hs : ∀ p ∈ R, p ∈ rest) (hout : WOut a (tabS tb ++ rest)) (hoff : ∀ p ∈ rest, p.1 ≠ 168) (ok : ASOk A) (ho : WOrd a) (y : Str) (t : Tok) (ae : Addr) (oe : Obj) (hoe : oe.IsDictOf (PySem.strKind PySem.Challenge.rw_tv0054_02.row.prog w) []) (has : (ae == sysModules) = false) (hm1 : (ae, oe) ∈ rest) (hy : y.length ≤ 4) (hy2 : (Txt.slice y none (some 1) == Str.ofString "{") = false) (hwa : @LT.lt Nat _ 168 a.wa) :
    Con PySem.Challenge.rw_tv0054_02.row.prog w (Mine.hd0.heap_1_41 w.params) 165 610 5100 [.ref a.x, .str y t, .ref ae] (WL w.params a c ++ (tabS tb ++ rest))
      (fun v n => v = .none ∧ ∃ c' tb' nw, WInv w a ex (aStart ex A y) c' tb' (nw ++ R) ∧ (∀ q ∈ nw, ∀ p ∈ rest, @LT.lt Nat _ p.1 q.1) ∧ (tb' = tb ∨ ∃ c' oc, tb' = some (c', oc) ∧ ∀ p ∈ rest, @LT.lt Nat _ p.1 c') ∧ n = WL w.params a c' ++ (tabS tb' ++ (nw ++ rest))) := by
  revert w a ex A c tb R rest I hs hout hoff ok ho y t ae oe hoe has hm1 hy hy2 hwa
  ((refine gen_all8 (ne := ?gN_142) (P := ?gP_142) ((?gf_142 : ∀ a0 a1 a2 a3 a4 a5 a6 a7, ?gP_142 a0 a1 a2 a3 a4 a5 a6 a7) (gen8 ?gN_142 ?gP_142).1 (gen8 ?gN_142 ?gP_142).2.1 (gen8 ?gN_142 ?gP_142).2.2.1 (gen8 ?gN_142 ?gP_142).2.2.2.1 (gen8 ?gN_142 ?gP_142).2.2.2.2.1 (gen8 ?gN_142 ?gP_142).2.2.2.2.2.1 (gen8 ?gN_142 ?gP_142).2.2.2.2.2.2.1 (gen8 ?gN_142 ?gP_142).2.2.2.2.2.2.2); (case gN_142 => k_extra "my:ne")))
  intros w a ex A c tb R rest
  intro I hs hout hoff ok ho
  walk_at "g4"
  intros y t ae oe
  intro hoe has hm1 hy hy2 hwa
  w_top off
  k_fill
  refine' Con.of (binds := [("self", .ref a.x), ("tag", .str y t), ("attrs", .ref ae)]) ?k6 ?k7 ?k8 ?k9 ?kB ?kN ?c2 ?c3 ?c4 ?c5 ?_
  (( (case k6 => k_is); (case k7 => k_is); (case k8 => decide); (case k9 => (intro s9 X9; first | exact BindsTo.of_eq rfl | exact binds_K X9 rfl (by k_is) rfl rfl rfl | (refine kp_binds X9 ?_; exact fun _ => rfl))); (case kB => exact locs rfl); (case kN => (simp only [List.map_cons, List.map_nil]; decide)); (case c2 => exact rfl); (case c3 => exact rfl); (case c4 => exact rfl); (case c5 => decide); k_with "WPost" => dsimp only [WPost]; k_with "FPost" => dsimp only [FPost]))
  ((refine gen_all10 (ne := ?gN_144) (P := ?gP_144) ((?gf_144 : ∀ a0 a1 a2 a3 a4 a5 a6 a7 a8 a9, ?gP_144 a0 a1 a2 a3 a4 a5 a6 a7 a8 a9) (gen10 ?gN_144 ?gP_144).1 (gen10 ?gN_144 ?gP_144).2.1 (gen10 ?gN_144 ?gP_144).2.2.1 (gen10 ?gN_144 ?gP_144).2.2.2.1 (gen10 ?gN_144 ?gP_144).2.2.2.2.1 (gen10 ?gN_144 ?gP_144).2.2.2.2.2.1 (gen10 ?gN_144 ?gP_144).2.2.2.2.2.2.1 (gen10 ?gN_144 ?gP_144).2.2.2.2.2.2.2.1 (gen10 ?gN_144 ?gP_144).2.2.2.2.2.2.2.2.1 (gen10 ?gN_144 ?gP_144).2.2.2.2.2.2.2.2.2); (case gN_144 => k_extra "my:ne")))
  intros p loose mean mg mb gd cn cs ad ccd
  ((refine gen_all10 (ne := ?gN_145) (P := ?gP_145) ((?gf_145 : ∀ a0 a1 a2 a3 a4 a5 a6 a7 a8 a9, ?gP_145 a0 a1 a2 a3 a4 a5 a6 a7 a8 a9) (gen10 ?gN_145 ?gP_145).1 (gen10 ?gN_145 ?gP_145).2.1 (gen10 ?gN_145 ?gP_145).2.2.1 (gen10 ?gN_145 ?gP_145).2.2.2.1 (gen10 ?gN_145 ?gP_145).2.2.2.2.1 (gen10 ?gN_145 ?gP_145).2.2.2.2.2.1 (gen10 ?gN_145 ?gP_145).2.2.2.2.2.2.1 (gen10 ?gN_145 ?gP_145).2.2.2.2.2.2.2.1 (gen10 ?gN_145 ?gP_145).2.2.2.2.2.2.2.2.1 (gen10 ?gN_145 ?gP_145).2.2.2.2.2.2.2.2.2); (case gN_145 => k_extra "my:ne")))
  intros cl outer base g h₁ L' L₀ s tk RR
  intro F' N' B' X' T'
  simp only [kstB] at F'
  simp only [WL, wents, ent, List.cons_append, List.nil_append] at N'
  have ho' := ho
  obtain ⟨o1, o2, o3, o4, o5, o6, o7, o8, o9, o10⟩ := ho'
  have hr := hout
  unfold WOut at hr
  rcases Classical.em (ex = true ∧ (A.ig ≠ 0 ∨ y = Str.ofString "x")) with hskip | hskip
  · have eA : aStart ex A y = { A with ig := A.ig + 1 } := if_pos hskip
    obtain ⟨hex, hs2⟩ := hskip
    subst hex
    refine ex_in2 I.xs ?_
    walk_at "g2"
    intros sx so
    rintro ⟨hxv, hms, hso⟩
    replace hms := hs _ hms
    simp only [hxv] at N'
    have hIig := I.ig
    k_extra "my:go"
    refine stop_out (wpAny_execs_cons ?_)
    k_extra "my:go"
    all_goals try dsimp only
    any_goals (
      rename (Fr _ _ _ _) => F'
      rename (News _ _ _ _) => N'
      refine in_set_mem N' (show (sx, so) ∈ _ by k_extra "my:mem") hso (by decide) ?_
      have hyx : y = Str.ofString "x" := hs2.resolve_left (fun h => h (by omega))
      rw [show decide (y = Str.ofString "x") = true from decide_eq_true hyx]
      k_extra "my:go"
      try dsimp only)
    all_goals refine' ⟨_, _, _, _, _, _, rfl, by k_asm, by k_asm, ?_, rfl, { c with ig := c.ig + 1, ti := _ }, tb, [], ?_, (fun q hq => nomatch hq), .inl rfl, rfl⟩
    any_goals (simp only [WL, wents, ent, List.cons_append, List.nil_append, hxv]; (((try dsimp only); k_extra "my:inl")))
    all_goals (rw [eA]; exact ⟨I.tab, I.off, I.out, I.wr, I.da, I.es, I.esl, I.pv, I.nv, by show c.ig + 1 = ((A.ig + 1 : Nat) : Int); omega, I.rs, I.xs⟩)
  · have eA : aStart ex A y = { aFlush A with wr := (aFlush A).wr ++ [Str.ofString "<" ++ y] ++ [Str.ofString ">"], dep := A.dep + 1, rs := true } := if_neg hskip
    by_cases hexx : ex = true
    all_goals have hxs := I.xs
    case' neg =>
      have hexf : ex = false := by cases ex; rfl; exact absurd rfl hexx
      rw [hexf] at hxs
      have hxv : a.xv = .none := hxs
      simp only [hxv] at N'
      k_extra "my:go"
      refine stop_out (wpAny_execs_cons ?_)
      k_extra "my:go"
    case' pos =>
      rw [hexx] at hxs
      refine ex_in2 hxs ?_
      walk_at "g2"
      intros sx so
      rintro ⟨hxv, hms, hso⟩
      replace hms := hs _ hms
      have hig : A.ig = 0 := by
        by_cases h : A.ig = 0
        · exact h
        · exact absurd ⟨hexx, .inl h⟩ hskip
      have hyx : y ≠ Str.ofString "x" := fun h => hskip ⟨hexx, .inr h⟩
      have hci : c.ig = 0 := by rw [I.ig, hig]; rfl
      simp only [hxv, hci] at N'
      k_extra "my:go"
      refine stop_out (wpAny_execs_cons ?_)
      k_extra "my:go"
      rename (Fr _ _ _ _) => F'
      rename (News _ _ _ _) => N'
      refine in_set_mem N' (show (sx, so) ∈ _ by k_extra "my:mem") hso (by decide) ?_
      rw [show decide (y = Str.ofString "x") = false from decide_eq_false hyx]
      k_extra "my:go"
    all_goals (
      refine stop_out (wpAny_execs_cons ?_)
      dsimp only
      rename (Fr _ _ _ _) => F'
      rename (News _ _ _ _) => N'
      refine cutR F' (fun c1 => WL w.params a c1 ++ (tabS tb ++ rest)) (fun _ => [("self", .ref a.x), ("tag", .str y t), ("attrs", .ref ae)]) (fun c1 => WInv w a ex (aFlush A) c1 tb R) ?_ ?_
      · k_extra "my:go"
        rename (Fr _ _ _ _) => F'
        rename (News _ _ _ _) => N'
        refine wpAny_truthy_list (l := a.dl) (items := c.da.toArray) ⟨_, (N' _ (show (a.dl, listOf c.da.toArray c.cd) ∈ _ by k_extra "my:mem")).1, rfl, _, rfl⟩ (by have := strsAre_length I.da; have := ok.da; simp; omega) ?_
        by_cases hda : A.da = []
        · have hcd : c.da = [] := by have := strsAre_length I.da; rw [hda] at this; simpa using this
          have hb : (!c.da.toArray.isEmpty) = false := by rw [hcd]; rfl
          rw [hb]
          k_extra "my:go"
          refine ⟨c, _, _, _, _, rfl, by k_asm, by k_asm, ?_, by (((try dsimp only); k_extra "my:inl")), by k_extra "my:names", ?_⟩
          · simp only [WL, wents, ent, List.cons_append, List.nil_append, hxv]
            try simp only [hci]
            (((try dsimp only); k_extra "my:inl"))
          · have e : aFlush A = A := if_pos hda
            rw [e]; exact I
        · have hcd : c.da ≠ [] := fun h => hda (by have := strsAre_length I.da; rw [h] at this; exact List.length_eq_zero_iff.mp this.symm)
          have hb : (!c.da.toArray.isEmpty) = true := by simpa using hcd
          rw [hb]
          k_extra "my:go"
          rename (Fr _ _ _ _) => F'
          rename (News _ _ _ _) => N'
          have Nw : News g L' _ (WL w.params a c ++ (tabS tb ++ rest)) := News.sub N' (by simp only [WL, wents, ent, List.cons_append, List.nil_append, hxv]; (try simp only [hci]); (((try dsimp only); k_extra "my:inl")))
          refine (con_flush w a c (tabS tb ++ rest) A.da I.da ho hout (by have := strsAre_length I.da; have := ok.da; omega) ok.dl hcd (by rw [I.rs]; exact ok.rs hda) (by have := strsAre_length I.wr; have := ok.wr; omega)).use (by k_extra "my:us1") (by k_extra "my:us1") (by k_asm) F' (by k_asm) Nw (by k_asm) rfl ?_
          clear F' N' Nw
          walk_at "g4"
          intros v n h9 tk9
          rintro ⟨hv, hp⟩
          subst hv
          refine ex_in hp ?_
          walk_at "g1"
          intro t1 hn F' N'
          subst hn
          k_sweep
          k_extra "my:go"
          refine ⟨{ c with wr := c.wr ++ [.str (escT (Txt.join (Str.ofString "") A.da)) t1], cw := c.cw + 1, da := [], cd := c.cd + 1 }, _, _, _, _, rfl, by k_asm, by k_asm, by (((try dsimp only); k_extra "my:inl")), by (((try dsimp only); k_extra "my:inl")), by k_extra "my:names", ?_⟩
          have e : aFlush A = { A with wr := A.wr ++ [escT (Txt.join (Str.ofString "") A.da)], da := [] } := if_neg hda
          rw [e]
          exact ⟨I.tab, I.off, I.out, strsAre_snoc I.wr, .nil, I.es, I.esl, I.pv, I.nv, I.ig, I.rs, I.xs⟩
      · walk_at "g4"
        intros c1 u h tk
        intro I1 F' N'
        dsimp only
        simp only [kstB] at F'
        simp only [WL, wents, ent, List.cons_append, List.nil_append] at N'
        have hesl : (Value.ref a.l0 :: c1.es).length ≤ 401 := by have h1 := I1.esl; have h2 := (aFlush_dep A).1; have h3 := ok.dep; simp only [List.length_cons]; omega
        k_extra "my:go"
        refine stop_out ?_
        rename (Fr _ _ _ _) => F'
        rename (News _ _ _ _) => N'
        k_dflt refine newList_K F' N' ?_
        walk_at "g2"
        intros E2 h'
        clear F' N'
        intro F' N' l1
        k_lt l1
        k_sweep
        k_extra "my:go"
        refine stop_out (wpAny_execs_cons ?_)
        dsimp only
        k_extra "my:go"
        rename (Fr _ _ _ _) => F'
        rename (News _ _ _ _) => N'
        simp only [List.push_toArray] at N'
        have hE2a : @LT.lt Nat _ a.ps E2 := lt_in l1 (show (a.ps, listOf c1.pv.toArray c1.cp) ∈ _ by k_extra "my:mem")
        have hE2r : ∀ p ∈ rest, @LT.lt Nat _ p.1 E2 := fun p hp => l1 p (by (repeat with_reducible refine List.mem_cons_of_mem _ ?_); exact List.mem_append_right _ hp)
        have hf := aFlush_dep A
        have hpv := I1.pv
        rw [hf.1, List.replicate_succ'] at hpv
        have hr2 : WOut a (tabS tb ++ (E2, listOf #[] 0) :: rest) := by
          intro p hp
          rcases List.mem_append.mp hp with hp | hp
          · exact hout p (List.mem_append_left _ hp)
          · rcases List.mem_cons.mp hp with rfl | hp
            · exact .inr (.inl hE2a)
            · exact hout p (List.mem_append_right _ hp)
        have h168 : ∀ p ∈ (E2, listOf #[] 0) :: rest, p.1 ≠ 168 := by
          intro p hp
          rcases List.mem_cons.mp hp with rfl | hp
          · show @Ne Nat _ _; omega
          · exact hoff p hp
        have hes2 : ∀ e ∈ c1.es ++ [.ref E2], ∃ a c, e = .ref a ∧ (a, listOf #[] c) ∈ (E2, listOf #[] 0) :: rest := by
          intro e he
          rcases List.mem_append.mp he with he | he
          · obtain ⟨a1, b1, h1, h2⟩ := I1.es e he
            exact ⟨a1, b1, h1, .tail _ (hs _ h2)⟩
          · rw [List.mem_singleton.mp he]
            exact ⟨E2, 0, rfl, .head _⟩
        have Nw : News g L' _ (WL w.params a { c1 with es := c1.es ++ [.ref E2], ce := c1.ce + 1 } ++ (tabS tb ++ (E2, listOf #[] 0) :: rest)) := News.sub N' (by simp only [WL, wents, ent, List.cons_append, List.nil_append]; (((try dsimp only); k_extra "my:inl")))
        refine (con_st w a { c1 with es := c1.es ++ [.ref E2], ce := c1.ce + 1 } tb I1.tab ((E2, listOf #[] 0) :: rest) y t ae E2 oe hoe has 0 hy hy2 ho hr2 h168 hwa (.tail _ hm1) (.head _) hes2
          (by have h1 := I1.esl; have h3 := ok.dep; simp only [List.length_append, List.length_singleton]; omega) (List.replicate A.dep (.bool false)) hpv (by have h3 := ok.dep; simp; omega) (by have h1 := I1.nv; have h3 := ok.dep; show c1.nv.length ≤ 500; omega)
          (by have h1 := strsAre_length I1.wr; have h2 := aFlush_wr A; have h3 := ok.wr; show c1.wr.length ≤ 1000; omega)).use (by k_extra "my:us1") (by k_extra "my:us1") (by k_asm) F' (by k_asm) Nw (by k_asm) rfl ?_
        clear F' N' Nw
        walk_at "g4"
        intros v n h9 tk9
        rintro ⟨hv, hp⟩
        subst hv
        refine ex_in5 hp ?_
        walk_at "g5"
        intros t1 t2 E3 c' oc
        rintro ⟨hok, hWo, hlt, ⟨hf3, hc3⟩, hn⟩ F' N'
        subst hn
        k_extra "my:go"
        refine ⟨_, _, _, _, _, _, rfl, by k_asm, by k_asm, fun _ h => h, rfl, startS { c1 with es := c1.es ++ [.ref E2], ce := c1.ce + 1 } y t1 t2 E3, some (c', oc), [(E3, listOf #[] 0), (E2, listOf #[] 0)], ?_, ?_, hc3.imp (fun e => e.symm) (fun e => ⟨c', oc, rfl, fun p hp => e p (.tail _ hp)⟩), rfl⟩
        case' refine_2 =>
          intro q hq p hp
          rcases List.mem_cons.mp hq with rfl | hq
          · exact hf3 p (List.mem_append_right _ (.tail _ hp))
          · rw [List.mem_singleton.mp hq]
            exact hE2r p hp
        rw [eA]
        refine ⟨hok, ?_, ?_, strsAre_snoc (strsAre_snoc I1.wr), I1.da, ?_, ?_, ?_, ?_, I1.ig, rfl, I1.xs.mono fun p hp => .tail _ (.tail _ hp)⟩
        · intro p hp
          rcases List.mem_cons.mp hp with rfl | hp
          · show @Ne Nat _ _; omega
          · rcases List.mem_cons.mp hp with rfl | hp
            · exact h168 _ (.head _)
            · exact h168 p (.tail _ (hs _ hp))
        · intro p hp
          rcases List.mem_append.mp hp with hp | hp
          · exact hWo p (List.mem_append_left _ hp)
          · refine hWo p (List.mem_append_right _ ?_)
            rcases List.mem_cons.mp hp with rfl | hp
            · exact .head _
            · rcases List.mem_cons.mp hp with rfl | hp
              · exact .tail _ (.head _)
              · exact .tail _ (.tail _ (hs _ hp))
        · intro e he
          rcases List.mem_append.mp he with he | he
          · obtain ⟨a1, b1, h1, h2⟩ := I1.es e he
            exact ⟨a1, b1, h1, .tail _ (.tail _ h2)⟩
          · rw [List.mem_singleton.mp he]
            exact ⟨E2, 0, rfl, .tail _ (.head _)⟩
        · show (c1.es ++ [Value.ref E2]).length = A.dep + 1
          have h1 := I1.esl
          simp only [List.length_append, List.length_singleton]; omega
        · show c1.pv ++ [Value.bool false] = List.replicate (A.dep + 1 + 1) (.bool false)
          rw [hpv, List.replicate_succ' (n := A.dep + 1), List.replicate_succ']
        · show (c1.nv ++ [Value.ref E3]).length = A.dep + 1 + 2
          have h1 := I1.nv
          simp only [List.length_append, List.length_singleton]; omega)
end
theorem lay_33 : True := by
  k_with "off38" => skip
  exact True.intro
section
theorem lay_34 : True := by
  k_with "my:execs cons If cons" => ((fail_if_success k_extra "off39"); with_reducible refine stop_in ?_)
  k_with "my:callWith ref" => ((fail_if_success k_extra "off39"); ((try dsimp only); (with_reducible show wpAny _ _ (callWith _ (Value.ref (WA.q _)) _ _ _) _ _ _); k_dflt refine callWith_boundN (by k_asm) (by k_mem) ?_))
  k_with "my:And" => ((fail_if_success k_extra "off39"); ((with_reducible show Heap.get? _ (WA.q _) = _ ∧ _); k_dflt (refine ⟨(News.get (by k_asm) (by k_mem)), ?_⟩); (try dsimp only [List.nil_append, List.cons_append])))
  k_with "my:call ref" => ((fail_if_success k_extra "off39"); ((with_reducible show wpAny _ _ (call (Value.ref (WA.q _)) _) _ _ _); (with_reducible refine stop_in ?_)))
  k_with "my:call ref" => ((fail_if_success k_extra "off39"); ((with_reducible show wpAny _ _ (call (Value.ref 151) _) _ _ _); (with_reducible refine stop_in ?_)))
  k_with "my:call ref" => ((fail_if_success k_extra "off39"); ((with_reducible show wpAny _ _ (call (Value.ref 135) _) _ _ _); (with_reducible refine stop_in ?_)))
  k_with "my:ne" => ((fail_if_success k_extra "off39"); exact ne_AS)
  exact True.intro
theorem con_end (w : World) (a : WA) (ex : Bool) (A : AS) (c : WS) (tb : Option (Addr × Obj)) (R rest : List (Addr × Obj)) (I : WInv w a ex A c tb R) (hs : ∀ p ∈ R, p ∈ rest) (hout : WOut a (tabS tb ++ rest)) (hoff : ∀ p ∈ rest, p.1 ≠ 168) (ok : ASOk A) (ho : WOrd a) (y : Str) (t : Tok) (hy : y.length ≤ 4) (hy2 : (Txt.slice y none (some 1) == Str.ofString "{") = false) (hwa : @LT.lt Nat _ 168 a.wa) (hdep : A.ig = 0 → 1 ≤ A.dep) :
    Con PySem.Challenge.rw_tv0054_02.row.prog w (Mine.hd0.heap_1_41 w.params) 178 610 5100 [.ref a.x, .str y t] (WL w.params a c ++ (tabS tb ++ rest))
      (fun v n => v = .none ∧ ∃ c', WInv w a ex (aEnd A y) c' tb R ∧ n = WL w.params a c' ++ (tabS tb ++ rest)) := by
  revert w a ex A c tb R rest I hs hout hoff ok ho y t hy hy2 hwa hdep
  ((refine gen_all8 (ne := ?gN_153) (P := ?gP_153) ((?gf_153 : ∀ a0 a1 a2 a3 a4 a5 a6 a7, ?gP_153 a0 a1 a2 a3 a4 a5 a6 a7) (gen8 ?gN_153 ?gP_153).1 (gen8 ?gN_153 ?gP_153).2.1 (gen8 ?gN_153 ?gP_153).2.2.1 (gen8 ?gN_153 ?gP_153).2.2.2.1 (gen8 ?gN_153 ?gP_153).2.2.2.2.1 (gen8 ?gN_153 ?gP_153).2.2.2.2.2.1 (gen8 ?gN_153 ?gP_153).2.2.2.2.2.2.1 (gen8 ?gN_153 ?gP_153).2.2.2.2.2.2.2); (case gN_153 => k_extra "my:ne")))
  intros w a ex A c tb R rest
  intro I hs hout hoff ok ho
  walk_at "g2"
  intros y t
  intro hy hy2 hwa hdep
  w_top off
  k_fill
  refine' Con.of (binds := [("self", .ref a.x), ("tag", .str y t)]) ?k6 ?k7 ?k8 ?k9 ?kB ?kN ?c2 ?c3 ?c4 ?c5 ?_
  (( (case k6 => k_is); (case k7 => k_is); (case k8 => decide); (case k9 => (intro s9 X9; first | exact BindsTo.of_eq rfl | exact binds_K X9 rfl (by k_is) rfl rfl rfl | (refine kp_binds X9 ?_; exact fun _ => rfl))); (case kB => exact locs rfl); (case kN => (simp only [List.map_cons, List.map_nil]; decide)); (case c2 => exact rfl); (case c3 => exact rfl); (case c4 => exact rfl); (case c5 => decide); k_with "WPost" => dsimp only [WPost]; k_with "FPost" => dsimp only [FPost]))
  ((refine gen_all10 (ne := ?gN_155) (P := ?gP_155) ((?gf_155 : ∀ a0 a1 a2 a3 a4 a5 a6 a7 a8 a9, ?gP_155 a0 a1 a2 a3 a4 a5 a6 a7 a8 a9) (gen10 ?gN_155 ?gP_155).1 (gen10 ?gN_155 ?gP_155).2.1 (gen10 ?gN_155 ?gP_155).2.2.1 (gen10 ?gN_155 ?gP_155).2.2.2.1 (gen10 ?gN_155 ?gP_155).2.2.2.2.1 (gen10 ?gN_155 ?gP_155).2.2.2.2.2.1 (gen10 ?gN_155 ?gP_155).2.2.2.2.2.2.1 (gen10 ?gN_155 ?gP_155).2.2.2.2.2.2.2.1 (gen10 ?gN_155 ?gP_155).2.2.2.2.2.2.2.2.1 (gen10 ?gN_155 ?gP_155).2.2.2.2.2.2.2.2.2); (case gN_155 => k_extra "my:ne")))
  intros p loose mean mg mb gd cn cs ad ccd
  ((refine gen_all10 (ne := ?gN_156) (P := ?gP_156) ((?gf_156 : ∀ a0 a1 a2 a3 a4 a5 a6 a7 a8 a9, ?gP_156 a0 a1 a2 a3 a4 a5 a6 a7 a8 a9) (gen10 ?gN_156 ?gP_156).1 (gen10 ?gN_156 ?gP_156).2.1 (gen10 ?gN_156 ?gP_156).2.2.1 (gen10 ?gN_156 ?gP_156).2.2.2.1 (gen10 ?gN_156 ?gP_156).2.2.2.2.1 (gen10 ?gN_156 ?gP_156).2.2.2.2.2.1 (gen10 ?gN_156 ?gP_156).2.2.2.2.2.2.1 (gen10 ?gN_156 ?gP_156).2.2.2.2.2.2.2.1 (gen10 ?gN_156 ?gP_156).2.2.2.2.2.2.2.2.1 (gen10 ?gN_156 ?gP_156).2.2.2.2.2.2.2.2.2); (case gN_156 => k_extra "my:ne")))
  intros cl outer base g h₁ L' L₀ s tk RR
  intro F' N' B' X' T'
  simp only [kstB] at F'
  simp only [WL, wents, ent, List.cons_append, List.nil_append] at N'
  have ho' := ho
  obtain ⟨o1, o2, o3, o4, o5, o6, o7, o8, o9, o10⟩ := ho'
  have hr := hout
  unfold WOut at hr
  have hIig := I.ig
  k_extra "my:go"
  refine stop_out (wpAny_execs_cons ?_)
  k_extra "my:go"
  all_goals try dsimp only
  · have hne : A.ig ≠ 0 := by omega
    have eA : aEnd A y = { A with ig := A.ig - 1 } := if_pos hne
    refine' ⟨_, _, _, _, _, _, rfl, by k_asm, by k_asm, ?mm, rfl, { c with ig := c.ig - 1, ti := _ }, ?iv, rfl⟩
    case mm => simp only [WL, wents, ent, List.cons_append, List.nil_append]; (((try dsimp only); k_extra "my:inl"))
    case iv =>
      rw [eA]
      exact ⟨I.tab, I.off, I.out, I.wr, I.da, I.es, I.esl, I.pv, I.nv, by show c.ig - 1 = ((A.ig - 1 : Nat) : Int); omega, I.rs, I.xs⟩
  · have he : A.ig = 0 := by omega
    have eA : aEnd A y = { aFlush A with wr := (aFlush A).wr ++ [Str.ofString "</" ++ y ++ Str.ofString ">"], dep := A.dep - 1 } := if_neg (by omega)
    have hd1 := hdep he
    refine stop_out (wpAny_execs_cons ?_)
    try dsimp only
    rename (Fr _ _ _ _) => F'
    rename (News _ _ _ _) => N'
    refine cutR F' (fun c1 => WL w.params a c1 ++ (tabS tb ++ rest)) (fun _ => [("self", .ref a.x), ("tag", .str y t)]) (fun c1 => WInv w a ex (aFlush A) c1 tb R) ?_ ?_
    · k_extra "my:go"
      rename (Fr _ _ _ _) => F'
      rename (News _ _ _ _) => N'
      refine wpAny_truthy_list (l := a.dl) (items := c.da.toArray) ⟨_, (N' _ (show (a.dl, listOf c.da.toArray c.cd) ∈ _ by k_extra "my:mem")).1, rfl, _, rfl⟩ (by have := strsAre_length I.da; have := ok.da; simp; omega) ?_
      by_cases hda : A.da = []
      · have hcd : c.da = [] := by have := strsAre_length I.da; rw [hda] at this; simpa using this
        have hb : (!c.da.toArray.isEmpty) = false := by rw [hcd]; rfl
        rw [hb]
        k_extra "my:go"
        refine ⟨c, _, _, _, _, rfl, by k_asm, by k_asm, ?_, by (((try dsimp only); k_extra "my:inl")), by k_extra "my:names", ?_⟩
        · simp only [WL, wents, ent, List.cons_append, List.nil_append]
          (((try dsimp only); k_extra "my:inl"))
        · have e : aFlush A = A := if_pos hda
          rw [e]; exact I
      · have hcd : c.da ≠ [] := fun h => hda (by have := strsAre_length I.da; rw [h] at this; exact List.length_eq_zero_iff.mp this.symm)
        have hb : (!c.da.toArray.isEmpty) = true := by simpa using hcd
        rw [hb]
        k_extra "my:go"
        rename (Fr _ _ _ _) => F'
        rename (News _ _ _ _) => N'
        have Nw : News g L' _ (WL w.params a c ++ (tabS tb ++ rest)) := News.sub N' (by simp only [WL, wents, ent, List.cons_append, List.nil_append]; (((try dsimp only); k_extra "my:inl")))
        refine (con_flush w a c (tabS tb ++ rest) A.da I.da ho hout (by have := strsAre_length I.da; have := ok.da; omega) ok.dl hcd (by rw [I.rs]; exact ok.rs hda) (by have := strsAre_length I.wr; have := ok.wr; omega)).use (by k_extra "my:us1") (by k_extra "my:us1") (by k_asm) F' (by k_asm) Nw (by k_asm) rfl ?_
        clear F' N' Nw
        walk_at "g4"
        intros v n h9 tk9
        rintro ⟨hv, hp⟩
        subst hv
        refine ex_in hp ?_
        walk_at "g1"
        intro t1 hn F' N'
        subst hn
        k_sweep
        k_extra "my:go"
        refine ⟨{ c with wr := c.wr ++ [.str (escT (Txt.join (Str.ofString "") A.da)) t1], cw := c.cw + 1, da := [], cd := c.cd + 1 }, _, _, _, _, rfl, by k_asm, by k_asm, by (((try dsimp only); k_extra "my:inl")), by (((try dsimp only); k_extra "my:inl")), by k_extra "my:names", ?_⟩
        have e : aFlush A = { A with wr := A.wr ++ [escT (Txt.join (Str.ofString "") A.da)], da := [] } := if_neg hda
        rw [e]
        exact ⟨I.tab, I.off, I.out, strsAre_snoc I.wr, .nil, I.es, I.esl, I.pv, I.nv, I.ig, I.rs, I.xs⟩
    · walk_at "g4"
      intros c1 u h tk
      intro I1 F' N'
      dsimp only
      simp only [kstB] at F'
      have hf := aFlush_dep A
      have hpv := I1.pv
      have hesl := I1.esl
      have hnvl := I1.nv
      rw [hf.1] at hpv hesl hnvl
      rw [List.replicate_succ'] at hpv
      have hx1 : ∃ es0 e0, c1.es = es0 ++ [e0] := by
        rcases List.eq_nil_or_concat c1.es with h | ⟨l, x, h⟩
        · rw [h] at hesl; simp at hesl; omega
        · exact ⟨l, x, by rw [h]; simp⟩
      refine ex_in2 hx1 ?_
      walk_at "g2"
      intros es0 e0
      intro hes0
      have hx2 : ∃ nv0 n0, c1.nv = nv0 ++ [n0] := by
        rcases List.eq_nil_or_concat c1.nv with h | ⟨l, x, h⟩
        · rw [h] at hnvl; simp at hnvl
        · exact ⟨l, x, by rw [h]; simp⟩
      refine ex_in2 hx2 ?_
      walk_at "g2"
      intros nv0 n0
      intro hnv0
      clear hx1 hx2
      simp only [WL, wents, ent, List.cons_append, List.nil_append] at N'
      k_extra "my:go"
      rename (Fr _ _ _ _) => F'
      rename (News _ _ _ _) => N'
      refine use_qn (c := c1) hy hy2 (fun e he => ?_) (by have h3 := ok.dep; omega) ?_ (by k_extra "my:us1") (by k_extra "my:us1") (by k_asm) F' (by k_asm) N' (by k_asm) rfl ?_
      · obtain ⟨a1, b1, h1, h2⟩ := I1.es e he
        replace h2 := hs _ h2
        exact ⟨a1, b1, h1, by k_extra "my:mem"⟩
      · simp only [WL, wents, ent, List.cons_append, List.nil_append]
        (((try dsimp only); k_extra "my:inl"))
      clear F' N'
      ((refine gen_all6 (ne := ?gN_164) (P := ?gP_164) ((?gf_164 : ∀ a0 a1 a2 a3 a4 a5, ?gP_164 a0 a1 a2 a3 a4 a5) (gen6 ?gN_164 ?gP_164).1 (gen6 ?gN_164 ?gP_164).2.1 (gen6 ?gN_164 ?gP_164).2.2.1 (gen6 ?gN_164 ?gP_164).2.2.2.1 (gen6 ?gN_164 ?gP_164).2.2.2.2.1 (gen6 ?gN_164 ?gP_164).2.2.2.2.2); (case gN_164 => k_extra "my:ne")))
      intros Rt t1 t2 t3 h' tk'
      intro F' N' lR
      k_extra "my:go"
      have hwrl : c1.wr.length ≤ 1000 := by have h1 := strsAre_length I1.wr; have h2 := aFlush_wr A; have h3 := ok.wr; omega
      rename (Fr _ _ _ _) => F'
      rename (News _ _ _ _) => N'
      refine bound_append (D := a.wa) (its := c1.wr.toArray) (n := c1.cw) F' N' (by k_mem) (by k_upd) (by simp; omega) ?_
      clear F' N'
      walk_at "g1"
      intro h' F' N'
      k_sweep
      simp only [List.push_toArray] at N'
      k_extra "my:go"
      rename (Fr _ _ _ _) => F'
      rename (News _ _ _ _) => N'
      refine kl_pop (its := c1.pv.toArray) (n := c1.cp) (p := List.replicate A.dep (.bool false)) (y := .bool false) F' N' (by show kl_last c1.pv = _; rw [hpv]; exact kpa_last _ _) (by k_upd) (by have h3 := ok.dep; show c1.pv.length ≤ _; rw [hpv, sizeLine_eq]; simp; omega) ?_
      clear F' N'
      walk_at "g1"
      intro h' F' N'
      k_sweep
      k_extra "my:go"
      rename (Fr _ _ _ _) => F'
      rename (News _ _ _ _) => N'
      refine len_list (l := a.ps) (items := (List.replicate A.dep (Value.bool false)).toArray) ⟨_, (N' _ (show (a.ps, listOf (List.replicate A.dep (Value.bool false)).toArray (c1.cp + 1)) ∈ _ by k_extra "my:mem")).1, rfl, _, rfl⟩ (by have h3 := ok.dep; simp; omega) ?_
      k_extra "my:go"
      rename (Fr _ _ _ _) => F'
      rename (News _ _ _ _) => N'
      refine kl_pop (its := (Value.ref a.l0 :: c1.es).toArray) (n := c1.ce) (p := Value.ref a.l0 :: es0) (y := e0) F' N' (by show kl_last (Value.ref a.l0 :: c1.es) = _; rw [hes0, ← List.cons_append]; exact kpa_last _ _) (by k_upd) (by have h3 := ok.dep; show (Value.ref a.l0 :: c1.es).length ≤ _; rw [sizeLine_eq]; simp only [List.length_cons]; omega) ?_
      clear F' N'
      walk_at "g1"
      intro h' F' N'
      k_sweep
      k_extra "my:go"
      rename (Fr _ _ _ _) => F'
      rename (News _ _ _ _) => N'
      refine kl_pop (its := c1.nv.toArray) (n := c1.cn) (p := nv0) (y := n0) F' N' (by show kl_last c1.nv = _; rw [hnv0]; exact kpa_last _ _) (by k_upd) (by have h3 := ok.dep; show c1.nv.length ≤ _; rw [sizeLine_eq]; omega) ?_
      clear F' N'
      walk_at "g1"
      intro h' F' N'
      k_sweep
      k_extra "my:go"
      refine' ⟨_, _, _, _, _, _, rfl, by k_asm, by k_asm, ?mm, rfl, { c1 with rd := _, wr := c1.wr ++ [.str _ _], cw := c1.cw + 1, es := es0, ce := c1.ce + 1, nv := nv0, cn := c1.cn + 1, pv := List.replicate A.dep (.bool false), cp := c1.cp + 1 }, ?iv, rfl⟩
      case mm => simp only [WL, wents, ent, List.cons_append, List.nil_append]; (((try dsimp only); k_extra "my:inl"))
      case iv =>
        rw [eA]
        have hd2 : A.dep - 1 + 1 = A.dep := by omega
        refine ⟨I1.tab, I1.off, I1.out, strsAre_snoc I1.wr, I1.da, ?_, ?_, ?_, ?_, I1.ig, I1.rs, I1.xs⟩
        · intro e he
          exact I1.es e (by rw [hes0]; exact List.mem_append_left _ he)
        · show es0.length = A.dep - 1
          rw [hes0, List.length_append, List.length_singleton] at hesl; omega
        · show List.replicate A.dep (Value.bool false) = List.replicate (A.dep - 1 + 1) (.bool false)
          rw [hd2]
        · show nv0.length = A.dep - 1 + 2
          rw [hnv0, List.length_append, List.length_singleton] at hnvl; omega
end
theorem lay_35 : True := by
  k_with "off39" => skip
  exact True.intro
section
/-- what the octets tell: an end, a branch, an operator -/
inductive Sy where
  | en
  | st (k : Nat)
  | op (i : Nat)
def Sy.code : Sy → Int
  | .en => 0
  | .st k => (k : Int) + 256
  | .op i => (i : Int) + 7
structure TS where
  wt : List Str
  A : AS
/-- an operator and a blank -/
def opw (i : Nat) : Str := ops.getD i (Str.ofString "") ++ Str.ofString " "
def tStep (ex : Bool) (tg : Nat → Str) (T : TS) : Sy → TS
  | .en => ⟨T.wt.dropLast, aEnd T.A (T.wt.getLastD (Str.ofString ""))⟩
  | .st k => ⟨T.wt ++ [tg k], aStart ex T.A (tg k)⟩
  | .op i => ⟨T.wt, aData T.A (opw i)⟩
def SyOk (T : TS) : Sy → Prop
  | .en => T.wt ≠ []
  | .st k => k < 12
  | .op i => i < 48 ∧ T.A.rs = true
def RunOk (ex : Bool) (tg : Nat → Str) : TS → List Sy → Prop
  | _, [] => True
  | T, s :: ss => SyOk T s ∧ RunOk ex tg (tStep ex tg T s) ss
/-- octets that read as symbols -/
inductive Codes : List Int → List Sy → Prop
  | nil : Codes [] []
  | cons {b0 : Int} {l r : List Int} {s : Sy} {ss : List Sy} (h : pvGo (b0 % 64) b0 l = some (s.code, r)) (t : Codes r ss) : Codes (b0 :: l) (s :: ss)
def GoodTag (y : Str) : Prop := y.length ≤ 4 ∧ (Txt.slice y none (some 1) == Str.ofString "{") = false ∧ PyData.strOk y = true
structure TOk (ex : Bool) (tg : Nat → Str) (T : TS) (ss : List Sy) : Prop where
  len : T.wt.length = T.A.dep + T.A.ig
  tag : ∀ y ∈ T.wt, GoodTag y
  wr : T.A.wr.length + 3 * ss.length ≤ 900
  da : T.A.da.length + ss.length ≤ 24
  dl : ∀ y ∈ T.A.da, 1 ≤ y.length ∧ y.length ≤ 4
  dep : T.A.dep + ss.length ≤ 400
  ig : T.A.ig + ss.length ≤ 400
  rs : T.A.da ≠ [] → T.A.rs = true
  wl : ∀ y ∈ T.A.wr, y.length ≤ 500
  run : RunOk ex tg T ss
theorem TOk.ok {ex : Bool} {tg : Nat → Str} {T : TS} {ss : List Sy} (h : TOk ex tg T ss) : ASOk T.A :=
  ⟨by have := h.wr; omega, by have := h.da; omega, h.dl, by have := h.dep; omega, h.rs, by have := h.ig; omega⟩
theorem ops_len : ops.length = 48 := rfl
theorem ops_bound : ∀ y ∈ ops, 1 ≤ y.length ∧ y.length ≤ 3 := by decide +kernel
theorem opw_bound {i : Nat} (hi : i < 48) : 1 ≤ (opw i).length ∧ (opw i).length ≤ 4 := by
  have hm : ops.getD i (Str.ofString "") ∈ ops := by
    rw [List.getD_eq_getElem?_getD, List.getElem?_eq_getElem (by rw [ops_len]; exact hi)]
    exact List.getElem_mem _
  have h := ops_bound _ hm
  have e1 : (Str.ofString " ").length = 1 := rfl
  unfold opw
  rw [Str.length_append]
  omega
theorem aFlush_wl {A : AS} (h : ∀ y ∈ A.wr, y.length ≤ 500) (hd : A.da.length ≤ 24) (hl : ∀ y ∈ A.da, 1 ≤ y.length ∧ y.length ≤ 4) : ∀ y ∈ (aFlush A).wr, y.length ≤ 500 := by
  unfold aFlush
  split
  · exact h
  · intro y hy
    rcases List.mem_append.mp hy with hy | hy
    · exact h y hy
    · rw [List.mem_singleton.mp hy]
      have h1 := escT_len (Txt.join (Str.ofString "") A.da)
      have h2 := sum_le_of A.da 4 fun y hy => (hl y hy).2
      rw [join_len] at h1
      omega
theorem TOk.step {ex : Bool} {tg : Nat → Str} {T : TS} {s : Sy} {ss : List Sy} (htg : ∀ k < 12, GoodTag (tg k)) (h : TOk ex tg T (s :: ss)) : TOk ex tg (tStep ex tg T s) ss := by
  obtain ⟨h1, h2, h3, h4, h5, h6, h7, h8, hwl, hs, hr⟩ := h
  have hfl := aFlush_wl hwl (by simp only [List.length_cons] at h4; omega) h5
  simp only [List.length_cons] at h3 h4 h6 h7
  have hf := aFlush_dep T.A
  have hw := aFlush_wr T.A
  cases s with
  | en =>
    have hne : T.wt ≠ [] := hs
    have hl : T.wt.dropLast.length = T.wt.length - 1 := List.length_dropLast
    have hp : 1 ≤ T.wt.length := List.length_pos_iff.mpr hne
    have ht : ∀ y ∈ T.wt.dropLast, GoodTag y := fun y hy => h2 y (List.dropLast_subset _ hy)
    by_cases hi : T.A.ig ≠ 0
    · have e : aEnd T.A (T.wt.getLastD (Str.ofString "")) = { T.A with ig := T.A.ig - 1 } := if_pos hi
      refine ⟨?_, ht, ?_, ?_, ?_, ?_, ?_, ?_, ?_, hr⟩ <;> (simp only [tStep, e]; first | assumption | omega)
    · have hn : ∀ y ∈ (aFlush T.A).wr ++ [Str.ofString "</" ++ T.wt.getLastD (Str.ofString "") ++ Str.ofString ">"], y.length ≤ 500 := by
        intro y hy
        rcases List.mem_append.mp hy with hy | hy
        · exact hfl y hy
        · rw [List.mem_singleton.mp hy]
          have hg : (T.wt.getLastD (Str.ofString "")).length ≤ 4 := by
            rw [List.getLastD_eq_getLast?, List.getLast?_eq_some_getLast hne]
            exact (h2 _ (List.getLast_mem hne)).1
          rw [Str.length_append, Str.length_append]
          have e1 : (Str.ofString "</").length = 2 := rfl
          have e2 : (Str.ofString ">").length = 1 := rfl
          omega
      have e : aEnd T.A (T.wt.getLastD (Str.ofString "")) = { aFlush T.A with wr := (aFlush T.A).wr ++ [Str.ofString "</" ++ T.wt.getLastD (Str.ofString "") ++ Str.ofString ">"], dep := T.A.dep - 1 } := if_neg hi
      refine ⟨?_, ht, ?_, ?_, ?_, ?_, ?_, ?_, ?_, hr⟩ <;> (simp only [tStep, e, hf.2.2.2, hf.2.1, List.length_append, List.length_singleton, List.length_nil]; first | omega | exact hn | (intro y hy; exact absurd hy (List.not_mem_nil)) | (intro h; exact absurd rfl h))
  | st k =>
    have ht : ∀ y ∈ T.wt ++ [tg k], GoodTag y := fun y hy => by
      rcases List.mem_append.mp hy with hy | hy
      · exact h2 y hy
      · rw [List.mem_singleton.mp hy]; exact htg k hs
    have hl : (T.wt ++ [tg k]).length = T.wt.length + 1 := by simp
    by_cases hi : ex = true ∧ (T.A.ig ≠ 0 ∨ tg k = Str.ofString "x")
    · have e : aStart ex T.A (tg k) = { T.A with ig := T.A.ig + 1 } := if_pos hi
      refine ⟨?_, ht, ?_, ?_, ?_, ?_, ?_, ?_, ?_, hr⟩ <;> (simp only [tStep, e]; first | assumption | omega)
    · have hn : ∀ y ∈ (aFlush T.A).wr ++ [Str.ofString "<" ++ tg k] ++ [Str.ofString ">"], y.length ≤ 500 := by
        intro y hy
        rcases List.mem_append.mp hy with hy | hy
        · rcases List.mem_append.mp hy with hy | hy
          · exact hfl y hy
          · rw [List.mem_singleton.mp hy, Str.length_append]
            have e1 : (Str.ofString "<").length = 1 := rfl
            have e2 := (htg k hs).1
            omega
        · rw [List.mem_singleton.mp hy]; decide
      have e : aStart ex T.A (tg k) = { aFlush T.A with wr := (aFlush T.A).wr ++ [Str.ofString "<" ++ tg k] ++ [Str.ofString ">"], dep := T.A.dep + 1, rs := true } := if_neg hi
      refine ⟨?_, ht, ?_, ?_, ?_, ?_, ?_, ?_, ?_, hr⟩ <;> (simp only [tStep, e, hf.2.2.2, hf.2.1, List.length_append, List.length_singleton, List.length_nil]; first | omega | exact hn | (intro y hy; exact absurd hy (List.not_mem_nil)) | (intro h; exact absurd rfl h))
  | op i =>
    obtain ⟨hi, hrs⟩ := hs
    by_cases hg : T.A.ig = 0
    · have e : aData T.A (opw i) = { T.A with da := T.A.da ++ [opw i] } := if_pos hg
      refine ⟨?_, h2, ?_, ?_, ?_, ?_, ?_, ?_, ?_, hr⟩ <;> (simp only [tStep, e, List.length_append, List.length_singleton]; first | omega | exact hwl | (intro _; exact hrs) | (intro y hy; rcases List.mem_append.mp hy with hy | hy; exact h5 y hy; rw [List.mem_singleton.mp hy]; exact opw_bound hi))
    · have e : aData T.A (opw i) = T.A := if_neg hg
      refine ⟨?_, h2, ?_, ?_, ?_, ?_, ?_, ?_, ?_, hr⟩ <;> (simp only [tStep, e]; first | assumption | omega)
theorem WL_between {P : Params} {a : WA} {c : WS} (ho : WOrd a) : ∀ p ∈ WL P a c, @LE.le Nat _ a.wa p.1 ∧ @LE.le Nat _ p.1 a.ps := by
  obtain ⟨o1, o2, o3, o4, o5, o6, o7, o8, o9, o10⟩ := ho
  unfold WL
  simp only [List.forall_mem_cons]
  refine ⟨?_, ?_, ?_, ?_, ?_, ?_, ?_, ?_, ?_, ?_, fun p hp => nomatch hp⟩ <;> (constructor <;> omega)
theorem codes_nil {l : List Int} (h : Codes l []) : l = [] := by cases h; rfl
theorem codes_cons {l : List Int} {s : Sy} {ss : List Sy} (h : Codes l (s :: ss)) : ∃ b0 l' r, l = b0 :: l' ∧ pvGo (b0 % 64) b0 l' = some (s.code, r) ∧ Codes r ss := by
  cases h with
  | cons h t => exact ⟨_, _, _, rfl, h, t⟩
theorem SyOk.small {T : TS} {s : Sy} (h : SyOk T s) : s.code < 1000000 := by
  cases s with
  | en => decide
  | st k =>
    have : k < 12 := h
    show (k : Int) + 256 < _
    omega
  | op i =>
    have : i < 48 := h.1
    show (i : Int) + 7 < _
    omega
theorem strsAre_last {vs : List Value} {ys : List Str} (h : StrsAre vs ys) (hn : ys ≠ []) : ∃ p t, vs = p ++ [.str (ys.getLastD (Str.ofString "")) t] ∧ StrsAre p ys.dropLast := by
  induction h with
  | nil => exact absurd rfl hn
  | @cons y t vs ys h ih =>
    cases ys with
    | nil =>
      cases h
      exact ⟨[], t, rfl, .nil⟩
    | cons z zs =>
      obtain ⟨p, t', h1, h2⟩ := ih (by simp)
      refine ⟨.str y t :: p, t', by rw [h1]; rfl, .cons _ _ h2⟩
theorem WInv.data {w : World} {a : WA} {ex : Bool} {A : AS} {c : WS} {tb : Option (Addr × Obj)} {R : List (Addr × Obj)} (I : WInv w a ex A c tb R) (y : Str) (t : Tok) : WInv w a ex (aData A y) (dataS c (.str y t)) tb R := by
  unfold aData dataS
  by_cases h : A.ig = 0
  · have h1 : c.ig = 0 := by rw [I.ig, h]; rfl
    rw [if_pos h, if_pos h1]
    exact ⟨I.tab, I.off, I.out, I.wr, strsAre_snoc I.da, I.es, I.esl, I.pv, I.nv, I.ig, I.rs, I.xs⟩
  · have h1 : ¬ c.ig = 0 := by rw [I.ig]; omega
    rw [if_neg h, if_neg h1]
    exact I
end
section
theorem lay_36 : True := by
  k_with "my:getMethod ref" => ((fail_if_success k_extra "off41"); ((with_reducible show wpAny _ _ (getMethod (Value.ref 89) _ _) _ _ _); k_dflt refine gm_items (by k_asm) (by k_asm) ?_))
  k_with "my:call builtin:dict.items" => ((fail_if_success k_extra "off41"); ((with_reducible show wpAny _ _ (call _ [Value.ref 89]) _ _ _); k_dflt refine call_ns_items (by k_asm) (by k_asm) (by k_asm) ?_; walk_at "g3"; intros _ _ _; intro _ _ _ _ _))
  k_with "my:call type:list" => ((fail_if_success k_extra "off41"); ((with_reducible show wpAny _ _ (call _ [Value.ref _]) _ _ _); k_dflt refine list_ns_items rfl (by assumption) (by assumption) (by k_asm) (by k_asm) (by k_asm) ?_; walk_at "g3"; intros _ _ _; intro _ _ _))
  k_with "my:getAttr ref" => ((fail_if_success k_extra "off41"); ((with_reducible show wpAny _ _ (getAttr (Value.ref _) (Str.ofString "append") _) _ _ _); k_dflt refine get_append (by k_asm) (by k_asm) (by k_mem) ?_; walk_at "g2"; intros _ _; intro _ _ _))
  k_with "my:subscriptTail" => ((fail_if_success k_extra "off41"); ((with_reducible show wpAny _ _ (subscriptTail _ _ (Value.ref 46) _) _ _ _); (with_reducible refine stop_in ?_)))
  k_with "my:execs cons Assign cons" => ((fail_if_success k_extra "off41"); ((with_reducible show wpAny _ _ (execs (Stmt.Assign _ (PySem.Expr.IfExp (PySem.Expr.Name (Str.ofString "exclude_tags") _) _ _ _) _ :: _) _) _ _ _); (with_reducible refine stop_in ?_)))
  k_with "my:execs cons Assign cons" => ((fail_if_success k_extra "off41"); ((with_reducible show wpAny _ _ (execs (Stmt.Assign [PySem.Expr.Attribute _ (Str.ofString "_write") _] (PySem.Expr.Name (Str.ofString "write") _) _ :: _) _) _ _ _); (with_reducible refine stop_in ?_)))
  k_with "my:Exists" => ((fail_if_success k_extra "off41"); with_reducible refine stop_in ?_)
  exact True.intro
theorem fr_names {h₀ h : Heap} {L : Addr} {m : Str → Option Value} (F : Fr h₀ L h m) (ps : List (Str × Value)) (hk : ∀ p ∈ ps, m p.1 = some p.2) : ∃ u, Fr h₀ L h (kstB u ps) := ⟨m, by rw [kstB_self hk]; exact F⟩
/-- what a writer leaves out, as the list handed in -/
def LeftOk (ex : Bool) (lv : Value) (rest : List (Addr × Obj)) : Prop :=
  match ex with
  | false => lv = .none
  | true => ∃ la tx kx, lv = .ref la ∧ (la, listOf #[.str "x" tx] kx) ∈ rest
def XV (w : World) (xv : Value) (R : List (Addr × Obj)) (ex : Bool) : Prop :=
  match ex with
  | false => xv = .none
  | true => ∃ sx so, xv = .ref sx ∧ (sx, so) ∈ R ∧ so.SetObjOf (PySem.strKind PySem.Challenge.rw_tv0054_02.row.prog w) (fun k => decide (k = Str.ofString "x")) 1
open PyProof.Rows.LCg (ns_obj)
theorem tok_gen {M : Model} {A : Around} {Q E : Value → Shared → Prop} {s : Shared} {f x ae : Value} {h₀ h : Heap} {L l : Addr} {vs : List Value} {y : Str} {n : Nat} {t0 : Tok} {news : List (Addr × Obj)} (_ : News h₀ L h news) (hm : (l, listOf (vs ++ [Value.str y t0]).toArray n) ∈ news)
    (H : ∀ t, (l, listOf (vs ++ [Value.str y t]).toArray n) ∈ news → wpAny M A (call f [x, Value.str y t, ae]) Q E s) : wpAny M A (call f [x, Value.str y t0, ae]) Q E s := H t0 hm
/-- the writer, made, its ways not yet set -/
def WL0 (P : Params) (a : WA) (c : WS) : List (Addr × Obj) :=
  [(a.x, instObj 195 a.dx), (a.dx, dictOf ((wents P a.T a.q a.dl a.ds a.ns a.pm a.ps a.xv c.rs c.rd c.ig c.ti).take 17) 17), (a.q, boundObj "list.append" (.ref a.wa)), (a.wa, listOf c.wr.toArray c.cw), (a.dl, listOf c.da.toArray c.cd),
   (a.ds, listOf (Value.ref a.l0 :: c.es).toArray c.ce), (a.l0, listOf #[.ref a.tp] a.c0), (a.tp, { cls := .type "tuple", data := .seq #[.str "http://www.w3.org/XML/1998/namespace" a.u1, .str "xml" a.u2] }), (a.ns, listOf c.nv.toArray c.cn), (a.ps, listOf c.pv.toArray c.cp)]
def tk18 (a b c d e f g h i j k l m n o p q : Tok) : Nat → Tok
  | 0 => a
  | 1 => b
  | 2 => c
  | 3 => d
  | 4 => e
  | 5 => f
  | 6 => g
  | 7 => h
  | 8 => i
  | 9 => j
  | 10 => k
  | 11 => l
  | 12 => m
  | 13 => n
  | 14 => o
  | 15 => p
  | _ => q
/-- a writer as it is made -/
theorem XV.left {w : World} {xv : Value} {xs R0 : List (Addr × Obj)} {ex : Bool} (h : XV w xv xs ex) : XV w xv (xs ++ R0) ex := by
  cases ex with
  | false => exact h
  | true =>
    obtain ⟨sx, so, h1, h2, h3⟩ := h
    exact ⟨sx, so, h1, List.mem_append_left _ h2, h3⟩
structure Made (w : World) (ex : Bool) (NN rest xs R : List (Addr × Obj)) (a : WA) (c : WS) : Prop where
  R : R = xs ++ rest
  xl : ∀ p ∈ xs, @LT.lt Nat _ a.dl p.1 ∧ @LT.lt Nat _ p.1 a.tp
  xv : XV w a.xv xs ex
  lo : ∀ p ∈ NN, @LT.lt Nat _ p.1 a.wa
  ord : WOrd a
  rs : c.rs = false
  ig : c.ig = 0
  wr : c.wr = []
  da : c.da = []
  es : c.es = []
  nv : c.nv.length = 2
  pv : c.pv = [.bool false]
def tk6 (a b c d e f : Tok) : Nat → Tok
  | 0 => a
  | 1 => b
  | 2 => c
  | 3 => d
  | 4 => e
  | _ => f
theorem lay_37 : True := by
  k_with "my:execs cons Assign cons" => ((fail_if_success k_extra "off41"); ((with_reducible show wpAny _ _ (execs (Stmt.Assign [PySem.Expr.Name (Str.ofString "writer") _] _ _ :: _) _) _ _ _); (with_reducible refine stop_in ?_)))
  exact True.intro
def TS0 : TS := ⟨[], ⟨[], [], 0, 0, false⟩⟩
def toldOf (ex : Bool) (tg : Nat → Str) (ss : List Sy) : List Str := (ss.foldl (tStep ex tg) TS0).A.wr
structure LS where
  T : TS
  ss : List Sy
  c : WS
  tb : Option (Addr × Obj)
  R : List (Addr × Obj)
  io : Obj
  i : Nat
  wv : List Value
  wc : Nat
theorem prLS {P : LS → Prop} (h : ∀ T ss c tb R io i wv wc, P ⟨T, ss, c, tb, R, io, i, wv, wc⟩) : ∀ z, P z := fun ⟨T, ss, c, tb, R, io, i, wv, wc⟩ => h T ss c tb R io i wv wc
theorem ne_TS : Nonempty TS := ⟨TS0⟩
theorem ne_Sy : Nonempty Sy := ⟨.en⟩
theorem ne_PD : Nonempty PyData := ⟨.int 0⟩
theorem list_two {α : Type} (l : List α) : l = [] ∨ ∃ a r, l = a :: r := by cases l with | nil => exact .inl rfl | cons a r => exact .inr ⟨a, r, rfl⟩
theorem sy_three (s : Sy) : s = .en ∨ (∃ k, s = .st k) ∨ ∃ i, s = .op i := by cases s with | en => exact .inl rfl | st k => exact .inr (.inl ⟨k, rfl⟩) | op i => exact .inr (.inr ⟨i, rfl⟩)
structure LInv (w : World) (a : WA) (ex : Bool) (tg : Nat → Str) (ons : List Int) (oa wl it : Addr) (R0 : List (Addr × Obj)) (W : List Str) (c : LS) : Prop where
  itr : IterO c.io oa c.i
  co : Codes (ons.drop c.i) c.ss
  wi : WInv w a ex c.T.A c.c c.tb c.R
  st : StrsAre c.wv c.T.wt
  ok : TOk ex tg c.T c.ss
  fin : (c.ss.foldl (tStep ex tg) c.T).A.wr = W
  rl : ∀ p ∈ tabS c.tb ++ c.R, @LT.lt Nat _ p.1 wl ∨ @LT.lt Nat _ it p.1
  r0 : ∀ p ∈ R0, p ∈ c.R
theorem lay_38 : True := by
  k_with "my:call ref" => ((fail_if_success k_extra "off41"); ((with_reducible show wpAny _ _ (call (Value.ref 45) _) _ _ _); (with_reducible refine stop_in ?_)))
  k_with "my:ite" => ((fail_if_success k_extra "off41"); first | (refine ite_yes (by simp only [beq_iff_eq, decide_eq_true_eq]; omega) ?_) | (refine ite_no (by simp only [beq_iff_eq, decide_eq_true_eq]; omega) ?_))
  k_with "my:call ref" => ((fail_if_success k_extra "off41"); ((with_reducible show wpAny _ _ (call (Value.ref 178) _) _ _ _); (with_reducible refine stop_in ?_)))
  k_with "my:call ref" => ((fail_if_success k_extra "off41"); ((with_reducible show wpAny _ _ (call (Value.ref 165) _) _ _ _); (with_reducible refine stop_in ?_)))
  k_with "my:call ref" => ((fail_if_success k_extra "off41"); ((with_reducible show wpAny _ _ (call (Value.ref 142) _) _ _ _); (with_reducible refine stop_in ?_)))
  k_with "my:newList nil" => ((fail_if_success k_extra "off41"); ((with_reducible have mk9 : StopIf2 := by assumption); clear mk9; (with_reducible refine stop_in ?_)))
  k_with "my:compareOp NotEq ref ref" => ((fail_if_success k_extra "off41"); with_reducible refine stop_in ?_)
  k_with "my:compareOp In int ref" => ((fail_if_success k_extra "off41"); with_reducible refine stop_in ?_)
  k_with "my:subscriptTail" => ((fail_if_success k_extra "off41"); ((with_reducible show wpAny _ _ (subscriptTail (PySem.Expr.Name (Str.ofString "words") _) _ _ _) _ _ _); (with_reducible refine stop_in ?_)))
  k_with "my:subscriptTail" => ((fail_if_success k_extra "off41"); ((with_reducible show wpAny _ _ (subscriptTail (PySem.Expr.Name (Str.ofString "tags") _) _ _ _) _ _ _); (with_reducible refine stop_in ?_)))
  k_with "my:subscriptTail" => ((fail_if_success k_extra "off41"); ((with_reducible show wpAny _ _ (subscriptTail (PySem.Expr.Name (Str.ofString "waiting") _) _ _ _) _ _ _); (with_reducible refine stop_in ?_)))
  k_with "my:call builtin:list.pop" => ((fail_if_success k_extra "off41"); (with_reducible refine stop_in ?_))
  k_with "my:go" => ((fail_if_success k_extra "off41"); ((repeat' (first | (k_unfold; (try dsimp only)) | ((with_reducible refine use_q (by with_reducible assumption) ?_); (try dsimp only)) | (k_extra "my:hook"; first | walk1 | (dsimp only; walk1) | (leave1; try dsimp only)))) <;> (try (with_reducible refine stop_out ?_))))
  exact True.intro
local macro_rules | `(tactic| k_enter) => `(tactic| first | k_extra "my:k_enter" | fail)
local macro_rules | `(tactic| walk_at "entE") => `(tactic| (intro FG' F' N' B' X' T'; (refine nm_qe (by passes_own) ?_); walk_at "g2"; intros qk ek; intro hE9 hq9 he9; (try dsimp only); (try k_lift B')))
theorem lay_39 : True := by
  k_with "my:k_enter" => ((fail_if_success k_extra "off41"); (refine code_def (by k_asm) (by k_asm) (by k_asm) (by k_asm) (by k_asm) rfl rfl rfl (by k_is) (by k_is) (by k_room) (by first | exact BindsTo.of_eq rfl | exact binds_K (by k_in) rfl (by k_is) rfl rfl rfl | (refine kp_binds (by k_in) (by exact fun _ => rfl))) (by exact locs rfl) ?_ (by exact rfl) (by exact rfl) (by exact rfl) (by decide); k_whole; walk_at "g3"; intros _ _ _; walk_at "entE"))
  k_with "my:subscriptTail Name UnaryOp ref int" => ((fail_if_success k_extra "off41"); (with_reducible refine stop_in ?_))
  k_with "my:rg1_1" => ((fail_if_success k_extra "off41"); (rename_i a1 b1; revert a1 b1; walk_at "g1"; intro _ _))
  k_with "my:subscriptTail Name BinOp str int" => ((fail_if_success k_extra "off41"); ((first | with_reducible walk_at "subscriptTail" | walk_at "subscriptTail"); k_extra "my:rg1_1"))
  k_with "my:call ref" => ((fail_if_success k_extra "off41"); (k_here; (with_reducible show wpAny _ _ (call (Value.ref 195) _ _) _ _ _); k_dflt (refine call_cls (by k_asm) (by k_asm) (by k_asm) (by k_is) (by k_is) (by k_is) ?_; k_whole; walk_at "g3"; intros _ _ _; walk_at "clsE"; k_enter)))
  k_with "my:ne" => ((fail_if_success k_extra "off41"); first | exact ne_TS | exact ne_Sy | exact ne_PD)
  k_with "my:binaryOp Add str str" => ((fail_if_success k_extra "off41"); ((refine SBL.add (hsz := by (rw [sizeLine_eq]; have e1 : (Str.ofString "s").length = 1 := rfl; have e2 : (Str.ofString " ").length = 1 := rfl; omega)) ?_); walk_at "g2"; intros _ _; intro _))
  exact True.intro
def tagN (k : Nat) : Str := Str.ofString "s" ++ Str.ofString (toString ((k : Int) + 256))
theorem con_told (w : World) (ex : Bool) (tg : Nat → Str) (oa : Addr) (ovs : List Value) (ons : List Int) (k : Nat) (hio : IntsAre ovs ons) (hoct : ∀ (j : Nat) (n : Int), ons[j]? = some n → 0 ≤ n ∧ n < 256) (htt : ∀ k : Nat, k < 12 → tagN k = tg k) (htg : ∀ k < 12, GoodTag (tg k)) (tb : Option (Addr × Obj)) (htb : TabOk tb) (R0 : List (Addr × Obj)) (h168 : ∀ p ∈ R0, p.1 ≠ 168) (ho168 : oa ≠ 168) (hex : ex = false) (ss : List Sy) (hco : Codes ons ss) (hok : TOk ex tg TS0 ss) :
    ConT PySem.Challenge.rw_tv0054_02.row.prog w (Mine.hd0.heap_1_41 w.params) 237 400 2000 [.ref oa] ((oa, listOf ovs.toArray k) :: (tabS tb ++ R0))
      (fun v n => (∃ t, v = .str (Txt.join (Str.ofString "") (toldOf ex tg ss)) t) ∧ ∃ tb', TabOk tb' ∧ n = (oa, listOf ovs.toArray k) :: (tabS tb' ++ R0)) := by
  revert w ex tg oa ovs ons k hio hoct htt htg tb htb R0 h168 ho168 hex ss hco hok
  ((refine gen_all7 (ne := ?gN_166) (P := ?gP_166) ((?gf_166 : ∀ a0 a1 a2 a3 a4 a5 a6, ?gP_166 a0 a1 a2 a3 a4 a5 a6) (gen7 ?gN_166 ?gP_166).1 (gen7 ?gN_166 ?gP_166).2.1 (gen7 ?gN_166 ?gP_166).2.2.1 (gen7 ?gN_166 ?gP_166).2.2.2.1 (gen7 ?gN_166 ?gP_166).2.2.2.2.1 (gen7 ?gN_166 ?gP_166).2.2.2.2.2.1 (gen7 ?gN_166 ?gP_166).2.2.2.2.2.2); (case gN_166 => k_extra "my:ne")))
  intros w ex tg oa ovs ons k
  intro hio hoct htt htg
  walk_at "g1"
  intro tb htb
  walk_at "g1"
  intro R0 h168 ho168 hex
  walk_at "g1"
  intro ss hco hok
  refine ex_in (⟨_, rfl⟩ : ∃ r, r = tabS tb ++ R0) ?_
  walk_at "g1"
  intro rest hrest
  rw [← hrest]
  w_top off
  k_fill
  refine' ConT.of (binds := [("octets", .ref oa)]) ?k6 ?k7 ?k8 ?k9 ?kB ?kN ?c2 ?c3 ?c4 ?c5 ?_
  (( (case k6 => k_is); (case k7 => k_is); (case k8 => decide); (case k9 => (intro s9 X9; first | exact BindsTo.of_eq rfl | exact binds_K X9 rfl (by k_is) rfl rfl rfl | (refine kp_binds X9 ?_; exact fun _ => rfl))); (case kB => exact locs rfl); (case kN => (simp only [List.map_cons, List.map_nil]; decide)); (case c2 => exact rfl); (case c3 => exact rfl); (case c4 => exact rfl); (case c5 => decide); k_with "WPost" => dsimp only [WPost]; k_with "FPost" => dsimp only [FPost]))
  ((refine gen_all10 (ne := ?gN_168) (P := ?gP_168) ((?gf_168 : ∀ a0 a1 a2 a3 a4 a5 a6 a7 a8 a9, ?gP_168 a0 a1 a2 a3 a4 a5 a6 a7 a8 a9) (gen10 ?gN_168 ?gP_168).1 (gen10 ?gN_168 ?gP_168).2.1 (gen10 ?gN_168 ?gP_168).2.2.1 (gen10 ?gN_168 ?gP_168).2.2.2.1 (gen10 ?gN_168 ?gP_168).2.2.2.2.1 (gen10 ?gN_168 ?gP_168).2.2.2.2.2.1 (gen10 ?gN_168 ?gP_168).2.2.2.2.2.2.1 (gen10 ?gN_168 ?gP_168).2.2.2.2.2.2.2.1 (gen10 ?gN_168 ?gP_168).2.2.2.2.2.2.2.2.1 (gen10 ?gN_168 ?gP_168).2.2.2.2.2.2.2.2.2); (case gN_168 => k_extra "my:ne")))
  intros p loose mean mg mb gd cn cs ad ccd
  ((refine gen_all10 (ne := ?gN_169) (P := ?gP_169) ((?gf_169 : ∀ a0 a1 a2 a3 a4 a5 a6 a7 a8 a9, ?gP_169 a0 a1 a2 a3 a4 a5 a6 a7 a8 a9) (gen10 ?gN_169 ?gP_169).1 (gen10 ?gN_169 ?gP_169).2.1 (gen10 ?gN_169 ?gP_169).2.2.1 (gen10 ?gN_169 ?gP_169).2.2.2.1 (gen10 ?gN_169 ?gP_169).2.2.2.2.1 (gen10 ?gN_169 ?gP_169).2.2.2.2.2.1 (gen10 ?gN_169 ?gP_169).2.2.2.2.2.2.1 (gen10 ?gN_169 ?gP_169).2.2.2.2.2.2.2.1 (gen10 ?gN_169 ?gP_169).2.2.2.2.2.2.2.2.1 (gen10 ?gN_169 ?gP_169).2.2.2.2.2.2.2.2.2); (case gN_169 => k_extra "my:ne")))
  intros cl h₀ g h₁ L' L₀ m s tk RR
  intro FG hab hnn X₀ T₀ F' N' B' X' T'
  simp only [kstB] at F'
  k_extra "my:go"
  refine stop_out ?_
  k_dflt refine Assign_DictComp_U (PySem.intKind _ w) F' rfl (by with_unfolding_all rfl) (by with_unfolding_all rfl) (by decide) rfl (by decide) rfl rfl rfl (Top.nolimit T') ?_
  k_extra "my:go"
  rename (News _ _ _ _) => N'
  refine DSrc.tok (fun i kvs nw => nw = (oa, listOf ovs.toArray k) :: rest ∧ WordsTo i kvs) rfl F' X' N' (fun i kvs nw h => h.2.len) ⟨rfl, by simp, fun j hj => absurd hj (Nat.not_lt_zero _)⟩ ?_ ?_
  · walk_at "g2"
    intros I hI
    unfold DTurn
    ((refine gen_all7 (ne := ?gN_170) (P := ?gP_170) ((?gf_170 : ∀ a0 a1 a2 a3 a4 a5 a6, ?gP_170 a0 a1 a2 a3 a4 a5 a6) (gen7 ?gN_170 ?gP_170).1 (gen7 ?gN_170 ?gP_170).2.1 (gen7 ?gN_170 ?gP_170).2.2.1 (gen7 ?gN_170 ?gP_170).2.2.2.1 (gen7 ?gN_170 ?gP_170).2.2.2.2.1 (gen7 ?gN_170 ?gP_170).2.2.2.2.2.1 (gen7 ?gN_170 ?gP_170).2.2.2.2.2.2); (case gN_170 => k_extra "my:ne")))
    intros i kvs nw v C oC D2
    ((refine gen_all6 (ne := ?gN_171) (P := ?gP_171) ((?gf_171 : ∀ a0 a1 a2 a3 a4 a5, ?gP_171 a0 a1 a2 a3 a4 a5) (gen6 ?gN_171 ?gP_171).1 (gen6 ?gN_171 ?gP_171).2.1 (gen6 ?gN_171 ?gP_171).2.2.1 (gen6 ?gN_171 ?gP_171).2.2.2.1 (gen6 ?gN_171 ?gP_171).2.2.2.2.1 (gen6 ?gN_171 ?gP_171).2.2.2.2.2); (case gN_171 => k_extra "my:ne")))
    intros oD oI m2 h9 tk9 E9
    intro hi hv hinv hC hx hdD F9 N9 off hne
    refine ex_in3 hv ?_
    clear hv
    walk_at "g3"
    intros k9 dv t9
    rintro ⟨htk, hv⟩
    rw [hv] at hx
    clear hv
    obtain ⟨hnw, hW⟩ := hinv
    rw [hnw] at N9 off
    clear F' N' hnw
    refine ex_in (tok_lookup _ (List.mem_of_getElem? htk)) ?_
    walk_at "g1"
    rintro n9 ⟨hdv, hlk⟩
    dsimp only at hdv hlk
    rw [hdv] at htk
    clear hdv
    k_extra "my:go"
    refine stop_out ?_
    refine item_strTab ((tok_tab X').keep F9.keep) hlk ?_
    walk_at "g1"
    intro v9 hv9
    refine ex_in (Flat.int_inv hv9) ?_
    walk_at "g1"
    intro t8 hv8
    subst hv8
    dsimp only
    k_extra "my:go"
    refine stop_out ?_
    exact ⟨n9, _, _, _, intKind_is _ _ _ _, rfl, F9, N9, off, rfl, hW.step htk⟩
  clear F' N'
  ((refine gen_all7 (ne := ?gN_172) (P := ?gP_172) ((?gf_172 : ∀ a0 a1 a2 a3 a4 a5 a6, ?gP_172 a0 a1 a2 a3 a4 a5 a6) (gen7 ?gN_172 ?gP_172).1 (gen7 ?gN_172 ?gP_172).2.1 (gen7 ?gN_172 ?gP_172).2.2.1 (gen7 ?gN_172 ?gP_172).2.2.2.1 (gen7 ?gN_172 ?gP_172).2.2.2.2.1 (gen7 ?gN_172 ?gP_172).2.2.2.2.2.1 (gen7 ?gN_172 ?gP_172).2.2.2.2.2.2); (case gN_172 => k_extra "my:ne")))
  intros H9 wd wo h' tk' kvs news'
  intro F' N' hD3 hoff hsys
  rintro ⟨hnw, hW⟩
  subst hnw
  replace hoff := off1_all hoff
  k_extra "my:go"
  refine stop_out ?_
  refine wpAny_execs_cons ?_
  (try dsimp only)
  refine toks_gen ?_
  walk_at "g1"
  intro tkA
  rename (Fr _ _ _ _) => F'
  rename (News _ _ _ _) => N'
  rename_i wa h7 lwa h8
  refine cutR F' (fun c : WA × WS × List (Addr × Obj) × List (Addr × Obj) => WL0 w.params c.1 c.2.1 ++ ((wd, wo) :: (oa, listOf ovs.toArray k) :: c.2.2.2)) (fun c => [("octets", .ref oa), ("words", .ref wd), ("written", .ref c.1.wa), ("writer", .ref c.1.x)])
    (fun c => Made w ex ((wd, wo) :: (oa, listOf ovs.toArray k) :: rest) rest c.2.2.1 c.2.2.2 c.1 c.2.1) ?_ ?_
  · k_extra "my:go"
    refine stop_out ?_
    rename (Fr _ _ _ _) => F'
    rename (News _ _ _ _) => N'
    rename_i q hq1 lq x dx hx1 F5 N5 ldx lxd g5 L5 h5 FG5 B5 X5 T5 qk ek hE9 hq9 he9
    clear he9
    refine ex_in (fr_names F' [("self", .ref x), ("write", .ref q), ("with_comments", .bool false), ("strip_text", .bool false), ("rewrite_prefixes", .bool false), ("qname_aware_tags", .none), ("qname_aware_attrs", .none), ("exclude_attrs", .none), ("exclude_tags", .none)] (by k_extra "my:names")) ?_
    walk_at "g1"
    intro u1 F2
    clear F'
    simp only [kstB] at F2
    refine wpAny_execs_cons ?_
    (try dsimp only)
    refine toks_gen ?_
    walk_at "g1"
    intro tkB
    k_extra "my:go"
    refine stop_out ?_
    refine wpAny_execs_cons ?_
    (try dsimp only)
    refine toks_gen ?_
    walk_at "g1"
    intro tk9
    rename (Fr _ _ _ _) => F'
    rename (News _ _ _ _) => N'
    rename_i dl hd1 ldl hd2 td1 hd3 td2 hd4 td3 hd5
    refine cutR F' (fun c : Value × List (Addr × Obj) × List (Addr × Obj) × (Nat → Tok) => (dl, listOf #[] 0) :: (x, instObj 195 dx) :: (dx, dictOf [ent w.params "_write" (c.2.2.2 0) (.ref q), ent w.params "_data" (c.2.2.2 1) (.ref dl), ent w.params "_with_comments" (c.2.2.2 2) (.bool false), ent w.params "_strip_text" (c.2.2.2 3) (.bool false), ent w.params "_exclude_attrs" (c.2.2.2 4) .none, ent w.params "_exclude_tags" (c.2.2.2 5) c.1] 6) :: (q, boundObj "list.append" (.ref wa)) :: (wa, listOf #[] 0) :: (wd, wo) :: (oa, listOf ovs.toArray k) :: c.2.2.1)
      (fun _ => [("self", .ref x), ("rewrite_prefixes", .bool false), ("qname_aware_tags", .none), ("qname_aware_attrs", .none)])
      (fun c => c.2.2.1 = c.2.1 ++ rest ∧ (∀ p ∈ c.2.1, @LT.lt Nat _ dl p.1) ∧ XV w c.1 c.2.1 ex) ?_ ?_
    · k_extra "my:go"
      dsimp only
      refine' ⟨(.none, [], rest, tk6 _ _ _ _ _ _), _, _, _, _, rfl, by k_asm, by k_asm, ?mm, by (((try dsimp only); k_extra "my:inl")), by k_extra "my:names", rfl, (by intro p hp; cases hp), by rw [hex]; exact rfl⟩
      case mm => simp only [ent, tk6]; (((try dsimp only); k_extra "my:inl"))
    · clear F' N'
      try dsimp only
      clear F5 N5 hio hoct htt htg htb h168 ho168 hco hok hrest hex FG hab hnn X₀ T₀ hD3 hsys hW hoff
      as_aux_lemma =>
      revert B' X' T' lwa lq ldx lxd FG5 B5 X5 T5 hE9 hq9 ldl
      revert w ex oa ovs k rest p loose mean mg mb gd cn cs ad ccd cl h₀ g L' L₀ m s tk RR wd wo wa h8 tkA q x dx g5 L5 h5 qk ek tkB dl
      ((refine gen_all10 (ne := ?gN_175) (P := ?gP_175) ((?gf_175 : ∀ a0 a1 a2 a3 a4 a5 a6 a7 a8 a9, ?gP_175 a0 a1 a2 a3 a4 a5 a6 a7 a8 a9) (gen10 ?gN_175 ?gP_175).1 (gen10 ?gN_175 ?gP_175).2.1 (gen10 ?gN_175 ?gP_175).2.2.1 (gen10 ?gN_175 ?gP_175).2.2.2.1 (gen10 ?gN_175 ?gP_175).2.2.2.2.1 (gen10 ?gN_175 ?gP_175).2.2.2.2.2.1 (gen10 ?gN_175 ?gP_175).2.2.2.2.2.2.1 (gen10 ?gN_175 ?gP_175).2.2.2.2.2.2.2.1 (gen10 ?gN_175 ?gP_175).2.2.2.2.2.2.2.2.1 (gen10 ?gN_175 ?gP_175).2.2.2.2.2.2.2.2.2); (case gN_175 => k_extra "my:ne")))
      intros w ex oa ovs k rest p loose mean mg
      ((refine gen_all10 (ne := ?gN_176) (P := ?gP_176) ((?gf_176 : ∀ a0 a1 a2 a3 a4 a5 a6 a7 a8 a9, ?gP_176 a0 a1 a2 a3 a4 a5 a6 a7 a8 a9) (gen10 ?gN_176 ?gP_176).1 (gen10 ?gN_176 ?gP_176).2.1 (gen10 ?gN_176 ?gP_176).2.2.1 (gen10 ?gN_176 ?gP_176).2.2.2.1 (gen10 ?gN_176 ?gP_176).2.2.2.2.1 (gen10 ?gN_176 ?gP_176).2.2.2.2.2.1 (gen10 ?gN_176 ?gP_176).2.2.2.2.2.2.1 (gen10 ?gN_176 ?gP_176).2.2.2.2.2.2.2.1 (gen10 ?gN_176 ?gP_176).2.2.2.2.2.2.2.2.1 (gen10 ?gN_176 ?gP_176).2.2.2.2.2.2.2.2.2); (case gN_176 => k_extra "my:ne")))
      intros mb gd cn cs ad ccd cl h₀ g L'
      ((refine gen_all10 (ne := ?gN_177) (P := ?gP_177) ((?gf_177 : ∀ a0 a1 a2 a3 a4 a5 a6 a7 a8 a9, ?gP_177 a0 a1 a2 a3 a4 a5 a6 a7 a8 a9) (gen10 ?gN_177 ?gP_177).1 (gen10 ?gN_177 ?gP_177).2.1 (gen10 ?gN_177 ?gP_177).2.2.1 (gen10 ?gN_177 ?gP_177).2.2.2.1 (gen10 ?gN_177 ?gP_177).2.2.2.2.1 (gen10 ?gN_177 ?gP_177).2.2.2.2.2.1 (gen10 ?gN_177 ?gP_177).2.2.2.2.2.2.1 (gen10 ?gN_177 ?gP_177).2.2.2.2.2.2.2.1 (gen10 ?gN_177 ?gP_177).2.2.2.2.2.2.2.2.1 (gen10 ?gN_177 ?gP_177).2.2.2.2.2.2.2.2.2); (case gN_177 => k_extra "my:ne")))
      intros L₀ m s tk RR wd wo wa h8 tkA
      ((refine gen_all10 (ne := ?gN_178) (P := ?gP_178) ((?gf_178 : ∀ a0 a1 a2 a3 a4 a5 a6 a7 a8 a9, ?gP_178 a0 a1 a2 a3 a4 a5 a6 a7 a8 a9) (gen10 ?gN_178 ?gP_178).1 (gen10 ?gN_178 ?gP_178).2.1 (gen10 ?gN_178 ?gP_178).2.2.1 (gen10 ?gN_178 ?gP_178).2.2.2.1 (gen10 ?gN_178 ?gP_178).2.2.2.2.1 (gen10 ?gN_178 ?gP_178).2.2.2.2.2.1 (gen10 ?gN_178 ?gP_178).2.2.2.2.2.2.1 (gen10 ?gN_178 ?gP_178).2.2.2.2.2.2.2.1 (gen10 ?gN_178 ?gP_178).2.2.2.2.2.2.2.2.1 (gen10 ?gN_178 ?gP_178).2.2.2.2.2.2.2.2.2); (case gN_178 => k_extra "my:ne")))
      intros q x dx g5 L5 h5 qk ek tkB dl
      intro B' X' T' lwa lq ldx lxd FG5 B5 X5 T5 hE9 hq9 ldl
      refine pr4 ?_
      ((refine gen_all7 (ne := ?gN_179) (P := ?gP_179) ((?gf_179 : ∀ a0 a1 a2 a3 a4 a5 a6, ?gP_179 a0 a1 a2 a3 a4 a5 a6) (gen7 ?gN_179 ?gP_179).1 (gen7 ?gN_179 ?gP_179).2.1 (gen7 ?gN_179 ?gP_179).2.2.1 (gen7 ?gN_179 ?gP_179).2.2.2.1 (gen7 ?gN_179 ?gP_179).2.2.2.2.1 (gen7 ?gN_179 ?gP_179).2.2.2.2.2.1 (gen7 ?gN_179 ?gP_179).2.2.2.2.2.2); (case gN_179 => k_extra "my:ne")))
      intros xv xs R2 T u h9 tk9
      rintro ⟨hR2, hxs, hxv⟩ F' N'
      dsimp only at hR2 hxs hxv N'
      simp only [kstB] at F'
      simp only [ent] at N'
      have hr3 : ∀ p ∈ R2, @LT.lt Nat _ p.1 wa ∨ @LT.lt Nat _ dl p.1 := by
        intro p hp
        rw [hR2] at hp
        rcases List.mem_append.mp hp with hp | hp
        · exact .inr (hxs p hp)
        · exact .inl (lwa p (.tail _ (.tail _ hp)))
      (try dsimp only)
      have ha2 : @LT.lt Nat _ wa dx := lt_in ldx (show (wa, listOf #[] 0) ∈ _ by k_extra "my:mem")
      have ha3 : @LT.lt Nat _ dx dl := lt_in ldl (show (dx, dictOf _ _) ∈ _ by k_extra "my:mem")
      have hdx2 : ∀ p ∈ R2, p.1 ≠ dx := ne_of_out hr3 (Nat.le_of_lt ha2) (Nat.le_of_lt ha3)
      k_extra "my:go"
      rename (Fr _ _ _ _) => F'
      rename (News _ _ _ _) => N'
      rename_i tp _ ltp l0 _ ll0 ds _ lds _ _ ns _ lns _ _ _ _ _ _ _ _ _ _ _ _ _ _ _ _ _ _ _ _ pm _ _ lpm _ _ _ _ _ _ _ ps _ lps _ _ _ _ _ _ _ _ _ _ _ _ _ _
      simp only [List.push_toArray] at N'
      have hxtp : ∀ p ∈ xs, @LT.lt Nat _ p.1 tp := by
        intro p hp
        have hm : p ∈ R2 := by rw [hR2]; exact List.mem_append_left _ hp
        exact ltp p (by repeat (first | exact hm | refine List.mem_cons_of_mem _ ?_))
      refine' ⟨(⟨x, dx, q, wa, dl, ds, l0, tp, ns, pm, ps, _, xv, _, _, tk18 _ _ _ _ _ _ _ _ _ _ _ _ _ _ _ _ _⟩, ⟨false, false, 0, _, [], _, [], _, [], _, _, _, [.bool false], _⟩, xs, R2), _, _, _, _, rfl, by k_asm, by k_asm, ?mm, by (((try dsimp only); k_extra "my:inl")), by k_extra "my:names", ?M⟩
      case mm =>
        simp only [WL0, wents, ent, List.cons_append, List.nil_append, List.take_succ_cons, List.take_zero]
        (((try dsimp only); k_extra "my:inl"))
      case M =>
        refine ⟨hR2, ?_, hxv, lwa, ?_, rfl, rfl, rfl, rfl, rfl, rfl, rfl⟩
        · exact fun p hp => ⟨hxs p hp, hxtp p hp⟩
        · exact ⟨lt_in lq (show (wa, _) ∈ _ by k_extra "my:mem"), lt_in ldx (show (q, _) ∈ _ by k_extra "my:mem"), lxd, lt_in ldl (show (x, _) ∈ _ by k_extra "my:mem"), lt_in ltp (show (dl, _) ∈ _ by k_extra "my:mem"), lt_in ll0 (show (tp, _) ∈ _ by k_extra "my:mem"), lt_in lds (show (l0, _) ∈ _ by k_extra "my:mem"), lt_in lns (show (ds, _) ∈ _ by k_extra "my:mem"), lt_in lpm (show (ns, _) ∈ _ by k_extra "my:mem"), lt_in lps (show (pm, _) ∈ _ by k_extra "my:mem")⟩
  · clear F' N'
    try dsimp only
    clear lwa hex
    as_aux_lemma =>
    revert hio hoct htt htg htb h168 ho168 hco hok hrest FG hab hnn X₀ T₀ B' X' T' hD3 hsys hW hoff
    revert w ex tg oa ovs ons k tb R0 ss rest p loose mean mg mb gd cn cs ad ccd cl h₀ g L' L₀ m s tk RR wd wo kvs
    ((refine gen_all10 (ne := ?gN_182) (P := ?gP_182) ((?gf_182 : ∀ a0 a1 a2 a3 a4 a5 a6 a7 a8 a9, ?gP_182 a0 a1 a2 a3 a4 a5 a6 a7 a8 a9) (gen10 ?gN_182 ?gP_182).1 (gen10 ?gN_182 ?gP_182).2.1 (gen10 ?gN_182 ?gP_182).2.2.1 (gen10 ?gN_182 ?gP_182).2.2.2.1 (gen10 ?gN_182 ?gP_182).2.2.2.2.1 (gen10 ?gN_182 ?gP_182).2.2.2.2.2.1 (gen10 ?gN_182 ?gP_182).2.2.2.2.2.2.1 (gen10 ?gN_182 ?gP_182).2.2.2.2.2.2.2.1 (gen10 ?gN_182 ?gP_182).2.2.2.2.2.2.2.2.1 (gen10 ?gN_182 ?gP_182).2.2.2.2.2.2.2.2.2); (case gN_182 => k_extra "my:ne")))
    intros w ex tg oa ovs ons k tb R0 ss
    ((refine gen_all10 (ne := ?gN_183) (P := ?gP_183) ((?gf_183 : ∀ a0 a1 a2 a3 a4 a5 a6 a7 a8 a9, ?gP_183 a0 a1 a2 a3 a4 a5 a6 a7 a8 a9) (gen10 ?gN_183 ?gP_183).1 (gen10 ?gN_183 ?gP_183).2.1 (gen10 ?gN_183 ?gP_183).2.2.1 (gen10 ?gN_183 ?gP_183).2.2.2.1 (gen10 ?gN_183 ?gP_183).2.2.2.2.1 (gen10 ?gN_183 ?gP_183).2.2.2.2.2.1 (gen10 ?gN_183 ?gP_183).2.2.2.2.2.2.1 (gen10 ?gN_183 ?gP_183).2.2.2.2.2.2.2.1 (gen10 ?gN_183 ?gP_183).2.2.2.2.2.2.2.2.1 (gen10 ?gN_183 ?gP_183).2.2.2.2.2.2.2.2.2); (case gN_183 => k_extra "my:ne")))
    intros rest p loose mean mg mb gd cn cs ad
    ((refine gen_all10 (ne := ?gN_184) (P := ?gP_184) ((?gf_184 : ∀ a0 a1 a2 a3 a4 a5 a6 a7 a8 a9, ?gP_184 a0 a1 a2 a3 a4 a5 a6 a7 a8 a9) (gen10 ?gN_184 ?gP_184).1 (gen10 ?gN_184 ?gP_184).2.1 (gen10 ?gN_184 ?gP_184).2.2.1 (gen10 ?gN_184 ?gP_184).2.2.2.1 (gen10 ?gN_184 ?gP_184).2.2.2.2.1 (gen10 ?gN_184 ?gP_184).2.2.2.2.2.1 (gen10 ?gN_184 ?gP_184).2.2.2.2.2.2.1 (gen10 ?gN_184 ?gP_184).2.2.2.2.2.2.2.1 (gen10 ?gN_184 ?gP_184).2.2.2.2.2.2.2.2.1 (gen10 ?gN_184 ?gP_184).2.2.2.2.2.2.2.2.2); (case gN_184 => k_extra "my:ne")))
    intros ccd cl h₀ g L' L₀ m s tk RR
    walk_at "g3"
    intros wd wo kvs
    intro hio hoct htt htg htb h168 ho168 hco hok hrest FG hab hnn X₀ T₀ B' X' T' hD3 hsys hW hoff
    refine pr4 ?_
    ((refine gen_all7 (ne := ?gN_185) (P := ?gP_185) ((?gf_185 : ∀ a0 a1 a2 a3 a4 a5 a6, ?gP_185 a0 a1 a2 a3 a4 a5 a6) (gen7 ?gN_185 ?gP_185).1 (gen7 ?gN_185 ?gP_185).2.1 (gen7 ?gN_185 ?gP_185).2.2.1 (gen7 ?gN_185 ?gP_185).2.2.2.1 (gen7 ?gN_185 ?gP_185).2.2.2.2.1 (gen7 ?gN_185 ?gP_185).2.2.2.2.2.1 (gen7 ?gN_185 ?gP_185).2.2.2.2.2.2); (case gN_185 => k_extra "my:ne")))
    intros a c xs R2 u hc tkc
    intro M F' N'
    try dsimp only at M N'
    simp only [kstB] at F'
    simp only [WL0, wents, ent, List.take_succ_cons, List.take_zero, List.cons_append, List.nil_append] at N'
    obtain ⟨hR2, hxs, hxv, hlo, ho, hrs, hig, hwr, hda, hes, hnv, hpv⟩ := M
    have hr3 : ∀ p ∈ R2, @LT.lt Nat _ p.1 a.wa ∨ @LT.lt Nat _ a.ps p.1 ∨ (@LT.lt Nat _ a.dl p.1 ∧ @LT.lt Nat _ p.1 a.tp) := by
      intro p hp
      rw [hR2] at hp
      rcases List.mem_append.mp hp with hp | hp
      · exact .inr (.inr (hxs p hp))
      · exact .inl (hlo p (.tail _ (.tail _ hp)))
    obtain ⟨o1, o2, o3, o4, o5, o6, o7, o8, o9, o10⟩ := id ho
    have hwda : @LT.lt Nat _ wd a.wa := hlo _ (.head _)
    have hoaa : @LT.lt Nat _ oa a.wa := hlo _ (.tail _ (.head _))
    have hrdx : ∀ p ∈ R2, p.1 ≠ a.dx := ne_of_out3 hr3 (by omega) (by omega) (by omega)
    try dsimp only
    k_extra "my:go"
    rename (Fr _ _ _ _) => F'
    rename (News _ _ _ _) => N'
    rename_i wl hw1 lwl hw2 tw1
    refine iter_list F' N' (by k_extra "my:mem") ?_
    clear F' N'
    walk_at "g3"
    intros it io h8
    intro hio1 F' N' l1
    k_sweep
    k_extra "my:go"
    refine stop_out ?_
    rename (Fr _ _ _ _) => F'
    rename (News _ _ _ _) => N'
    rename_i hz tz1 tz2
    have hRL : ∀ p ∈ R2, @LT.lt Nat _ p.1 wl := fun p hp => lwl p (by repeat (first | exact hp | refine List.mem_cons_of_mem _ ?_))
    have h168a : @LT.lt Nat _ 168 a.wa := by
      have hm : (168, (tabS tb).head!.2) ∈ rest := by
        rw [hrest]; cases tb with
        | none => exact .head _
        | some q => exact .head _
      exact hlo _ (.tail _ (.tail _ hm))
    have hb9 : ∃ b : WA, b.x = a.x ∧ b.wa = a.wa ∧ WOrd b ∧ (∀ p ∈ R2, @LT.lt Nat _ p.1 b.wa ∨ @LT.lt Nat _ b.ps p.1 ∨ (@LT.lt Nat _ b.dl p.1 ∧ @LT.lt Nat _ p.1 b.tp)) ∧ (@LT.lt Nat _ 168 b.wa) ∧ XV w b.xv xs ex ∧ (@LT.lt Nat _ wd b.wa) ∧ (@LT.lt Nat _ oa b.wa) ∧ (@LT.lt Nat _ b.ps wl) ∧
        News g L' hz (WL w.params b c ++ ((it, io) :: (oa, listOf ovs.toArray k) :: (wl, listOf #[] 0) :: (wd, wo) :: R2)) := by
      refine' ⟨{ a with T := fun i => if i = 17 then _ else a.T i }, rfl, rfl, ho, hr3, h168a, hxv, hlo _ (.head _), hlo _ (.tail _ (.head _)), lt_in lwl (show (a.ps, listOf _ _) ∈ _ by k_extra "my:mem"), News.sub N' ?mn⟩
      case mn =>
        simp only [WL, wents, ent, List.cons_append, List.nil_append, Nat.reduceEqDiff, reduceIte]
        (((try dsimp only); k_extra "my:inl"))
    refine ex_in hb9 ?_
    clear hb9
    walk_at "g1"
    rintro b ⟨e1, e2, hob, hoR, h168b, hxvb, hwdb, hoab, hwlb, Nw⟩
    simp only [← e1, ← e2] at F'
    have hwit : @LT.lt Nat _ wl it := lt_in l1 (show (wl, listOf #[] 0) ∈ _ by k_extra "my:mem")
    have hxs8 : ∀ p ∈ xs, p.1 ≠ 168 := by
      intro p hp e
      have h9 := (hxs p hp).1
      have e' : @Eq Nat p.1 168 := e
      omega
    have hwd8 : @Ne Nat wd 168 := by
      have hm : (168, (tabS tb).head!.2) ∈ rest := by
        rw [hrest]; cases tb with
        | none => exact .head _
        | some q => exact .head _
      exact Ne.symm (hoff _ (.tail _ hm))
    clear N' e1 e2 hr3 h168a ho o1 o2 o3 o4 o5 o6 o7 o8 o9 o10 hxv l1 lwl
    (try k_sweep)
    have hne : ∀ p ∈ xs ++ R0, p.1 ≠ 168 := by
      intro p hp
      rcases List.mem_append.mp hp with hp | hp
      · exact hxs8 p hp
      · exact h168 p hp
    have hsubR : ∀ p ∈ tabS tb ++ (xs ++ R0), p ∈ R2 := by
      intro p hp
      rw [hR2, hrest]
      rcases List.mem_append.mp hp with hp | hp
      · exact List.mem_append_right _ (List.mem_append_left _ hp)
      · rcases List.mem_append.mp hp with hp | hp
        · exact List.mem_append_left _ hp
        · exact List.mem_append_right _ (List.mem_append_right _ hp)
    refine whileR (σ := LS) (fun c => WL w.params b c.c ++ ((it, c.io) :: (oa, listOf ovs.toArray k) :: (wl, listOf c.wv.toArray c.wc) :: (wd, wo) :: (tabS c.tb ++ c.R)))
      (fun _ => [("octets", .ref oa), ("words", .ref wd), ("written", .ref b.wa), ("writer", .ref b.x), ("waiting", .ref wl), ("source", .ref it)])
      (LInv w b ex tg ons oa wl it R0 (toldOf ex tg ss)) (fun _ => False) (fun c => c.ss.length) ⟨TS0, ss, c, tb, xs ++ R0, io, 0, [], 0⟩ F' ?_ (by k_extra "my:names") ?_ ?_ ?_
    · refine News.sub Nw ?_
      intro p hp
      rcases List.mem_append.mp hp with hp | hp
      · exact List.mem_append_left _ hp
      · refine List.mem_append_right _ ?_
        rcases List.mem_cons.mp hp with rfl | hp
        · exact .head _
        · rcases List.mem_cons.mp hp with rfl | hp
          · exact .tail _ (.head _)
          · rcases List.mem_cons.mp hp with rfl | hp
            · exact .tail _ (.tail _ (.head _))
            · rcases List.mem_cons.mp hp with rfl | hp
              · exact .tail _ (.tail _ (.tail _ (.head _)))
              · exact .tail _ (.tail _ (.tail _ (.tail _ (hsubR p hp))))
    · refine ⟨hio1, hco, ⟨htb, hne, fun p hp => hoR p (hsubR p hp), ?_, ?_, ?_, ?_, ?_, ?_, ?_, ?_, ?_⟩, .nil, hok, rfl, fun p hp => .inl (hRL p (hsubR p hp)), fun p hp => List.mem_append_right _ hp⟩
      · rw [hwr]; exact .nil
      · rw [hda]; exact .nil
      · rw [hes]; intro e he; cases he
      · rw [hes]; rfl
      · rw [hpv]; rfl
      · rw [hnv]; rfl
      · rw [hig]; rfl
      · rw [hrs]; rfl
      · exact XV.left hxvb
    · clear F' hrs hig hwr hda hes hnv hpv hio1 hR2 hxs hRL hoR hxvb hxs8 hne hsubR Nw hlo hwda hoaa hrdx hoff hco hok hrest htb h168
      as_aux_lemma =>
      revert hio hoct htt htg ho168 FG hab hnn X₀ T₀ B' X' T' hD3 hsys hW hob h168b hwdb hoab hwlb hwit hwd8
      revert w ex tg oa ovs ons k R0 ss rest p loose mean mg mb gd cn cs ad ccd cl h₀ g L' L₀ m s tk RR wd wo kvs wl it hz tz2 b
      ((refine gen_all10 (ne := ?gN_187) (P := ?gP_187) ((?gf_187 : ∀ a0 a1 a2 a3 a4 a5 a6 a7 a8 a9, ?gP_187 a0 a1 a2 a3 a4 a5 a6 a7 a8 a9) (gen10 ?gN_187 ?gP_187).1 (gen10 ?gN_187 ?gP_187).2.1 (gen10 ?gN_187 ?gP_187).2.2.1 (gen10 ?gN_187 ?gP_187).2.2.2.1 (gen10 ?gN_187 ?gP_187).2.2.2.2.1 (gen10 ?gN_187 ?gP_187).2.2.2.2.2.1 (gen10 ?gN_187 ?gP_187).2.2.2.2.2.2.1 (gen10 ?gN_187 ?gP_187).2.2.2.2.2.2.2.1 (gen10 ?gN_187 ?gP_187).2.2.2.2.2.2.2.2.1 (gen10 ?gN_187 ?gP_187).2.2.2.2.2.2.2.2.2); (case gN_187 => k_extra "my:ne")))
      intros w ex tg oa ovs ons k R0 ss rest
      ((refine gen_all10 (ne := ?gN_188) (P := ?gP_188) ((?gf_188 : ∀ a0 a1 a2 a3 a4 a5 a6 a7 a8 a9, ?gP_188 a0 a1 a2 a3 a4 a5 a6 a7 a8 a9) (gen10 ?gN_188 ?gP_188).1 (gen10 ?gN_188 ?gP_188).2.1 (gen10 ?gN_188 ?gP_188).2.2.1 (gen10 ?gN_188 ?gP_188).2.2.2.1 (gen10 ?gN_188 ?gP_188).2.2.2.2.1 (gen10 ?gN_188 ?gP_188).2.2.2.2.2.1 (gen10 ?gN_188 ?gP_188).2.2.2.2.2.2.1 (gen10 ?gN_188 ?gP_188).2.2.2.2.2.2.2.1 (gen10 ?gN_188 ?gP_188).2.2.2.2.2.2.2.2.1 (gen10 ?gN_188 ?gP_188).2.2.2.2.2.2.2.2.2); (case gN_188 => k_extra "my:ne")))
      intros p loose mean mg mb gd cn cs ad ccd
      ((refine gen_all10 (ne := ?gN_189) (P := ?gP_189) ((?gf_189 : ∀ a0 a1 a2 a3 a4 a5 a6 a7 a8 a9, ?gP_189 a0 a1 a2 a3 a4 a5 a6 a7 a8 a9) (gen10 ?gN_189 ?gP_189).1 (gen10 ?gN_189 ?gP_189).2.1 (gen10 ?gN_189 ?gP_189).2.2.1 (gen10 ?gN_189 ?gP_189).2.2.2.1 (gen10 ?gN_189 ?gP_189).2.2.2.2.1 (gen10 ?gN_189 ?gP_189).2.2.2.2.2.1 (gen10 ?gN_189 ?gP_189).2.2.2.2.2.2.1 (gen10 ?gN_189 ?gP_189).2.2.2.2.2.2.2.1 (gen10 ?gN_189 ?gP_189).2.2.2.2.2.2.2.2.1 (gen10 ?gN_189 ?gP_189).2.2.2.2.2.2.2.2.2); (case gN_189 => k_extra "my:ne")))
      intros cl h₀ g L' L₀ m s tk RR wd
      ((refine gen_all7 (ne := ?gN_190) (P := ?gP_190) ((?gf_190 : ∀ a0 a1 a2 a3 a4 a5 a6, ?gP_190 a0 a1 a2 a3 a4 a5 a6) (gen7 ?gN_190 ?gP_190).1 (gen7 ?gN_190 ?gP_190).2.1 (gen7 ?gN_190 ?gP_190).2.2.1 (gen7 ?gN_190 ?gP_190).2.2.2.1 (gen7 ?gN_190 ?gP_190).2.2.2.2.1 (gen7 ?gN_190 ?gP_190).2.2.2.2.2.1 (gen7 ?gN_190 ?gP_190).2.2.2.2.2.2); (case gN_190 => k_extra "my:ne")))
      intros wo kvs wl it hz tz2 b
      intro hio hoct htt htg ho168 FG hab hnn X₀ T₀ B' X' T' hD3 hsys hW hob h168b hwdb hoab hwlb hwit hwd8
      refine prLS ?_
      ((refine gen_all9 (ne := ?gN_191) (P := ?gP_191) ((?gf_191 : ∀ a0 a1 a2 a3 a4 a5 a6 a7 a8, ?gP_191 a0 a1 a2 a3 a4 a5 a6 a7 a8) (gen9 ?gN_191 ?gP_191).1 (gen9 ?gN_191 ?gP_191).2.1 (gen9 ?gN_191 ?gP_191).2.2.1 (gen9 ?gN_191 ?gP_191).2.2.2.1 (gen9 ?gN_191 ?gP_191).2.2.2.2.1 (gen9 ?gN_191 ?gP_191).2.2.2.2.2.1 (gen9 ?gN_191 ?gP_191).2.2.2.2.2.2.1 (gen9 ?gN_191 ?gP_191).2.2.2.2.2.2.2.1 (gen9 ?gN_191 ?gP_191).2.2.2.2.2.2.2.2); (case gN_191 => k_extra "my:ne")))
      intros T ts c1 tb1 R io1 i wv wc
      walk_at "g3"
      intros u2 h2 tk2
      intro I F' N'
      dsimp only at I N'
      simp only [kstB] at F'
      obtain ⟨Iit, Ico, Iwi, Ist, Iok, Ifin, Irl, Ir0⟩ := I
      dsimp only at Iit Ico Iwi Ist Iok Ifin Irl Ir0
      have hrt : ∀ p ∈ tabS tb1, @LT.lt Nat _ p.1 wl ∨ @LT.lt Nat _ it p.1 := fun p hp => Irl p (List.mem_append_left _ hp)
      have hrr : ∀ p ∈ R, @LT.lt Nat _ p.1 wl ∨ @LT.lt Nat _ it p.1 := fun p hp => Irl p (List.mem_append_right _ hp)
      obtain ⟨o1, o2, o3, o4, o5, o6, o7, o8, o9, o10⟩ := id hob
      dsimp only
      k_extra "my:go"
      refine stop_out ?_
      rename (Fr _ _ _ _) => F'
      rename (News _ _ _ _) => N'
      have Np : News g L' _ ((it, io1) :: (oa, listOf ovs.toArray k) :: (WL w.params b c1 ++ ((wl, listOf wv.toArray wc) :: (wd, wo) :: (tabS tb1 ++ R)))) := News.sub N' (by (((try dsimp only); k_extra "my:inl")))
      have hoff9 : ∀ p ∈ (oa, listOf ovs.toArray k) :: (WL w.params b c1 ++ ((wl, listOf wv.toArray wc) :: (wd, wo) :: (tabS tb1 ++ R))), p.1 ≠ it := by
        refine List.forall_mem_cons.mpr ⟨?_, List.forall_mem_append.mpr ⟨?_, List.forall_mem_cons.mpr ⟨?_, List.forall_mem_cons.mpr ⟨?_, List.forall_mem_append.mpr ⟨?_, ?_⟩⟩⟩⟩⟩
        · show @Ne Nat _ _; omega
        · intro p hp e
          have h9 := WL_between hob p hp
          have e' : @Eq Nat p.1 it := e
          omega
        · show @Ne Nat _ _; omega
        · show @Ne Nat _ _; omega
        · exact ne_of_out hrt (by omega) (by omega)
        · exact ne_of_out hrr (by omega) (by omega)
      clear N'
      refine Or.elim (list_two ts) (fun hts => ?_) (fun hts => ?_)
      · rw [hts] at Ico Iok Ifin
        clear hts
        have hnil := codes_nil Ico
        have hov : ovs[i]? = none := by
          have h1 := hio.length
          have h2 := congrArg List.length hnil
          rw [List.length_drop, List.length_nil] at h2
          rw [List.getElem?_eq_none_iff]
          omega
        refine (con_pvX w it oa io1 ovs k i _ Iit hov hoff9).use (by k_extra "my:us1") (by k_extra "my:us1") (by k_asm) F' (by k_asm) Np (by k_asm) rfl (fun _ _ _ _ h => h.elim) ?_
        walk_at "g4"
        intros e g2 h9 tk9
        intro hF hR hU
        have hL0 : ∀ p ∈ (oa, listOf ovs.toArray k) :: (WL w.params b c1 ++ ((wl, listOf wv.toArray wc) :: (wd, wo) :: (tabS tb1 ++ R))), p.1 ≠ L₀ := by
          intro p hp e
          have h9 := (Np p (.tail _ hp)).2.2
          obtain ⟨oL, _, _, hL, _⟩ := FG.ns
          rw [e, hL] at h9
          cases h9
        have hLL : L₀ ≠ L' := Nat.ne_of_lt (Nat.lt_of_lt_of_le FG.ns.lt F'.above)
        have F9 : Fr h₀ L' g2 _ := ⟨hF.ns, fun b o e => hF.keep _ _ (FG.keep _ _ e), hab⟩
        refine caught_K rfl F9 hU hR T₀ ?_ (mg_none_of X₀ T₀.g (by k_is)) rfl rfl
        walk_at "g1"
        intro h7 F7 N7 hU7
        refine ex_in (ns_obj (hU7.ns (FG.ns.at' fun o q => hF.keep _ _ q))) ?_
        walk_at "g1"
        rintro oL ⟨hoL, hnL⟩
        have N8 : News h₀ L' h7 ((L₀, oL) :: (oa, listOf ovs.toArray k) :: (WL w.params b c1 ++ ((wl, listOf wv.toArray wc) :: (wd, wo) :: (tabS tb1 ++ R)))) := fun p hp => by
          rcases List.mem_cons.mp hp with rfl | hp
          · exact ⟨hoL, hLL, Heap.get?_none_of_le FG.above⟩
          · exact N7 p hp
        have N8u := N8
        clear F' Np N7 F9
        simp only [WL, wents, ent, List.cons_append, List.nil_append] at N8
        k_extra "my:go"
        rename (Fr _ _ _ _) => F'
        have Fq : T.A.wr = toldOf ex tg ss := Ifin
        refine join_strs (ys := T.A.wr) ⟨_, (N8 (b.wa, listOf c1.wr.toArray c1.cw) (by k_extra "my:mem")).1, rfl, _, rfl⟩ Iwi.wr ?_ (by decide) ?_
        · have h1 := sum_le_of T.A.wr 500 Iok.wl
          have h2 := Iok.wr
          omega
        walk_at "g2"
        intros t8 k8
        k_extra "my:go"
        refine outX_of (L := L') (oL := oL) rfl F' N8u (.head _) (fun h e => hnL.ns e) FG.above ?_ ⟨⟨_, by rw [Fq]⟩, tb1, Iwi.tab, rfl⟩
        intro p hp
        have hp9 : p ∈ (oa, listOf ovs.toArray k) :: (WL w.params b c1 ++ ((wl, listOf wv.toArray wc) :: (wd, wo) :: (tabS tb1 ++ R))) := by
          rcases List.mem_cons.mp hp with rfl | hp
          · exact .head _
          · refine .tail _ (List.mem_append_right _ ?_)
            rcases List.mem_append.mp hp with hp | hp
            · exact .tail _ (.tail _ (List.mem_append_left _ hp))
            · exact .tail _ (.tail _ (List.mem_append_right _ (Ir0 p hp)))
        exact ⟨.tail _ hp9, hL0 p hp9⟩
      · refine ex_in2 hts ?_
        clear hts
        walk_at "g2"
        intros sy ts'
        intro hts
        rw [hts] at Ico Iok Ifin
        refine ex_in3 (codes_cons Ico) ?_
        walk_at "g3"
        intros b0 l9 r9
        rintro ⟨hdr, hpv, hco9⟩
        have h0 : ons[i]? = some b0 := by
          have := congrArg (·[0]?) hdr
          simpa using this
        have hd1 : ons.drop (i + 1) = l9 := by
          have := congrArg (·.drop 1) hdr
          simpa using this
        rw [← hd1] at hpv
        have hsok := Iok.run.1
        have hsm := hsok.small
        refine ex_in (⟨_, rfl⟩ : ∃ V, V = sy.code) ?_
        walk_at "g1"
        intro V hV
        rw [← hV] at hpv hsm
        refine (con_pv w it oa io1 ovs ons k i V r9 b0 _ hio hoct Iit h0 hpv hsm hoff9).use (by k_extra "my:us1") (by k_extra "my:us1") (by k_asm) F' (by k_asm) Np (by k_asm) rfl ?_
        clear F' Np
        walk_at "g4"
        intros v n h9 tk9
        rintro ⟨hv, hx⟩
        refine ex_in hv ?_
        clear hv
        walk_at "g1"
        intro t9 hv
        subst hv
        refine ex_in2 hx ?_
        clear hx
        walk_at "g2"
        intros io2 j
        rintro ⟨hio2, hrj, hn⟩
        subst hn
        intro F' N'
        k_sweep
        simp only [WL, wents, ent, List.cons_append, List.nil_append] at N'
        have Iok2 := Iok.step htg
        clear hdr hpv h0 hd1 hoff9 Iit Ico
        rw [hrj] at hco9
        have hwvl : wv.length ≤ 800 := by
          have h1 := strsAre_length Ist
          have h2 := Iok.len
          have h3 := Iok.dep
          have h4 := Iok.ig
          omega
        have hdep9 : T.wt ≠ [] → T.A.ig = 0 → 1 ≤ T.A.dep := by
          intro h1 h2
          have h3 := List.length_pos_iff.mpr h1
          have h4 := Iok.len
          omega
        have hout9 : ∀ o1 o2 : Obj, WOut b (tabS tb1 ++ ((it, o1) :: (oa, listOf ovs.toArray k) :: (wl, o2) :: (wd, wo) :: R)) := by
          intro z1 z2 p hp
          rcases List.mem_append.mp hp with hp | hp
          · exact Iwi.out p (List.mem_append_left _ hp)
          · rcases List.mem_cons.mp hp with rfl | hp
            · right; left; show @LT.lt Nat _ _ _; omega
            · rcases List.mem_cons.mp hp with rfl | hp
              · left; show @LT.lt Nat _ _ _; omega
              · rcases List.mem_cons.mp hp with rfl | hp
                · right; left; show @LT.lt Nat _ _ _; omega
                · rcases List.mem_cons.mp hp with rfl | hp
                  · left; show @LT.lt Nat _ _ _; omega
                  · exact Iwi.out p (List.mem_append_right _ hp)
        have hoff9 : ∀ (o1 o2 : Obj), ∀ p ∈ (it, o1) :: (oa, listOf ovs.toArray k) :: (wl, o2) :: (wd, wo) :: R, p.1 ≠ 168 := by
          intro z1 z2 p hp
          rcases List.mem_cons.mp hp with rfl | hp
          · show @Ne Nat _ _; omega
          · rcases List.mem_cons.mp hp with rfl | hp
            · exact ho168
            · rcases List.mem_cons.mp hp with rfl | hp
              · show @Ne Nat _ _; omega
              · rcases List.mem_cons.mp hp with rfl | hp
                · exact hwd8
                · exact Iwi.off p hp
        have hsub9 : ∀ (o1 o2 : Obj), ∀ p ∈ R, p ∈ (it, o1) :: (oa, listOf ovs.toArray k) :: (wl, o2) :: (wd, wo) :: R := fun _ _ p hp => .tail _ (.tail _ (.tail _ (.tail _ hp)))
        rename_i tky
        clear hio hoct FG hab hnn X₀ T₀ hrj
        as_aux_lemma =>
        revert htt htg ho168 B' X' T' hD3 hsys hW hob h168b hwdb hoab hwlb hwit hwd8 Iwi Ist Irl Ir0 hrt hrr o1 o2 o3 o4 o5 o6 o7 o8 o9 o10 Ifin Iok hts hsok hsm hV hco9 hio2 F' N' Iok2 hwvl hdep9 hout9 hoff9 hsub9
        revert w ex tg oa ovs ons k R0 ss p loose mean mg mb gd cn cs ad ccd cl h₀ g L' L₀ m s tk RR wd wo kvs wl it hz tz2 b T ts c1 tb1 R wv wc u2 h2 tky sy ts' V h9 tk9 t9 io2 j
        ((refine gen_all10 (ne := ?gN_193) (P := ?gP_193) ((?gf_193 : ∀ a0 a1 a2 a3 a4 a5 a6 a7 a8 a9, ?gP_193 a0 a1 a2 a3 a4 a5 a6 a7 a8 a9) (gen10 ?gN_193 ?gP_193).1 (gen10 ?gN_193 ?gP_193).2.1 (gen10 ?gN_193 ?gP_193).2.2.1 (gen10 ?gN_193 ?gP_193).2.2.2.1 (gen10 ?gN_193 ?gP_193).2.2.2.2.1 (gen10 ?gN_193 ?gP_193).2.2.2.2.2.1 (gen10 ?gN_193 ?gP_193).2.2.2.2.2.2.1 (gen10 ?gN_193 ?gP_193).2.2.2.2.2.2.2.1 (gen10 ?gN_193 ?gP_193).2.2.2.2.2.2.2.2.1 (gen10 ?gN_193 ?gP_193).2.2.2.2.2.2.2.2.2); (case gN_193 => k_extra "my:ne")))
        intros w ex tg oa ovs ons k R0 ss p
        ((refine gen_all10 (ne := ?gN_194) (P := ?gP_194) ((?gf_194 : ∀ a0 a1 a2 a3 a4 a5 a6 a7 a8 a9, ?gP_194 a0 a1 a2 a3 a4 a5 a6 a7 a8 a9) (gen10 ?gN_194 ?gP_194).1 (gen10 ?gN_194 ?gP_194).2.1 (gen10 ?gN_194 ?gP_194).2.2.1 (gen10 ?gN_194 ?gP_194).2.2.2.1 (gen10 ?gN_194 ?gP_194).2.2.2.2.1 (gen10 ?gN_194 ?gP_194).2.2.2.2.2.1 (gen10 ?gN_194 ?gP_194).2.2.2.2.2.2.1 (gen10 ?gN_194 ?gP_194).2.2.2.2.2.2.2.1 (gen10 ?gN_194 ?gP_194).2.2.2.2.2.2.2.2.1 (gen10 ?gN_194 ?gP_194).2.2.2.2.2.2.2.2.2); (case gN_194 => k_extra "my:ne")))
        intros loose mean mg mb gd cn cs ad ccd cl
        ((refine gen_all10 (ne := ?gN_195) (P := ?gP_195) ((?gf_195 : ∀ a0 a1 a2 a3 a4 a5 a6 a7 a8 a9, ?gP_195 a0 a1 a2 a3 a4 a5 a6 a7 a8 a9) (gen10 ?gN_195 ?gP_195).1 (gen10 ?gN_195 ?gP_195).2.1 (gen10 ?gN_195 ?gP_195).2.2.1 (gen10 ?gN_195 ?gP_195).2.2.2.1 (gen10 ?gN_195 ?gP_195).2.2.2.2.1 (gen10 ?gN_195 ?gP_195).2.2.2.2.2.1 (gen10 ?gN_195 ?gP_195).2.2.2.2.2.2.1 (gen10 ?gN_195 ?gP_195).2.2.2.2.2.2.2.1 (gen10 ?gN_195 ?gP_195).2.2.2.2.2.2.2.2.1 (gen10 ?gN_195 ?gP_195).2.2.2.2.2.2.2.2.2); (case gN_195 => k_extra "my:ne")))
        intros h₀ g L' L₀ m s tk RR wd wo
        ((refine gen_all10 (ne := ?gN_196) (P := ?gP_196) ((?gf_196 : ∀ a0 a1 a2 a3 a4 a5 a6 a7 a8 a9, ?gP_196 a0 a1 a2 a3 a4 a5 a6 a7 a8 a9) (gen10 ?gN_196 ?gP_196).1 (gen10 ?gN_196 ?gP_196).2.1 (gen10 ?gN_196 ?gP_196).2.2.1 (gen10 ?gN_196 ?gP_196).2.2.2.1 (gen10 ?gN_196 ?gP_196).2.2.2.2.1 (gen10 ?gN_196 ?gP_196).2.2.2.2.2.1 (gen10 ?gN_196 ?gP_196).2.2.2.2.2.2.1 (gen10 ?gN_196 ?gP_196).2.2.2.2.2.2.2.1 (gen10 ?gN_196 ?gP_196).2.2.2.2.2.2.2.2.1 (gen10 ?gN_196 ?gP_196).2.2.2.2.2.2.2.2.2); (case gN_196 => k_extra "my:ne")))
        intros kvs wl it hz tz2 b T ts c1 tb1
        ((refine gen_all10 (ne := ?gN_197) (P := ?gP_197) ((?gf_197 : ∀ a0 a1 a2 a3 a4 a5 a6 a7 a8 a9, ?gP_197 a0 a1 a2 a3 a4 a5 a6 a7 a8 a9) (gen10 ?gN_197 ?gP_197).1 (gen10 ?gN_197 ?gP_197).2.1 (gen10 ?gN_197 ?gP_197).2.2.1 (gen10 ?gN_197 ?gP_197).2.2.2.1 (gen10 ?gN_197 ?gP_197).2.2.2.2.1 (gen10 ?gN_197 ?gP_197).2.2.2.2.2.1 (gen10 ?gN_197 ?gP_197).2.2.2.2.2.2.1 (gen10 ?gN_197 ?gP_197).2.2.2.2.2.2.2.1 (gen10 ?gN_197 ?gP_197).2.2.2.2.2.2.2.2.1 (gen10 ?gN_197 ?gP_197).2.2.2.2.2.2.2.2.2); (case gN_197 => k_extra "my:ne")))
        intros R wv wc u2 h2 tky sy ts' V h9
        walk_at "g4"
        intros tk9 t9 io2 j
        intro htt htg ho168 B' X' T' hD3 hsys hW hob h168b hwdb hoab hwlb hwit hwd8 Iwi Ist Irl Ir0 hrt hrr o1 o2 o3 o4 o5 o6 o7 o8 o9 o10 Ifin Iok hts hsok hsm hV hco9 hio2 F' N' Iok2 hwvl hdep9 hout9 hoff9 hsub9
        refine Or.elim (sy_three sy) (fun hs => ?_) (fun hs => Or.elim hs (fun hs => ?_) (fun hs => ?_))
        · rw [hs] at hsok Iok2 Ifin
          have hV0 : V = 0 := by rw [hV, hs]; rfl
          have hne : T.wt ≠ [] := hsok
          refine ex_in2 (strsAre_last Ist hne) ?_
          walk_at "g2"
          intros p9 t8
          rintro ⟨hwv9, hp9⟩
          rw [hwv9] at N'
          have hgt : GoodTag (T.wt.getLastD (Str.ofString "")) := Iok.tag _ (by rw [List.getLastD_eq_getLast?, List.getLast?_eq_some_getLast hne]; exact List.getLast_mem hne)
          have mk : StopIf2 := trivial
          k_extra "my:go"
          refine stop_out ?_
          rename StopIf2 => mk
          clear mk
          rename (Fr _ _ _ _) => F'
          rename (News _ _ _ _) => N'
          rename_i z1 F0 N0 t1 g1 L1 z2 FG1 F1 N1 B1 X1 T1 q1 k1 E1 hq1 he1 t2 Tc1 kX1
          clear F0 N0 FG1 F1 N1 B1 X1 T1 E1 hq1 he1 Tc1 kX1
          (try dsimp only at F')
          (try dsimp only at N')
          (try dsimp only)
          k_dflt refine newList_K (s := ⟨z2, _, _, _, _⟩) F' N' ?_
          walk_at "g2"
          intros e9 h9
          clear F' N'
          intro F' N' le9
          k_sweep
          k_extra "my:go"
          refine stop_out ?_
          rename (Fr _ _ _ _) => F'
          rename (News _ _ _ _) => N'
          refine ne_nil_strs (ns := T.wt) ⟨_, (N' (wl, listOf (p9 ++ [Value.str (T.wt.getLastD (Str.ofString "")) t8]).toArray wc) (by k_extra "my:mem")).1, rfl, _, rfl⟩ ⟨_, (N' (e9, listOf #[] 0) (by k_extra "my:mem")).1, rfl, _, rfl⟩ (by rw [← hwv9]; exact Ist) (fun y hy => (Iok.tag y hy).2.2) (by ke_room) ?_
          rw [show (!decide (T.wt = [])) = true by simp [hne]]
          k_extra "my:go"
          refine stop_out ?_
          rename (Fr _ _ _ _) => F'
          rename (News _ _ _ _) => N'
          dsimp only
          refine kl_pop (its := (p9 ++ [Value.str (T.wt.getLastD (Str.ofString "")) t8]).toArray) (n := wc) (p := p9) (y := Value.str (T.wt.getLastD (Str.ofString "")) t8) F' N' (kpa_last _ _) (by k_upd) (by rw [sizeLine_eq]; show (p9 ++ [Value.str (T.wt.getLastD (Str.ofString "")) t8]).length ≤ _; rw [← hwv9]; omega) ?_
          clear F' N'
          walk_at "g1"
          intro h' F' N'
          k_sweep
          k_extra "my:go"
          refine stop_out ?_
          rename (Fr _ _ _ _) => F'
          rename (News _ _ _ _) => N'
          refine (con_end w b ex T.A c1 tb1 R ((it, io2) :: (oa, listOf ovs.toArray k) :: (wl, listOf p9.toArray (wc + 1)) :: (wd, wo) :: R) Iwi (hsub9 _ _) (hout9 _ _) (hoff9 _ _) Iok.ok hob _ t8 hgt.1 hgt.2.1 h168b (hdep9 hne)).use (by k_extra "my:us1") (by k_extra "my:us1") (by k_asm) F' (by k_asm) (News.sub N' (by simp only [WL, wents, ent, List.cons_append, List.nil_append]; (((try dsimp only); k_extra "my:inl")))) (by k_asm) rfl ?_
          clear F' N'
          walk_at "g4"
          intros v n h8 tk8
          rintro ⟨hv, hx⟩
          subst hv
          refine ex_in hx ?_
          clear hx
          walk_at "g1"
          rintro c2 ⟨I2, hn⟩
          subst hn
          intro F' N'
          k_sweep
          k_extra "my:go"
          refine ⟨⟨tStep ex tg T .en, ts', c2, tb1, R, io2, j, p9, wc + 1⟩, _, _, _, _, rfl, by k_asm, by k_asm, by (((try dsimp only); k_extra "my:inl")), by (((try dsimp only); k_extra "my:inl")), by k_extra "my:names", ⟨hio2, hco9, I2, hp9, Iok2, Ifin, Irl, Ir0⟩, (by rw [hts]; exact Nat.lt_succ_self _)⟩
        · refine ex_in hs ?_
          clear hs
          walk_at "g1"
          intro kk hs
          rw [hs] at hsok Iok2 Ifin
          have hV0 : V = (kk : Int) + 256 := by rw [hV, hs]; rfl
          have hk3 : kk < 12 := hsok
          have htk : Str.ofString "s" ++ Str.ofString (toString V) = tg kk := by rw [hV0]; exact htt kk hk3
          have hl3 : (Str.ofString (toString V)).length ≤ 3 := by
            have h1 := (htg kk hk3).1
            rw [← htk, Str.length_append] at h1
            have h2 : (Str.ofString "s").length = 1 := rfl
            omega
          k_extra "my:go"
          refine stop_out ?_
          rename (Fr _ _ _ _) => F'
          rename (News _ _ _ _) => N'
          simp only [List.push_toArray] at N'
          simp only [htk] at N'
          refine item_list_neg (l := wl) (items := (wv ++ [Value.str (tg kk) _]).toArray) (x := .str (tg kk) _) ⟨_, (N' _ (show (wl, listOf (wv ++ [Value.str (tg kk) _]).toArray (wc + 1)) ∈ _ by k_extra "my:mem")).1, rfl, _, rfl⟩ (by decide) (by simp; omega) (by decide) (by simp only [List.size_toArray, List.length_append, List.length_singleton, List.getElem?_toArray]; rw [show (-1 + ((wv.length + 1 : Nat) : Int)).toNat = wv.length by omega]; exact List.getElem?_concat_length) ?_
          k_extra "my:go"
          refine stop_out ?_
          rename (Fr _ _ _ _) => F'
          rename (News _ _ _ _) => N'
          rename (Obj.IsDictOf (PySem.strKind _ _) _ []) => hs9
          rename ((_ == sysModules) = false) => lo9
          rename_i ae _ oe lae _ _ _
          refine tok_gen (l := wl) (vs := wv) (y := tg kk) (n := wc + 1) N' ?_ ?_
          · k_extra "my:mem"
          walk_at "g1"
          intro t6 hm6
          have hgt : GoodTag (tg kk) := htg kk hk3
          have haeb : @LT.lt Nat _ b.ps ae := lt_in lae (show (b.ps, listOf _ _) ∈ _ by k_extra "my:mem")
          refine (con_start w b ex T.A c1 tb1 R ((ae, oe) :: (it, io2) :: (oa, listOf ovs.toArray k) :: (wl, listOf (wv ++ [Value.str (tg kk) t6]).toArray (wc + 1)) :: (wd, wo) :: R) Iwi (fun p hp => .tail _ (hsub9 _ _ p hp)) ?ho ?hf Iok.ok hob (tg kk) t6 ae oe hs9 lo9 (.head _) hgt.1 hgt.2.1 h168b).use (by k_extra "my:us1") (by k_extra "my:us1") (by k_asm) F' (by k_asm) (News.sub N' ?hn) (by k_asm) rfl ?_
          case ho =>
            intro p hp
            rcases List.mem_append.mp hp with hp | hp
            · exact hout9 io2 wo p (List.mem_append_left _ hp)
            · rcases List.mem_cons.mp hp with rfl | hp
              · exact .inr (.inl haeb)
              · exact hout9 _ _ p (List.mem_append_right _ hp)
          case hf =>
            intro p hp
            rcases List.mem_cons.mp hp with rfl | hp
            · show @Ne Nat _ _; omega
            · exact hoff9 _ _ p hp
          case hn =>
            simp only [WL, wents, ent, List.cons_append, List.nil_append]
            (((try dsimp only); k_extra "my:inl"))
          clear F' N'
          walk_at "g4"
          intros v n h8 tk8
          rintro ⟨hv, hx⟩
          subst hv
          refine ex_in3 hx ?_
          clear hx
          walk_at "g3"
          intros c2 tb2 nw
          rintro ⟨I2, hnw, htb2, hn⟩
          subst hn
          intro F' N'
          k_sweep
          k_extra "my:go"
          refine ⟨⟨tStep ex tg T (.st kk), ts', c2, tb2, nw ++ R, io2, j, wv ++ [Value.str (tg kk) t6], wc + 1⟩, _, _, _, _, rfl, by k_asm, by k_asm, ?hm, by (((try dsimp only); k_extra "my:inl")), by k_extra "my:names", ⟨hio2, hco9, I2, strsAre_snoc Ist, Iok2, Ifin, ?hr, fun p hp => List.mem_append_right _ (Ir0 p hp)⟩, (by rw [hts]; exact Nat.lt_succ_self _)⟩
          case hm =>
            dsimp only
            intro p hp
            rcases List.mem_append.mp hp with hp | hp
            · exact List.mem_append_left _ hp
            · refine List.mem_append_right _ ?_
              rcases List.mem_cons.mp hp with rfl | hp
              · exact List.mem_append_right _ (List.mem_append_right _ (.tail _ (.head _)))
              · rcases List.mem_cons.mp hp with rfl | hp
                · exact List.mem_append_right _ (List.mem_append_right _ (.tail _ (.tail _ (.head _))))
                · rcases List.mem_cons.mp hp with rfl | hp
                  · exact List.mem_append_right _ (List.mem_append_right _ (.tail _ (.tail _ (.tail _ (.head _)))))
                  · rcases List.mem_cons.mp hp with rfl | hp
                    · exact List.mem_append_right _ (List.mem_append_right _ (.tail _ (.tail _ (.tail _ (.tail _ (.head _))))))
                    · rcases List.mem_append.mp hp with hp | hp
                      · exact List.mem_append_left _ hp
                      · refine List.mem_append_right _ ?_
                        rcases List.mem_append.mp hp with hp | hp
                        · exact List.mem_append_left _ hp
                        · exact List.mem_append_right _ (.tail _ (.tail _ (.tail _ (.tail _ (.tail _ hp)))))
          case hr =>
            dsimp only
            intro p hp
            rcases List.mem_append.mp hp with hp | hp
            · rcases htb2 with rfl | ⟨c', oc, rfl, hc9⟩
              · exact hrt p hp
              · simp only [tabS, List.mem_cons, List.not_mem_nil, or_false] at hp
                rcases hp with rfl | rfl
                · left; show @LT.lt Nat _ _ _; omega
                · right; exact hc9 _ (.tail _ (.head _))
            · rcases List.mem_append.mp hp with hp | hp
              · right; exact hnw p hp _ (.tail _ (.head _))
              · exact hrr p hp
        · refine ex_in hs ?_
          clear hs
          walk_at "g1"
          intro ii hs
          rw [hs] at hsok Iok2 Ifin
          have hk3 : ii < 48 := hsok.1
          refine ex_in (⟨_, List.getElem?_eq_getElem (by rw [ops_len]; exact hk3)⟩ : ∃ y, ops[ii]? = some y) ?_
          walk_at "g1"
          intro y9 hy9
          have hgd : ops.getD ii (Str.ofString "") = y9 := by rw [List.getD_eq_getElem?_getD, hy9]; rfl
          refine ex_in (WordsTo.word (show WordsTo 48 kvs from hW) hy9) ?_
          walk_at "g1"
          intro t7 hval
          have hV0 : V = (ii : Int) + 7 := by rw [hV, hs]; rfl
          rw [← hV0] at hval
          have hl3 : y9.length ≤ 3 := (ops_bound y9 (List.mem_of_getElem? hy9)).2
          k_extra "my:go"
          refine stop_out ?_
          rename (Fr _ _ _ _) => F'
          rename (News _ _ _ _) => N'
          refine kda_in N' (show (wd, wo) ∈ _ by k_extra "my:mem") hD3 hsys (intKind_is _ _ _ _) true (by rw [hval]; rfl) ?_
          k_extra "my:go"
          refine stop_out ?_
          rename (Fr _ _ _ _) => F'
          rename (News _ _ _ _) => N'
          refine kda_item N' (show (wd, wo) ∈ _ by k_extra "my:mem") hD3 (intKind_is _ _ _ _) hval ?_
          k_extra "my:go"
          refine stop_out ?_
          rename (Fr _ _ _ _) => F'
          rename (News _ _ _ _) => N'
          rename_i tn kn fn
          refine (con_data w b c1 (tabS tb1 ++ ((it, io2) :: (oa, listOf ovs.toArray k) :: (wl, listOf wv.toArray wc) :: (wd, wo) :: R)) (y9 ++ Str.ofString " ") tn hob (hout9 _ _) (by have h1 := strsAre_length Iwi.da; have h2 := Iok.da; omega)).use (by k_extra "my:us1") (by k_extra "my:us1") (by k_asm) F' (by k_asm) (News.sub N' (by simp only [WL, wents, ent, List.cons_append, List.nil_append]; (((try dsimp only); k_extra "my:inl")))) (by k_asm) rfl ?_
          clear F' N'
          walk_at "g4"
          intros v n h8 tk8
          rintro ⟨hv, hn⟩
          subst hv hn
          intro F' N'
          k_sweep
          k_extra "my:go"
          refine ⟨⟨tStep ex tg T (.op ii), ts', dataS c1 (.str (y9 ++ Str.ofString " ") tn), tb1, R, io2, j, wv, wc⟩, _, _, _, _, rfl, by k_asm, by k_asm, by (((try dsimp only); k_extra "my:inl")), by (((try dsimp only); k_extra "my:inl")), by k_extra "my:names", ⟨hio2, hco9, ?_, Ist, Iok2, Ifin, Irl, Ir0⟩, (by rw [hts]; exact Nat.lt_succ_self _)⟩
          show WInv w b ex (aData T.A (opw ii)) _ tb1 R
          rw [show opw ii = y9 ++ Str.ofString " " by unfold opw; rw [hgd]]
          exact Iwi.data _ tn
    · intro c u h tk h9
      exact h9.elim
end
theorem lay_40 : True := by
  k_with "off41" => skip
  exact True.intro
section
/-- what the reader has read: symbols, the way, the ways -/
structure RS where
  sy : List Int
  wt : List Str
  wss : List (List Str)
def RS0 : RS := ⟨[], [], []⟩
def rTag (R : RS) : Sy → RS
  | .st k => ⟨R.sy ++ [(k : Int) + 256], R.wt ++ [tagN k], R.wss⟩
  | .en => ⟨R.sy ++ [0], R.wt.dropLast, R.wss⟩
  | .op _ => R
def rOp (R : RS) (i : Nat) : RS := ⟨R.sy ++ [(i : Int) + 7], R.wt, R.wss ++ [R.wt]⟩
def rGroup (R : RS) (g : Sy × List Nat) : RS := g.2.foldl rOp (rTag R g.1)
def markOf (R : RS) : Sy → Str
  | .st k => tagN k
  | _ => Str.ofString "/" ++ R.wt.getLastD (Str.ofString "")
def GOk (R : RS) : Sy → Prop
  | .st k => k < 12
  | .en => R.wt ≠ []
  | .op _ => False
/-- a piece of the text behind a «<»: its mark, its words -/
structure Part2 (part mark : Str) (is : List Nat) : Prop where
  len : part.length ≤ 400
  mlen : mark.length ≤ 10
  cut : ∃ words, Txt.splitMax part (Str.ofString ">") 1 = [mark, words] ∧ Txt.split words (Str.ofString " ") = is.map (fun i => escT (ops.getD i (Str.ofString ""))) ++ [Str.ofString ""] ∧ words.length ≤ 400
  low : ∀ i ∈ is, i < 48
inductive RunG : RS → List (Sy × List Nat) → List Str → Prop
  | nil {R : RS} : RunG R [] []
  | cons {R : RS} {g : Sy × List Nat} {gs : List (Sy × List Nat)} {part : Str} {parts : List Str} (ok : GOk R g.1) (p : Part2 part (markOf R g.1) g.2) (t : RunG (rGroup R g) gs parts) : RunG R (g :: gs) (part :: parts)
def rAll (gs : List (Sy × List Nat)) : RS := gs.foldl rGroup RS0
def WaysAre (pt : List (Addr × Obj)) (vs : List Value) (wss : List (List Str)) : Prop :=
  vs.length = wss.length ∧ ∀ (i : Nat) (ws : List Str), wss[i]? = some ws → ∃ t va n, vs[i]? = some (Value.ref t) ∧ (t, listOf (List.toArray va) n) ∈ pt ∧ StrsAre va ws
theorem WaysAre.snoc {pt : List (Addr × Obj)} {vs va : List Value} {wss : List (List Str)} {ws : List Str} {t : Addr} {n : Nat} (h : WaysAre pt vs wss) (hw : StrsAre va ws) : WaysAre ((t, listOf va.toArray n) :: pt) (vs ++ [Value.ref t]) (wss ++ [ws]) := by
  refine ⟨by simp [h.1], fun i ws' e => ?_⟩
  by_cases hi : i < wss.length
  · rw [List.getElem?_append_left hi] at e
    obtain ⟨t', va', n', h1, h2, h3⟩ := h.2 i ws' e
    exact ⟨t', va', n', by rw [List.getElem?_append_left (by rw [h.1]; exact hi)]; exact h1, .tail _ h2, h3⟩
  · have hi2 : i = wss.length := by
      have := (List.getElem?_eq_some_iff.mp e).1
      simp only [List.length_append, List.length_singleton] at this
      omega
    subst hi2
    rw [List.getElem?_concat_length] at e
    cases e
    exact ⟨t, va, n, by rw [← h.1]; exact List.getElem?_concat_length, .head _, hw⟩
def repl3 (w : Str) : Str := Txt.replace (Txt.replace (Txt.replace w (Str.ofString "&lt;") (Str.ofString "<")) (Str.ofString "&gt;") (Str.ofString ">")) (Str.ofString "&amp;") (Str.ofString "&")
theorem tagN_val : ∀ k < 12, (Txt.slice (tagN k) none (some 1) == Str.ofString "s") = true ∧ PySem.intText? (Txt.slice (tagN k) (some 1) none) = some ((k : Int) + 256) ∧ (tagN k).length ≤ 4 ∧ PyData.strOk (tagN k) = true := by decide +kernel
theorem tok_opsR (i : Nat) (hi : i < 48) : lookup (.str (ops.getD i (Str.ofString ""))) (tokD.map fun p => (PyData.str p.1, p.2)) = some (.int ((i : Int) + 7)) := by
  have h : ((List.range 48).all fun i => match lookup (.str (ops.getD i (Str.ofString ""))) (tokD.map fun p => (PyData.str p.1, p.2)) with | some (.int a) => a == (i : Int) + 7 | _ => false) = true := by decide +kernel
  have h9 := List.all_eq_true.mp h i (List.mem_range.mpr hi)
  revert h9
  cases lookup (.str (ops.getD i (Str.ofString ""))) (tokD.map fun p => (PyData.str p.1, p.2)) with
  | none => intro h; exact absurd h Bool.false_ne_true
  | some v =>
    intro h9
    cases v with
    | int a => exact congrArg (fun z => some (PyData.int z)) (beq_iff_eq.mp h9)
    | _ => exact absurd h9 Bool.false_ne_true
theorem esc_ops_len : ∀ i < 48, (escT (ops.getD i (Str.ofString ""))).length ≤ 15 := by
  intro i hi
  have h1 := escT_len (ops.getD i (Str.ofString ""))
  have h2 := ops_bound (ops.getD i (Str.ofString "")) (by rw [List.getD_eq_getElem?_getD, List.getElem?_eq_getElem (by rw [ops_len]; exact hi)]; exact List.getElem_mem _)
  omega
theorem repl3_ops : ∀ i < 48, repl3 (escT (ops.getD i (Str.ofString ""))) = ops.getD i (Str.ofString "") := by decide +kernel
theorem repl_lens : ∀ i < 48, (Txt.replace (escT (ops.getD i (Str.ofString ""))) (Str.ofString "&lt;") (Str.ofString "<")).length ≤ 15 ∧ (Txt.replace (Txt.replace (escT (ops.getD i (Str.ofString ""))) (Str.ofString "&lt;") (Str.ofString "<")) (Str.ofString "&gt;") (Str.ofString ">")).length ≤ 15 := by decide +kernel
end
section
theorem lay_41 : True := by
  k_with "my:pyIter ref" => ((fail_if_success k_extra "off43"); with_reducible refine stop_in ?_)
  k_with "my:call builtin:str.split" => ((fail_if_success k_extra "off43"); with_reducible refine stop_in ?_)
  k_with "my:call builtin:str.split cons" => ((fail_if_success k_extra "off43"); with_reducible refine stop_in ?_)
  k_with "my:subscriptTail" => ((fail_if_success k_extra "off43"); ((with_reducible show wpAny _ _ (subscriptTail _ _ (Value.ref _) (Value.ref _)) _ _ _); (with_reducible refine stop_in ?_)))
  exact True.intro
theorem RunG.len {R : RS} {gs : List (Sy × List Nat)} {parts : List Str} (h : RunG R gs parts) : parts.length = gs.length := by
  induction h with
  | nil => rfl
  | cons _ _ _ ih => simp [ih]
theorem strs_drop1 {vs : List Value} {y : Str} {ys : List Str} (h : StrsAre vs (y :: ys)) : StrsAre (vs.drop 1) ys := by
  cases h with
  | cons _ _ h => exact h
structure RC where
  sv : List Value
  sk : Nat
  wv : List Value
  wk : Nat
  yv : List Value
  yk : Nat
  pt : List (Addr × Obj)
theorem prRC {P : RC → Prop} (h : ∀ sv sk wv wk yv yk pt, P ⟨sv, sk, wv, wk, yv, yk, pt⟩) : ∀ z, P z := fun ⟨sv, sk, wv, wk, yv, yk, pt⟩ => h sv sk wv wk yv yk pt
structure RInv (D : Addr) (R : RS) (c : RC) : Prop where
  sy : IntsAre c.sv R.sy
  wt : StrsAre c.wv R.wt
  ws : WaysAre c.pt c.yv R.wss
  p1 : ∀ p ∈ c.pt, @LT.lt Nat _ D p.1
  ty : ∀ p ∈ c.pt, p.2.cls = .type "list"
theorem strs_at {vs : List Value} {ns : List Str} (h : StrsAre vs ns) : ∀ {i : Nat} {v : Value}, vs[i]? = some v → ∃ x t, v = .str x t ∧ ns[i]? = some x := by
  induction h with
  | nil => intro i v e; simp at e
  | cons n t h ih =>
    intro i v e
    cases i with
    | zero => simp at e; exact ⟨n, t, e.symm, by simp⟩
    | succ i => simpa using ih (by simpa using e)
theorem RunG.atR {R : RS} {gs : List (Sy × List Nat)} {parts : List Str} (h : RunG R gs parts) : ∀ {i : Nat} {part : Str}, parts[i]? = some part → ∃ g, gs[i]? = some g ∧ GOk ((gs.take i).foldl rGroup R) g.1 ∧ Part2 part (markOf ((gs.take i).foldl rGroup R) g.1) g.2 ∧ (gs.take (i + 1)).foldl rGroup R = rGroup ((gs.take i).foldl rGroup R) g := by
  induction h with
  | nil => intro i part e; simp at e
  | @cons R g gs part parts ok p t ih =>
    intro i q e
    cases i with
    | zero =>
      simp at e
      subst e
      exact ⟨g, by simp, ok, p, by simp⟩
    | succ i =>
      obtain ⟨g', h1, h2, h3, h4⟩ := ih (by simpa using e)
      exact ⟨g', by simpa using h1, by simpa using h2, by simpa using h3, by simpa using h4⟩
theorem RunG.at {gs : List (Sy × List Nat)} {parts : List Str} (h : RunG RS0 gs parts) {i : Nat} {part : Str} (e : parts[i]? = some part) : ∃ g, gs[i]? = some g ∧ GOk (rAll (gs.take i)) g.1 ∧ Part2 part (markOf (rAll (gs.take i)) g.1) g.2 ∧ rAll (gs.take (i + 1)) = rGroup (rAll (gs.take i)) g := h.atR e
theorem ne_RS : Nonempty RS := ⟨RS0⟩
theorem ne_RC : Nonempty RC := ⟨⟨[], 0, [], 0, [], 0, []⟩⟩
theorem ne_SyG : Nonempty (Sy × List Nat) := ⟨(.en, [])⟩
theorem ne_SyR : Nonempty Sy := ⟨.en⟩
theorem lay_42 : True := by
  k_with "my:ne" => ((fail_if_success k_extra "off43"); first | exact ne_RS | exact ne_RC | exact ne_SyG | exact ne_SyR)
  exact True.intro
section
variable {prog : Program} {w : World} {A : Around} {E : Value → Shared → Prop} {s : Shared} {h₀ : Heap} {L : Addr} {m : Str → Option Value} {news : List (Addr × Obj)} {Q : Value → Shared → Prop}
theorem slice_part {value slice : PySem.Expr} {l : Addr} {vs us : List Value} {n : Nat} {vl vu : Value} (F : Fr h₀ L s.heap m) (N : News h₀ L s.heap news) (hm : (l, listOf vs.toArray n) ∈ news)
    (hp : ∃ lo hi, IsPart vl lo ∧ IsPart vu hi ∧ slicePick vs.toArray lo hi none = us.toArray) (hsz : vs.length ≤ 1000)
    (h : ∀ D h', Fr h₀ L h' m → News h₀ L h' ((D, listOf us.toArray 0) :: news) → (∀ p ∈ news, p.1 < D) → Q (.ref D) { s with heap := h' })
    (hs : subscripted slice false (.ref l) (.ref s.heap.objs.size) = operate [.ref s.heap.objs.size, .ref l] (getItem (.ref l) (.ref s.heap.objs.size)) := by with_unfolding_all rfl)
    (ht : ∀ r, letTemporaryGo value (.ref l) r = pure () := by intro _; with_unfolding_all rfl) :
    wpAny (model prog w) A (subscriptTail value slice (.ref l) (.ref s.heap.objs.size)) Q E { s with heap := s.heap.push { cls := .type "slice", data := .fields #[vl, vu, .none] } } := by
  obtain ⟨lo, hi, pl, pu, he⟩ := hp
  refine slice_list F N ⟨_, (N _ hm).1, rfl, _, rfl⟩ pl pu (fun h' F' N' => ?_) hs ht (by rw [sizeLine_eq]; simp only [List.size_toArray]; omega)
  rw [he] at N'
  exact h _ h' F' N' fun p hp => Nat.lt_succ_of_lt (Heap.lt_size (N p hp).1)
theorem split_max {x y : Str} {t u v : Tok} {k : Int} (hF : Fr h₀ L s.heap m) (hN : News h₀ L s.heap news) (hy : (y.length == 0) = false) (hk : (decide (k < -(2 ^ 63 : Int)) || decide (k ≥ 2 ^ 63)) = false) (hsz : x.length + 2 ≤ sizeLine)
    (h : ∀ D l h' tk, l.map (·.1) = Txt.splitMax x y k → Fr h₀ L h' m → News h₀ L h' ((D, listOf (strValues l).toArray 0) :: news) → (∀ p ∈ news, p.1 < D) → Q (.ref D) { s with heap := h', toks := tk }) :
    wpAny (model prog w) A (call (.builtin "str.split") [.str x t, .str y u, .int k v]) Q E s :=
  splitN2A hF hN hy hk (fun l h' tk e _ _ _ F N => h _ l h' tk e F N fun p hp => Heap.lt_size (hN p hp).1) hsz
theorem two_of {l : List (Str × Tok)} {a b : Str} (e : l.map (·.1) = [a, b]) : ∃ t u, strValues l = [.str a t, .str b u] := by
  match l, e with
  | [(x, t), (y, u)], e =>
    simp only [List.map_cons, List.map_nil, List.cons.injEq, and_true] at e
    obtain ⟨rfl, rfl⟩ := e
    exact ⟨t, u, rfl⟩
theorem pick_tail (vs : List Value) (t : Tok) : ∃ lo hi, IsPart (.int 1 t) lo ∧ IsPart .none hi ∧ slicePick vs.toArray lo hi none = (vs.drop 1).toArray :=
  ⟨some 1, none, .int _ _, .none, by have := slicePick_from' vs.toArray 1; simpa using this⟩
theorem pick_init (vs : List Value) (t : Tok) : ∃ lo hi, IsPart .none lo ∧ IsPart (.int (-1) t) hi ∧ slicePick vs.toArray lo hi none = (vs.take (vs.length - 1)).toArray :=
  ⟨none, some (-1), .none, .int _ _, by have := slicePick_butLast vs.toArray 1 (Nat.le_refl _); simpa using this⟩
end
theorem lay_43 : True := by
  k_with "my:subscriptTail" => ((fail_if_success k_extra "off43"); ((with_reducible show wpAny _ _ (subscriptTail _ _ (Value.ref 46) _) _ _ _); (with_reducible refine stop_in ?_)))
  k_with "my:call builtin:str.replace" => ((fail_if_success k_extra "off43"); (with_reducible refine stop_in ?_))
  k_with "my:exec If" => ((fail_if_success k_extra "off43"); ((with_reducible have mk9 : StopIf := by assumption); clear mk9; (with_reducible refine stop_in ?_)))
  k_with "my:compareOp Eq ref ref" => ((fail_if_success k_extra "off43"); (with_reducible refine stop_in ?_))
  k_with "my:call type:int cons nil" => ((fail_if_success k_extra "off43"); (with_reducible refine stop_in ?_))
  k_with "my:subscriptTail Name UnaryOp ref int" => ((fail_if_success k_extra "off43"); (with_reducible refine stop_in ?_))
  k_with "my:call builtin:list.pop" => ((fail_if_success k_extra "off43"); (with_reducible refine stop_in ?_))
  exact True.intro
theorem slash_s (y : Str) : (Txt.slice (Str.ofString "/" ++ y) none (some 1) == Str.ofString "s") = false := by
  have h : (chs (Txt.slice (Str.ofString "/" ++ y) none (some 1))) = [Str.ofString "/"] := by
    rw [chs_slice_to (by decide) (by rw [Str.length_append]; have : (Str.ofString "/").length = 1 := rfl; omega)]
    unfold chs
    rw [Str.cps_append, Array.toList_append]
    rfl
  cases e : (Txt.slice (Str.ofString "/" ++ y) none (some 1) == Str.ofString "s") with
  | false => rfl
  | true =>
    rw [beq_iff_eq.mp e] at h
    exact absurd h (by decide +kernel)
theorem len_le_sum {gs : List (Sy × List Nat)} {g : Sy × List Nat} (h : g ∈ gs) : g.2.length ≤ (gs.map (·.2.length)).sum := by
  induction gs with
  | nil => exact nomatch h
  | cons a gs ih =>
    rcases List.mem_cons.mp h with rfl | h
    · simp only [List.map_cons, List.sum_cons]; omega
    · have := ih h
      simp only [List.map_cons, List.sum_cons]; omega
theorem strs_init {vs : List Value} {ys : List Str} {y : Str} (h : StrsAre vs (ys ++ [y])) : StrsAre (vs.take (vs.length - 1)) ys := by
  induction ys generalizing vs with
  | nil =>
    cases h with
    | cons _ _ h => cases h; exact .nil
  | cons z ys ih =>
    cases h with
    | @cons _ t vs _ h =>
      have h9 := ih h
      have hl : vs.length = ys.length + 1 := by have h8 := strsAre_length h; simpa using h8
      have e : (Value.str z t :: vs).take ((Value.str z t :: vs).length - 1) = Value.str z t :: vs.take (vs.length - 1) := by
        have e9 : (Value.str z t :: vs).length - 1 = (vs.length - 1) + 1 := by rw [List.length_cons]; omega
        rw [e9, List.take_succ_cons]
      rw [e]
      exact .cons _ _ h9
theorem map_at {f : Nat → Str} {is : List Nat} {j : Nat} {y : Str} (h : (is.map f)[j]? = some y) : ∃ i, is[j]? = some i ∧ y = f i := by
  rw [List.getElem?_map] at h
  cases e : is[j]? with
  | none => rw [e] at h; cases h
  | some i => rw [e] at h; cases h; exact ⟨i, rfl, rfl⟩
theorem rTag_len (R : RS) (s : Sy) : (rTag R s).sy.length ≤ R.sy.length + 1 ∧ (rTag R s).wss.length = R.wss.length ∧ (rTag R s).wt.length ≤ R.wt.length + 1 := by
  cases s with
  | en => simp only [rTag, List.length_append, List.length_singleton, List.length_dropLast]; omega
  | st k => simp only [rTag, List.length_append, List.length_singleton]; omega
  | op i => simp only [rTag]; omega
theorem led_cls2 {hd hd' pt pt' tl : List (Addr × Obj)} (h1 : hd'.map (·.1) = hd.map (·.1)) (ty : ∀ p ∈ pt', p.2.cls = .type "list") : ∀ p ∈ hd' ++ (pt' ++ tl), p.1 ∈ (hd ++ (pt ++ tl)).map (·.1) ∨ p.2.cls ≠ .type "list_iterator" := by
  intro p hp
  rw [List.map_append, List.map_append]
  rcases List.mem_append.mp hp with hp | hp
  · exact .inl (List.mem_append_left _ (h1 ▸ List.mem_map_of_mem hp))
  · rcases List.mem_append.mp hp with hp | hp
    · right; rw [ty p hp]; decide
    · exact .inl (List.mem_append_right _ (List.mem_append_right _ (List.mem_map_of_mem hp)))
theorem led_cls3 {hd hd' pt pt' tl tl2 : List (Addr × Obj)} (h1 : hd'.map (·.1) = hd.map (·.1)) (ty : ∀ p ∈ pt', p.2.cls = .type "list") : ∀ p ∈ hd' ++ (pt' ++ tl ++ tl2), p.1 ∈ (hd ++ (pt ++ tl ++ tl2)).map (·.1) ∨ p.2.cls ≠ .type "list_iterator" := by
  intro p hp
  rw [List.append_assoc] at hp ⊢
  exact led_cls2 h1 ty p hp
theorem sy3 (s : Sy) : s = .en ∨ (∃ k, s = .st k) ∨ ∃ i, s = .op i := by cases s with | en => exact .inl rfl | st k => exact .inr (.inl ⟨k, rfl⟩) | op i => exact .inr (.inr ⟨i, rfl⟩)
def TagsOk (R : RS) : Prop := ∀ y ∈ R.wt, ∃ k, k < 12 ∧ y = tagN k
theorem rOps_wt (is : List Nat) (R : RS) : (is.foldl rOp R).wt = R.wt ∧ (is.foldl rOp R).sy.length = R.sy.length + is.length ∧ (is.foldl rOp R).wss.length = R.wss.length + is.length := by
  induction is generalizing R with
  | nil => exact ⟨rfl, rfl, rfl⟩
  | cons i is ih =>
    obtain ⟨h1, h2, h3⟩ := ih (rOp R i)
    refine ⟨h1, ?_, ?_⟩
    · rw [List.foldl_cons, h2]; simp only [rOp, List.length_append, List.length_cons, List.length_nil]; omega
    · rw [List.foldl_cons, h3]; simp only [rOp, List.length_append, List.length_cons, List.length_nil]; omega
theorem RunG.bounds {R : RS} {gs : List (Sy × List Nat)} {parts : List Str} (h : RunG R gs parts) : TagsOk R → ∀ i, TagsOk ((gs.take i).foldl rGroup R) ∧ ((gs.take i).foldl rGroup R).wt.length ≤ R.wt.length + gs.length ∧ ((gs.take i).foldl rGroup R).sy.length ≤ R.sy.length + gs.length + (gs.map (·.2.length)).sum ∧ ((gs.take i).foldl rGroup R).wss.length ≤ R.wss.length + (gs.map (·.2.length)).sum := by
  induction h with
  | nil => intro hR i; simp; exact hR
  | @cons R g gs part parts ok p t ih =>
    intro hR i
    cases i with
    | zero =>
      refine ⟨by simpa using hR, ?_, ?_, ?_⟩ <;> simp only [List.take_zero, List.foldl_nil, List.length_cons, List.map_cons, List.sum_cons] <;> omega
    | succ i =>
      have hT : TagsOk (rTag R g.1) ∧ (rTag R g.1).wt.length ≤ R.wt.length + 1 ∧ (rTag R g.1).sy.length ≤ R.sy.length + 1 ∧ (rTag R g.1).wss.length = R.wss.length := by
        obtain ⟨s, is⟩ := g
        cases s with
        | en =>
          refine ⟨fun y hy => hR y (List.dropLast_subset _ hy), ?_, ?_, rfl⟩
          · simp only [rTag, List.length_dropLast]; omega
          · simp only [rTag, List.length_append, List.length_singleton]; omega
        | st k =>
          refine ⟨fun y hy => ?_, ?_, ?_, rfl⟩
          · rcases List.mem_append.mp hy with hy | hy
            · exact hR y hy
            · rw [List.mem_singleton.mp hy]; exact ⟨k, ok, rfl⟩
          · simp only [rTag, List.length_append, List.length_singleton]; omega
          · simp only [rTag, List.length_append, List.length_singleton]; omega
        | op i => exact absurd ok id
      obtain ⟨e1, e2, e3⟩ := rOps_wt g.2 (rTag R g.1)
      have hG : TagsOk (rGroup R g) := by intro y hy; exact hT.1 y (by rw [← e1]; exact hy)
      obtain ⟨h1, h2, h3, h4⟩ := ih hG i
      have e1' : (rGroup R g).wt.length = (rTag R g.1).wt.length := congrArg List.length e1
      have e2' : (rGroup R g).sy.length = (rTag R g.1).sy.length + g.2.length := e2
      have e3' : (rGroup R g).wss.length = (rTag R g.1).wss.length + g.2.length := e3
      refine ⟨by simpa using h1, ?_, ?_, ?_⟩ <;> simp only [List.take_succ_cons, List.foldl_cons, List.length_cons, List.map_cons, List.sum_cons] <;> omega
theorem con_read (w : World) (x : Str) (tx : Tok) (gs : List (Sy × List Nat)) (parts : List Str) (hx : x.length ≤ 4000) (hsp : Txt.split x (Str.ofString "<") = Str.ofString "" :: parts) (hrun : RunG RS0 gs parts) (hgl : gs.length ≤ 30) (hol : (gs.map (·.2.length)).sum ≤ 30) (news : List (Addr × Obj)) :
    Con PySem.Challenge.rw_tv0054_02.row.prog w (Mine.hd0.heap_1_41 w.params) 244 630 5300 [.str x tx] news
      (fun v n => ∃ T ra wa rvs rk wv wk pt, v = .ref T ∧ IntsAre rvs (rAll gs).sy ∧ WaysAre pt wv (rAll gs).wss ∧ (∀ q ∈ news, @LT.lt Nat _ q.1 ra ∧ @LT.lt Nat _ q.1 wa ∧ ∀ p ∈ pt, @LT.lt Nat _ q.1 p.1) ∧ n = (T, twoOfH ra wa) :: (ra, listOf rvs.toArray rk) :: (wa, listOf wv.toArray wk) :: (pt ++ news)) := by
  revert w x tx gs parts hx hsp hrun hgl hol news
  walk_at "g5"
  intros w x tx gs parts
  intro hx hsp hrun hgl hol
  walk_at "g1"
  intro news
  w_top off
  k_fill
  refine' Con.of (binds := [("text", .str x tx)]) ?k6 ?k7 ?k8 ?k9 ?kB ?kN ?c2 ?c3 ?c4 ?c5 ?_
  (( (case k6 => k_is); (case k7 => k_is); (case k8 => decide); (case k9 => (intro s9 X9; first | exact BindsTo.of_eq rfl | exact binds_K X9 rfl (by k_is) rfl rfl rfl | (refine kp_binds X9 ?_; exact fun _ => rfl))); (case kB => exact locs rfl); (case kN => (simp only [List.map_cons, List.map_nil]; decide)); (case c2 => exact rfl); (case c3 => exact rfl); (case c4 => exact rfl); (case c5 => decide); k_with "WPost" => dsimp only [WPost]; k_with "FPost" => dsimp only [FPost]))
  ((refine gen_all10 (ne := ?gN_207) (P := ?gP_207) ((?gf_207 : ∀ a0 a1 a2 a3 a4 a5 a6 a7 a8 a9, ?gP_207 a0 a1 a2 a3 a4 a5 a6 a7 a8 a9) (gen10 ?gN_207 ?gP_207).1 (gen10 ?gN_207 ?gP_207).2.1 (gen10 ?gN_207 ?gP_207).2.2.1 (gen10 ?gN_207 ?gP_207).2.2.2.1 (gen10 ?gN_207 ?gP_207).2.2.2.2.1 (gen10 ?gN_207 ?gP_207).2.2.2.2.2.1 (gen10 ?gN_207 ?gP_207).2.2.2.2.2.2.1 (gen10 ?gN_207 ?gP_207).2.2.2.2.2.2.2.1 (gen10 ?gN_207 ?gP_207).2.2.2.2.2.2.2.2.1 (gen10 ?gN_207 ?gP_207).2.2.2.2.2.2.2.2.2); (case gN_207 => k_extra "my:ne")))
  intros p loose mean mg mb gd cn cs ad ccd
  ((refine gen_all10 (ne := ?gN_208) (P := ?gP_208) ((?gf_208 : ∀ a0 a1 a2 a3 a4 a5 a6 a7 a8 a9, ?gP_208 a0 a1 a2 a3 a4 a5 a6 a7 a8 a9) (gen10 ?gN_208 ?gP_208).1 (gen10 ?gN_208 ?gP_208).2.1 (gen10 ?gN_208 ?gP_208).2.2.1 (gen10 ?gN_208 ?gP_208).2.2.2.1 (gen10 ?gN_208 ?gP_208).2.2.2.2.1 (gen10 ?gN_208 ?gP_208).2.2.2.2.2.1 (gen10 ?gN_208 ?gP_208).2.2.2.2.2.2.1 (gen10 ?gN_208 ?gP_208).2.2.2.2.2.2.2.1 (gen10 ?gN_208 ?gP_208).2.2.2.2.2.2.2.2.1 (gen10 ?gN_208 ?gP_208).2.2.2.2.2.2.2.2.2); (case gN_208 => k_extra "my:ne")))
  intros cl outer base g h₁ L' L₀ s tk R
  intro F' N' B' X' T'
  simp only [kstB] at F'
  k_extra "my:go"
  (((with_reducible rename Fr _ _ _ _ => lF'); (with_unfolding_all refine' For_invVF lF' ?k1_209 ?k2_209 ?_; (case k1_209 => exact rfl); (case k2_209 => exact rfl); k_whole); k_extra "my:go"))
  refine stop_out ?_
  rename_i ra _ lra _ _ wa _ lwa _ _ ya _ lya _ N9 _
  have lnr : ∀ p ∈ news, @LT.lt Nat _ p.1 ra := lra
  have hrw : @LT.lt Nat _ ra wa := lwa _ (.head _)
  have hwy : @LT.lt Nat _ wa ya := lya _ (.head _)
  refine KSpl.split1 lF' N9 (by decide) ?_ (by rw [sizeLine_eq]; omega)
  clear lF' N9
  walk_at "g4"
  intros D0 l0 h' k0
  intro he hav F' N' lD
  rw [he, hsp] at hav
  clear he
  have hyD : @LT.lt Nat _ ya D0 := lt_in lD (show (ya, _) ∈ _ by k_extra "my:mem")
  refine ex_in (⟨_, rfl⟩ : ∃ v, v = strValues l0) ?_
  walk_at "g1"
  intro pvs hpvs
  rw [← hpvs] at N' hav
  clear hpvs
  have hpl := strsAre_length hav
  have hplen : parts.length = gs.length := RunG.len hrun
  simp only [List.length_cons] at hpl
  k_sweep
  k_extra "my:go"
  refine stop_out ?_
  rename (Fr _ _ _ _) => F'
  rename (News _ _ _ _) => N'
  refine kba_turn (value' := PySem.Expr.Name (Str.ofString "_") ⟨0, 0, 0, 0⟩) (fun _ => rfl) ?_
  refine slice_part (s := ⟨_, _, _, _, _⟩) F' N' (show (D0, listOf pvs.toArray 0) ∈ _ by k_extra "my:mem") (pick_tail _ _) (by omega) ?_
  clear F' N'
  walk_at "g2"
  intros D1 h'
  intro F' N' lD1
  have hyD1 : @LT.lt Nat _ ya D1 := lt_in lD1 (show (ya, _) ∈ _ by k_extra "my:mem")
  have hav1 : StrsAre (pvs.drop 1) parts := strs_drop1 hav
  refine ex_in (⟨_, rfl⟩ : ∃ v, v = pvs.drop 1) ?_
  walk_at "g1"
  intro pv1 hpv1
  rw [← hpv1] at N' hav1
  clear hpv1
  have hD01 : @LT.lt Nat _ D0 D1 := lt_in lD1 (show (D0, _) ∈ _ by k_extra "my:mem")
  k_sweep
  k_extra "my:go"
  refine stop_out ?_
  rename (Fr _ _ _ _) => F'
  rename (News _ _ _ _) => N'
  have hpl1 := strsAre_length hav1
  refine ex_in (fr_names2H F' [("symbols", .ref ra), ("way", .ref wa), ("ways", .ref ya)] (by k_extra "my:names")) ?_
  walk_at "g1"
  intro u1 F2
  refine forListR (σ := RC) (l := D1) (vs := pv1) (nn := 0) (fun c => (D1, listOf pv1.toArray 0) :: (ya, listOf c.yv.toArray c.yk) :: (wa, listOf c.wv.toArray c.wk) :: (ra, listOf c.sv.toArray c.sk) :: (c.pt ++ news))
    (fun _ => [("symbols", .ref ra), ("way", .ref wa), ("ways", .ref ya)])
    (fun i c => RInv D1 (rAll (gs.take i)) c) (fun c => RInv D1 (rAll gs) c) ⟨[], 0, [], 0, [], 0, []⟩ rfl (fun c => .head _) F2 (news_subH N' (by (((try dsimp only); k_extra "my:inl")))) (by k_extra "my:names") ?_ ?_ ?_ ?_
  · exact ⟨.nil, .nil, ⟨rfl, fun i ws e => by simp [rAll, RS0] at e⟩, fun p hp => (nomatch hp), fun p hp => (nomatch hp)⟩
  · clear F2 F' N' lya lwa hav lD lD1 lra
    walk_at "g2"
    intros i v
    refine prRC ?_
    ((refine gen_all7 (ne := ?gN_211) (P := ?gP_211) ((?gf_211 : ∀ a0 a1 a2 a3 a4 a5 a6, ?gP_211 a0 a1 a2 a3 a4 a5 a6) (gen7 ?gN_211 ?gP_211).1 (gen7 ?gN_211 ?gP_211).2.1 (gen7 ?gN_211 ?gP_211).2.2.1 (gen7 ?gN_211 ?gP_211).2.2.2.1 (gen7 ?gN_211 ?gP_211).2.2.2.2.1 (gen7 ?gN_211 ?gP_211).2.2.2.2.2.1 (gen7 ?gN_211 ?gP_211).2.2.2.2.2.2); (case gN_211 => k_extra "my:ne")))
    intros sv sk wv wk yv yk pt
    walk_at "g4"
    intros u h tk own
    intro hv9 hown I F' N'
    (try dsimp only at N')
    simp only [List.cons_append] at N'
    simp only [kstB] at F'
    (try k_sweep)
    refine ex_in2 (strs_at hav1 hv9) ?_
    walk_at "g2"
    intros part tp
    rintro ⟨hvp, hpi⟩
    subst hvp
    refine ex_in (RunG.at hrun hpi) ?_
    walk_at "g1"
    rintro g9 ⟨hgi, hok, hp2, hnext⟩
    have I9 := hid_in I
    obtain ⟨Iss, Iwt, Iws, Ip1, Ity⟩ := I
    (try dsimp only at Iss Iwt Iws Ip1 Ity)
    refine ex_in hp2.cut ?_
    walk_at "g1"
    rintro words ⟨hcut, hws, hwl⟩
    have hplen9 := hp2.len
    have hil := hp2.low
    refine ex_in (⟨_, rfl⟩ : ∃ M, M = markOf (rAll (gs.take i)) g9.1) ?_
    walk_at "g1"
    intro M hM
    rw [← hM] at hcut
    k_extra "my:go"
    refine stop_out ?_
    rename (Fr _ _ _ _) => F'
    rename (News _ _ _ _) => N'
    refine split_max F' N' (by decide) (by decide) (by rw [sizeLine_eq]; omega) ?_
    clear F' N'
    walk_at "g4"
    intros D2 l2 h' tk2
    intro he F' N' lD2
    refine ex_in2 (two_of (he.trans hcut)) ?_
    walk_at "g2"
    intros tm tw
    intro hsv
    rw [hsv] at N'
    clear he hsv
    k_sweep
    refine ex_in (⟨_, rfl⟩ : ∃ Rg, Rg = rAll (gs.take i)) ?_
    walk_at "g1"
    intro Rg hRg
    have hbd := RunG.bounds hrun (fun y hy => (nomatch hy)) i
    rw [← hRg] at hM hok hnext Iss Iwt Iws I9
    have hbd' : TagsOk Rg ∧ Rg.wt.length ≤ gs.length ∧ Rg.sy.length ≤ gs.length + (gs.map (·.2.length)).sum ∧ Rg.wss.length ≤ (gs.map (·.2.length)).sum := by
      have e : (gs.take i).foldl rGroup RS0 = Rg := hRg.symm
      rw [e] at hbd
      simpa [RS0] using hbd
    clear hbd
    obtain ⟨hb1, hb2, hb3, hb4⟩ := hbd'
    have hsvl := Iss.length
    have hwvl := strsAre_length Iwt
    have hyvl := Iws.1
    have hMl : M.length ≤ 10 := by rw [hM, hRg]; exact hp2.mlen
    have hq1 : ∀ p ∈ pt, p.1 ≠ ra := ne_gtH Ip1 (by omega)
    have hq2 : ∀ p ∈ pt, p.1 ≠ wa := ne_gtH Ip1 (by omega)
    have hq3 : ∀ p ∈ pt, p.1 ≠ ya := ne_gtH Ip1 (by omega)
    have hn1 : ∀ p ∈ news, p.1 ≠ ra := ne_ltH lnr (Nat.le_refl _)
    have hn2 : ∀ p ∈ news, p.1 ≠ wa := ne_ltH lnr (by omega)
    have hn3 : ∀ p ∈ news, p.1 ≠ ya := ne_ltH lnr (by omega)
    have mk : StopIf := trivial
    k_extra "my:go"
    rename (Fr _ L' _ _) => F'
    rename (News _ L' _ _) => N'
    have hown2 := hown
    refine cutR F' (σ := List Value × Nat × List Value × Nat) (fun c => (D1, listOf pv1.toArray 0) :: (ya, listOf yv.toArray yk) :: (wa, listOf c.2.2.1.toArray c.2.2.2) :: (ra, listOf c.1.toArray c.2.1) :: (pt ++ news ++ own)) (fun _ => [("symbols", .ref ra), ("way", .ref wa), ("ways", .ref ya), ("words", .str words tw)])
      (fun c => IntsAre c.1 (rTag Rg g9.1).sy ∧ StrsAre c.2.2.1 (rTag Rg g9.1).wt) ?_ ?_
    · (rename StopIf => mk); clear mk
      refine Or.elim (sy3 g9.1) (fun hg => ?_) (fun hg => Or.elim hg (fun hg => ?_) (fun hg => ?_))
      · rw [hg] at hM hok ⊢
        have hMv : M = Str.ofString "/" ++ Rg.wt.getLastD (Str.ofString "") := hM
        have hwne : Rg.wt ≠ [] := hok
        have hms : (Txt.slice M none (some 1) == Str.ofString "s") = false := by rw [hMv]; exact slash_s _
        refine ex_in2 (strsAre_last Iwt hwne) ?_
        walk_at "g2"
        intros p9 t8
        rintro ⟨hwv9, hp9⟩
        have hIw := hid_in Iwt
        rw [hwv9] at N'
        clear Iwt
        k_extra "my:go"
        refine stop_out ?_
        rename (Fr _ L' _ _) => F'
        rename (News _ L' _ _) => N'
        rename_i e9 _ _
        refine eq_strs (a := wa) (xs := p9 ++ [Value.str (Rg.wt.getLastD (Str.ofString "")) t8]) (ys := []) (as := Rg.wt) (bs := []) ⟨_, (N' (wa, listOf (p9 ++ [Value.str (Rg.wt.getLastD (Str.ofString "")) t8]).toArray wk) (by k_extra "my:mem")).1, rfl, _, rfl⟩ ⟨_, (N' (e9, listOf #[] 0) (by k_extra "my:mem")).1, rfl, _, rfl⟩ (by rw [← hwv9]; exact hid_out hIw) .nil (fun y hy => ?hsok) (fun y hy => (nomatch hy)) (by ke_room) ?_
        case hsok =>
          obtain ⟨k8, hk8, rfl⟩ := hb1 y hy
          exact (tagN_val k8 hk8).2.2.2
        rw [decide_eq_false hwne]
        have hp9l : p9.length + 1 = Rg.wt.length := by
          have h9 := strsAre_length (hid_out hIw)
          rw [hwv9] at h9
          simpa using h9
        have htop : (Rg.wt.getLastD (Str.ofString "")).length ≤ 4 := by
          obtain ⟨k8, hk8, e8⟩ := hb1 _ (show Rg.wt.getLastD (Str.ofString "") ∈ Rg.wt by rw [List.getLastD_eq_getLast?, List.getLast?_eq_some_getLast hwne]; exact List.getLast_mem hwne)
          rw [e8]
          exact (tagN_val k8 hk8).2.2.1
        k_extra "my:go"
        refine stop_out ?_
        rename (News _ L' _ _) => N'
        refine item_list_neg (l := wa) (items := (p9 ++ [Value.str (Rg.wt.getLastD (Str.ofString "")) t8]).toArray) (x := Value.str (Rg.wt.getLastD (Str.ofString "")) t8) ⟨_, (N' (wa, listOf (p9 ++ [Value.str (Rg.wt.getLastD (Str.ofString "")) t8]).toArray wk) (by k_extra "my:mem")).1, rfl, _, rfl⟩ (by decide) (by simp; omega) (by decide) (by simp only [List.size_toArray, List.length_append, List.length_singleton, List.getElem?_toArray]; rw [show (-1 + ((p9.length + 1 : Nat) : Int)).toNat = p9.length by omega]; exact List.getElem?_concat_length) ?_
        k_extra "my:go"
        all_goals first
          | (exfalso; rename ((M == _) = false) => q; rw [hMv] at q; simp at q; done)
          | skip
        refine stop_out ?_
        rename (Fr _ L' _ _) => F'
        rename (News _ L' _ _) => N'
        refine kl_pop (its := (p9 ++ [Value.str (Rg.wt.getLastD (Str.ofString "")) t8]).toArray) (n := wk) (p := p9) (y := Value.str (Rg.wt.getLastD (Str.ofString "")) t8) F' N' (kpa_last _ _) (by k_upd) (by rw [sizeLine_eq]; show (p9 ++ [Value.str (Rg.wt.getLastD (Str.ofString "")) t8]).length ≤ _; simp only [List.length_append, List.length_singleton]; omega) ?_
        clear F' N'
        walk_at "g1"
        intro h' F' N'
        k_sweep
        k_extra "my:go"
        rename (News _ L' _ _) => N'
        simp only [List.push_toArray] at N'
        exact ⟨(sv ++ [.int 0 _], sk + 1, p9, wk + 1), _, _, _, _, rfl, by k_asm, by k_asm, by (((try dsimp only); k_extra "my:inl")), by (((try dsimp only); k_extra "my:inl")), by k_extra "my:names", ints_oneH Iss, hp9⟩
      · refine ex_in hg ?_
        clear hg
        walk_at "g1"
        intro kk hg
        rw [hg] at hM hok ⊢
        have hkk : kk < 12 := hok
        have hMv : M = tagN kk := hM
        have htv := tagN_val kk hkk
        rw [← hMv] at htv
        obtain ⟨ht1, ht2, ht3, ht4⟩ := htv
        k_extra "my:go"
        refine stop_out ?_
        refine KIN.call_text ht2 (by omega) ?_
        k_extra "my:go"
        rename (News _ L' _ _) => N'
        simp only [List.push_toArray] at N'
        refine ⟨(sv ++ [.int ((kk : Int) + 256) _], sk + 1, wv ++ [.str M tm], wk + 1), _, _, _, _, rfl, by k_asm, by k_asm, by (((try dsimp only); k_extra "my:inl")), by (((try dsimp only); k_extra "my:inl")), by k_extra "my:names", ints_oneH Iss, ?_⟩
        show StrsAre (wv ++ [.str M tm]) (Rg.wt ++ [tagN kk])
        rw [← hMv]
        exact strsAre_snoc Iwt
      · refine ex_in hg ?_
        clear hg
        walk_at "g1"
        intro kk hg
        rw [hg] at hok
        exact hok.elim
    · rename StopIf => mk
      clear mk F' N' lD2 hMl hp2
      refine pr4 ?_
      ((refine gen_all7 (ne := ?gN_216) (P := ?gP_216) ((?gf_216 : ∀ a0 a1 a2 a3 a4 a5 a6, ?gP_216 a0 a1 a2 a3 a4 a5 a6) (gen7 ?gN_216 ?gP_216).1 (gen7 ?gN_216 ?gP_216).2.1 (gen7 ?gN_216 ?gP_216).2.2.1 (gen7 ?gN_216 ?gP_216).2.2.2.1 (gen7 ?gN_216 ?gP_216).2.2.2.2.1 (gen7 ?gN_216 ?gP_216).2.2.2.2.2.1 (gen7 ?gN_216 ?gP_216).2.2.2.2.2.2); (case gN_216 => k_extra "my:ne")))
      intros sv1 sk1 wv1 wk1 u1 h tk1
      rintro ⟨Iss1, Iwt1⟩ F' N'
      (try dsimp only at Iss1 Iwt1 N')
      simp only [kstB] at F'
      k_sweep
      (try dsimp only)
      k_extra "my:go"
      (with_unfolding_all refine wpAny_For ?_)
      k_extra "my:go"
      refine stop_out ?_
      rename (Fr _ L' _ _) => F'
      rename (News _ L' _ _) => N'
      refine KSpl.split1 F' N' (by decide) ?_ (by rw [sizeLine_eq]; omega)
      clear F' N'
      walk_at "g4"
      intros D3 l3 h' k3
      intro he hav3 F' N' lD3
      rw [he, hws] at hav3
      clear he
      have hyD3 : @LT.lt Nat _ D1 D3 := lt_in lD3 (show (D1, _) ∈ _ by k_extra "my:mem")
      refine ex_in (⟨_, rfl⟩ : ∃ v, v = strValues l3) ?_
      walk_at "g1"
      intro wvs hwvs
      rw [← hwvs] at N' hav3
      clear hwvs
      have hol9 : g9.2.length ≤ (gs.map (·.2.length)).sum := len_le_sum (List.mem_of_getElem? hgi)
      have hwvsl := strsAre_length hav3
      simp only [List.length_append, List.length_map, List.length_singleton] at hwvsl
      k_sweep
      k_extra "my:go"
      refine stop_out ?_
      rename (Fr _ L' _ _) => F'
      rename (News _ L' _ _) => N'
      refine kba_turn (value' := PySem.Expr.Name (Str.ofString "_") ⟨0, 0, 0, 0⟩) (fun _ => rfl) ?_
      refine slice_part (s := ⟨_, _, _, _, _⟩) F' N' (show (D3, listOf wvs.toArray 0) ∈ _ by k_extra "my:mem") (pick_init _ _) (by omega) ?_
      clear F' N'
      walk_at "g2"
      intros D4 h'
      intro F' N' lD4
      have hD34 : @LT.lt Nat _ D3 D4 := lt_in lD4 (show (D3, _) ∈ _ by k_extra "my:mem")
      have hav4 := strs_init hav3
      refine ex_in (⟨_, rfl⟩ : ∃ v, v = wvs.take (wvs.length - 1)) ?_
      walk_at "g1"
      intro wv4 hwv4
      rw [← hwv4] at N' hav4
      clear hwv4 hav3
      k_sweep
      k_extra "my:go"
      refine stop_out ?_
      rename (Fr _ L' _ _) => F'
      rename (News _ L' _ _) => N'
      refine ex_in (fr_names2H F' [("symbols", .ref ra), ("way", .ref wa), ("ways", .ref ya)] (by k_extra "my:names")) ?_
      walk_at "g1"
      intro u4 F2
      have hRT : RInv D1 (rTag Rg g9.1) ⟨sv1, sk1, wv1, wk1, yv, yk, pt⟩ := ⟨Iss1, Iwt1, by cases g9.1 <;> exact Iws, Ip1, Ity⟩
      refine forListK (σ := RC) (l := D4) (vs := wv4) (nn := 0) (fun c => (D4, listOf wv4.toArray 0) :: (D1, listOf pv1.toArray 0) :: (ya, listOf c.yv.toArray c.yk) :: (wa, listOf wv1.toArray wk1) :: (ra, listOf c.sv.toArray c.sk) :: (c.pt ++ news ++ own))
        (fun _ => [("symbols", .ref ra), ("way", .ref wa), ("ways", .ref ya)])
        (fun j c => c.wv = wv1 ∧ RInv D1 ((g9.2.take j).foldl rOp (rTag Rg g9.1)) c) (fun c => c.wv = wv1 ∧ RInv D1 (rGroup Rg g9) c) ⟨sv1, sk1, wv1, wk1, yv, yk, pt⟩ rfl rfl rfl (fun c => .head _) F2 (news_subH N' (by (((try dsimp only); k_extra "my:inl")))) (by k_extra "my:names") ⟨rfl, hRT⟩ ?_ ?_ ?_
      · clear F2 F' N' hRT Iss1 Iwt1 lD3 lD4 I9 Iss Iws Ip1 Ity hq1 hq2 hq3
        walk_at "g2"
        intros j v
        refine prRC ?_
        ((refine gen_all7 (ne := ?gN_218) (P := ?gP_218) ((?gf_218 : ∀ a0 a1 a2 a3 a4 a5 a6, ?gP_218 a0 a1 a2 a3 a4 a5 a6) (gen7 ?gN_218 ?gP_218).1 (gen7 ?gN_218 ?gP_218).2.1 (gen7 ?gN_218 ?gP_218).2.2.1 (gen7 ?gN_218 ?gP_218).2.2.2.1 (gen7 ?gN_218 ?gP_218).2.2.2.2.1 (gen7 ?gN_218 ?gP_218).2.2.2.2.2.1 (gen7 ?gN_218 ?gP_218).2.2.2.2.2.2); (case gN_218 => k_extra "my:ne")))
        intros sv2 sk2 wv2 wk2 yv2 yk2 pt2
        walk_at "g4"
        intros u5 h tk5 own5
        rintro hv5 hown5 ⟨hwvE, I5⟩ htk F' N'
        (try dsimp only at N' hwvE)
        subst hwvE
        simp only [List.cons_append] at N'
        simp only [kstB] at F'
        (try k_sweep)
        refine ex_in2 (strs_at hav4 hv5) ?_
        walk_at "g2"
        intros word tword
        rintro ⟨hvw, hwj⟩
        subst hvw
        refine ex_in (map_at hwj) ?_
        walk_at "g1"
        rintro ii ⟨hij, hword⟩
        have hii : ii < 48 := hil ii (List.mem_of_getElem? hij)
        have hwl9 : word.length ≤ 15 := by rw [hword]; exact esc_ops_len ii hii
        have hrep : repl3 word = ops.getD ii (Str.ofString "") := by rw [hword]; exact repl3_ops ii hii
        have hnj : (g9.2.take (j + 1)).foldl rOp (rTag Rg g9.1) = rOp ((g9.2.take j).foldl rOp (rTag Rg g9.1)) ii := by
          rw [List.take_add_one, hij, List.foldl_append]; rfl
        refine ex_in (⟨_, rfl⟩ : ∃ Rj, Rj = (g9.2.take j).foldl rOp (rTag Rg g9.1)) ?_
        walk_at "g1"
        intro Rj hRj
        rw [← hRj] at hnj I5
        have I59 := hid_in I5
        obtain ⟨Iss2, Iwt2, Iws2, Ip12, Ity2⟩ := I5
        (try dsimp only at Iss2 Iwt2 Iws2 Ip12 Ity2)
        have hrl := rTag_len Rg g9.1
        have hrj := rOps_wt (g9.2.take j) (rTag Rg g9.1)
        rw [← hRj] at hrj
        have hjl : (g9.2.take j).length ≤ g9.2.length := by simp only [List.length_take]; omega
        have hsv2 : sv2.length ≤ 200 := by have := Iss2.length; omega
        have hyv2 : yv2.length ≤ 200 := by have := Iws2.1; omega
        have hwv2 : wv2.length ≤ 200 := by have h9 := strsAre_length Iwt2; have h8 := congrArg List.length hrj.1; omega
        have hq1 : ∀ p ∈ pt2, p.1 ≠ ra := ne_gtH Ip12 (by omega)
        have hq2 : ∀ p ∈ pt2, p.1 ≠ wa := ne_gtH Ip12 (by omega)
        have hq3 : ∀ p ∈ pt2, p.1 ≠ ya := ne_gtH Ip12 (by omega)
        refine wpAny_execs_cons ?_
        (try dsimp only)
        k_extra "my:go"
        refine stop_out ?_
        refine replaceK (s := ⟨_, _, _, _, _⟩) (by show 1 ≤ _; omega) (by omega) (by omega) (by omega) (by decide +kernel) (by omega) (by decide +kernel) ?_
        walk_at "g2"
        intros t9 k9
        intro hk9
        have hls := repl_lens ii hii
        rw [← hword] at hls
        k_extra "my:go"
        refine stop_out ?_
        refine replaceK (s := ⟨_, _, _, _, _⟩) (by show 1 ≤ _; omega) (by omega) (by omega) (by omega) (by decide +kernel) (by omega) (by decide +kernel) ?_
        walk_at "g2"
        intros t10 k10
        intro hk10
        k_extra "my:go"
        refine stop_out ?_
        refine replaceK (s := ⟨_, _, _, _, _⟩) (by show 1 ≤ _; omega) (by omega) (by omega) (by omega) (by decide +kernel) (by omega) (by decide +kernel) ?_
        walk_at "g2"
        intros t11 k11
        intro hk11
        rw [show Txt.replace (Txt.replace (Txt.replace word (Str.ofString "&lt;") (Str.ofString "<")) (Str.ofString "&gt;") (Str.ofString ">")) (Str.ofString "&amp;") (Str.ofString "&") = ops.getD ii (Str.ofString "") from hrep]
        k_extra "my:go"
        refine stop_out ?_
        rename (Fr _ L' _ _) => F'
        rename (News _ L' _ _) => N'
        refine item_strTab ((tok_tab X').keep F'.keep) (tok_opsR ii hii) ?_
        walk_at "g1"
        intro v9 hv9
        refine ex_in (Flat.int_inv hv9) ?_
        walk_at "g1"
        intro t12 hv12
        subst hv12
        k_extra "my:go"
        rename_i D5 c5 _ l5 _ F5 N5
        simp only [List.push_toArray] at N5
        have hD5 : @LT.lt Nat _ D1 D5 := lt_in l5 (show (D1, _) ∈ _ by k_extra "my:mem")
        have hp1' : ∀ p ∈ (D5, listOf wv2.toArray c5) :: pt2, @LT.lt Nat _ D1 p.1 := by
          intro p hp
          rcases List.mem_cons.mp hp with rfl | hp
          · exact hD5
          · exact Ip12 p hp
        have hty' : ∀ p ∈ (D5, listOf wv2.toArray c5) :: pt2, p.2.cls = .type "list" := by
          intro p hp
          rcases List.mem_cons.mp hp with rfl | hp
          · rfl
          · exact Ity2 p hp
        refine' ⟨⟨sv2 ++ [.int ((ii : Int) + 7) t12], sk2 + 1, wv2, wk2, yv2 ++ [.ref D5], yk2 + 1, (D5, listOf wv2.toArray c5) :: pt2⟩, _, _, _, _, rfl, by k_asm, by k_asm, ?_, by (((try dsimp only); k_extra "my:inl")), by k_extra "my:names", ⟨rfl, ?_⟩, ?_⟩
        · simp only [List.cons_append]; (((try dsimp only); k_extra "my:inl"))
        · rw [hnj]
          exact ⟨ints_oneH Iss2, Iwt2, Iws2.snoc Iwt2, hp1', hty'⟩
        · exact led_cls3 (hd := [_, _, _, _, _]) (hd' := [_, _, _, _, _]) rfl hty'
      · refine prRC ?_
        ((refine gen_all7 (ne := ?gN_221) (P := ?gP_221) ((?gf_221 : ∀ a0 a1 a2 a3 a4 a5 a6, ?gP_221 a0 a1 a2 a3 a4 a5 a6) (gen7 ?gN_221 ?gP_221).1 (gen7 ?gN_221 ?gP_221).2.1 (gen7 ?gN_221 ?gP_221).2.2.1 (gen7 ?gN_221 ?gP_221).2.2.2.1 (gen7 ?gN_221 ?gP_221).2.2.2.2.1 (gen7 ?gN_221 ?gP_221).2.2.2.2.2.1 (gen7 ?gN_221 ?gP_221).2.2.2.2.2.2); (case gN_221 => k_extra "my:ne")))
        intros sv3 sk3 wv3 wk3 yv3 yk3 pt3
        walk_at "g3"
        intros u6 h tk6
        rintro ⟨hwvE, I3⟩ F' N'
        (try dsimp only at N' hwvE)
        subst hwvE
        simp only [kstB] at F'
        clear F2
        k_sweep
        (try dsimp only)
        k_extra "my:go"
        refine' ⟨⟨sv3, sk3, wv3, wk1, yv3, yk3, pt3⟩, _, _, _, _, rfl, by k_asm, by k_asm, by (((try dsimp only); k_extra "my:inl")), by (((try dsimp only); k_extra "my:inl")), by k_extra "my:names", ?_, ?_⟩
        · rw [hnext]
          exact ⟨I3.sy, I3.wt, I3.ws, I3.p1, I3.ty⟩
        · exact led_cls2 (hd := [_, _, _, _]) (hd' := [_, _, _, _]) rfl I3.ty
      · intro c I3
        have hll : wv4.length = g9.2.length := by have h9 := strsAre_length hav4; simpa using h9
        rw [hll, List.take_length] at I3
        exact I3
  · refine prRC ?_
    ((refine gen_all7 (ne := ?gN_224) (P := ?gP_224) ((?gf_224 : ∀ a0 a1 a2 a3 a4 a5 a6, ?gP_224 a0 a1 a2 a3 a4 a5 a6) (gen7 ?gN_224 ?gP_224).1 (gen7 ?gN_224 ?gP_224).2.1 (gen7 ?gN_224 ?gP_224).2.2.1 (gen7 ?gN_224 ?gP_224).2.2.2.1 (gen7 ?gN_224 ?gP_224).2.2.2.2.1 (gen7 ?gN_224 ?gP_224).2.2.2.2.2.1 (gen7 ?gN_224 ?gP_224).2.2.2.2.2.2); (case gN_224 => k_extra "my:ne")))
    intros sv wv_k wv wk yv yk pt
    walk_at "g3"
    intros u h tk
    intro I F' N'
    (try dsimp only at N' I)
    simp only [kstB] at F'
    clear F2
    k_sweep
    (try dsimp only)
    k_extra "my:go"
    rename_i T9 _ F9 N9 _
    refine' ⟨_, _, _, _, _, (T9, twoOfH ra ya) :: (ra, listOf sv.toArray wv_k) :: (ya, listOf yv.toArray yk) :: (pt ++ news), rfl, by k_asm, by k_asm, ?mm, T9, ra, ya, sv, wv_k, yv, yk, pt, rfl, I.sy, I.ws, fun q hq => ?_, rfl⟩
    case mm =>
      simp only [twoOfH]
      (((try dsimp only); k_extra "my:inl"))
    have h9 := lnr q hq
    refine ⟨h9, Nat.lt_trans h9 (by omega), fun p hp => ?_⟩
    have h8 := I.p1 p hp
    omega
  · intro c I
    rw [hpl1, hplen, List.take_length] at I
    exact I
end
theorem lay_44 : True := by
  k_with "off43" => skip
  exact True.intro
section
theorem tag_cost : ∀ i < 12, ∀ j < 12, subcost (Txt.upper (tagN j)) (tagN i) = (if i = j then 1 else 2) ∧ subcost (tagN i) (Txt.upper (tagN j)) = (if i = j then 1 else 2) ∧ tagN i ≠ Txt.upper (tagN j) := by decide +kernel
theorem tag_up : ∀ j < 12, (Txt.upper (tagN j)).length ≤ 4 ∧ PyData.strOk (Txt.upper (tagN j)) = true := by decide +kernel
/-- two ways down a tree: as numbers, alike in their first low places, else apart -/
structure WayPair (a b : List Nat) (low : Nat) : Prop where
  pos : 0 < low
  la : low ≤ a.length
  lb : low ≤ b.length
  a12 : ∀ x ∈ a, x < 12
  b12 : ∀ x ∈ b, x < 12
  eq : ∀ (i q x y : Nat), a[i]? = some x → b[q]? = some y → (x = y ↔ i = q ∧ q < low)
theorem ways_price {a b : List Nat} {low : Nat} (h : WayPair a b low) (h40 : a.length ≤ 40 ∧ b.length ≤ 40) (mx : Int) (hmx : dD low a.length b.length - 1 ≤ mx) :
    levD subcost (a.map tagN) (b.map fun k => Txt.upper (tagN k)) mx = dD low a.length b.length ∧ levD subcost (b.map fun k => Txt.upper (tagN k)) (a.map tagN) mx = dD low a.length b.length := by
  have hc : ∀ (i q : Nat) x y, (a.map tagN)[i]? = some x → (b.map fun k => Txt.upper (tagN k))[q]? = some y → (subcost y x = (if i = q ∧ q < low then 1 else 2) ∧ subcost x y = (if i = q ∧ q < low then 1 else 2)) := by
    intro i q x y hx hy
    rw [List.getElem?_map] at hx hy
    cases ea : a[i]? with
    | none => rw [ea] at hx; cases hx
    | some u =>
      cases eb : b[q]? with
      | none => rw [eb] at hy; cases hy
      | some v =>
        rw [ea] at hx
        rw [eb] at hy
        cases hx
        cases hy
        have hu := h.a12 u (List.mem_of_getElem? ea)
        have hv := h.b12 v (List.mem_of_getElem? eb)
        have ht := tag_cost u hu v hv
        have he := h.eq i q u v ea eb
        by_cases e : u = v
        · have e2 := he.mp e
          rw [if_pos e2, ht.1, ht.2.1, if_pos e]
          exact ⟨rfl, rfl⟩
        · have e2 : ¬ (i = q ∧ q < low) := fun z => e (he.mpr z)
          rw [if_neg e2, ht.1, ht.2.1, if_neg e]
          exact ⟨rfl, rfl⟩
  have hne : ∀ x ∈ a.map tagN, ∀ y ∈ b.map fun k => Txt.upper (tagN k), x ≠ y := by
    intro x hx y hy
    obtain ⟨u, hu, rfl⟩ := List.mem_map.mp hx
    obtain ⟨v, hv, rfl⟩ := List.mem_map.mp hy
    exact (tag_cost u (h.a12 u hu) v (h.b12 v hv)).2.2
  have hla := h.la
  have hlb := h.lb
  refine ⟨?_, ?_⟩
  · have := levD_ways subcost low h.pos (a.map tagN) (b.map fun k => Txt.upper (tagN k)) (by simpa using h.la) (by simpa using h.lb) (by simpa using h40) hne mx (fun i q x y hx hy => by
      have := hc i q x y hx hy
      exact ⟨this.1, by rw [this.1, this.2]⟩) (by simpa using hmx)
    simpa using this
  · have hcomm : dD low b.length a.length = dD low a.length b.length := by unfold dD; omega
    have := levD_ways subcost low h.pos (b.map fun k => Txt.upper (tagN k)) (a.map tagN) (by simpa using h.lb) (by simpa using h.la) (by simpa using ⟨h40.2, h40.1⟩) (fun x hx y hy e => hne y hy x hx e.symm) mx (fun i q x y hx hy => by
      have := hc q i y x hy hx
      refine ⟨?_, by rw [this.1, this.2]⟩
      rw [this.2]
      by_cases e : i = q
      · subst e; rfl
      · rw [if_neg (by omega), if_neg (by omega)]) (by simp only [List.length_map]; rw [hcomm]; exact hmx)
    simp only [List.length_map] at this
    rw [hcomm] at this
    exact this
end
section
/-- the signs' numbers of a row of texts -/
def cat (l : List Str) : List Nat := l.flatMap (·.cps.toList)
theorem cat_app (a b : List Str) : cat (a ++ b) = cat a ++ cat b := by simp [cat]
theorem cat_one (a : Str) : cat [a] = a.cps.toList := by simp [cat]
theorem cat_nil : cat [] = [] := rfl
def outA (A : AS) : List Nat := cat A.wr ++ (cat A.da).flatMap esc0
theorem cps_app (x y : Str) : (x ++ y).cps.toList = x.cps.toList ++ y.cps.toList := by
  show (x.cps ++ y.cps).toList = _
  simp
def begT (y : Str) : Str := Str.ofString "<" ++ y ++ Str.ofString ">"
def endT (y : Str) : Str := Str.ofString "</" ++ y ++ Str.ofString ">"
theorem outA_flush (A : AS) : outA (aFlush A) = outA A := by
  unfold aFlush
  split
  · rfl
  · unfold outA
    simp only [cat_app, cat_one, cat_nil, escT_cps, join_cps]
    simp [cat]
theorem outA_start {A : AS} {y : Str} : outA (aStart false A y) = outA A ++ (begT y).cps.toList := by
  have hf := (aFlush_dep A).2.2.2
  have ho := outA_flush A
  unfold outA at ho
  rw [hf, cat_nil, List.flatMap_nil, List.append_nil] at ho
  unfold aStart
  rw [if_neg (by simp)]
  unfold outA
  simp only [hf, cat_app, cat_one, cat_nil, List.flatMap_nil, List.append_nil, ho, begT, cps_app, List.append_assoc]
theorem outA_end {A : AS} {y : Str} (h : A.ig = 0) : outA (aEnd A y) = outA A ++ (endT y).cps.toList := by
  have hf := (aFlush_dep A).2.2.2
  have ho := outA_flush A
  unfold outA at ho
  rw [hf, cat_nil, List.flatMap_nil, List.append_nil] at ho
  unfold aEnd
  rw [if_neg (by omega)]
  unfold outA
  simp only [hf, cat_app, cat_one, cat_nil, List.flatMap_nil, List.append_nil, ho, endT, cps_app, List.append_assoc]
theorem outA_data {A : AS} {y : Str} (h : A.ig = 0) : outA (aData A y) = outA A ++ y.cps.toList.flatMap esc0 := by
  unfold aData
  rw [if_pos h]
  unfold outA
  simp only [cat_app, cat_one, List.flatMap_append, List.append_assoc]
theorem opw_esc (i : Nat) : (opw i).cps.toList.flatMap esc0 = (escT (ops.getD i (Str.ofString ""))).cps.toList ++ [32] := by
  unfold opw
  rw [cps_app, List.flatMap_append, ← escT_cps]
  rfl
/-- one group of the text, behind its «<»; the text -/
def wordsN (is : List Nat) : List Nat := is.flatMap fun i => (escT (ops.getD i (Str.ofString ""))).cps.toList ++ [32]
def partN (R : RS) (g : Sy × List Nat) : List Nat := (markOf R g.1).cps.toList ++ 62 :: wordsN g.2
def textN : RS → List (Sy × List Nat) → List Nat
  | _, [] => []
  | R, g :: gs => 60 :: partN R g ++ textN (rGroup R g) gs
theorem textN_snoc (g : Sy × List Nat) : ∀ (gs : List (Sy × List Nat)) (R : RS), textN R (gs ++ [g]) = textN R gs ++ 60 :: partN (gs.foldl rGroup R) g
  | [], R => by simp [textN]
  | a :: gs, R => by
    rw [List.cons_append, textN, textN_snoc g gs, textN, List.foldl_cons]
    simp
def MarkOk (m : Str) : Prop := m.length ≤ 10 ∧ 60 ∉ m.cps.toList ∧ 62 ∉ m.cps.toList
def GRun : RS → List (Sy × List Nat) → Prop
  | _, [] => True
  | R, g :: gs => GOk R g.1 ∧ MarkOk (markOf R g.1) ∧ (∀ i ∈ g.2, i < 48) ∧ GRun (rGroup R g) gs
theorem GRun_snoc (g : Sy × List Nat) : ∀ (gs : List (Sy × List Nat)) (R : RS), GRun R gs → GOk (gs.foldl rGroup R) g.1 → MarkOk (markOf (gs.foldl rGroup R) g.1) → (∀ i ∈ g.2, i < 48) → GRun R (gs ++ [g])
  | [], R, _, h1, h2, h3 => ⟨h1, h2, h3, trivial⟩
  | a :: gs, R, h, h1, h2, h3 => ⟨h.1, h.2.1, h.2.2.1, GRun_snoc g gs (rGroup R a) h.2.2.2 h1 h2 h3⟩
theorem rAll_snoc (gs : List (Sy × List Nat)) (g : Sy × List Nat) : rAll (gs ++ [g]) = rGroup (rAll gs) g := by
  unfold rAll
  rw [List.foldl_append]
  rfl
theorem rGroup_snoc (R : RS) (t : Sy) (is : List Nat) (i : Nat) : rGroup R (t, is ++ [i]) = rOp (rGroup R (t, is)) i := by
  unfold rGroup
  simp only [List.foldl_append]
  rfl
theorem wordsN_snoc (is : List Nat) (i : Nat) : wordsN (is ++ [i]) = wordsN is ++ ((escT (ops.getD i (Str.ofString ""))).cps.toList ++ [32]) := by
  unfold wordsN
  simp
def SmallSy : Sy → Prop
  | .en => True
  | .st k => k < 12
  | .op i => i < 48
def Tf (ss : List Sy) : TS := ss.foldl (tStep false tagN) TS0
theorem Tf_snoc (ss : List Sy) (s : Sy) : Tf (ss ++ [s]) = tStep false tagN (Tf ss) s := by
  unfold Tf
  rw [List.foldl_append]
  rfl
theorem run_snocN (s : Sy) : ∀ (ss : List Sy) (T : TS), RunOk false tagN T ss → SyOk (ss.foldl (tStep false tagN) T) s → RunOk false tagN T (ss ++ [s])
  | [], T, _, h => ⟨h, trivial⟩
  | z :: ss, T, ⟨h1, h2⟩, h => ⟨h1, run_snocN s ss _ h2 h⟩
theorem tagN_mark : ∀ k < 12, MarkOk (tagN k) ∧ MarkOk (Str.ofString "/" ++ tagN k) := by
  unfold MarkOk
  decide +kernel
theorem begT_cps (y : Str) : (begT y).cps.toList = 60 :: (y.cps.toList ++ [62]) := by
  unfold begT
  rw [cps_app, cps_app]
  rfl
theorem endT_cps (y : Str) : (endT y).cps.toList = 60 :: ((Str.ofString "/" ++ y).cps.toList ++ [62]) := by
  unfold endT
  rw [cps_app, cps_app, cps_app]
  rfl
/-- what has been told and what will be read of it, symbol by symbol: the way, the groups (the last one apart), the ways -/
structure TI (ss : List Sy) (wt : List Nat) (g0 : List (Sy × List Nat)) (t : Sy) (is : List Nat) (wn : List (List Nat)) : Prop where
  sm : ∀ s ∈ ss, SmallSy s
  run : RunOk false tagN TS0 ss
  wtE : (Tf ss).wt = wt.map tagN
  w12 : ∀ k ∈ wt, k < 12
  ig : (Tf ss).A.ig = 0
  rs : (Tf ss).A.rs = true
  out : outA (Tf ss).A = textN RS0 (g0 ++ [(t, is)])
  g0R : GRun RS0 g0
  gt : GOk (rAll g0) t ∧ MarkOk (markOf (rAll g0) t)
  gi : ∀ i ∈ is, i < 48
  rr : rAll (g0 ++ [(t, is)]) = ⟨ss.map Sy.code, wt.map tagN, wn.map (·.map tagN)⟩
  nl : (g0 ++ [(t, is)]).length + ((g0 ++ [(t, is)]).map (·.2.length)).sum = ss.length
theorem TI.zero : TI [.st 0] [0] [] (.st 0) [] [] := by
  refine ⟨?_, ⟨show 0 < 12 by decide, trivial⟩, rfl, by decide, rfl, rfl, by decide +kernel, trivial, ⟨show 0 < 12 by decide, (tagN_mark 0 (by decide)).1⟩, (fun _ h => nomatch h), rfl, rfl⟩
  intro s hs
  rw [List.mem_singleton.mp hs]
  exact (show 0 < 12 by decide)
theorem snoc_all {α : Type} {P : α → Prop} {l : List α} {a : α} (h : ∀ x ∈ l, P x) (ha : P a) : ∀ x ∈ l ++ [a], P x := by
  intro x hx
  rcases List.mem_append.mp hx with hx | hx
  · exact h x hx
  · rw [List.mem_singleton.mp hx]; exact ha
theorem TI.st {ss : List Sy} {wt : List Nat} {g0 : List (Sy × List Nat)} {t : Sy} {is : List Nat} {wn : List (List Nat)} (h : TI ss wt g0 t is wn) {k : Nat} (hk : k < 12) :
    TI (ss ++ [.st k]) (wt ++ [k]) (g0 ++ [(t, is)]) (.st k) [] wn := by
  have hf := aFlush_dep (Tf ss).A
  have hg := GRun_snoc (t, is) g0 RS0 h.g0R h.gt.1 h.gt.2 h.gi
  have hr : rAll (g0 ++ [(t, is)] ++ [(Sy.st k, [])]) = ⟨(ss ++ [Sy.st k]).map Sy.code, (wt ++ [k]).map tagN, wn.map (·.map tagN)⟩ := by
    rw [rAll_snoc, h.rr]
    simp only [rGroup, List.foldl_nil, rTag, List.map_append, List.map_cons, List.map_nil, Sy.code]
  have hA : (Tf (ss ++ [.st k])).A = aStart false (Tf ss).A (tagN k) := by rw [Tf_snoc]; rfl
  refine ⟨snoc_all h.sm hk, run_snocN _ _ _ h.run hk, ?_, snoc_all h.w12 hk, ?_, ?_, ?_, hg, ⟨hk, (tagN_mark k hk).1⟩, (fun _ h => nomatch h), hr, ?_⟩
  · rw [Tf_snoc]
    show (Tf ss).wt ++ [tagN k] = _
    rw [h.wtE, List.map_append]
    rfl
  · rw [hA]
    unfold aStart
    rw [if_neg (by simp)]
    exact hf.2.1.trans h.ig
  · rw [hA]
    unfold aStart
    rw [if_neg (by simp)]
  · rw [hA, outA_start, h.out, textN_snoc _ (g0 ++ [(t, is)]), begT_cps]
    rfl
  · have := h.nl
    simp only [List.length_append, List.map_append, List.sum_append, List.length_cons, List.length_nil, List.map_cons, List.map_nil, List.sum_cons, List.sum_nil] at this ⊢
    omega
theorem TI.en {ss : List Sy} {wt : List Nat} {g0 : List (Sy × List Nat)} {t : Sy} {is : List Nat} {wn : List (List Nat)} (h : TI ss wt g0 t is wn) (hw : wt ≠ []) :
    TI (ss ++ [.en]) wt.dropLast (g0 ++ [(t, is)]) .en [] wn := by
  have hf := aFlush_dep (Tf ss).A
  have hg := GRun_snoc (t, is) g0 RS0 h.g0R h.gt.1 h.gt.2 h.gi
  have hr : rAll (g0 ++ [(t, is)] ++ [(Sy.en, [])]) = ⟨(ss ++ [Sy.en]).map Sy.code, wt.dropLast.map tagN, wn.map (·.map tagN)⟩ := by
    rw [rAll_snoc, h.rr]
    simp only [rGroup, List.foldl_nil, rTag, List.map_append, List.map_cons, List.map_nil, Sy.code, List.map_dropLast]
  obtain ⟨p, z, hpz⟩ : ∃ p z, wt = p ++ [z] := ⟨_, _, (List.dropLast_concat_getLast hw).symm⟩
  have hlast : (wt.map tagN).getLastD (Str.ofString "") = tagN z := by rw [hpz]; simp
  have hz : z < 12 := h.w12 z (by rw [hpz]; simp)
  have hA : (Tf (ss ++ [.en])).A = aEnd (Tf ss).A (tagN z) := by
    rw [Tf_snoc]
    show aEnd (Tf ss).A ((Tf ss).wt.getLastD (Str.ofString "")) = _
    rw [h.wtE, hlast]
  have hm : markOf (rAll (g0 ++ [(t, is)])) .en = Str.ofString "/" ++ tagN z := by
    rw [h.rr]
    show Str.ofString "/" ++ (wt.map tagN).getLastD (Str.ofString "") = _
    rw [hlast]
  have hne : wt.map tagN ≠ [] := fun e => hw (List.map_eq_nil_iff.mp e)
  refine ⟨snoc_all h.sm trivial, run_snocN _ _ _ h.run ?_, ?_, fun x hx => h.w12 x (List.dropLast_subset _ hx), ?_, ?_, ?_, hg, ⟨?_, ?_⟩, (fun _ h => nomatch h), hr, ?_⟩
  · show (Tf ss).wt ≠ []
    rw [h.wtE]
    exact hne
  · rw [Tf_snoc]
    show (Tf ss).wt.dropLast = _
    rw [h.wtE, List.map_dropLast]
  · rw [hA]
    unfold aEnd
    rw [if_neg (by have := h.ig; omega)]
    exact hf.2.1.trans h.ig
  · rw [hA]
    unfold aEnd
    rw [if_neg (by have := h.ig; omega)]
    exact hf.2.2.1.trans h.rs
  · rw [hA, outA_end h.ig, h.out, textN_snoc _ (g0 ++ [(t, is)]), endT_cps]
    show _ = _ ++ 60 :: ((markOf (rAll (g0 ++ [(t, is)])) .en).cps.toList ++ 62 :: wordsN [])
    rw [hm]
    rfl
  · show (rAll (g0 ++ [(t, is)])).wt ≠ []
    rw [h.rr]
    exact hne
  · rw [hm]
    exact (tagN_mark z hz).2
  · have := h.nl
    simp only [List.length_append, List.map_append, List.sum_append, List.length_cons, List.length_nil, List.map_cons, List.map_nil, List.sum_cons, List.sum_nil] at this ⊢
    omega
theorem TI.op {ss : List Sy} {wt : List Nat} {g0 : List (Sy × List Nat)} {t : Sy} {is : List Nat} {wn : List (List Nat)} (h : TI ss wt g0 t is wn) {i : Nat} (hi : i < 48) :
    TI (ss ++ [.op i]) wt g0 t (is ++ [i]) (wn ++ [wt]) := by
  have hr : rAll (g0 ++ [(t, is ++ [i])]) = ⟨(ss ++ [Sy.op i]).map Sy.code, wt.map tagN, (wn ++ [wt]).map (·.map tagN)⟩ := by
    rw [rAll_snoc, rGroup_snoc, ← rAll_snoc, h.rr]
    simp only [rOp, List.map_append, List.map_cons, List.map_nil, Sy.code]
  have hA : (Tf (ss ++ [.op i])).A = aData (Tf ss).A (opw i) := by rw [Tf_snoc]; rfl
  refine ⟨snoc_all h.sm hi, run_snocN _ _ _ h.run ⟨hi, h.rs⟩, ?_, h.w12, ?_, ?_, ?_, h.g0R, h.gt, snoc_all h.gi hi, hr, ?_⟩
  · rw [Tf_snoc]
    exact h.wtE
  · rw [hA]
    unfold aData
    rw [if_pos h.ig]
    exact h.ig
  · rw [hA]
    unfold aData
    rw [if_pos h.ig]
    exact h.rs
  · rw [hA, outA_data h.ig, h.out, textN_snoc, textN_snoc, opw_esc]
    unfold partN
    rw [wordsN_snoc]
    simp
  · have := h.nl
    simp only [List.length_append, List.map_append, List.sum_append, List.length_cons, List.length_nil, List.map_cons, List.map_nil, List.sum_cons, List.sum_nil] at this ⊢
    omega
/-- the groups' texts -/
def partsOf : RS → List (Sy × List Nat) → List Str
  | _, [] => []
  | R, g :: gs => ⟨(partN R g).toArray⟩ :: partsOf (rGroup R g) gs
theorem text_parts : ∀ (gs : List (Sy × List Nat)) (R : RS), textN R gs = (partsOf R gs).flatMap fun q => 60 :: q.cps.toList
  | [], _ => rfl
  | g :: gs, R => by
    rw [textN, partsOf, List.flatMap_cons, text_parts gs]
theorem esc_ops_clean : ∀ i < 48, 60 ∉ (escT (ops.getD i (Str.ofString ""))).cps.toList ∧ 62 ∉ (escT (ops.getD i (Str.ofString ""))).cps.toList ∧ 32 ∉ (escT (ops.getD i (Str.ofString ""))).cps.toList := by decide +kernel
theorem wordsN_free {is : List Nat} (h : ∀ i ∈ is, i < 48) : 60 ∉ wordsN is ∧ 62 ∉ wordsN is ∧ (wordsN is).length ≤ 16 * is.length := by
  induction is with
  | nil => exact ⟨List.not_mem_nil, List.not_mem_nil, Nat.le_refl _⟩
  | cons i is ih =>
    obtain ⟨h1, h2, h3⟩ := ih fun j hj => h j (.tail _ hj)
    have hc := esc_ops_clean i (h i (.head _))
    have hl := esc_ops_len i (h i (.head _))
    have e : wordsN (i :: is) = (escT (ops.getD i (Str.ofString ""))).cps.toList ++ [32] ++ wordsN is := by unfold wordsN; rw [List.flatMap_cons]
    have e2 : (escT (ops.getD i (Str.ofString ""))).length = (escT (ops.getD i (Str.ofString ""))).cps.toList.length := by simp [Str.length]
    rw [e]
    refine ⟨?_, ?_, ?_⟩
    · simp only [List.mem_append, List.mem_singleton, not_or]
      exact ⟨⟨hc.1, by decide⟩, h1⟩
    · simp only [List.mem_append, List.mem_singleton, not_or]
      exact ⟨⟨hc.2.1, by decide⟩, h2⟩
    · simp only [List.length_append, List.length_cons, List.length_nil]
      omega
theorem words_split {is : List Nat} (h : ∀ i ∈ is, i < 48) : Txt.split ⟨(wordsN is).toArray⟩ (Str.ofString " ") = is.map (fun i => escT (ops.getD i (Str.ofString ""))) ++ [Str.ofString ""] := by
  rw [show Str.ofString " " = (⟨#[32]⟩ : Str) by decide +kernel]
  have hfree : ∀ q ∈ is.map (fun i => escT (ops.getD i (Str.ofString ""))) ++ [Str.ofString ""], 32 ∉ q.cps.toList := by
    intro q hq
    rcases List.mem_append.mp hq with hq | hq
    · obtain ⟨i, hi, rfl⟩ := List.mem_map.mp hq
      exact (esc_ops_clean i (h i hi)).2.2
    · rw [List.mem_singleton.mp hq]
      exact List.not_mem_nil
  have hw : ∀ (is : List Nat) (i : Nat), wordsN (i :: is) = (escT (ops.getD i (Str.ofString ""))).cps.toList ++ (is.map (fun i => escT (ops.getD i (Str.ofString ""))) ++ [Str.ofString ""]).flatMap fun q => 32 :: q.cps.toList := by
    intro is
    induction is with
    | nil =>
      intro i
      have e0 : (Str.ofString "").cps.toList = [] := rfl
      simp [wordsN, e0]
    | cons j is ih =>
      intro i
      have e : wordsN (i :: j :: is) = (escT (ops.getD i (Str.ofString ""))).cps.toList ++ [32] ++ wordsN (j :: is) := by unfold wordsN; rw [List.flatMap_cons]
      rw [e, ih j, List.map_cons, List.cons_append, List.flatMap_cons]
      simp
  cases is with
  | nil => exact split_at hfree rfl
  | cons i is =>
    refine split_at hfree ?_
    show wordsN (i :: is) = _
    exact hw is i
theorem part_ok {R : RS} {g : Sy × List Nat} (hm : MarkOk (markOf R g.1)) (hi : ∀ i ∈ g.2, i < 48) (hl : g.2.length ≤ 24) : Part2 ⟨(partN R g).toArray⟩ (markOf R g.1) g.2 ∧ 60 ∉ partN R g ∧ (partN R g).length ≤ 11 + 16 * g.2.length := by
  obtain ⟨m1, m2, m3⟩ := hm
  obtain ⟨w1, w2, w3⟩ := wordsN_free hi
  have e2 : (markOf R g.1).length = (markOf R g.1).cps.toList.length := by simp [Str.length]
  have hlen : (partN R g).length ≤ 11 + 16 * g.2.length := by
    unfold partN
    simp only [List.length_append, List.length_cons]
    omega
  refine ⟨⟨?_, m1, ⟨⟨(wordsN g.2).toArray⟩, ?_, words_split hi, ?_⟩, hi⟩, ?_, hlen⟩
  · show (partN R g).toArray.size ≤ 400
    simp only [List.size_toArray]
    omega
  · rw [show Str.ofString ">" = (⟨#[62]⟩ : Str) by decide +kernel]
    exact split_max1 (by decide) m3 rfl
  · show (wordsN g.2).toArray.size ≤ 400
    simp only [List.size_toArray]
    omega
  · unfold partN
    simp only [List.mem_append, List.mem_cons, not_or]
    exact ⟨m2, by decide, w1⟩
theorem run_of : ∀ (gs : List (Sy × List Nat)) (R : RS), GRun R gs → (∀ g ∈ gs, g.2.length ≤ 24) → RunG R gs (partsOf R gs) ∧ (∀ q ∈ partsOf R gs, 60 ∉ q.cps.toList) ∧ (textN R gs).length ≤ 12 * gs.length + 16 * (gs.map (·.2.length)).sum
  | [], _, _, _ => ⟨.nil, (fun _ h => nomatch h), Nat.zero_le _⟩
  | g :: gs, R, h, hl => by
    obtain ⟨h1, h2, h3, h4⟩ := h
    obtain ⟨p1, p2, p3⟩ := part_ok h2 h3 (hl g (.head _))
    obtain ⟨r1, r2, r3⟩ := run_of gs (rGroup R g) h4 fun z hz => hl z (.tail _ hz)
    refine ⟨.cons h1 p1 r1, ?_, ?_⟩
    · intro q hq
      rcases List.mem_cons.mp hq with rfl | hq
      · exact p2
      · exact r2 q hq
    · rw [textN]
      simp only [List.length_append, List.length_cons, List.map_cons, List.sum_cons]
      omega
theorem text_split {R : RS} {gs : List (Sy × List Nat)} (h : ∀ q ∈ partsOf R gs, 60 ∉ q.cps.toList) : Txt.split ⟨(textN R gs).toArray⟩ (Str.ofString "<") = Str.ofString "" :: partsOf R gs := by
  rw [show Str.ofString "<" = (⟨#[60]⟩ : Str) by decide +kernel]
  refine split_at ?_ ?_
  · intro q hq
    rcases List.mem_cons.mp hq with rfl | hq
    · exact List.not_mem_nil
    · exact h q hq
  · show textN R gs = _
    rw [text_parts]
    rfl
theorem sum_mem : ∀ {l : List Nat} {a : Nat}, a ∈ l → a ≤ l.sum
  | _ :: _, _, .head _ => by simp
  | b :: l, a, .tail _ h => by
    have := sum_mem h
    rw [List.sum_cons]
    omega
/-- all that is told, read again -/
structure TxR (ss : List Sy) (wn : List (List Nat)) (x : Str) (gs : List (Sy × List Nat)) (parts : List Str) : Prop where
  ok : TOk false tagN TS0 ss
  tx : Txt.join (Str.ofString "") (toldOf false tagN ss) = x
  xl : x.length ≤ 4000
  sp : Txt.split x (Str.ofString "<") = Str.ofString "" :: parts
  run : RunG RS0 gs parts
  gl : gs.length ≤ 30
  ol : (gs.map (·.2.length)).sum ≤ 30
  sy : (rAll gs).sy = ss.map Sy.code
  ws : (rAll gs).wss = wn.map (·.map tagN)
theorem TI.done {ss : List Sy} {wt : List Nat} {g0 : List (Sy × List Nat)} {t : Sy} {is : List Nat} {wn : List (List Nat)} (h : TI ss wt g0 t is wn) (hl : ss.length ≤ 24) (hd : (Tf ss).A.da = []) : ∃ x gs parts, TxR ss wn x gs parts := by
  have hg := GRun_snoc (t, is) g0 RS0 h.g0R h.gt.1 h.gt.2 h.gi
  have hnl := h.nl
  obtain ⟨gs, hgs⟩ : ∃ gs, gs = g0 ++ [(t, is)] := ⟨_, rfl⟩
  have hrr := h.rr
  have hout := h.out
  rw [← hgs] at hg hnl hrr hout
  have h24 : ∀ g ∈ gs, g.2.length ≤ 24 := fun g hm => by
    have := sum_mem (List.mem_map.mpr ⟨g, hm, rfl⟩ : g.2.length ∈ gs.map (·.2.length))
    omega
  obtain ⟨r1, r2, r3⟩ := run_of gs RS0 hg h24
  have htx : Txt.join (Str.ofString "") (toldOf false tagN ss) = ⟨(textN RS0 gs).toArray⟩ := by
    refine str_ext ?_
    rw [join_cps]
    unfold outA at hout
    rw [hd, cat_nil, List.flatMap_nil, List.append_nil] at hout
    exact hout
  refine ⟨_, gs, partsOf RS0 gs, ?_, htx, ?_, text_split r2, r1, by omega, by omega, by rw [hrr], by rw [hrr]⟩
  · exact ⟨rfl, fun y hy => (nomatch hy), by show 0 + 3 * ss.length ≤ 900; omega, by show 0 + ss.length ≤ 24; omega, fun y hy => (nomatch hy), by show 0 + ss.length ≤ 400; omega, by show 0 + ss.length ≤ 400; omega, fun h => absurd rfl h, fun y hy => (nomatch hy), h.run⟩
  · show (textN RS0 gs).toArray.size ≤ 4000
    simp only [List.size_toArray]
    omega
/-- the octets read as the symbols -/
theorem pvGo_app (l2 : List Int) : ∀ (l : List Int) (val b V : Int) (r : List Int), pvGo val b l = some (V, r) → pvGo val b (l ++ l2) = some (V, r ++ l2)
  | [], val, b, V, r, h => by
    simp only [pvGo] at h
    split at h
    · cases h
    · rename_i hb
      cases h
      cases l2 with
      | nil => simp [pvGo, hb]
      | cons c l2 => simp [pvGo, hb]
  | c :: l, val, b, V, r, h => by
    simp only [List.cons_append, pvGo] at h ⊢
    split at h
    · rename_i hb
      rw [if_pos hb]; exact pvGo_app l2 l _ _ _ _ h
    · rename_i hb
      rw [if_neg hb]; cases h; rfl
theorem Codes.app {l2 : List Int} {s2 : List Sy} (h2 : Codes l2 s2) : ∀ {l1 : List Int} {s1 : List Sy}, Codes l1 s1 → Codes (l1 ++ l2) (s1 ++ s2) := by
  intro l1 s1 h1
  induction h1 with
  | nil => exact h2
  | cons h t ih => exact .cons (pvGo_app l2 _ _ _ _ _ h) ih
theorem codes_low {n q : Int} {s : Sy} (hs : s.code = n) (h0 : 0 ≤ n) (h1 : n < 64) (hq : q = 0 ∨ q = 1) : Codes [n + 128 * q] [s] := by
  refine .cons (r := []) ?_ .nil
  simp only [pvGo]
  rw [if_neg (by omega), hs]
  congr 2
  omega
theorem codes_high {k : Nat} {q q' : Int} (hk : k < 12) (hq : q = 0 ∨ q = 1) (hq' : q' = 0 ∨ q' = 1) : Codes [68 + 128 * q, (k : Int) + 128 * q'] [.st k] := by
  refine .cons (r := []) ?_ .nil
  simp only [pvGo]
  rw [if_pos (by omega), if_neg (by omega)]
  simp only [Sy.code]
  congr 2
  omega
theorem octs2_snoc (os : List Int) (a side : Int) : octs2 (os ++ [a]) side = octs2 os side ++ [a + 128 * (((os.length : Int) + side) % 2)] := by
  have h : (os ++ [a])[os.length]? = some a := List.getElem?_concat_length
  have h1 := octs2_take (side := side) h
  have h2 : (octs2 (os ++ [a]) side).take os.length = octs2 os side := by
    unfold octs2
    rw [← List.map_take, List.length_append, List.length_singleton, List.take_range, Nat.min_eq_left (by omega)]
    refine List.map_congr_left fun k hk => ?_
    have hk : k < os.length := List.mem_range.mp hk
    rw [List.getD_eq_getElem?_getD, List.getElem?_append_left hk, ← List.getD_eq_getElem?_getD]
  have h3 : (octs2 (os ++ [a]) side).length = os.length + 1 := by simp [octs2]
  rw [h2, List.take_of_length_le (by omega)] at h1
  exact h1
theorem par2 (a b : Int) : (a + b) % 2 = 0 ∨ (a + b) % 2 = 1 := by omega
theorem codes_one {os : List Int} {ss : List Sy} {side : Int} (h : Codes (octs2 os side) ss) {s : Sy} (hs : SmallSy s) : Codes (octs2 (os ++ rawOne s.code) side) (ss ++ [s]) := by
  cases s with
  | en =>
    show Codes (octs2 (os ++ [0]) side) _
    rw [octs2_snoc]
    exact Codes.app (codes_low (n := 0) (s := .en) rfl (by decide) (by decide) (par2 _ _)) h
  | st k =>
    have hk : k < 12 := hs
    have e : rawOne (Sy.st k).code = [68, (k : Int)] := by
      unfold rawOne
      rw [if_pos (by simp only [Sy.code]; omega)]
      simp only [Sy.code]
      rw [show (64 : Int) + ((k : Int) + 256) / 64 = 68 by omega, show ((k : Int) + 256) % 64 = k by omega]
    rw [e, show os ++ [68, (k : Int)] = (os ++ [68]) ++ [(k : Int)] by simp, octs2_snoc, octs2_snoc, List.append_assoc]
    exact Codes.app (codes_high hk (par2 _ _) (par2 _ _)) h
  | op i =>
    have hi : i < 48 := hs
    have e : rawOne (Sy.op i).code = [(i : Int) + 7] := by
      unfold rawOne
      rw [if_neg (by simp only [Sy.code]; omega)]
      simp only [Sy.code]
      rw [show ((i : Int) + 7) % 64 = (i : Int) + 7 by omega]
    rw [e, octs2_snoc]
    exact Codes.app (codes_low (n := (i : Int) + 7) (s := .op i) rfl (by omega) (by omega) (par2 _ _)) h
theorem codes_all (side : Int) : ∀ (more ss : List Sy) (os : List Int), Codes (octs2 os side) ss → (∀ s ∈ more, SmallSy s) → Codes (octs2 (os ++ rawOcts (more.map Sy.code)) side) (ss ++ more)
  | [], ss, os, h, _ => by simpa [rawOcts] using h
  | s :: more, ss, os, h, hs => by
    have := codes_all side more (ss ++ [s]) (os ++ rawOne s.code) (codes_one h (hs s (.head _))) fun z hz => hs z (.tail _ hz)
    have e : rawOcts ((s :: more).map Sy.code) = rawOne s.code ++ rawOcts (more.map Sy.code) := by unfold rawOcts; rw [List.map_cons, List.flatMap_cons]
    rw [e]
    simpa using this
theorem codes_syms {ss : List Sy} (side : Int) (h : ∀ s ∈ ss, SmallSy s) : Codes (octs2 (rawOcts (ss.map Sy.code)) side) ss := by
  have := codes_all side ss [] [] .nil h
  simpa using this
theorem raw_range : ∀ {ns : List Int}, (∀ n ∈ ns, 0 ≤ n ∧ n < 300) → ∀ n ∈ rawOcts ns, 0 ≤ n ∧ n < 128
  | ns, h, n, hn => by
    unfold rawOcts at hn
    obtain ⟨m, hm, hn⟩ := List.mem_flatMap.mp hn
    have hr := h m hm
    unfold rawOne at hn
    split at hn
    · simp only [List.mem_cons, List.not_mem_nil, or_false] at hn
      omega
    · rw [List.mem_singleton.mp hn]
      omega
theorem octs2_range {os : List Int} (h : ∀ n ∈ os, 0 ≤ n ∧ n < 128) (side : Int) (j : Nat) (n : Int) (e : (octs2 os side)[j]? = some n) : 0 ≤ n ∧ n < 256 := by
  have hm := List.mem_of_getElem? e
  unfold octs2 at hm
  obtain ⟨k, hk, rfl⟩ := List.mem_map.mp hm
  have hk : k < os.length := List.mem_range.mp hk
  have := h (os.getD k 0) (by rw [List.getD_eq_getElem?_getD, List.getElem?_eq_getElem hk]; exact List.getElem_mem _)
  omega
end
section
/-- two ways, alike in their first low places and nowhere else -/
structure Alike (a b : List Nat) (low : Nat) : Prop where
  la : low ≤ a.length
  lb : low ≤ b.length
  eq : ∀ (i q x y : Nat), a[i]? = some x → b[q]? = some y → (x = y ↔ i = q ∧ q < low)
theorem Alike.push {a b : List Nat} {low k : Nat} (h : Alike a b low) (hk : k ∉ a) : Alike a (b ++ [k]) low := by
  refine ⟨h.la, by have := h.lb; simp only [List.length_append]; omega, fun i q x y hx hy => ?_⟩
  by_cases hq : q < b.length
  · rw [List.getElem?_append_left hq] at hy
    exact h.eq i q x y hx hy
  · have hq2 : q = b.length := by
      have := (List.getElem?_eq_some_iff.mp hy).1
      simp only [List.length_append, List.length_singleton] at this
      omega
    subst hq2
    rw [List.getElem?_concat_length] at hy
    cases hy
    have := h.lb
    exact ⟨fun e => absurd (e ▸ List.mem_of_getElem? hx) hk, fun e => by omega⟩
theorem Alike.pop {a b : List Nat} {low : Nat} (h : Alike a b low) : Alike a b.dropLast (min low (b.length - 1)) := by
  have hd : b.dropLast.length = b.length - 1 := List.length_dropLast
  refine ⟨by have := h.la; omega, by omega, fun i q x y hx hy => ?_⟩
  have hq := (List.getElem?_eq_some_iff.mp hy).1
  have hy2 : b[q]? = some y := by
    rw [List.dropLast_eq_take, List.getElem?_take_of_lt (by omega)] at hy
    exact hy
  have := h.eq i q x y hx hy2
  omega
theorem Alike.self {a : List Nat} (h : ∀ (i q x : Nat), a[i]? = some x → a[q]? = some x → i = q) : Alike a a a.length :=
  ⟨Nat.le_refl _, Nat.le_refl _, fun i q x y hx hy => ⟨fun e => ⟨h i q x hx (e ▸ hy), (List.getElem?_eq_some_iff.mp hy).1⟩, fun e => by rw [e.1] at hx; exact Option.some.inj (hx.symm.trans hy)⟩⟩
/-- the running least height from the first operator on -/
def lst (hs : List (Int × Int)) : Nat → Int
  | 0 => (hs.getD 0 (0, 0)).2
  | k + 1 => min (lst hs k) (hs.getD (k + 1) (0, 0)).1
theorem getD_app {hs : List (Int × Int)} {p d : Int × Int} {k : Nat} (h : k < hs.length) : (hs ++ [p]).getD k d = hs.getD k d := by
  rw [List.getD_eq_getElem?_getD, List.getElem?_append_left h, ← List.getD_eq_getElem?_getD]
theorem getD_last {hs : List (Int × Int)} {p d : Int × Int} {k : Nat} (h : k = hs.length) : (hs ++ [p]).getD k d = p := by
  rw [h, List.getD_eq_getElem?_getD, List.getElem?_concat_length]
  rfl
theorem lst_app {hs : List (Int × Int)} {p : Int × Int} : ∀ {k : Nat}, k < hs.length → lst (hs ++ [p]) k = lst hs k
  | 0, h => by unfold lst; rw [getD_app h]
  | k + 1, h => by
    unfold lst
    rw [getD_app h, lst_app (k := k) (by omega)]
theorem lst_last {hs : List (Int × Int)} {p : Int × Int} {k : Nat} (h : k + 1 = hs.length) : lst (hs ++ [p]) (k + 1) = min (lst hs k) p.1 := by
  rw [lst, lst_app (by omega), getD_last h]
/-- heights and ways -/
structure HI (S : H2) (wt : List Nat) (wn : List (List Nat)) (m : Nat) : Prop where
  ht : S.ht = wt.length
  pos : 0 < wt.length
  wm : wt.length ≤ 1 + m
  m10 : m ≤ 10
  fr : 257 ≤ S.fr ∧ S.fr ≤ 257 + m
  wf : ∀ k ∈ wt, (k : Int) + 256 < S.fr
  nf : ∀ w ∈ wn, w.length ≤ 11 ∧ ∀ k ∈ w, (k : Int) + 256 < S.fr
  inj : ∀ (i q x : Nat), wt[i]? = some x → wt[q]? = some x → i = q
  lo : 1 ≤ S.lo ∧ S.lo ≤ S.ht
  hl : wn.length = S.hs.length
  wk : ∀ (k : Nat) w p, wn[k]? = some w → S.hs[k]? = some p → (w.length : Int) = p.2 ∧ 1 ≤ p.1 ∧ p.1 ≤ p.2
  last : ∀ (k : Nat) a, k + 1 = wn.length → wn[k]? = some a → Alike a wt S.lo.toNat
  first : ∀ (k : Nat) z, k + 1 = wn.length → wn[0]? = some z → 1 ≤ lst S.hs k ∧ Alike z wt (min (lst S.hs k) S.lo).toNat
  pr : ∀ (k : Nat) a z b p, wn[k]? = some a → wn[0]? = some z → wn[k + 1]? = some b → S.hs[k + 1]? = some p → Alike a b p.1.toNat ∧ Alike z b (lst S.hs (k + 1)).toNat ∧ 1 ≤ lst S.hs (k + 1)
theorem HI.zero : HI H0 [0] [] 0 := by
  refine ⟨rfl, by decide, by decide, by decide, ⟨by decide, by decide⟩, by decide, (fun _ h => nomatch h), ?_, ⟨by decide, by decide⟩, rfl, fun k w p h => by simp at h, fun k a h => by simp at h, fun k z h => by simp at h, fun k a z b p h => by simp at h⟩
  intro i q x h1 h2
  have a1 := (List.getElem?_eq_some_iff.mp h1).1
  have a2 := (List.getElem?_eq_some_iff.mp h2).1
  simp only [List.length_singleton] at a1 a2
  omega
theorem HI.mono {S : H2} {wt : List Nat} {wn : List (List Nat)} {m m' : Nat} (h : HI S wt wn m) (h1 : m ≤ m') (h2 : m' ≤ 10) : HI S wt wn m' :=
  ⟨h.ht, h.pos, by have := h.wm; omega, h2, by have := h.fr; omega, h.wf, h.nf, h.inj, h.lo, h.hl, h.wk, h.last, h.first, h.pr⟩
theorem HI.push {S : H2} {wt : List Nat} {wn : List (List Nat)} {m k : Nat} (h : HI S wt wn m) (hk : (k : Int) + 256 = S.fr) (hm : m + 1 ≤ 10) (x : Int) : HI ⟨S.ss ++ [x], S.hs, S.fr + 1, S.ht + 1, S.lo⟩ (wt ++ [k]) wn (m + 1) := by
  have hfresh : ∀ w ∈ wn, k ∉ w := fun w hw hkw => by
    have := (h.nf w hw).2 k hkw
    omega
  have h3 := h.fr
  have h0 := h.wm
  refine ⟨?_, by simp, ?_, hm, ?_, ?_, ?_, ?_, ?_, h.hl, h.wk, ?_, ?_, h.pr⟩
  · have := h.ht
    simp only [List.length_append, List.length_singleton]
    omega
  · simp only [List.length_append, List.length_singleton]
    omega
  · simp only []
    omega
  · intro j hj
    rcases List.mem_append.mp hj with hj | hj
    · have := h.wf j hj
      simp only []
      omega
    · rw [List.mem_singleton.mp hj]
      simp only []
      omega
  · intro w hw
    refine ⟨(h.nf w hw).1, fun j hj => ?_⟩
    have := (h.nf w hw).2 j hj
    simp only []
    omega
  · intro i q y h1 h2
    by_cases hi : i < wt.length
    · rw [List.getElem?_append_left hi] at h1
      by_cases hq : q < wt.length
      · rw [List.getElem?_append_left hq] at h2
        exact h.inj i q y h1 h2
      · have hq2 : q = wt.length := by
          have := (List.getElem?_eq_some_iff.mp h2).1
          simp only [List.length_append, List.length_singleton] at this
          omega
        subst hq2
        rw [List.getElem?_concat_length] at h2
        cases h2
        have := h.wf _ (List.mem_of_getElem? h1)
        omega
    · have hi2 : i = wt.length := by
        have := (List.getElem?_eq_some_iff.mp h1).1
        simp only [List.length_append, List.length_singleton] at this
        omega
      subst hi2
      rw [List.getElem?_concat_length] at h1
      cases h1
      by_cases hq : q < wt.length
      · rw [List.getElem?_append_left hq] at h2
        have := h.wf _ (List.mem_of_getElem? h2)
        omega
      · have := (List.getElem?_eq_some_iff.mp h2).1
        simp only [List.length_append, List.length_singleton] at this
        omega
  · have := h.lo
    simp only []
    omega
  · intro j a hj ha
    exact (h.last j a hj ha).push (hfresh a (List.mem_of_getElem? ha))
  · intro j z hj hz
    exact ⟨(h.first j z hj hz).1, (h.first j z hj hz).2.push (hfresh z (List.mem_of_getElem? hz))⟩
theorem Alike.cast {a b : List Nat} {l l' : Nat} (h : Alike a b l) (e : l = l') : Alike a b l' := e ▸ h
theorem toNat_min1 (a : Int) {n : Nat} {t : Int} (ht : t = n) (hn : 0 < n) : min a.toNat (n - 1) = (min a (t - 1)).toNat := by
  rcases Int.le_total a (t - 1) with q | q
  · rw [Int.min_eq_left q, Nat.min_eq_left (by omega)]
  · rw [Int.min_eq_right q, Nat.min_eq_right (by omega)]
    omega
theorem pop_lo {lo ht : Int} (h : 1 ≤ lo ∧ lo ≤ ht) (h1 : 1 < ht) : 1 ≤ min lo (ht - 1) ∧ min lo (ht - 1) ≤ ht - 1 :=
  ⟨Int.le_min.mpr ⟨h.1, by omega⟩, Int.min_le_right _ _⟩
theorem HI.pop {S : H2} {wt : List Nat} {wn : List (List Nat)} {m : Nat} (h : HI S wt wn m) (hh : 1 < S.ht) (x : Int) : HI ⟨S.ss ++ [x], S.hs, S.fr, S.ht - 1, min S.lo (S.ht - 1)⟩ wt.dropLast wn m := by
  have hd : wt.dropLast.length = wt.length - 1 := List.length_dropLast
  have h0 := h.ht
  have h1 := h.wm
  have hlo := h.lo
  have hget : ∀ (i y : Nat), wt.dropLast[i]? = some y → wt[i]? = some y := by
    intro i y hy
    have hq := (List.getElem?_eq_some_iff.mp hy).1
    rw [List.dropLast_eq_take, List.getElem?_take_of_lt (by omega)] at hy
    exact hy
  refine ⟨?_, by omega, by omega, h.m10, h.fr, fun k hk => h.wf k (List.dropLast_subset _ hk), h.nf, fun i q y a b => h.inj i q y (hget i y a) (hget q y b), ?_, h.hl, h.wk, ?_, ?_, h.pr⟩
  · simp only []
    omega
  · exact pop_lo hlo hh
  · intro j a hj ha
    exact (h.last j a hj ha).pop.cast (toNat_min1 _ h0 h.pos)
  · intro j z hj hz
    obtain ⟨g1, g2⟩ := h.first j z hj hz
    exact ⟨g1, g2.pop.cast ((toNat_min1 _ h0 h.pos).trans (by rw [Int.min_assoc]))⟩
theorem HI.op {S : H2} {wt : List Nat} {wn : List (List Nat)} {m : Nat} (h : HI S wt wn m) (x : Int) : HI ⟨S.ss ++ [x], S.hs ++ [(S.lo, S.ht)], S.fr, S.ht, S.ht⟩ wt (wn ++ [wt]) m := by
  have h0 := h.ht
  have h1 := h.wm
  have h2 := h.m10
  have hlo := h.lo
  have hl := h.hl
  have hp := h.pos
  have hself := Alike.self h.inj
  refine ⟨h0, hp, h1, h2, h.fr, h.wf, ?_, h.inj, ?_, by simp [hl], ?_, ?_, ?_, ?_⟩
  · intro w hw
    rcases List.mem_append.mp hw with hw | hw
    · exact h.nf w hw
    · rw [List.mem_singleton.mp hw]
      exact ⟨by omega, h.wf⟩
  · simp only []
    omega
  · intro k w p hw hp
    simp only [] at hp
    by_cases hk : k < wn.length
    · rw [List.getElem?_append_left hk] at hw
      rw [List.getElem?_append_left (by omega)] at hp
      exact h.wk k w p hw hp
    · have hk2 : k = wn.length := by
        have := (List.getElem?_eq_some_iff.mp hw).1
        simp only [List.length_append, List.length_singleton] at this
        omega
      rw [hk2, List.getElem?_concat_length] at hw
      rw [hk2, hl, List.getElem?_concat_length] at hp
      cases hw
      cases hp
      simp only []
      omega
  · intro k a hk ha
    simp only [List.length_append, List.length_singleton] at hk
    rw [show k = wn.length by omega, List.getElem?_concat_length] at ha
    cases ha
    refine hself.cast ?_
    simp only []
    omega
  · intro k z hk hz
    simp only [List.length_append, List.length_singleton] at hk
    cases k with
    | zero =>
      have hn : wn = [] := List.length_eq_zero_iff.mp (by omega)
      have hs : S.hs = [] := List.length_eq_zero_iff.mp (by omega)
      rw [hn] at hz
      have hz2 : wt = z := by simpa using hz
      subst hz2
      simp only [hs, List.nil_append, lst, List.getD_cons_zero]
      exact ⟨by omega, hself.cast (by omega)⟩
    | succ j =>
      rw [List.getElem?_append_left (by omega)] at hz
      obtain ⟨g1, g2⟩ := h.first j z (by omega) hz
      simp only []
      rw [lst_last (by omega)]
      simp only []
      exact ⟨by omega, g2.cast (by omega)⟩
  · intro k a z b p ha hz hb hp2
    simp only [] at hp2
    have hk := (List.getElem?_eq_some_iff.mp hb).1
    simp only [List.length_append, List.length_singleton] at hk
    rw [List.getElem?_append_left (by omega)] at ha hz
    by_cases hk1 : k + 1 < wn.length
    · rw [List.getElem?_append_left hk1] at hb
      rw [List.getElem?_append_left (by omega)] at hp2
      simp only []
      rw [lst_app (by omega)]
      exact h.pr k a z b p ha hz hb hp2
    · have hk2 : k + 1 = wn.length := by omega
      rw [hk2, List.getElem?_concat_length] at hb
      rw [hk2, hl, List.getElem?_concat_length] at hp2
      cases hb
      cases hp2
      obtain ⟨g1, g2⟩ := h.first k z hk2 hz
      simp only []
      rw [lst_last (by omega)]
      exact ⟨h.last k a hk2 ha, g2, by simp only []; omega⟩
def ZI (S : H2) (n m c : Nat) : Prop := ∃ ss wt g0 t is wn, TI ss wt g0 t is wn ∧ HI S wt wn m ∧ S.ss = ss.map Sy.code ∧ ss.length = n ∧ c ≤ wn.length
theorem ZI.push {S : H2} {n m c : Nat} (h : ZI S n m c) (hm : m + 1 ≤ 10) {x : Int} (hx : x % 3 = 0) : ZI (hStep S x) (n + 1) (m + 1) c := by
  obtain ⟨ss, wt, g0, t, is, wn, h1, h2, h3, h4, h5⟩ := h
  have hf := h2.fr
  obtain ⟨k, hk⟩ : ∃ k : Nat, (k : Int) + 256 = S.fr := ⟨(S.fr - 256).toNat, by omega⟩
  refine ⟨_, _, _, _, _, _, h1.st (k := k) (by omega), ?_, ?_, by simp [h4], h5⟩
  · unfold hStep
    rw [if_pos hx]
    exact h2.push hk hm _
  · unfold hStep
    rw [if_pos hx]
    simp only [List.map_append, List.map_cons, List.map_nil, Sy.code, h3, hk]
theorem ZI.pop {S : H2} {n m c : Nat} (h : ZI S n m c) {x : Int} (hx : ¬ x % 3 = 0) (hy : x % 3 = 1 ∧ 1 < S.ht) : ZI (hStep S x) (n + 1) m c := by
  obtain ⟨ss, wt, g0, t, is, wn, h1, h2, h3, h4, h5⟩ := h
  have hp := h2.pos
  refine ⟨_, _, _, _, _, _, h1.en (by rw [← List.length_pos_iff]; exact hp), ?_, ?_, by simp [h4], h5⟩
  · unfold hStep
    rw [if_neg hx, if_pos hy]
    exact h2.pop hy.2 _
  · unfold hStep
    rw [if_neg hx, if_pos hy]
    simp only [List.map_append, List.map_cons, List.map_nil, Sy.code, h3]
theorem ZI.op {S : H2} {n m c : Nat} (h : ZI S n m c) {x : Int} (hx : ¬ x % 3 = 0) (hy : ¬ (x % 3 = 1 ∧ 1 < S.ht)) : ZI (hStep S x) (n + 1) m (c + 1) := by
  obtain ⟨ss, wt, g0, t, is, wn, h1, h2, h3, h4, h5⟩ := h
  refine ⟨_, _, _, _, _, _, h1.op (i := (x / 3 % 48).toNat) (by omega), ?_, ?_, by simp [h4], by simpa using h5⟩
  · unfold hStep
    rw [if_neg hx, if_neg hy]
    exact h2.op _
  · unfold hStep
    rw [if_neg hx, if_neg hy]
    simp only [List.map_append, List.map_cons, List.map_nil, Sy.code, h3]
    rw [show (((x / 3 % 48).toNat : Nat) : Int) + 7 = 7 + x / 3 % 48 by omega]
theorem ZI.weak {S : H2} {n m m' c c' : Nat} (h : ZI S n m c) (h1 : m ≤ m') (h2 : m' ≤ 10) (h3 : c' ≤ c) : ZI S n m' c' := by
  obtain ⟨ss, wt, g0, t, is, wn, a1, a2, a3, a4, a5⟩ := h
  exact ⟨ss, wt, g0, t, is, wn, a1, a2.mono h1 h2, a3, a4, by omega⟩
theorem ZI.step {S : H2} {n m c : Nat} (h : ZI S n m c) (hm : m + 1 ≤ 10) (x : Int) : ZI (hStep S x) (n + 1) (m + 1) c := by
  by_cases hx : x % 3 = 0
  · exact h.push hm hx
  · by_cases hy : x % 3 = 1 ∧ 1 < S.ht
    · exact (h.pop hx hy).weak (by omega) hm (Nat.le_refl _)
    · exact (h.op hx hy).weak (by omega) hm (by omega)
theorem ZI.fold : ∀ (l : List Int) {S : H2} {n m c : Nat}, ZI S n m c → m + l.length ≤ 10 → ZI (l.foldl hStep S) (n + l.length) (m + l.length) c
  | [], _, _, _, _, h, _ => h
  | x :: l, S, n, m, c, h, hm => by
    simp only [List.length_cons] at hm
    have := ZI.fold l (h.step (by omega) x) (by omega)
    rw [List.foldl_cons, List.length_cons, show n + (l.length + 1) = n + 1 + l.length by omega, show m + (l.length + 1) = m + 1 + l.length by omega]
    exact this
theorem ZI.four : ZI ([0, 38, 0, 62].foldl hStep H0) 5 2 2 := by
  have h0 : ZI H0 1 0 0 := ⟨_, _, _, _, _, _, TI.zero, HI.zero, rfl, rfl, Nat.le_refl _⟩
  exact (((h0.push (by decide) (x := 0) (by decide)).op (x := 38) (by decide) (by decide)).push (by decide) (x := 0) (by decide)).op (x := 62) (by decide) (by decide)
theorem TI.close {wn : List (List Nat)} : ∀ (n : Nat) {ss : List Sy} {wt : List Nat} {g0 : List (Sy × List Nat)} {t : Sy} {is : List Nat}, TI ss wt g0 t is wn → n + 1 ≤ wt.length → ∃ wt' g0' t' is', TI (ss ++ List.replicate (n + 1) Sy.en) wt' g0' t' is' wn ∧ (Tf (ss ++ List.replicate (n + 1) Sy.en)).A.da = []
  | 0, ss, wt, g0, t, is, h, hn => by
    have h1 := h.en (by rw [← List.length_pos_iff]; omega)
    refine ⟨_, _, _, _, h1, ?_⟩
    show (Tf (ss ++ [.en])).A.da = []
    rw [Tf_snoc]
    show (aEnd (Tf ss).A _).da = []
    unfold aEnd
    rw [if_neg (by have := h.ig; omega)]
    exact (aFlush_dep _).2.2.2
  | n + 1, ss, wt, g0, t, is, h, hn => by
    have h1 := h.en (by rw [← List.length_pos_iff]; omega)
    obtain ⟨a, b, c, d, e, f⟩ := TI.close n h1 (by rw [List.length_dropLast]; omega)
    have q : ss ++ [Sy.en] ++ List.replicate (n + 1) Sy.en = ss ++ List.replicate (n + 1 + 1) Sy.en := by
      rw [List.append_assoc]
      rfl
    rw [q] at e f
    exact ⟨a, b, c, d, e, f⟩
/-- all that the law's walk asks of the plain laws -/
structure Pack2 (ns : List Int) (side : Int) (ss : List Sy) (x : Str) (gs : List (Sy × List Nat)) (parts : List Str) (wn : List (List Nat)) : Prop where
  co : Codes (octs2 (rawOcts (hSyms ns)) side) ss
  ok : TOk false tagN TS0 ss
  oc : ∀ (j : Nat) (n : Int), (octs2 (rawOcts (hSyms ns)) side)[j]? = some n → 0 ≤ n ∧ n < 256
  sl : (hSyms ns).length ≤ 40 ∧ ∀ n ∈ hSyms ns, 0 ≤ n ∧ n < 300
  tx : Txt.join (Str.ofString "") (toldOf false tagN ss) = x
  xl : x.length ≤ 4000
  sp : Txt.split x (Str.ofString "<") = Str.ofString "" :: parts
  run : RunG RS0 gs parts
  gl : gs.length ≤ 30
  ol : (gs.map (·.2.length)).sum ≤ 30
  sy : (rAll gs).sy = hSyms ns
  ws : (rAll gs).wss = wn.map (·.map tagN)
  wl : wn.length = (hTree ns).hs.length
  hp : 2 ≤ (hTree ns).hs.length ∧ (hTree ns).hs.length ≤ 14
  wk : ∀ (k : Nat) w lo he, wn[k]? = some w → (hTree ns).hs[k]? = some (lo, he) → (w.length : Int) = he ∧ he ≤ 11 ∧ 1 ≤ lo ∧ lo ≤ he
  pr : ∀ (k : Nat) a z b lo he, wn[k]? = some a → wn[0]? = some z → wn[k + 1]? = some b → (hTree ns).hs[k + 1]? = some (lo, he) → WayPair a b lo.toNat ∧ WayPair z b (lst (hTree ns).hs (k + 1)).toNat ∧ 1 ≤ lst (hTree ns).hs (k + 1)
theorem law2_pack (ns : List Int) (side : Int) : ∃ ss x gs parts wn, Pack2 ns side ss x gs parts wn := by
  have hZ := ZI.fold (ns.take 8) ZI.four (by simp only [List.length_take]; omega)
  have hT : (ns.take 8).foldl hStep ([0, 38, 0, 62].foldl hStep H0) = hTree ns := by
    unfold hTree hItems
    rw [List.foldl_append]
  rw [hT] at hZ
  obtain ⟨ss, wt, g0, t, is, wn, h1, h2, h3, h4, h5⟩ := hZ
  have hp := h2.pos
  have hwm := h2.wm
  have hm := h2.m10
  have hht := h2.ht
  have hfr := h2.fr
  obtain ⟨wt', g0', t', is', h6, h7⟩ := h1.close (wt.length - 1) (by omega)
  have e1 : wt.length - 1 + 1 = wt.length := by omega
  rw [e1] at h6 h7
  have hlen : (ss ++ List.replicate wt.length Sy.en).length ≤ 24 := by
    have h8 : (ns.take 8).length ≤ 8 := by simp only [List.length_take]; omega
    simp only [List.length_append, List.length_replicate]
    omega
  obtain ⟨x, gs, parts, hR⟩ := h6.done hlen h7
  have hsyms : hSyms ns = (ss ++ List.replicate wt.length Sy.en).map Sy.code := by
    unfold hSyms
    rw [h3, hht, List.map_append, List.map_replicate, Int.toNat_natCast]
    rfl
  have hrange : ∀ n ∈ hSyms ns, 0 ≤ n ∧ n < 300 := by
    rw [hsyms]
    intro n hn
    obtain ⟨s, hs, rfl⟩ := List.mem_map.mp hn
    have := h6.sm s hs
    cases s with
    | en => exact ⟨Int.le_refl _, by decide⟩
    | st k =>
      have : k < 12 := this
      simp only [Sy.code]
      omega
    | op i =>
      have : i < 48 := this
      simp only [Sy.code]
      omega
  have h12 : ∀ w ∈ wn, ∀ k ∈ w, k < 12 := fun w hw k hk => by
    have := (h2.nf w hw).2 k hk
    omega
  have hHB := HB.tree ns
  have hIt := hItems_len ns
  refine ⟨_, x, gs, parts, wn, ⟨?_, hR.ok, ?_, ⟨?_, hrange⟩, hR.tx, hR.xl, hR.sp, hR.run, hR.gl, hR.ol, ?_, hR.ws, h2.hl, ?_, ?_, ?_⟩⟩
  · rw [hsyms]
    exact codes_syms side h6.sm
  · exact octs2_range (raw_range hrange) side
  · rw [hsyms, List.length_map]
    omega
  · rw [hR.sy, hsyms]
  · have := h2.hl
    have := hHB.hs
    omega
  · intro k w lo he hw hh
    have := h2.wk k w _ hw hh
    have := (h2.nf w (List.mem_of_getElem? hw)).1
    omega
  · intro k a z b lo he ha hz hb hh
    obtain ⟨g1, g2, g3⟩ := h2.pr k a z b _ ha hz hb hh
    have hw := h2.wk (k + 1) b _ hb hh
    exact ⟨⟨by omega, g1.la, g1.lb, h12 a (List.mem_of_getElem? ha), h12 b (List.mem_of_getElem? hb), g1.eq⟩, ⟨by omega, g2.la, g2.lb, h12 z (List.mem_of_getElem? hz), h12 b (List.mem_of_getElem? hb), g2.eq⟩, g3⟩
end
section
theorem in_canLayAll0 : ∀ ns : List Int, PyData.canLayAll0 (ns.map PyData.int) = true
  | [] => rfl
  | y :: r => by simp [PyData.canLayAll0, PyData.canLay0, in_canLayAll0 r]
theorem in_depthAll : ∀ ns : List Int, PyData.depthAll (ns.map PyData.int) = 0
  | [] => rfl
  | _ :: r => by simp [PyData.depthAll, PyData.depth, in_depthAll r]
theorem in_shaped (ns : List Int) : SeqAt.shaped (.list (ns.map PyData.int)) = true := by
  simp [SeqAt.shaped, PyData.canLay0, PyData.depth, in_canLayAll0 ns, in_depthAll]
theorem in_same : ∀ ns : List Int, PySem.Spec.sameAll (ns.map PyData.int) (ns.map PyData.int) = true
  | [] => by simp [PySem.Spec.sameAll]
  | x :: ns => by simp only [List.map_cons, PySem.Spec.sameAll, PySem.Spec.same, in_same ns]; simp
theorem in_carried : ∀ {vs : List Value} {ns : List Int}, IntsAre vs ns → CarriedAll vs (ns.map PyData.int)
  | _, _, .nil => .nil
  | _, _, .cons _ t r => .cons (.int _ t) (in_carried r)
/-- two lists of the same ints: != is False -/
theorem ne_ints {prog : Program} {w : World} {A : Around} {E : Value → Shared → Prop} {s : Shared} {a b : Addr} {xs ys : List Value} {ns : List Int} {Q : Value → Shared → Prop} (ha : s.heap.IsList a xs.toArray) (hb : s.heap.IsList b ys.toArray) (hi : IntsAre xs ns) (hj : IntsAre ys ns) (hu : A.units + 64 < cLine) (h : Q (.bool false) s) :
    wpAny (model prog w) A (compareOp .NotEq (.ref a) (.ref b)) Q E s :=
  ne_dataH_same (reads_newData ha (in_carried hi)) (reads_newData hb (in_carried hj)) (in_shaped _) (in_shaped _) hu (SeqAt.noMix_of_shape (.list .int) rfl _ _ (list_map_has fun _ => rfl) (list_map_has fun _ => rfl)) (by
    have e : PySem.Spec.same (.list (ns.map PyData.int)) (.list (ns.map PyData.int)) = true := by rw [← in_same ns]; simp [PySem.Spec.same]
    rw [e]; exact h)
def upN (k : Nat) : Str := Txt.upper (tagN k)
/-- one turn's two ways and what is due -/
structure Turn (a b : List Nat) (due : Int) : Prop where
  ln : 0 < a.length ∧ 0 < b.length ∧ a.length ≤ 11 ∧ b.length ≤ 11
  a12 : ∀ k ∈ a, k < 12
  b12 : ∀ k ∈ b, k < 12
  pr : ∀ mx, due - 1 ≤ mx → levD subcost (a.map tagN) (b.map upN) mx = due ∧ levD subcost (b.map upN) (a.map tagN) mx = due
  bd : 1 ≤ due ∧ due ≤ 100
theorem max_cast (m n : Nat) : ((max m n : Nat) : Int) = max (m : Int) n := by
  rcases Nat.le_total m n with q | q
  · rw [Nat.max_eq_right q, Int.max_eq_right (Int.ofNat_le.mpr q)]
  · rw [Nat.max_eq_left q, Int.max_eq_left (Int.ofNat_le.mpr q)]
theorem due_bd {m n low : Nat} {due : Int} (h0 : 0 < low) (h1 : low ≤ m) (hm : m ≤ 11) (hn : n ≤ 11) (hd : due = 2 * ((max m n : Nat) : Int) - low) : 1 ≤ due ∧ due ≤ 100 := by
  have q1 := Nat.le_max_left m n
  have q2 := Nat.max_le.mpr ⟨hm, hn⟩
  generalize max m n = x at hd q1 q2
  omega
theorem WayPair.turn {a b : List Nat} {low : Nat} (h : WayPair a b low) (hl : a.length ≤ 11 ∧ b.length ≤ 11) {due : Int} (hd : due = 2 * max (a.length : Int) b.length - low) : Turn a b due := by
  rw [← max_cast] at hd
  have e : dD low a.length b.length = due := by
    unfold dD
    rw [Nat.min_eq_right (Nat.le_min.mpr ⟨h.la, h.lb⟩), hd]
  have hp := h.pos
  refine ⟨⟨Nat.lt_of_lt_of_le hp h.la, Nat.lt_of_lt_of_le hp h.lb, hl.1, hl.2⟩, h.a12, h.b12, fun mx hmx => ?_, due_bd hp h.la hl.1 hl.2 hd⟩
  have := ways_price h ⟨Nat.le_trans hl.1 (by decide), Nat.le_trans hl.2 (by decide)⟩ mx (by rw [e]; exact hmx)
  rw [e] at this
  exact this
/-- what con_levL asks of two lists of texts -/
structure LP (as bs : List Str) : Prop where
  hoa : ∀ y ∈ as, PyData.strOk y = true
  hob : ∀ y ∈ bs, PyData.strOk y = true
  hne : ∀ x ∈ as, ∀ y ∈ bs, x ≠ y
  ha0 : as ≠ []
  hb0 : bs ≠ []
  hla : as.length ≤ 30
  hlb : bs.length ≤ 30
  hsa : ∀ y ∈ as, y.length ≤ 100
  hsb : ∀ y ∈ bs, y.length ≤ 100
theorem LP.flip {as bs : List Str} (h : LP as bs) : LP bs as := ⟨h.hob, h.hoa, fun x hx y hy e => h.hne y hy x hx e.symm, h.hb0, h.ha0, h.hlb, h.hla, h.hsb, h.hsa⟩
theorem Turn.lp {a b : List Nat} {due : Int} (h : Turn a b due) : LP (a.map tagN) (b.map upN) := by
  have hl := h.ln
  refine ⟨?_, ?_, ?_, ?_, ?_, by rw [List.length_map]; omega, by rw [List.length_map]; omega, ?_, ?_⟩
  · intro y hy
    obtain ⟨k, hk, rfl⟩ := List.mem_map.mp hy
    exact (tagN_val k (h.a12 k hk)).2.2.2
  · intro y hy
    obtain ⟨k, hk, rfl⟩ := List.mem_map.mp hy
    exact (tag_up k (h.b12 k hk)).2
  · intro x hx y hy
    obtain ⟨i, hi, rfl⟩ := List.mem_map.mp hx
    obtain ⟨j, hj, rfl⟩ := List.mem_map.mp hy
    exact (tag_cost i (h.a12 i hi) j (h.b12 j hj)).2.2
  · intro e
    have := congrArg List.length e
    simp only [List.length_map, List.length_nil] at this
    omega
  · intro e
    have := congrArg List.length e
    simp only [List.length_map, List.length_nil] at this
    omega
  · intro y hy
    obtain ⟨k, hk, rfl⟩ := List.mem_map.mp hy
    have := (tagN_val k (h.a12 k hk)).2.2.1
    omega
  · intro y hy
    obtain ⟨k, hk, rfl⟩ := List.mem_map.mp hy
    have := (tag_up k (h.b12 k hk)).1
    unfold upN
    omega
theorem Turn.sides {a b : List Nat} {due sd : Int} (h : Turn a b due) (hsd : sd = 0 ∨ sd = 1) {l : List (Addr × Obj)} {la D : Addr} {va vb : List Value} {na nb : Nat} (hA : StrsAre va (a.map tagN)) (hB : StrsAre vb (b.map upN)) (ma : (la, listOf va.toArray na) ∈ l) (mb : (D, listOf vb.toArray nb) ∈ l) :
    ∃ p q vp vq np nq as bs, [Value.ref la, Value.ref D][sd.toNat]? = some (.ref p) ∧ [Value.ref la, Value.ref D][(1 - sd).toNat]? = some (.ref q) ∧ StrsAre vp as ∧ StrsAre vq bs ∧ LP as bs ∧ (p, listOf (List.toArray vp) np) ∈ l ∧ (q, listOf (List.toArray vq) nq) ∈ l ∧ ∀ mx, due - 1 ≤ mx → levD subcost as bs mx = due := by
  rcases hsd with rfl | rfl
  · exact ⟨la, D, va, vb, na, nb, _, _, rfl, rfl, hA, hB, h.lp, ma, mb, fun mx hm => (h.pr mx hm).1⟩
  · exact ⟨D, la, vb, va, nb, na, _, _, rfl, rfl, hB, hA, h.lp.flip, mb, ma, fun mx hm => (h.pr mx hm).2⟩
theorem IPairs.get {pt : List (Addr × Obj)} {vs : List Value} {ps : List (Int × Int)} (h : IPairs pt vs ps) {i : Nat} {a b : Int} (e : ps[i]? = some (a, b)) : ∃ t u v, vs[i]? = some (Value.ref t) ∧ (t, tupI a b u v) ∈ pt := h.2 i a b e
theorem WaysAre.mono {pt pt' : List (Addr × Obj)} {vs : List Value} {wss : List (List Str)} (h : WaysAre pt vs wss) (hs : ∀ p ∈ pt, p ∈ pt') : WaysAre pt' vs wss :=
  ⟨h.1, fun i ws e => let ⟨t, va, n, h1, h2, h3⟩ := h.2 i ws e; ⟨t, va, n, h1, hs _ h2, h3⟩⟩
theorem WaysAre.get {pt : List (Addr × Obj)} {vs : List Value} {wn : List (List Nat)} (h : WaysAre pt vs (wn.map (·.map tagN))) {i : Nat} {a : List Nat} (e : wn[i]? = some a) : ∃ t va n, vs[i]? = some (Value.ref t) ∧ (t, listOf (List.toArray va) n) ∈ pt ∧ StrsAre va (a.map tagN) :=
  h.2 i _ (by rw [List.getElem?_map, e]; rfl)
theorem tagN_good : ∀ k < 12, GoodTag (tagN k) := fun k hk => ⟨(tagN_val k hk).2.2.1, (by decide +kernel : ∀ k < 12, (Txt.slice (tagN k) none (some 1) == Str.ofString "{") = false) k hk, (tagN_val k hk).2.2.2⟩
theorem Pack2.turn7 {ns : List Int} {side : Int} {ss : List Sy} {x : Str} {gs : List (Sy × List Nat)} {parts : List Str} {wn : List (List Nat)} (h : Pack2 ns side ss x gs parts wn) {i : Nat} (hi : i + 1 < (hTree ns).hs.length) {loz hez : Int} (hz0 : (hTree ns).hs[0]? = some (loz, hez)) :
    ∃ a z b lo he lo0 he0, wn[i]? = some a ∧ wn[0]? = some z ∧ wn[i + 1]? = some b ∧ (hTree ns).hs[i + 1]? = some (lo, he) ∧ (hTree ns).hs[i]? = some (lo0, he0) ∧
      lst (hTree ns).hs (i + 1) = min (lst (hTree ns).hs i) lo ∧ Turn a b (2 * max he0 he - lo) ∧ Turn z b (2 * max hez he - lst (hTree ns).hs (i + 1)) ∧ (1 ≤ lst (hTree ns).hs (i + 1) ∧ lst (hTree ns).hs (i + 1) ≤ 100) ∧ (1 ≤ lo ∧ lo ≤ he ∧ he ≤ 11) ∧ (1 ≤ he0 ∧ he0 ≤ 11) ∧ 1 ≤ hez ∧ hez ≤ 11 := by
  have hw := h.wl
  obtain ⟨a, ha⟩ : ∃ a, wn[i]? = some a := ⟨_, List.getElem?_eq_getElem (by omega)⟩
  obtain ⟨z, hz⟩ : ∃ a, wn[0]? = some a := ⟨_, List.getElem?_eq_getElem (by omega)⟩
  obtain ⟨b, hb⟩ : ∃ a, wn[i + 1]? = some a := ⟨_, List.getElem?_eq_getElem (by omega)⟩
  obtain ⟨⟨lo, he⟩, h1⟩ : ∃ p, (hTree ns).hs[i + 1]? = some p := ⟨_, List.getElem?_eq_getElem hi⟩
  obtain ⟨⟨lo0, he0⟩, h2⟩ : ∃ p, (hTree ns).hs[i]? = some p := ⟨_, List.getElem?_eq_getElem (Nat.lt_of_succ_lt hi)⟩
  obtain ⟨p1, p2, p3⟩ := h.pr i a z b lo he ha hz hb h1
  obtain ⟨ka, ka2, ka3, ka4⟩ := h.wk i a _ _ ha h2
  obtain ⟨kz, kz2, kz3, kz4⟩ := h.wk 0 z _ _ hz hz0
  obtain ⟨kb, kb2, kb3, kb4⟩ := h.wk (i + 1) b _ _ hb h1
  have hst : lst (hTree ns).hs (i + 1) = min (lst (hTree ns).hs i) lo := by
    rw [lst, List.getD_eq_getElem?_getD, h1]
    rfl
  have q2 := p2.la
  clear hw
  refine ⟨a, z, b, lo, he, lo0, he0, ha, hz, hb, h1, h2, hst, p1.turn (by omega) ?_, p2.turn (by omega) ?_, ⟨p3, by omega⟩, ⟨kb3, kb4, kb2⟩, ⟨by omega, ka2⟩, by omega, kz2⟩
  · rw [ka, kb, Int.toNat_of_nonneg (by omega)]
  · rw [kz, kb, Int.toNat_of_nonneg (by omega)]
end
section
theorem lay_45 : True := by
  k_with "my:call ref" => ((fail_if_success k_extra "off48"); with_reducible refine stop_in ?_)
  k_with "my:eval ListComp" => ((fail_if_success k_extra "off48"); with_reducible refine stop_in ?_)
  k_with "my:SrcLP" => ((fail_if_success k_extra "off48"); with_reducible refine stop_in ?_)
  k_with "my:SrcLP ref" => ((fail_if_success k_extra "off48"); with_reducible refine stop_in ?_)
  k_with "my:CompEnd str" => ((fail_if_success k_extra "off48"); with_reducible refine stop_in ?_)
  k_with "my:pyIter ref" => ((fail_if_success k_extra "off48"); with_reducible refine stop_in ?_)
  k_with "my:GoodW cons ok" => ((fail_if_success k_extra "off48"); with_reducible refine stop_in ?_)
  k_with "my:subscriptTail Name Constant ref int" => ((fail_if_success k_extra "off48"); with_reducible refine stop_in ?_)
  k_with "my:subscriptTail Name BinOp ref int" => ((fail_if_success k_extra "off48"); with_reducible refine stop_in ?_)
  k_with "my:subscriptTail Name Name ref int" => ((fail_if_success k_extra "off48"); with_reducible refine stop_in ?_)
  k_with "my:subscriptTail List cons Name ref int" => ((fail_if_success k_extra "off48"); with_reducible refine stop_in ?_)
  k_with "my:call type:str" => ((fail_if_success k_extra "off48"); with_reducible refine stop_in ?_)
  k_with "my:call builtin:len cons nil" => ((fail_if_success k_extra "off48"); ((with_reducible have mk9 : StopIf := by assumption); clear mk9; (with_reducible refine stop_in ?_)))
  k_with "my:CompSrc" => ((fail_if_success k_extra "off48"); with_reducible refine stop_in ?_)
  k_with "my:CompSrc ref" => ((fail_if_success k_extra "off48"); with_reducible refine stop_in ?_)
  k_with "my:compareOp NotEq str str" => ((fail_if_success k_extra "off48"); with_reducible refine stop_in ?_)
  k_with "my:compareOp NotEq ref ref" => ((fail_if_success k_extra "off48"); with_reducible refine stop_in ?_)
  exact True.intro
theorem ConS.use {prog : Program} {w : World} {K : Frag} {sa : Addr} {its : Array Value} {f : Addr} {dp un dp' un' : Nat} {vs : List Value} {news : List (Addr × Obj)} {post : Value → List (Addr × Obj) → Prop} (C : ConS prog w K sa its f dp un vs news post) (hd : dp' ≤ dp) (hu : un' ≤ un)
    {p : Program} {loose : List Str} {mean : ExcName → Option Value} {mg mb : Str → Option Value} {gd : Option (List Code)} {cn : Str} {cs : Scope} {a : Addr} {ccd : Value} {cl : List (Str × Addr)} {outer : List Env} {A₀ : Around} {base h₀ : Heap} {L : Addr} {m : Str → Option Value} {s : Shared} {Q E : Value → Shared → Prop}
    (B : Below A₀ base outer h₀) (F : Fr h₀ L s.heap m) (X : K.In h₀) (hS : h₀.IsList sa its) (N : News h₀ L s.heap news) (T : Top p loose mean mg mb h₀) (hk : cs.kind = .function)
    (ret : ∀ v news' h' tk', post v news' → Fr h₀ L h' m → News h₀ L h' news' → Q v { s with heap := h', toks := tk' }) :
    wpAny (model prog w) (ktrTop dp' un' gd cn cs L a ccd cl outer) (call (.ref f) vs) Q E s :=
  around_mono (C p loose mean mg mb gd cn cs a ccd cl outer A₀ base h₀ L m s Q E B F X hS N T hk ret) rfl hd rfl rfl hu
theorem ConT.use {prog : Program} {w : World} {K : Frag} {f : Addr} {dp un dp' un' : Nat} {vs : List Value} {news : List (Addr × Obj)} {post : Value → List (Addr × Obj) → Prop} (C : ConT prog w K f dp un vs news post) (hd : dp' ≤ dp) (hu : un' ≤ un)
    {p : Program} {loose : List Str} {mean : ExcName → Option Value} {mg mb : Str → Option Value} {gd : Option (List Code)} {cn : Str} {cs : Scope} {a : Addr} {ccd : Value} {cl : List (Str × Addr)} {A₀ : Around} {h₀ : Heap} {L : Addr} {m : Str → Option Value} {s : Shared} {Q E : Value → Shared → Prop}
    (B : Below A₀ h₀ [] h₀) (F : Fr h₀ L s.heap m) (X : K.In h₀) (N : News h₀ L s.heap news) (T : Top p loose mean mg mb h₀) (hk : cs.kind = .function)
    (ret : ∀ v news' h' tk', post v news' → Fr h₀ L h' m → News h₀ L h' news' → Q v { s with heap := h', toks := tk' }) :
    wpAny (model prog w) (ktrTop dp' un' gd cn cs L a ccd cl []) (call (.ref f) vs) Q E s :=
  around_mono (C p loose mean mg mb gd cn cs a ccd cl A₀ h₀ L m s Q E B F X N T hk ret) rfl hd rfl rfl hu
theorem tab_head (tb : Option (Addr × Obj)) : ∃ ps, ((168 : Addr), tabObj ps) ∈ tabS tb := by
  cases tb with
  | none => exact ⟨_, .head _⟩
  | some q => exact ⟨_, .head _⟩
theorem small_log {a : Int} (h1 : -1000 ≤ a) (h2 : a ≤ 100001) : a.natAbs.log2 < 1920 := shown (N := 2 ^ 1920) (by omega) (by omega) (Int.le_refl _)
theorem str_int9 {prog : Program} {w : World} {A : Around} {E : Value → Shared → Prop} {s : Shared} {a : Int} {t : Tok} {Q : Value → Shared → Prop} (h1 : -1000 ≤ a) (h2 : a ≤ 100001) (h : Q (.str (toString a) s.toks) { s with toks := s.toks + 1 }) : wpAny (model prog w) A (call (.type "str") [.int a t]) Q E s :=
  P.str_of_int (small_log h1 h2) h
theorem ne_same {prog : Program} {w : World} {A : Around} {E : Value → Shared → Prop} {s : Shared} {x : Str} {t u : Tok} {Q : Value → Shared → Prop} (h : Q (.bool false) s) : wpAny (model prog w) A (compareOp .NotEq (.str x t) (.str x u)) Q E s :=
  PyProof.Rows.ne_str (by simpa using h)
theorem fr_side {h₀ h : Heap} {L ha wa : Addr} {m : Str → Option Value} {sd : Int} {ts : Tok} (F : Fr h₀ L h m) (hk : ∀ p ∈ ([("heights", .ref ha), ("ways", .ref wa), ("side", .int sd ts)] : List (Str × Value)), m p.1 = some p.2) : ∃ u ts, Fr h₀ L h (kstB u [("heights", .ref ha), ("ways", .ref wa), ("side", .int sd ts)]) := ⟨m, ts, by rw [kstB_self hk]; exact F⟩
theorem fr_k {h₀ h : Heap} {L : Addr} {m : Str → Option Value} (ha wa : Addr) (sd : Int) {ts : Tok} (k : Int) {tk : Tok} (lo he le : Int) {u1 v1 tl : Tok} (F : Fr h₀ L h m) (hk : ∀ p ∈ ([("heights", .ref ha), ("ways", .ref wa), ("side", .int sd ts), ("k", .int k tk), ("low", .int lo u1), ("height", .int he v1), ("least", .int le tl)] : List (Str × Value)), m p.1 = some p.2) :
    ∃ u tl', Fr h₀ L h (kstB u [("heights", .ref ha), ("ways", .ref wa), ("side", .int sd ts), ("k", .int k tk), ("low", .int lo u1), ("height", .int he v1), ("least", .int le tl')]) := ⟨m, tl, by rw [kstB_self hk]; exact F⟩
theorem dues_name {h₀ h : Heap} {L l : Addr} {a b : Int} {t u : Tok} {k : Nat} {r : List (Addr × Obj)} (N : News h₀ L h ((l, listOf #[Value.int a t, Value.int b u] k) :: r)) : ∃ l' a' t' b' u', (l' = l ∧ a' = a ∧ b' = b) ∧ News h₀ L h ((l', listOf [Value.int a' t', Value.int b' u'].toArray k) :: r) := ⟨l, a, t, b, u, ⟨rfl, rfl, rfl⟩, N⟩
theorem way_of {j : Nat} (hj : j < 2) {wa0 waz : Addr} {va0 vaz : List Value} {na0 naz : Nat} {a z b : List Nat} {d0 d1 : Int} {td0 td1 : Tok} (hsa : StrsAre va0 (a.map tagN)) (hsz : StrsAre vaz (z.map tagN)) (T0 : Turn a b d0) (T1 : Turn z b d1) {l : List (Addr × Obj)} (ma : (wa0, listOf va0.toArray na0) ∈ l) (mz : (waz, listOf vaz.toArray naz) ∈ l) :
    ∃ wx vx nx ax due td, [Value.ref wa0, Value.ref waz][j]? = some (.ref wx) ∧ [Value.int d0 td0, Value.int d1 td1][j]? = some (.int due td) ∧ StrsAre vx (ax.map tagN) ∧ Turn ax b due ∧ (wx, listOf (List.toArray vx) nx) ∈ l := by
  rcases (by omega : j = 0 ∨ j = 1) with rfl | rfl
  · exact ⟨wa0, va0, na0, a, d0, td0, rfl, rfl, hsa, T0, ma⟩
  · exact ⟨waz, vaz, naz, z, d1, td1, rfl, rfl, hsz, T1, mz⟩
theorem max_due {x y lo : Int} : (2 * if y > x then y else x) - lo = 2 * max x y - lo := by split <;> omega
theorem bd9 {due : Int} (x : Int) (h : 1 ≤ due ∧ due ≤ 100) : (-1000 ≤ due - 1 + Int.fmod x 3 ∧ due - 1 + Int.fmod x 3 ≤ 100000) ∧ due - 1 ≤ due - 1 + Int.fmod x 3 := by
  rw [Int.fmod_eq_emod_of_nonneg _ (show (0 : Int) ≤ 3 by decide)]
  omega
theorem law2_holds : PySem.Challenge.rw_tv0054_02.Holds := Mine.hd0._proof_1_40 <| Mine.hd0._proof_1_571 (by
  k_go0
  rename_i w s₀ s₁ mg mb G Y fa o pm cd doc kV ho hcd hg X V T B TE TW sns hs hlay0 hL hr hl2 as4 as3 sa svs as0 hL2 ra wl1 r0 hI hr2 hlen hc2 hD h₁ X' T' B' F' N' l0
  clear codeHd l0 hD hc2 hr2 r0 wl1 ra hL2 hl2 hr hL hlay0 hs hT9 TW TE B T V X hT8 hcd ho Y G
  rename Heap.IsList _ _ _ => hS0
  have hg9 := hg
  clear hg
  revert w s₀ s₁ mg mb fa o pm cd doc kV sns as4 as3 sa svs as0 hI hlen h₁ X' T' B' F' hS0 N' hg9
  ((refine gen_all10 (ne := ?gN_226) (P := ?gP_226) ((?gf_226 : ∀ a0 a1 a2 a3 a4 a5 a6 a7 a8 a9, ?gP_226 a0 a1 a2 a3 a4 a5 a6 a7 a8 a9) (gen10 ?gN_226 ?gP_226).1 (gen10 ?gN_226 ?gP_226).2.1 (gen10 ?gN_226 ?gP_226).2.2.1 (gen10 ?gN_226 ?gP_226).2.2.2.1 (gen10 ?gN_226 ?gP_226).2.2.2.2.1 (gen10 ?gN_226 ?gP_226).2.2.2.2.2.1 (gen10 ?gN_226 ?gP_226).2.2.2.2.2.2.1 (gen10 ?gN_226 ?gP_226).2.2.2.2.2.2.2.1 (gen10 ?gN_226 ?gP_226).2.2.2.2.2.2.2.2.1 (gen10 ?gN_226 ?gP_226).2.2.2.2.2.2.2.2.2); (case gN_226 => k_extra "my:ne")))
  intros w s₀ s₁ mg mb fa o pm cd doc
  ((refine gen_all7 (ne := ?gN_227) (P := ?gP_227) ((?gf_227 : ∀ a0 a1 a2 a3 a4 a5 a6, ?gP_227 a0 a1 a2 a3 a4 a5 a6) (gen7 ?gN_227 ?gP_227).1 (gen7 ?gN_227 ?gP_227).2.1 (gen7 ?gN_227 ?gP_227).2.2.1 (gen7 ?gN_227 ?gP_227).2.2.2.1 (gen7 ?gN_227 ?gP_227).2.2.2.2.1 (gen7 ?gN_227 ?gP_227).2.2.2.2.2.1 (gen7 ?gN_227 ?gP_227).2.2.2.2.2.2); (case gN_227 => k_extra "my:ne")))
  intros kV sns as4 as3 sa svs as0
  intro hI hlen
  walk_at "g1"
  intro h₁ X' T' B' F' hS0 N' hg9
  have hsl : svs.length ≤ 63 := by have := hI.length; omega
  k_extra "my:go"
  (try (with_reducible refine stop_out ?_))
  k_dflt refine ConS.use (con_tree _ _ _ _ hI hsl _) (by k_extra "my:us1") (by k_extra "my:us1") B' F' X' hS0 N' T' rfl ?_
  clear F' N'
  walk_at "g4"
  intros v n h tk
  intro hx F' N'
  refine ex_in7 hx ?_
  clear hx
  ((refine gen_all7 (ne := ?gN_228) (P := ?gP_228) ((?gf_228 : ∀ a0 a1 a2 a3 a4 a5 a6, ?gP_228 a0 a1 a2 a3 a4 a5 a6) (gen7 ?gN_228 ?gP_228).1 (gen7 ?gN_228 ?gP_228).2.1 (gen7 ?gN_228 ?gP_228).2.2.1 (gen7 ?gN_228 ?gP_228).2.2.2.1 (gen7 ?gN_228 ?gP_228).2.2.2.2.1 (gen7 ?gN_228 ?gP_228).2.2.2.2.2.1 (gen7 ?gN_228 ?gP_228).2.2.2.2.2.2); (case gN_228 => k_extra "my:ne")))
  intros T ra ha rvs hv hk pt
  rintro ⟨hve, hr, hp, hlt, hn⟩
  subst hve hn
  k_sweep
  k_extra "my:go"
  (try (with_reducible refine stop_out ?_))
  have hhb := HB.tree sns
  refine ex_in (⟨_, rfl⟩ : ∃ S, S = Int.fmod (sns.length : Int) 2) ?_
  walk_at "g1"
  intro sd hsd0
  rename (Fr _ _ _ _) => F'
  rename (News _ _ _ _) => N'
  rw [← hsd0] at F' ⊢
  have hsd : sd = 0 ∨ sd = 1 := by rw [hsd0, Int.fmod_eq_emod_of_nonneg _ (show (0 : Int) ≤ 2 by decide)]; omega
  refine ex_in5 (law2_pack sns sd) ?_
  walk_at "g5"
  intros ss x gs parts wn
  intro PK
  have N1 := News.sub (l' := (ra, listOf rvs.toArray 0) :: (tabS none ++ ((ha, listOf hv.toArray hk) :: pt))) N' (by
    intro p hp
    rcases List.mem_cons.mp hp with rfl | hp
    · exact .tail _ (.head _)
    rcases List.mem_cons.mp hp with rfl | hp
    · exact .tail _ (.tail _ (.tail _ (List.mem_append_right _ (.head _))))
    rcases List.mem_cons.mp hp with rfl | hp
    · exact .tail _ (.tail _ (.head _))
    · exact .tail _ (.tail _ (.tail _ (List.mem_append_left _ hp))))
  clear N'
  k_dflt refine Con.use (con_octets _ ra rvs (hSyms sns) 0 sd _ hr PK.sl.1 PK.sl.2 (by omega) _) (by k_extra "my:us1") (by k_extra "my:us1") B' F' X' N1 T' rfl ?_
  clear F' N1
  walk_at "g4"
  intros v n h tk
  intro hx F' N'
  refine ex_in3 hx ?_
  clear hx
  walk_at "g3"
  intros D us kk
  rintro ⟨hve, hus, hDn, hn⟩
  subst hve hn
  k_sweep
  k_extra "my:go"
  (try (with_reducible refine stop_out ?_))
  have h168 := hlt _ (List.mem_singleton.mpr rfl)
  dsimp only at h168
  refine ex_in (⟨_, rfl⟩ : ∃ R, R = (ra, listOf rvs.toArray 0) :: (ha, listOf hv.toArray hk) :: pt) ?_
  walk_at "g1"
  intro R0 hR0
  have hR168 : ∀ p ∈ R0, p.1 ≠ 168 := by
    intro p hp
    rw [hR0] at hp
    rcases List.mem_cons.mp hp with rfl | hp
    · exact fun e => by have := h168.1; have e' : @Eq Nat ra 168 := e; have h' : @LT.lt Nat _ 168 ra := this; omega
    rcases List.mem_cons.mp hp with rfl | hp
    · exact fun e => by have := h168.2.1; have e' : @Eq Nat ha 168 := e; have h' : @LT.lt Nat _ 168 ha := this; omega
    · exact fun e => by have := h168.2.2 p hp; have e' : @Eq Nat p.1 168 := e; have h' : @LT.lt Nat _ 168 p.1 := this; omega
  have hD168 : D ≠ 168 := fun e => hDn (168, tabObj #[]) (.tail _ (List.mem_append_left _ (.head _))) e.symm
  rename (Fr _ _ _ _) => F'
  rename (News _ _ _ _) => N'
  have N1 := News.sub (l' := (D, listOf us.toArray kk) :: (tabS none ++ R0)) N' (by
    intro p hp
    rw [hR0] at hp
    rcases List.mem_cons.mp hp with rfl | hp
    · exact .head _
    rcases List.mem_append.mp hp with hp | hp
    · exact .tail _ (.tail _ (List.mem_append_left _ hp))
    rcases List.mem_cons.mp hp with rfl | hp
    · exact .tail _ (.head _)
    · exact .tail _ (.tail _ (List.mem_append_right _ hp)))
  clear N'
  k_dflt refine ConT.use (con_told _ false tagN D us _ kk hus PK.oc (fun _ _ => rfl) tagN_good none trivial R0 hR168 hD168 rfl ss PK.co PK.ok) (by k_extra "my:us1") (by k_extra "my:us1") B' F' X' N1 T' rfl ?_
  clear F' N1
  walk_at "g4"
  intros v n h tk
  rintro ⟨hve, hx⟩ F' N'
  refine ex_in hve ?_
  clear hve
  walk_at "g1"
  intro t1 hve
  subst hve
  refine ex_in hx ?_
  clear hx
  walk_at "g1"
  rintro tb1 ⟨htb1, hn⟩
  subst hn
  rw [PK.tx]
  k_sweep
  k_extra "my:go"
  (try (with_reducible refine stop_out ?_))
  rename (Fr _ _ _ _) => F'
  rename (News _ _ _ _) => N'
  have N1 : News _ _ _ (tabS tb1 ++ R0) := News.sub N' (fun p hp => .tail _ hp)
  clear N'
  k_dflt refine Con.use (con_read _ x _ gs parts PK.xl PK.sp PK.run PK.gl PK.ol _) (by k_extra "my:us1") (by k_extra "my:us1") B' F' X' N1 T' rfl ?_
  clear F' N1
  walk_at "g4"
  intros v n h tk
  intro hx F' N'
  refine ex_in8 hx ?_
  clear hx
  ((refine gen_all8 (ne := ?gN_229) (P := ?gP_229) ((?gf_229 : ∀ a0 a1 a2 a3 a4 a5 a6 a7, ?gP_229 a0 a1 a2 a3 a4 a5 a6 a7) (gen8 ?gN_229 ?gP_229).1 (gen8 ?gN_229 ?gP_229).2.1 (gen8 ?gN_229 ?gP_229).2.2.1 (gen8 ?gN_229 ?gP_229).2.2.2.1 (gen8 ?gN_229 ?gP_229).2.2.2.2.1 (gen8 ?gN_229 ?gP_229).2.2.2.2.2.1 (gen8 ?gN_229 ?gP_229).2.2.2.2.2.2.1 (gen8 ?gN_229 ?gP_229).2.2.2.2.2.2.2); (case gN_229 => k_extra "my:ne")))
  intros T2 rb wa rbs rk wv wk pw
  rintro ⟨hve, hrb, hww, hlt2, hn⟩
  subst hve hn
  k_sweep
  k_extra "my:go"
  (try (with_reducible refine stop_out ?_))
  rename (Fr _ _ _ _) => F'
  rename (News _ _ _ _) => N'
  rename_i hh tt
  rw [PK.sy] at hrb
  rw [PK.ws] at hww
  refine ex_in (tab_head tb1) ?_
  walk_at "g1"
  intro ps8 hps8
  refine ex_in (⟨_, rfl⟩ : ∃ o, o = tabObj ps8) ?_
  walk_at "g1"
  intro o8 ho8
  rw [← ho8] at hps8
  have hR1 : ∀ p ∈ (ra, listOf rvs.toArray 0) :: (ha, listOf hv.toArray hk) :: pt, p ∈ R0 := by rw [hR0]; exact fun _ h => h
  refine ex_in (⟨_, rfl⟩ : ∃ R, R = pw ++ pt) ?_
  walk_at "g1"
  intro RR hRR
  have hpR : IPairs RR hv (hTree sns).hs := hp.mono fun p hp => by rw [hRR]; exact List.mem_append_right _ hp
  have hwR : WaysAre RR wv (wn.map (·.map tagN)) := hww.mono fun p hp => by rw [hRR]; exact List.mem_append_left _ hp
  have N1 := News.sub (l' := (rb, listOf rbs.toArray rk) :: (ra, listOf rvs.toArray 0) :: (wa, listOf wv.toArray wk) :: (ha, listOf hv.toArray hk) :: (168, o8) :: RR) N' (by
    intro p hp
    rcases List.mem_cons.mp hp with rfl | hp
    · exact .tail _ (.head _)
    rcases List.mem_cons.mp hp with rfl | hp
    · exact .tail _ (.tail _ (.tail _ (List.mem_append_right _ (List.mem_append_right _ (hR1 _ (.head _))))))
    rcases List.mem_cons.mp hp with rfl | hp
    · exact .tail _ (.tail _ (.head _))
    rcases List.mem_cons.mp hp with rfl | hp
    · exact .tail _ (.tail _ (.tail _ (List.mem_append_right _ (List.mem_append_right _ (hR1 _ (.tail _ (.head _)))))))
    rcases List.mem_cons.mp hp with rfl | hp
    · exact .tail _ (.tail _ (.tail _ (List.mem_append_right _ (List.mem_append_left _ hps8))))
    have hp : p ∈ RR := hp
    rw [hRR] at hp
    rcases List.mem_append.mp hp with hp | hp
    · exact .tail _ (.tail _ (.tail _ (List.mem_append_left _ hp)))
    · exact .tail _ (.tail _ (.tail _ (List.mem_append_right _ (List.mem_append_right _ (hR1 _ (.tail _ (.tail _ hp))))))))
  refine ex_in2 (fr_side (ha := ha) (wa := wa) (sd := sd) F' (by k_extra "my:names")) ?_
  clear F'
  walk_at "g2"
  intros u8 t8
  intro F'
  clear N'
  clear hI hlen hS0 hsl htb1 hps8 hlt2 hD168 hR168 h168 hDn hus hlt hhb hsd0 hp hww hR0 hR1 hRR
  as_aux_lemma =>
  revert X' T' B' hg9 hr hsd PK hrb ho8 hpR hwR N1 F'
  revert w s₀ s₁ mg mb fa o pm cd doc kV sns sa svs h₁ ra ha rvs hv hk sd ss x gs parts wn rb wa rbs rk wv wk ps8 o8 RR hh tt u8 t8
  ((refine gen_all10 (ne := ?gN_230) (P := ?gP_230) ((?gf_230 : ∀ a0 a1 a2 a3 a4 a5 a6 a7 a8 a9, ?gP_230 a0 a1 a2 a3 a4 a5 a6 a7 a8 a9) (gen10 ?gN_230 ?gP_230).1 (gen10 ?gN_230 ?gP_230).2.1 (gen10 ?gN_230 ?gP_230).2.2.1 (gen10 ?gN_230 ?gP_230).2.2.2.1 (gen10 ?gN_230 ?gP_230).2.2.2.2.1 (gen10 ?gN_230 ?gP_230).2.2.2.2.2.1 (gen10 ?gN_230 ?gP_230).2.2.2.2.2.2.1 (gen10 ?gN_230 ?gP_230).2.2.2.2.2.2.2.1 (gen10 ?gN_230 ?gP_230).2.2.2.2.2.2.2.2.1 (gen10 ?gN_230 ?gP_230).2.2.2.2.2.2.2.2.2); (case gN_230 => k_extra "my:ne")))
  intros w s₀ s₁ mg mb fa o pm cd doc
  ((refine gen_all10 (ne := ?gN_231) (P := ?gP_231) ((?gf_231 : ∀ a0 a1 a2 a3 a4 a5 a6 a7 a8 a9, ?gP_231 a0 a1 a2 a3 a4 a5 a6 a7 a8 a9) (gen10 ?gN_231 ?gP_231).1 (gen10 ?gN_231 ?gP_231).2.1 (gen10 ?gN_231 ?gP_231).2.2.1 (gen10 ?gN_231 ?gP_231).2.2.2.1 (gen10 ?gN_231 ?gP_231).2.2.2.2.1 (gen10 ?gN_231 ?gP_231).2.2.2.2.2.1 (gen10 ?gN_231 ?gP_231).2.2.2.2.2.2.1 (gen10 ?gN_231 ?gP_231).2.2.2.2.2.2.2.1 (gen10 ?gN_231 ?gP_231).2.2.2.2.2.2.2.2.1 (gen10 ?gN_231 ?gP_231).2.2.2.2.2.2.2.2.2); (case gN_231 => k_extra "my:ne")))
  intros kV sns sa svs h₁ ra ha rvs hv hk
  ((refine gen_all10 (ne := ?gN_232) (P := ?gP_232) ((?gf_232 : ∀ a0 a1 a2 a3 a4 a5 a6 a7 a8 a9, ?gP_232 a0 a1 a2 a3 a4 a5 a6 a7 a8 a9) (gen10 ?gN_232 ?gP_232).1 (gen10 ?gN_232 ?gP_232).2.1 (gen10 ?gN_232 ?gP_232).2.2.1 (gen10 ?gN_232 ?gP_232).2.2.2.1 (gen10 ?gN_232 ?gP_232).2.2.2.2.1 (gen10 ?gN_232 ?gP_232).2.2.2.2.2.1 (gen10 ?gN_232 ?gP_232).2.2.2.2.2.2.1 (gen10 ?gN_232 ?gP_232).2.2.2.2.2.2.2.1 (gen10 ?gN_232 ?gP_232).2.2.2.2.2.2.2.2.1 (gen10 ?gN_232 ?gP_232).2.2.2.2.2.2.2.2.2); (case gN_232 => k_extra "my:ne")))
  intros sd ss x gs parts wn rb wa rbs rk
  ((refine gen_all9 (ne := ?gN_233) (P := ?gP_233) ((?gf_233 : ∀ a0 a1 a2 a3 a4 a5 a6 a7 a8, ?gP_233 a0 a1 a2 a3 a4 a5 a6 a7 a8) (gen9 ?gN_233 ?gP_233).1 (gen9 ?gN_233 ?gP_233).2.1 (gen9 ?gN_233 ?gP_233).2.2.1 (gen9 ?gN_233 ?gP_233).2.2.2.1 (gen9 ?gN_233 ?gP_233).2.2.2.2.1 (gen9 ?gN_233 ?gP_233).2.2.2.2.2.1 (gen9 ?gN_233 ?gP_233).2.2.2.2.2.2.1 (gen9 ?gN_233 ?gP_233).2.2.2.2.2.2.2.1 (gen9 ?gN_233 ?gP_233).2.2.2.2.2.2.2.2); (case gN_233 => k_extra "my:ne")))
  intros wv wk hh tt ps8 o8 RR u8 t8
  intro X' T' B' hg9 hr hsd PK hrb ho8 hpR hwR N1 F'
  simp only [kstB] at F'
  refine ne_ints ⟨_, (N1 _ (.head _)).1, rfl, _, rfl⟩ ⟨_, (N1 _ (.tail _ (.head _))).1, rfl, _, rfl⟩ hrb hr (by ke_room) ?_
  have N' := News.sub (l' := (wa, listOf wv.toArray wk) :: (ha, listOf hv.toArray hk) :: (168, o8) :: RR) N1 (fun p hp => .tail _ (.tail _ hp))
  clear N1 hrb hr
  k_sweep
  k_extra "my:go"
  all_goals (try (with_reducible refine stop_out ?_))
  rename (Fr _ _ _ _) => F'
  rename (News _ _ _ _) => N'
  have hhs := PK.hp
  have hvl : hv.length = (hTree sns).hs.length := hpR.1
  refine ex_in2 (⟨_, _, List.getElem?_eq_getElem (by omega)⟩ : ∃ a b, (hTree sns).hs[0]? = some (a, b)) ?_
  walk_at "g2"
  intros loz hez
  intro hz0
  refine ex_in3 (hpR.get hz0) ?_
  walk_at "g3"
  intros tz uz vz
  rintro ⟨hvz, hmz⟩
  have hha := (N' (ha, listOf hv.toArray hk) (.tail _ (.head _))).1
  refine item_listL (k := 0) (x := .ref tz) ⟨_, hha, rfl, _, rfl⟩ (by omega) (by omega) hvz ?_
  clear hha
  have N1 := News.sub (l' := (tz, tupI loz hez uz vz) :: (wa, listOf wv.toArray wk) :: (ha, listOf hv.toArray hk) :: (168, o8) :: RR) N' (by
    intro p hp
    rcases List.mem_cons.mp hp with rfl | hp
    · exact .tail _ (.tail _ (.tail _ hmz))
    · exact hp)
  clear N'
  have N' := N1
  clear N1
  simp only [tupI] at N'
  k_extra "my:go"
  all_goals (try (with_reducible refine stop_out ?_))
  have mk : StopIf := trivial
  (((with_reducible rename Fr _ _ _ _ => lF'); (with_unfolding_all refine' For_invVF lF' ?k1_234 ?k2_234 ?_; (case k1_234 => exact rfl); (case k2_234 => exact rfl); k_whole); k_extra "my:go"))
  all_goals (try (with_reducible refine stop_out ?_))
  rename StopIf => mk
  clear mk
  rename (News _ _ _ _) => N'
  have hha := (N' (ha, listOf hv.toArray hk) (.tail _ (.tail _ (.head _)))).1
  refine len_list (items := hv.toArray) ⟨_, hha, rfl, _, rfl⟩ (by simp only [List.size_toArray]; omega) ?_
  clear hha
  rw [show hv.toArray.size = hv.length from List.size_toArray ..]
  k_extra "my:go"
  all_goals (try (with_reducible refine stop_out ?_))
  rename IsRange _ _ _ _ _ _ _ _ => rgX
  with_reducible rename Fr _ _ _ _ => F'
  with_reducible rename News _ _ _ _ => N'
  rename_i b4
  clear b4
  have hl0 : hez = lst (hTree sns).hs 0 := by
    rw [lst, List.getD_eq_getElem?_getD, hz0]
    rfl
  refine forRangeR (σ := Int × Tok) (n := hv.length - 1) (fun _ => (tz, tupI loz hez uz vz) :: (wa, listOf wv.toArray wk) :: (ha, listOf hv.toArray hk) :: (168, o8) :: RR)
    (fun c => [("heights", .ref ha), ("ways", .ref wa), ("side", .int sd t8), ("least", .int c.1 c.2)]) (fun i c => c.1 = lst (hTree sns).hs i) (fun _ => True) (hez, vz) rfl rgX (small_one (by omega) (by omega) (by omega) (by omega)) (by rw [rangeSize_nat]; omega) F' N' (by k_extra "my:names") hl0 ?_ ?_ ?_
  · clear F' N' rgX hl0
    walk_at "g2"
    intros i tI
    refine pr2 ?_
    ((refine gen_all6 (ne := ?gN_235) (P := ?gP_235) ((?gf_235 : ∀ a0 a1 a2 a3 a4 a5, ?gP_235 a0 a1 a2 a3 a4 a5) (gen6 ?gN_235 ?gP_235).1 (gen6 ?gN_235 ?gP_235).2.1 (gen6 ?gN_235 ?gP_235).2.2.1 (gen6 ?gN_235 ?gP_235).2.2.2.1 (gen6 ?gN_235 ?gP_235).2.2.2.2.1 (gen6 ?gN_235 ?gP_235).2.2.2.2.2); (case gN_235 => k_extra "my:ne")))
    intros le tl uO hO tkO own
    rintro hi hown hP F' N'
    dsimp only at hP
    simp only [kstB] at F'
    have hi2 : i + 1 < (hTree sns).hs.length := by omega
    refine ex_in7 (PK.turn7 hi2 hz0) ?_
    ((refine gen_all7 (ne := ?gN_236) (P := ?gP_236) ((?gf_236 : ∀ a0 a1 a2 a3 a4 a5 a6, ?gP_236 a0 a1 a2 a3 a4 a5 a6) (gen7 ?gN_236 ?gP_236).1 (gen7 ?gN_236 ?gP_236).2.1 (gen7 ?gN_236 ?gP_236).2.2.1 (gen7 ?gN_236 ?gP_236).2.2.2.1 (gen7 ?gN_236 ?gP_236).2.2.2.2.1 (gen7 ?gN_236 ?gP_236).2.2.2.2.2.1 (gen7 ?gN_236 ?gP_236).2.2.2.2.2.2); (case gN_236 => k_extra "my:ne")))
    intros a z b lo he lo0 he0
    rintro ⟨ea, ez, eb, e1, e0, hls, T0, T1, hlb, hb1, hb0, hbz⟩
    refine ex_in3 (hpR.get e1) ?_
    walk_at "g3"
    intros t1 u1 v1
    rintro ⟨hv1, hm1⟩
    refine ex_in3 (hpR.get e0) ?_
    walk_at "g3"
    intros t0 u0 v0
    rintro ⟨hv0, hm0⟩
    refine ex_in3 (hwR.get ea) ?_
    walk_at "g3"
    intros wa0 va0 na0
    rintro ⟨hwa, hma, hsa⟩
    refine ex_in3 (hwR.get ez) ?_
    walk_at "g3"
    intros waz vaz naz
    rintro ⟨hwz, hmwz, hsz⟩
    refine ex_in3 (hwR.get eb) ?_
    walk_at "g3"
    intros wab vab nab
    rintro ⟨hwb, hmb, hsb⟩
    have N1 := News.sub (l' := (t1, tupI lo he u1 v1) :: (t0, tupI lo0 he0 u0 v0) :: (tz, tupI loz hez uz vz) :: (wab, listOf vab.toArray nab) :: (wa0, listOf va0.toArray na0) :: (waz, listOf vaz.toArray naz) :: (wa, listOf wv.toArray wk) :: (ha, listOf hv.toArray hk) :: (168, o8) :: (RR ++ own)) N' (by
      intro p hp
      have hR : ∀ p ∈ RR, p ∈ ((tz, tupI loz hez uz vz) :: (wa, listOf wv.toArray wk) :: (ha, listOf hv.toArray hk) :: ((168 : Addr), o8) :: RR) ++ own := fun p hp => List.mem_append_left _ (.tail _ (.tail _ (.tail _ (.tail _ hp))))
      rcases List.mem_cons.mp hp with rfl | hp
      · exact hR _ hm1
      rcases List.mem_cons.mp hp with rfl | hp
      · exact hR _ hm0
      rcases List.mem_cons.mp hp with rfl | hp
      · exact hR _ hmz
      rcases List.mem_cons.mp hp with rfl | hp
      · exact hR _ hmb
      rcases List.mem_cons.mp hp with rfl | hp
      · exact hR _ hma
      rcases List.mem_cons.mp hp with rfl | hp
      · exact hR _ hmwz
      rcases List.mem_cons.mp hp with rfl | hp
      · exact List.mem_append_left _ (.tail _ (.head _))
      rcases List.mem_cons.mp hp with rfl | hp
      · exact List.mem_append_left _ (.tail _ (.tail _ (.head _)))
      rcases List.mem_cons.mp hp with rfl | hp
      · exact List.mem_append_left _ (.tail _ (.tail _ (.tail _ (.head _))))
      rcases List.mem_append.mp hp with hp | hp
      · exact hR _ hp
      · exact List.mem_append_right _ hp)
    clear N' hm1 hm0 hmz hmb hma hmwz hpR hwR ea ez eb e1 e0 hz0 ho8 hown PK
    have N' := N1
    clear N1
    simp only [tupI] at N'
    k_sweep
    (try dsimp only)
    as_aux_lemma =>
    revert X' T' B' hg9 hsd hhs hvl hvz hi hP F' hi2 hls T0 T1 hlb hb1 hb0 hbz hv1 hv0 hwa hsa hwz hsz hwb hsb N'
    revert w s₀ s₁ mg mb fa o pm cd doc kV sns h₁ ha hv hk sd wa wv wk o8 RR t8 loz hez tz uz vz i tI le tl uO hO tkO own a z b lo he lo0 he0 t1 u1 v1 t0 u0 v0 wa0 va0 na0 waz vaz naz wab vab nab
    ((refine gen_all10 (ne := ?gN_237) (P := ?gP_237) ((?gf_237 : ∀ a0 a1 a2 a3 a4 a5 a6 a7 a8 a9, ?gP_237 a0 a1 a2 a3 a4 a5 a6 a7 a8 a9) (gen10 ?gN_237 ?gP_237).1 (gen10 ?gN_237 ?gP_237).2.1 (gen10 ?gN_237 ?gP_237).2.2.1 (gen10 ?gN_237 ?gP_237).2.2.2.1 (gen10 ?gN_237 ?gP_237).2.2.2.2.1 (gen10 ?gN_237 ?gP_237).2.2.2.2.2.1 (gen10 ?gN_237 ?gP_237).2.2.2.2.2.2.1 (gen10 ?gN_237 ?gP_237).2.2.2.2.2.2.2.1 (gen10 ?gN_237 ?gP_237).2.2.2.2.2.2.2.2.1 (gen10 ?gN_237 ?gP_237).2.2.2.2.2.2.2.2.2); (case gN_237 => k_extra "my:ne")))
    intros w s₀ s₁ mg mb fa o pm cd doc
    ((refine gen_all10 (ne := ?gN_238) (P := ?gP_238) ((?gf_238 : ∀ a0 a1 a2 a3 a4 a5 a6 a7 a8 a9, ?gP_238 a0 a1 a2 a3 a4 a5 a6 a7 a8 a9) (gen10 ?gN_238 ?gP_238).1 (gen10 ?gN_238 ?gP_238).2.1 (gen10 ?gN_238 ?gP_238).2.2.1 (gen10 ?gN_238 ?gP_238).2.2.2.1 (gen10 ?gN_238 ?gP_238).2.2.2.2.1 (gen10 ?gN_238 ?gP_238).2.2.2.2.2.1 (gen10 ?gN_238 ?gP_238).2.2.2.2.2.2.1 (gen10 ?gN_238 ?gP_238).2.2.2.2.2.2.2.1 (gen10 ?gN_238 ?gP_238).2.2.2.2.2.2.2.2.1 (gen10 ?gN_238 ?gP_238).2.2.2.2.2.2.2.2.2); (case gN_238 => k_extra "my:ne")))
    intros kV sns h₁ ha hv hk sd wa wv wk
    ((refine gen_all10 (ne := ?gN_239) (P := ?gP_239) ((?gf_239 : ∀ a0 a1 a2 a3 a4 a5 a6 a7 a8 a9, ?gP_239 a0 a1 a2 a3 a4 a5 a6 a7 a8 a9) (gen10 ?gN_239 ?gP_239).1 (gen10 ?gN_239 ?gP_239).2.1 (gen10 ?gN_239 ?gP_239).2.2.1 (gen10 ?gN_239 ?gP_239).2.2.2.1 (gen10 ?gN_239 ?gP_239).2.2.2.2.1 (gen10 ?gN_239 ?gP_239).2.2.2.2.2.1 (gen10 ?gN_239 ?gP_239).2.2.2.2.2.2.1 (gen10 ?gN_239 ?gP_239).2.2.2.2.2.2.2.1 (gen10 ?gN_239 ?gP_239).2.2.2.2.2.2.2.2.1 (gen10 ?gN_239 ?gP_239).2.2.2.2.2.2.2.2.2); (case gN_239 => k_extra "my:ne")))
    intros o8 RR t8 loz hez tz uz vz i tI
    ((refine gen_all10 (ne := ?gN_240) (P := ?gP_240) ((?gf_240 : ∀ a0 a1 a2 a3 a4 a5 a6 a7 a8 a9, ?gP_240 a0 a1 a2 a3 a4 a5 a6 a7 a8 a9) (gen10 ?gN_240 ?gP_240).1 (gen10 ?gN_240 ?gP_240).2.1 (gen10 ?gN_240 ?gP_240).2.2.1 (gen10 ?gN_240 ?gP_240).2.2.2.1 (gen10 ?gN_240 ?gP_240).2.2.2.2.1 (gen10 ?gN_240 ?gP_240).2.2.2.2.2.1 (gen10 ?gN_240 ?gP_240).2.2.2.2.2.2.1 (gen10 ?gN_240 ?gP_240).2.2.2.2.2.2.2.1 (gen10 ?gN_240 ?gP_240).2.2.2.2.2.2.2.2.1 (gen10 ?gN_240 ?gP_240).2.2.2.2.2.2.2.2.2); (case gN_240 => k_extra "my:ne")))
    intros le tl uO hO tkO own a z b lo
    ((refine gen_all10 (ne := ?gN_241) (P := ?gP_241) ((?gf_241 : ∀ a0 a1 a2 a3 a4 a5 a6 a7 a8 a9, ?gP_241 a0 a1 a2 a3 a4 a5 a6 a7 a8 a9) (gen10 ?gN_241 ?gP_241).1 (gen10 ?gN_241 ?gP_241).2.1 (gen10 ?gN_241 ?gP_241).2.2.1 (gen10 ?gN_241 ?gP_241).2.2.2.1 (gen10 ?gN_241 ?gP_241).2.2.2.2.1 (gen10 ?gN_241 ?gP_241).2.2.2.2.2.1 (gen10 ?gN_241 ?gP_241).2.2.2.2.2.2.1 (gen10 ?gN_241 ?gP_241).2.2.2.2.2.2.2.1 (gen10 ?gN_241 ?gP_241).2.2.2.2.2.2.2.2.1 (gen10 ?gN_241 ?gP_241).2.2.2.2.2.2.2.2.2); (case gN_241 => k_extra "my:ne")))
    intros he lo0 he0 t1 u1 v1 t0 u0 v0 wa0
    ((refine gen_all8 (ne := ?gN_242) (P := ?gP_242) ((?gf_242 : ∀ a0 a1 a2 a3 a4 a5 a6 a7, ?gP_242 a0 a1 a2 a3 a4 a5 a6 a7) (gen8 ?gN_242 ?gP_242).1 (gen8 ?gN_242 ?gP_242).2.1 (gen8 ?gN_242 ?gP_242).2.2.1 (gen8 ?gN_242 ?gP_242).2.2.2.1 (gen8 ?gN_242 ?gP_242).2.2.2.2.1 (gen8 ?gN_242 ?gP_242).2.2.2.2.2.1 (gen8 ?gN_242 ?gP_242).2.2.2.2.2.2.1 (gen8 ?gN_242 ?gP_242).2.2.2.2.2.2.2); (case gN_242 => k_extra "my:ne")))
    intros va0 na0 waz vaz naz wab vab nab
    intro X' T' B' hg9 hsd hhs hvl hvz hi hP F' hi2 hls T0 T1 hlb hb1 hb0 hbz hv1 hv0 hwa hsa hwz hsz hwb hsb N'
    k_extra "my:go"
    all_goals (try (with_reducible refine stop_out ?_))
    rename (Fr _ _ _ _) => F'
    rename (News _ _ _ _) => N'
    have hha := (N' (ha, listOf hv.toArray hk) (by k_extra "my:mem")).1
    refine item_listL (k := 1 + (i : Int)) (x := .ref t1) ⟨_, hha, rfl, _, rfl⟩ (by omega) (by omega) (by rw [show (1 + (i : Int)).toNat = i + 1 by omega]; exact hv1) ?_
    clear hha
    k_extra "my:go"
    all_goals (try (with_reducible refine stop_out ?_))
    rename (Fr _ _ _ _) => F'
    rename (News _ _ _ _) => N'
    refine ex_in (⟨_, rfl⟩ : ∃ L, L = lst (hTree sns).hs (i + 1)) ?_
    walk_at "g1"
    intro LE hLE
    rw [← hLE] at hls T1 hlb
    have hle : (if lo < le then lo else le) = LE := by rw [hls, hP]; split <;> omega
    rw [hle] at F'
    refine ex_in2 (fr_k ha wa sd (1 + (i : Int)) lo he _ F' (by k_extra "my:names")) ?_
    clear F' hle
    walk_at "g2"
    intros u9 tl9
    intro F'
    simp only [kstB] at F'
    have hha := (N' (ha, listOf hv.toArray hk) (by k_extra "my:mem")).1
    refine item_listL (k := 1 + (i : Int) - 1) (x := .ref t0) ⟨_, hha, rfl, _, rfl⟩ (by omega) (by omega) (by rw [show (1 + (i : Int) - 1).toNat = i by omega]; exact hv0) ?_
    clear hha
    k_extra "my:go"
    all_goals (try (with_reducible refine stop_out ?_))
    rename (Fr _ _ _ _) => F'
    rename (News _ _ _ _) => N'
    have hha := (N' (ha, listOf hv.toArray hk) (by k_extra "my:mem")).1
    refine item_listL (k := 0) (x := .ref tz) ⟨_, hha, rfl, _, rfl⟩ (by omega) (by omega) hvz ?_
    clear hha
    k_extra "my:go"
    all_goals (try (with_reducible refine stop_out ?_))
    (((with_reducible rename Fr _ _ _ _ => lF'); (with_unfolding_all refine' For_invVF lF' ?k1_243 ?k2_243 ?_; (case k1_243 => exact rfl); (case k2_243 => exact rfl); k_whole); k_extra "my:go"))
    all_goals (try (with_reducible refine stop_out ?_))
    rename IsRange _ _ _ _ _ _ _ _ => rgX
    with_reducible rename Fr _ _ _ _ => F'
    with_reducible rename News _ _ _ _ => N'
    rename_i b4
    clear b4
    refine ex_in5 (dues_name N') ?_
    clear N'
    walk_at "g5"
    intros du' d0 td0 d1 td1
    rintro ⟨⟨hdu, hd0, hd1⟩, N'⟩
    subst hdu
    rw [max_due] at hd0 hd1
    rw [← hd0] at T0
    rw [← hd1] at T1
    clear hd0 hd1
    refine forRangeR (σ := Unit) (n := 2) (fun _ => (du', listOf [Value.int d0 td0, Value.int d1 td1].toArray 0) :: (wab, listOf vab.toArray nab) :: (wa0, listOf va0.toArray na0) :: (waz, listOf vaz.toArray naz) :: (wa, listOf wv.toArray wk) :: (ha, listOf hv.toArray hk) :: (168, o8) :: (tz, tupI loz hez uz vz) :: (RR ++ own))
      (fun _ => [("heights", .ref ha), ("ways", .ref wa), ("side", .int sd t8), ("k", .int (1 + (i : Int)) tI), ("dues", .ref du'), ("least", .int LE tl9)]) (fun _ _ => True) (fun _ => True) () rfl rgX (small_one (by omega) (by omega) (by omega) (by omega)) (by rw [rangeSize_nat]; rfl) F' (News.sub N' (by (((try dsimp only); k_extra "my:inl")))) (by k_extra "my:names") trivial ?_ ?_ ?_
    · rename_i l9
      clear l9 F' N' rgX hP hls hlb hb1 hb0 hbz hv1 hv0
      ((refine gen_all7 (ne := ?gN_245) (P := ?gP_245) ((?gf_245 : ∀ a0 a1 a2 a3 a4 a5 a6, ?gP_245 a0 a1 a2 a3 a4 a5 a6) (gen7 ?gN_245 ?gP_245).1 (gen7 ?gN_245 ?gP_245).2.1 (gen7 ?gN_245 ?gP_245).2.2.1 (gen7 ?gN_245 ?gP_245).2.2.2.1 (gen7 ?gN_245 ?gP_245).2.2.2.2.1 (gen7 ?gN_245 ?gP_245).2.2.2.2.2.1 (gen7 ?gN_245 ?gP_245).2.2.2.2.2.2); (case gN_245 => k_extra "my:ne")))
      intros j tJ un u h tk own2
      rintro hj hown2 - F' N'
      (try dsimp only at N')
      simp only [kstB, Int.zero_add] at F'
      simp only [List.cons_append] at N'
      clear hown2
      k_sweep
      (try dsimp only)
      clear hLE
      as_aux_lemma =>
      revert X' T' B' hg9 hsd hhs hvl hvz hi hi2 hwa hsa hwz hsz hwb hsb T0 T1 hj N' F'
      revert w s₀ s₁ mg mb fa o pm cd doc kV sns h₁ ha hv hk sd wa wv wk o8 RR t8 loz hez tz uz vz i tI hO tkO own a z b wa0 va0 na0 waz vaz naz wab vab nab LE tl9 du' d0 td0 d1 td1 j tJ u h tk own2
      ((refine gen_all10 (ne := ?gN_246) (P := ?gP_246) ((?gf_246 : ∀ a0 a1 a2 a3 a4 a5 a6 a7 a8 a9, ?gP_246 a0 a1 a2 a3 a4 a5 a6 a7 a8 a9) (gen10 ?gN_246 ?gP_246).1 (gen10 ?gN_246 ?gP_246).2.1 (gen10 ?gN_246 ?gP_246).2.2.1 (gen10 ?gN_246 ?gP_246).2.2.2.1 (gen10 ?gN_246 ?gP_246).2.2.2.2.1 (gen10 ?gN_246 ?gP_246).2.2.2.2.2.1 (gen10 ?gN_246 ?gP_246).2.2.2.2.2.2.1 (gen10 ?gN_246 ?gP_246).2.2.2.2.2.2.2.1 (gen10 ?gN_246 ?gP_246).2.2.2.2.2.2.2.2.1 (gen10 ?gN_246 ?gP_246).2.2.2.2.2.2.2.2.2); (case gN_246 => k_extra "my:ne")))
      intros w s₀ s₁ mg mb fa o pm cd doc
      ((refine gen_all10 (ne := ?gN_247) (P := ?gP_247) ((?gf_247 : ∀ a0 a1 a2 a3 a4 a5 a6 a7 a8 a9, ?gP_247 a0 a1 a2 a3 a4 a5 a6 a7 a8 a9) (gen10 ?gN_247 ?gP_247).1 (gen10 ?gN_247 ?gP_247).2.1 (gen10 ?gN_247 ?gP_247).2.2.1 (gen10 ?gN_247 ?gP_247).2.2.2.1 (gen10 ?gN_247 ?gP_247).2.2.2.2.1 (gen10 ?gN_247 ?gP_247).2.2.2.2.2.1 (gen10 ?gN_247 ?gP_247).2.2.2.2.2.2.1 (gen10 ?gN_247 ?gP_247).2.2.2.2.2.2.2.1 (gen10 ?gN_247 ?gP_247).2.2.2.2.2.2.2.2.1 (gen10 ?gN_247 ?gP_247).2.2.2.2.2.2.2.2.2); (case gN_247 => k_extra "my:ne")))
      intros kV sns h₁ ha hv hk sd wa wv wk
      ((refine gen_all10 (ne := ?gN_248) (P := ?gP_248) ((?gf_248 : ∀ a0 a1 a2 a3 a4 a5 a6 a7 a8 a9, ?gP_248 a0 a1 a2 a3 a4 a5 a6 a7 a8 a9) (gen10 ?gN_248 ?gP_248).1 (gen10 ?gN_248 ?gP_248).2.1 (gen10 ?gN_248 ?gP_248).2.2.1 (gen10 ?gN_248 ?gP_248).2.2.2.1 (gen10 ?gN_248 ?gP_248).2.2.2.2.1 (gen10 ?gN_248 ?gP_248).2.2.2.2.2.1 (gen10 ?gN_248 ?gP_248).2.2.2.2.2.2.1 (gen10 ?gN_248 ?gP_248).2.2.2.2.2.2.2.1 (gen10 ?gN_248 ?gP_248).2.2.2.2.2.2.2.2.1 (gen10 ?gN_248 ?gP_248).2.2.2.2.2.2.2.2.2); (case gN_248 => k_extra "my:ne")))
      intros o8 RR t8 loz hez tz uz vz i tI
      ((refine gen_all10 (ne := ?gN_249) (P := ?gP_249) ((?gf_249 : ∀ a0 a1 a2 a3 a4 a5 a6 a7 a8 a9, ?gP_249 a0 a1 a2 a3 a4 a5 a6 a7 a8 a9) (gen10 ?gN_249 ?gP_249).1 (gen10 ?gN_249 ?gP_249).2.1 (gen10 ?gN_249 ?gP_249).2.2.1 (gen10 ?gN_249 ?gP_249).2.2.2.1 (gen10 ?gN_249 ?gP_249).2.2.2.2.1 (gen10 ?gN_249 ?gP_249).2.2.2.2.2.1 (gen10 ?gN_249 ?gP_249).2.2.2.2.2.2.1 (gen10 ?gN_249 ?gP_249).2.2.2.2.2.2.2.1 (gen10 ?gN_249 ?gP_249).2.2.2.2.2.2.2.2.1 (gen10 ?gN_249 ?gP_249).2.2.2.2.2.2.2.2.2); (case gN_249 => k_extra "my:ne")))
      intros hO tkO own a z b wa0 va0 na0 waz
      ((refine gen_all10 (ne := ?gN_250) (P := ?gP_250) ((?gf_250 : ∀ a0 a1 a2 a3 a4 a5 a6 a7 a8 a9, ?gP_250 a0 a1 a2 a3 a4 a5 a6 a7 a8 a9) (gen10 ?gN_250 ?gP_250).1 (gen10 ?gN_250 ?gP_250).2.1 (gen10 ?gN_250 ?gP_250).2.2.1 (gen10 ?gN_250 ?gP_250).2.2.2.1 (gen10 ?gN_250 ?gP_250).2.2.2.2.1 (gen10 ?gN_250 ?gP_250).2.2.2.2.2.1 (gen10 ?gN_250 ?gP_250).2.2.2.2.2.2.1 (gen10 ?gN_250 ?gP_250).2.2.2.2.2.2.2.1 (gen10 ?gN_250 ?gP_250).2.2.2.2.2.2.2.2.1 (gen10 ?gN_250 ?gP_250).2.2.2.2.2.2.2.2.2); (case gN_250 => k_extra "my:ne")))
      intros vaz naz wab vab nab LE tl9 du' d0 td0
      ((refine gen_all8 (ne := ?gN_251) (P := ?gP_251) ((?gf_251 : ∀ a0 a1 a2 a3 a4 a5 a6 a7, ?gP_251 a0 a1 a2 a3 a4 a5 a6 a7) (gen8 ?gN_251 ?gP_251).1 (gen8 ?gN_251 ?gP_251).2.1 (gen8 ?gN_251 ?gP_251).2.2.1 (gen8 ?gN_251 ?gP_251).2.2.2.1 (gen8 ?gN_251 ?gP_251).2.2.2.2.1 (gen8 ?gN_251 ?gP_251).2.2.2.2.2.1 (gen8 ?gN_251 ?gP_251).2.2.2.2.2.2.1 (gen8 ?gN_251 ?gP_251).2.2.2.2.2.2.2); (case gN_251 => k_extra "my:ne")))
      intros d1 td1 j tJ u h tk own2
      intro X' T' B' hg9 hsd hhs hvl hvz hi hi2 hwa hsa hwz hsz hwb hsb T0 T1 hj N' F'
      refine ex_in6 (way_of hj hsa hsz T0 T1 (l := (du', listOf [Value.int d0 td0, Value.int d1 td1].toArray 0) :: (wab, listOf vab.toArray nab) :: (wa0, listOf va0.toArray na0) :: (waz, listOf vaz.toArray naz) :: (wa, listOf wv.toArray wk) :: (ha, listOf hv.toArray hk) :: (168, o8) :: (tz, tupI loz hez uz vz) :: (RR ++ own ++ own2)) (td0 := td0) (td1 := td1) (by k_extra "my:mem") (by k_extra "my:mem")) ?_
      ((refine gen_all6 (ne := ?gN_252) (P := ?gP_252) ((?gf_252 : ∀ a0 a1 a2 a3 a4 a5, ?gP_252 a0 a1 a2 a3 a4 a5) (gen6 ?gN_252 ?gP_252).1 (gen6 ?gN_252 ?gP_252).2.1 (gen6 ?gN_252 ?gP_252).2.2.1 (gen6 ?gN_252 ?gP_252).2.2.2.1 (gen6 ?gN_252 ?gP_252).2.2.2.2.1 (gen6 ?gN_252 ?gP_252).2.2.2.2.2); (case gN_252 => k_extra "my:ne")))
      intros wx vx nx ax due td
      rintro ⟨hwx, hdx, hsx, Tx, hmx⟩
      k_extra "my:go"
      all_goals (try (with_reducible refine stop_out ?_))
      rename (Fr _ _ _ _) => F'
      rename (News _ _ _ _) => N'
      have hha := (N' (wa, listOf wv.toArray wk) (by k_extra "my:mem")).1
      refine item_listL (k := 1 + (i : Int) - 1) (x := .ref wa0) ⟨_, hha, rfl, _, rfl⟩ (by omega) (by omega) (by rw [show (1 + (i : Int) - 1).toNat = i by omega]; exact hwa) ?_
      clear hha
      k_extra "my:go"
      all_goals (try (with_reducible refine stop_out ?_))
      rename (Fr _ _ _ _) => F'
      rename (News _ _ _ _) => N'
      have hha := (N' (wa, listOf wv.toArray wk) (by k_extra "my:mem")).1
      refine item_listL (k := 0) (x := .ref waz) ⟨_, hha, rfl, _, rfl⟩ (by omega) (by omega) hwz ?_
      clear hha
      k_extra "my:go"
      all_goals (try (with_reducible refine stop_out ?_))
      rename (Fr _ _ _ _) => F'
      rename (News _ _ _ _) => N'
      have hha := (N' _ (List.Mem.head _)).1
      refine kba_turn (value' := PySem.Expr.Name (Str.ofString "_") ⟨0, 0, 0, 0⟩) (fun _ => rfl) ?_
      refine item_listL (l := [Value.ref wa0, Value.ref waz]) (k := (j : Int)) (x := .ref wx) ⟨_, hha, rfl, _, rfl⟩ (by omega) (by omega) (by rw [Int.toNat_natCast]; exact hwx) ?_
      clear hha
      k_extra "my:go"
      all_goals (try (with_reducible refine stop_out ?_))
      rename (Fr _ _ _ _) => F'
      rename (News _ _ _ _) => N'
      have N1 : News _ _ _ ((du', listOf [Value.int d0 td0, Value.int d1 td1].toArray 0) :: (wab, listOf vab.toArray nab) :: (wa0, listOf va0.toArray na0) :: (waz, listOf vaz.toArray naz) :: (wa, listOf wv.toArray wk) :: (ha, listOf hv.toArray hk) :: (168, o8) :: (tz, tupI loz hez uz vz) :: (RR ++ own ++ own2)) := News.sub N' (by simp only [tupI]; (((try dsimp only); k_extra "my:inl")))
      clear N'
      have N' := N1
      clear N1
      k_dflt refine PyProof.Rows.LCg.ListComp_U F' (by with_unfolding_all rfl) (by decide) rfl (by decide) rfl ?_
      k_extra "my:go"
      all_goals (try (with_reducible refine stop_out ?_))
      rename (Fr _ _ _ _) => F'
      rename (News _ _ _ _) => N'
      have hha := (N' (wa, listOf wv.toArray wk) (by k_extra "my:mem")).1
      refine item_listL (k := 1 + (i : Int)) (x := .ref wab) ⟨_, hha, rfl, _, rfl⟩ (by omega) (by omega) (by rw [show (1 + (i : Int)).toNat = i + 1 by omega]; exact hwb) ?_
      clear hha
      k_extra "my:go"
      all_goals (try (with_reducible refine stop_out ?_))
      rename (Fr _ _ _ _) => F'
      rename (News _ _ _ _) => N'
      refine ex_in (namedH N') ?_
      walk_at "g1"
      rintro nl ⟨hnl, Nb⟩
      have hvb : vab.length = b.length := by have := strsAre_length_ hsb; rw [this, List.length_map]
      have hbl := Tx.ln.2.2.2
      have hb12 := Tx.b12
      refine PyProof.Rows.LCg.CompSrc.ledger (ax := wab) (its := vab.toArray) (k := nab) rfl F' Nb (by rw [hnl]; exact .tail _ (.head _)) (by rw [sizeLine_eq]; show vab.length ≤ _; omega) ?_
      walk_at "g1"
      intro g2
      refine rest_ind (fun i ys nw => nw = nl ∧ StrsAre ys ((b.map upN).take i)) _ ?_ ?_ _ 0 [] _ (Nat.zero_add _) ⟨rfl, .nil⟩
      · walk_at "g2"
        intros ys nw
        rintro ⟨hnw, hS⟩
        replace hnw := hnw.symm
        subst hnw
        walk_at "g3"
        intros D h9 tk9
        intro F9 N9 o9
        clear F' N' Nb
        rw [hnl] at N9
        rw [show vab.toArray.size = (b.map upN).length by simpa using hvb, List.take_length] at hS
        k_extra "my:go"
        all_goals (try (with_reducible refine stop_out ?_))
        rename (Fr _ _ _ _) => F'
        rename (News _ _ _ _) => N'
        rename_i l7 P9 h8 F8 N8 l8 hX tX
        have N1 : News _ _ _ ((P9, listOf [Value.ref wx, Value.ref D].toArray 0) :: (D, listOf ys.toArray ys.length) :: (du', listOf [Value.int d0 td0, Value.int d1 td1].toArray 0) :: (wab, listOf vab.toArray nab) :: (wa0, listOf va0.toArray na0) :: (waz, listOf vaz.toArray naz) :: (wa, listOf wv.toArray wk) :: (ha, listOf hv.toArray hk) :: (168, o8) :: (tz, tupI loz hez uz vz) :: (RR ++ own ++ own2)) := News.sub N' (by
          rw [show (PyProof.Rows.LCg.lst ys) = listOf ys.toArray ys.length from rfl]
          (((try dsimp only); k_extra "my:inl")))
        clear N' F8 N8 l8 l7 o9 hnl hvz hwa hsa hwz hsz hwb hsb T0 T1 hwx hvb hbl hb12
        (try dsimp only)
        as_aux_lemma =>
        revert X' T' B' hg9 hsd hhs hvl hi hi2 hj hdx hsx Tx hmx hS F' N1
        revert w s₀ s₁ mg mb fa o pm cd doc kV sns h₁ ha hv hk sd wa wv wk o8 RR t8 loz hez tz uz vz i tI hO tkO own b wa0 va0 na0 waz vaz naz wab vab nab LE tl9 du' d0 td0 d1 td1 j tJ u h tk own2 wx vx nx ax due td ys D P9 hX tX
        ((refine gen_all10 (ne := ?gN_255) (P := ?gP_255) ((?gf_255 : ∀ a0 a1 a2 a3 a4 a5 a6 a7 a8 a9, ?gP_255 a0 a1 a2 a3 a4 a5 a6 a7 a8 a9) (gen10 ?gN_255 ?gP_255).1 (gen10 ?gN_255 ?gP_255).2.1 (gen10 ?gN_255 ?gP_255).2.2.1 (gen10 ?gN_255 ?gP_255).2.2.2.1 (gen10 ?gN_255 ?gP_255).2.2.2.2.1 (gen10 ?gN_255 ?gP_255).2.2.2.2.2.1 (gen10 ?gN_255 ?gP_255).2.2.2.2.2.2.1 (gen10 ?gN_255 ?gP_255).2.2.2.2.2.2.2.1 (gen10 ?gN_255 ?gP_255).2.2.2.2.2.2.2.2.1 (gen10 ?gN_255 ?gP_255).2.2.2.2.2.2.2.2.2); (case gN_255 => k_extra "my:ne")))
        intros w s₀ s₁ mg mb fa o pm cd doc
        ((refine gen_all10 (ne := ?gN_256) (P := ?gP_256) ((?gf_256 : ∀ a0 a1 a2 a3 a4 a5 a6 a7 a8 a9, ?gP_256 a0 a1 a2 a3 a4 a5 a6 a7 a8 a9) (gen10 ?gN_256 ?gP_256).1 (gen10 ?gN_256 ?gP_256).2.1 (gen10 ?gN_256 ?gP_256).2.2.1 (gen10 ?gN_256 ?gP_256).2.2.2.1 (gen10 ?gN_256 ?gP_256).2.2.2.2.1 (gen10 ?gN_256 ?gP_256).2.2.2.2.2.1 (gen10 ?gN_256 ?gP_256).2.2.2.2.2.2.1 (gen10 ?gN_256 ?gP_256).2.2.2.2.2.2.2.1 (gen10 ?gN_256 ?gP_256).2.2.2.2.2.2.2.2.1 (gen10 ?gN_256 ?gP_256).2.2.2.2.2.2.2.2.2); (case gN_256 => k_extra "my:ne")))
        intros kV sns h₁ ha hv hk sd wa wv wk
        ((refine gen_all10 (ne := ?gN_257) (P := ?gP_257) ((?gf_257 : ∀ a0 a1 a2 a3 a4 a5 a6 a7 a8 a9, ?gP_257 a0 a1 a2 a3 a4 a5 a6 a7 a8 a9) (gen10 ?gN_257 ?gP_257).1 (gen10 ?gN_257 ?gP_257).2.1 (gen10 ?gN_257 ?gP_257).2.2.1 (gen10 ?gN_257 ?gP_257).2.2.2.1 (gen10 ?gN_257 ?gP_257).2.2.2.2.1 (gen10 ?gN_257 ?gP_257).2.2.2.2.2.1 (gen10 ?gN_257 ?gP_257).2.2.2.2.2.2.1 (gen10 ?gN_257 ?gP_257).2.2.2.2.2.2.2.1 (gen10 ?gN_257 ?gP_257).2.2.2.2.2.2.2.2.1 (gen10 ?gN_257 ?gP_257).2.2.2.2.2.2.2.2.2); (case gN_257 => k_extra "my:ne")))
        intros o8 RR t8 loz hez tz uz vz i tI
        ((refine gen_all10 (ne := ?gN_258) (P := ?gP_258) ((?gf_258 : ∀ a0 a1 a2 a3 a4 a5 a6 a7 a8 a9, ?gP_258 a0 a1 a2 a3 a4 a5 a6 a7 a8 a9) (gen10 ?gN_258 ?gP_258).1 (gen10 ?gN_258 ?gP_258).2.1 (gen10 ?gN_258 ?gP_258).2.2.1 (gen10 ?gN_258 ?gP_258).2.2.2.1 (gen10 ?gN_258 ?gP_258).2.2.2.2.1 (gen10 ?gN_258 ?gP_258).2.2.2.2.2.1 (gen10 ?gN_258 ?gP_258).2.2.2.2.2.2.1 (gen10 ?gN_258 ?gP_258).2.2.2.2.2.2.2.1 (gen10 ?gN_258 ?gP_258).2.2.2.2.2.2.2.2.1 (gen10 ?gN_258 ?gP_258).2.2.2.2.2.2.2.2.2); (case gN_258 => k_extra "my:ne")))
        intros hO tkO own b wa0 va0 na0 waz vaz naz
        ((refine gen_all10 (ne := ?gN_259) (P := ?gP_259) ((?gf_259 : ∀ a0 a1 a2 a3 a4 a5 a6 a7 a8 a9, ?gP_259 a0 a1 a2 a3 a4 a5 a6 a7 a8 a9) (gen10 ?gN_259 ?gP_259).1 (gen10 ?gN_259 ?gP_259).2.1 (gen10 ?gN_259 ?gP_259).2.2.1 (gen10 ?gN_259 ?gP_259).2.2.2.1 (gen10 ?gN_259 ?gP_259).2.2.2.2.1 (gen10 ?gN_259 ?gP_259).2.2.2.2.2.1 (gen10 ?gN_259 ?gP_259).2.2.2.2.2.2.1 (gen10 ?gN_259 ?gP_259).2.2.2.2.2.2.2.1 (gen10 ?gN_259 ?gP_259).2.2.2.2.2.2.2.2.1 (gen10 ?gN_259 ?gP_259).2.2.2.2.2.2.2.2.2); (case gN_259 => k_extra "my:ne")))
        intros wab vab nab LE tl9 du' d0 td0 d1 td1
        ((refine gen_all10 (ne := ?gN_260) (P := ?gP_260) ((?gf_260 : ∀ a0 a1 a2 a3 a4 a5 a6 a7 a8 a9, ?gP_260 a0 a1 a2 a3 a4 a5 a6 a7 a8 a9) (gen10 ?gN_260 ?gP_260).1 (gen10 ?gN_260 ?gP_260).2.1 (gen10 ?gN_260 ?gP_260).2.2.1 (gen10 ?gN_260 ?gP_260).2.2.2.1 (gen10 ?gN_260 ?gP_260).2.2.2.2.1 (gen10 ?gN_260 ?gP_260).2.2.2.2.2.1 (gen10 ?gN_260 ?gP_260).2.2.2.2.2.2.1 (gen10 ?gN_260 ?gP_260).2.2.2.2.2.2.2.1 (gen10 ?gN_260 ?gP_260).2.2.2.2.2.2.2.2.1 (gen10 ?gN_260 ?gP_260).2.2.2.2.2.2.2.2.2); (case gN_260 => k_extra "my:ne")))
        intros j tJ u h tk own2 wx vx nx ax
        ((refine gen_all7 (ne := ?gN_261) (P := ?gP_261) ((?gf_261 : ∀ a0 a1 a2 a3 a4 a5 a6, ?gP_261 a0 a1 a2 a3 a4 a5 a6) (gen7 ?gN_261 ?gP_261).1 (gen7 ?gN_261 ?gP_261).2.1 (gen7 ?gN_261 ?gP_261).2.2.1 (gen7 ?gN_261 ?gP_261).2.2.2.1 (gen7 ?gN_261 ?gP_261).2.2.2.2.1 (gen7 ?gN_261 ?gP_261).2.2.2.2.2.1 (gen7 ?gN_261 ?gP_261).2.2.2.2.2.2); (case gN_261 => k_extra "my:ne")))
        intros due td ys D P9 hX tX
        intro X' T' B' hg9 hsd hhs hvl hi hi2 hj hdx hsx Tx hmx hS F' N1
        have hbd := Tx.bd
        refine ex_in8 (Tx.sides hsd hsx hS (l := (P9, listOf [Value.ref wx, Value.ref D].toArray 0) :: (D, listOf ys.toArray ys.length) :: (du', listOf [Value.int d0 td0, Value.int d1 td1].toArray 0) :: (wab, listOf vab.toArray nab) :: (wa0, listOf va0.toArray na0) :: (waz, listOf vaz.toArray naz) :: (wa, listOf wv.toArray wk) :: (ha, listOf hv.toArray hk) :: (168, o8) :: (tz, tupI loz hez uz vz) :: (RR ++ own ++ own2)) (.tail _ (.tail _ hmx)) (.tail _ (.head _))) ?_
        ((refine gen_all8 (ne := ?gN_262) (P := ?gP_262) ((?gf_262 : ∀ a0 a1 a2 a3 a4 a5 a6 a7, ?gP_262 a0 a1 a2 a3 a4 a5 a6 a7) (gen8 ?gN_262 ?gP_262).1 (gen8 ?gN_262 ?gP_262).2.1 (gen8 ?gN_262 ?gP_262).2.2.1 (gen8 ?gN_262 ?gP_262).2.2.2.1 (gen8 ?gN_262 ?gP_262).2.2.2.2.1 (gen8 ?gN_262 ?gP_262).2.2.2.2.2.1 (gen8 ?gN_262 ?gP_262).2.2.2.2.2.2.1 (gen8 ?gN_262 ?gP_262).2.2.2.2.2.2.2); (case gN_262 => k_extra "my:ne")))
        intros p q vp vq np nq as bs
        rintro ⟨hp9, hq9, hsp, hsq, hLP, hmp, hmq, hdist⟩
        have hha := (N1 _ (List.Mem.head _)).1
        refine item_listL (l := [Value.ref wx, Value.ref D]) (k := sd) (x := .ref p) ⟨_, hha, rfl, _, rfl⟩ (by omega) (by omega) hp9 ?_
        clear hha
        k_extra "my:go"
        all_goals (try (with_reducible refine stop_out ?_))
        rename (Fr _ _ _ _) => F'
        rename (News _ _ _ _) => N'
        have hha := (N' _ (List.Mem.head _)).1
        refine item_listL (l := [Value.ref wx, Value.ref D]) (k := 1 - sd) (x := .ref q) ⟨_, hha, rfl, _, rfl⟩ (by omega) (by omega) hq9 ?_
        clear hha
        k_extra "my:go"
        all_goals (try (with_reducible refine stop_out ?_))
        rename (Fr _ _ _ _) => F'
        rename (News _ _ _ _) => N'
        have hha := (N' _ (List.Mem.tail _ (List.Mem.tail _ (List.Mem.head _)))).1
        refine item_listL (l := [Value.int d0 td0, Value.int d1 td1]) (k := (j : Int)) (x := .int due td) ⟨_, hha, rfl, _, rfl⟩ (by omega) (by omega) (by rw [Int.toNat_natCast]; exact hdx) ?_
        clear hha
        k_extra "my:go"
        all_goals (try (with_reducible refine stop_out ?_))
        rename (Fr _ _ _ _) => F'
        rename (News _ _ _ _) => N'
        k_dflt refine Con.use (con_levL _ p q vp vq np nq as bs _ _ hsp hsq hLP.hoa hLP.hob hLP.hne hLP.ha0 hLP.hb0 hLP.hla hLP.hlb hLP.hsa hLP.hsb (bd9 _ hbd).1 _ hmp hmq) (by k_extra "my:us1") (by k_extra "my:us1") B' F' X' N' T' rfl ?_
        clear F' N'
        (try clear N1)
        walk_at "g4"
        intros v n hB tB
        rintro ⟨hve, hn⟩ F' N'
        subst hn
        refine ex_in hve ?_
        clear hve
        walk_at "g1"
        intro t9 hve
        subst hve
        rw [hdist _ (bd9 _ hbd).2]
        k_sweep
        k_extra "my:go"
        all_goals (try (with_reducible refine stop_out ?_))
        refine str_int9 (by omega) (by omega) ?_
        k_extra "my:go"
        all_goals (try (with_reducible refine stop_out ?_))
        rename (Fr _ _ _ _) => F'
        rename (News _ _ _ _) => N'
        have hha := (N' _ (List.Mem.tail _ (List.Mem.tail _ (List.Mem.head _)))).1
        refine item_listL (l := [Value.int d0 td0, Value.int d1 td1]) (k := (j : Int)) (x := .int due td) ⟨_, hha, rfl, _, rfl⟩ (by omega) (by omega) (by rw [Int.toNat_natCast]; exact hdx) ?_
        clear hha
        k_extra "my:go"
        all_goals (try (with_reducible refine stop_out ?_))
        refine str_int9 (by omega) (by omega) ?_
        k_extra "my:go"
        all_goals (try (with_reducible refine stop_out ?_))
        refine ne_same ?_
        k_extra "my:go"
        refine ⟨(), _, _, _, _, rfl, by k_asm, by k_asm, by (((try dsimp only); k_extra "my:inl")), by (((try dsimp only); k_extra "my:inl")), by k_extra "my:names", trivial, same_old rfl⟩
      · ((refine gen_all6 (ne := ?gN_265) (P := ?gP_265) ((?gf_265 : ∀ a0 a1 a2 a3 a4 a5, ?gP_265 a0 a1 a2 a3 a4 a5) (gen6 ?gN_265 ?gP_265).1 (gen6 ?gN_265 ?gP_265).2.1 (gen6 ?gN_265 ?gP_265).2.2.1 (gen6 ?gN_265 ?gP_265).2.2.2.1 (gen6 ?gN_265 ?gP_265).2.2.2.2.1 (gen6 ?gN_265 ?gP_265).2.2.2.2.2); (case gN_265 => k_extra "my:ne")))
        intros i9 ys nw v I oI
        ((refine gen_all7 (ne := ?gN_266) (P := ?gP_266) ((?gf_266 : ∀ a0 a1 a2 a3 a4 a5 a6, ?gP_266 a0 a1 a2 a3 a4 a5 a6) (gen7 ?gN_266 ?gP_266).1 (gen7 ?gN_266 ?gP_266).2.1 (gen7 ?gN_266 ?gP_266).2.2.1 (gen7 ?gN_266 ?gP_266).2.2.2.1 (gen7 ?gN_266 ?gP_266).2.2.2.2.1 (gen7 ?gN_266 ?gP_266).2.2.2.2.2.1 (gen7 ?gN_266 ?gP_266).2.2.2.2.2.2); (case gN_266 => k_extra "my:ne")))
        intros C oC D m2 h9 tk9 E9
        rintro hi9 ⟨hnw, hS⟩ hv9 hC hx F9 N9 off hne
        replace hnw := hnw.symm
        subst hnw
        clear F' N' Nb
        rw [hnl] at N9
        refine ex_in (⟨_, List.getElem?_eq_getElem (show i9 < b.length from by rw [← hvb]; exact hi9)⟩ : ∃ n, b[i9]? = some n) ?_
        walk_at "g1"
        intro n9 hn9
        have hn12 := hb12 n9 (List.mem_of_getElem? hn9)
        refine ex_in (strs_get hsb (show (b.map tagN)[i9]? = some (tagN n9) by rw [List.getElem?_map, hn9]; rfl)) ?_
        walk_at "g1"
        intro t9 ht9
        have hv' : v = .str (tagN n9) t9 := by
          have e : vab[i9]? = some v := by simpa using hv9
          rw [ht9] at e
          exact (Option.some.inj e).symm
        subst hv'
        have htl := (tagN_val n9 hn12).2.2.1
        refine ex_in (⟨_, rfl⟩ : ∃ y, y = tagN n9) ?_
        walk_at "g1"
        intro y9 hy9
        rw [← hy9] at hx htl
        clear hv9 ht9
        k_extra "my:go"
        all_goals (try (with_reducible refine stop_out ?_))
        refine ⟨_, _, nl, rfl, by k_asm, by rw [hnl]; k_asm, off, .inr ⟨_, by rw [hnl]; exact .tail _ (.head _), rfl, _, rfl⟩, rfl, ?_⟩
        rw [List.take_add_one, List.getElem?_map, hn9, hy9]
        exact strsAre_snoc hS
    · walk_at "g4"
      intros un u h tk
      rintro - F' N'
      (try dsimp only at N')
      simp only [kstB] at F'
      k_sweep
      k_extra "my:go"
      refine ⟨(LE, tl9), _, _, _, _, rfl, by k_asm, by k_asm, by (((try dsimp only); k_extra "my:inl")), by (((try dsimp only); k_extra "my:inl")), by k_extra "my:names", hLE, same_old rfl⟩
    · exact fun _ _ => trivial
  · refine pr2 ?_
    walk_at "g5"
    intros le tl u h tk
    rintro - F' N'
    simp only [kstB] at F'
    k_sweep
    rw [ho8] at N'
    k_extra "my:go"
    all_goals (try (with_reducible refine stop_out ?_))
    kc_close
  · exact fun _ _ => trivial)
end
theorem lay_46 : True := by
  k_with "off48" => skip
  exact True.intro
end
end Mine
theorem PySem.Challenge.cw_tv0054_02_holds : PySem.Challenge.rw_tv0054_02.Holds :=
  Mine.law2_holds
