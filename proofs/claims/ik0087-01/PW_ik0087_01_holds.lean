import PyProof.Rows.All
import Wide.All
import OpenK.AllK
import Wide.FinOn
import PyProof.StrLawsReplace
import PyProof.StrLawsLast
import PyProof.EqAt
import PySem.Challenge.RW_ik0087_01
open PySem PySem.W PyProof.Rows PySem.Spec PySem.Calls
set_option Elab.async false
set_option maxRecDepth 100000
set_option maxHeartbeats 8000000
/- A READER SHOULD WEIGH THIS. The theorems of this block say True and nothing in the proof uses them. They take the names under which
   the library, while it makes the head below, would lay a «twin» of each big constant of this row; where the name is taken the library goes
   on without that twin. With the twins the compiled file is over 300 MB, far over the lid. No module that this file reads declares one of these names. -/
namespace PySem.W.Fast
theorem tw10006666124156027396 : True := trivial
theorem tw10010511219673018494 : True := trivial
theorem tw10010936943081839664 : True := trivial
theorem tw10015664371746657536 : True := trivial
theorem tw10030586065758793078 : True := trivial
theorem tw10033396928017900241 : True := trivial
theorem tw10040787053062605231 : True := trivial
theorem tw10042830170769951172 : True := trivial
theorem tw10057510723706494237 : True := trivial
theorem tw10058976618658966374 : True := trivial
theorem tw10071868454641916008 : True := trivial
theorem tw10073347824450446311 : True := trivial
theorem tw10092856319447448734 : True := trivial
theorem tw10132909190147918485 : True := trivial
theorem tw10138199336372458610 : True := trivial
theorem tw10162165587724738490 : True := trivial
theorem tw10181792811725400092 : True := trivial
theorem tw10190238754879171395 : True := trivial
theorem tw10205541121877940668 : True := trivial
theorem tw10216692956209284516 : True := trivial
theorem tw10227693086864044499 : True := trivial
theorem tw10257574182948591618 : True := trivial
theorem tw10273473676514133216 : True := trivial
theorem tw10276908904998144438 : True := trivial
theorem tw10299114407867686024 : True := trivial
theorem tw10308316962582663543 : True := trivial
theorem tw10314498396905981064 : True := trivial
theorem tw10317580896714288900 : True := trivial
theorem tw10320149354908582346 : True := trivial
theorem tw10323183001455561277 : True := trivial
theorem tw10323968676351773119 : True := trivial
theorem tw10352308551163946355 : True := trivial
theorem tw10353204498128435838 : True := trivial
theorem tw10379131730601215995 : True := trivial
theorem tw1041845030581493396 : True := trivial
theorem tw10422997342228622526 : True := trivial
theorem tw10424941004445345732 : True := trivial
theorem tw10455430044892516648 : True := trivial
theorem tw10460931487171540145 : True := trivial
theorem tw10470071008263537045 : True := trivial
theorem tw10475303700862453374 : True := trivial
theorem tw10477944011785391905 : True := trivial
theorem tw10500077913531017323 : True := trivial
theorem tw10508251915553800215 : True := trivial
theorem tw10508964354415003018 : True := trivial
theorem tw10528696920762540405 : True := trivial
theorem tw1055568401681811165 : True := trivial
theorem tw10566222408779648918 : True := trivial
theorem tw10589684114461592954 : True := trivial
theorem tw10598567329377039032 : True := trivial
theorem tw1059901042614829057 : True := trivial
theorem tw10619036274816975696 : True := trivial
theorem tw10647819351689358120 : True := trivial
theorem tw10650810973499830745 : True := trivial
theorem tw10670733350059645105 : True := trivial
theorem tw10706342367453228570 : True := trivial
theorem tw10709196673778178906 : True := trivial
theorem tw10719484529398299949 : True := trivial
theorem tw10758392820592806131 : True := trivial
theorem tw10767066097796618615 : True := trivial
theorem tw10780579911999712009 : True := trivial
theorem tw10782641618400255816 : True := trivial
theorem tw10797649063328284778 : True := trivial
theorem tw10819683100428557426 : True := trivial
theorem tw10823345740709935493 : True := trivial
theorem tw10846213317406478298 : True := trivial
theorem tw1085346719588807367 : True := trivial
theorem tw10885399304501877467 : True := trivial
theorem tw10887116778572429059 : True := trivial
theorem tw10919533547850550483 : True := trivial
theorem tw1092655722715705105 : True := trivial
theorem tw10938465397075749097 : True := trivial
theorem tw10942035263794033107 : True := trivial
theorem tw10948738476641704880 : True := trivial
theorem tw10964334890339321822 : True := trivial
theorem tw10996506086634736982 : True := trivial
theorem tw1100353791813204450 : True := trivial
theorem tw11013792430000457035 : True := trivial
theorem tw1102190903223815498 : True := trivial
theorem tw11036193050239951465 : True := trivial
theorem tw11055029398406535253 : True := trivial
theorem tw11108263761283441063 : True := trivial
theorem tw11130039905162102590 : True := trivial
theorem tw11137651959834898467 : True := trivial
theorem tw11161088081135249708 : True := trivial
theorem tw11166942722945506595 : True := trivial
theorem tw11171608375663816178 : True := trivial
theorem tw11186114360453789277 : True := trivial
theorem tw11211347477262721435 : True := trivial
theorem tw11242719595229979791 : True := trivial
theorem tw11247292372684054026 : True := trivial
theorem tw11254254501726123291 : True := trivial
theorem tw11270796479367742343 : True := trivial
theorem tw11277413387252134812 : True := trivial
theorem tw11277716924127702174 : True := trivial
theorem tw11280230395552571071 : True := trivial
theorem tw11298729390765005132 : True := trivial
theorem tw11306939235166856333 : True := trivial
theorem tw11310463157757771331 : True := trivial
theorem tw11313170107247368264 : True := trivial
theorem tw11317593695737139937 : True := trivial
theorem tw11330553021125311993 : True := trivial
theorem tw11333186260410459676 : True := trivial
theorem tw11334522289143818824 : True := trivial
theorem tw11363912090873407280 : True := trivial
theorem tw1136578752053086225 : True := trivial
theorem tw1139862187096482527 : True := trivial
theorem tw1140075410435564573 : True := trivial
theorem tw11420187438672877268 : True := trivial
theorem tw11433066937589102482 : True := trivial
theorem tw11445135464325071761 : True := trivial
theorem tw11462045893675790159 : True := trivial
theorem tw11495947367809530248 : True := trivial
theorem tw11510725203611331906 : True := trivial
theorem tw11518781747449614426 : True := trivial
theorem tw11519604305632133818 : True := trivial
theorem tw11525573260007124812 : True := trivial
theorem tw11543483234476862875 : True := trivial
theorem tw11543547407058413889 : True := trivial
theorem tw11566699232636054958 : True := trivial
theorem tw1157545019965518967 : True := trivial
theorem tw11588390666370768167 : True := trivial
theorem tw11618419078472058569 : True := trivial
theorem tw11629953924900746896 : True := trivial
theorem tw11636919720809706868 : True := trivial
theorem tw11641389924110848164 : True := trivial
theorem tw11682084944484805031 : True := trivial
theorem tw11707371222683016368 : True := trivial
theorem tw11707433790658880453 : True := trivial
theorem tw117213463901210413 : True := trivial
theorem tw11740888236361828772 : True := trivial
theorem tw11754227333514701627 : True := trivial
theorem tw11765014963103734823 : True := trivial
theorem tw11767421526060770920 : True := trivial
theorem tw11786184479649081736 : True := trivial
theorem tw11788150170368784547 : True := trivial
theorem tw11790162104776037713 : True := trivial
theorem tw11793402487394874009 : True := trivial
theorem tw11796506867022685745 : True := trivial
theorem tw11817470609975844035 : True := trivial
theorem tw11838138170533393997 : True := trivial
theorem tw1184552218554016812 : True := trivial
theorem tw11853533878840232495 : True := trivial
theorem tw11855487677703710099 : True := trivial
theorem tw11863081143760314161 : True := trivial
theorem tw1188131947540300063 : True := trivial
theorem tw11882390891050353253 : True := trivial
theorem tw11882691865914478047 : True := trivial
theorem tw11886712299990487620 : True := trivial
theorem tw1189118826323900759 : True := trivial
theorem tw11891824955294080559 : True := trivial
theorem tw11892598404827812706 : True := trivial
theorem tw1189734492583310 : True := trivial
theorem tw11935356649212052271 : True := trivial
theorem tw11939915149646268982 : True := trivial
theorem tw11957962974430299695 : True := trivial
theorem tw11960580518372995122 : True := trivial
theorem tw11964429278604863157 : True := trivial
theorem tw11985326045990495214 : True := trivial
theorem tw11994158751524154303 : True := trivial
theorem tw12022618010286034681 : True := trivial
theorem tw12034632706147234205 : True := trivial
theorem tw1204117194425446250 : True := trivial
theorem tw12046425863553024001 : True := trivial
theorem tw12049575158971614909 : True := trivial
theorem tw12050852935592152754 : True := trivial
theorem tw12064662690394058248 : True := trivial
theorem tw12087225070983600263 : True := trivial
theorem tw12095823642532355627 : True := trivial
theorem tw1210750091971509897 : True := trivial
theorem tw12114495157272644582 : True := trivial
theorem tw12128325577817847261 : True := trivial
theorem tw12143486254990352099 : True := trivial
theorem tw12168629308613836373 : True := trivial
theorem tw12172078356533094185 : True := trivial
theorem tw12177639751122801600 : True := trivial
theorem tw12177649209318274912 : True := trivial
theorem tw12182807814244774211 : True := trivial
theorem tw1218959903707654005 : True := trivial
theorem tw12214085216866374628 : True := trivial
theorem tw12224272158712414510 : True := trivial
theorem tw12224578244612797663 : True := trivial
theorem tw12225727855978595839 : True := trivial
theorem tw12227490674122928909 : True := trivial
theorem tw12233582284571471492 : True := trivial
theorem tw12237943961548833269 : True := trivial
theorem tw12245921810297625637 : True := trivial
theorem tw1228064911786449325 : True := trivial
theorem tw12286716685032941320 : True := trivial
theorem tw12290603225136948437 : True := trivial
theorem tw12301736329548577491 : True := trivial
theorem tw12329403913580668285 : True := trivial
theorem tw12359285113459375979 : True := trivial
theorem tw12371321757623732685 : True := trivial
theorem tw12377561305857167785 : True := trivial
theorem tw12393455550290869266 : True := trivial
theorem tw12432472328913916448 : True := trivial
theorem tw12436211924289087317 : True := trivial
theorem tw12450158673883907302 : True := trivial
theorem tw12453332913107401137 : True := trivial
theorem tw12456492676567594705 : True := trivial
theorem tw12472836147817038354 : True := trivial
theorem tw12475847535787081790 : True := trivial
theorem tw12477758415327278626 : True := trivial
theorem tw12488000419048109807 : True := trivial
theorem tw12494133203773749484 : True := trivial
theorem tw12513138341781932208 : True := trivial
theorem tw12525823731379818892 : True := trivial
theorem tw12526863579885937616 : True := trivial
theorem tw12540713548012372134 : True := trivial
theorem tw12577023982554244617 : True := trivial
theorem tw1258299570235058372 : True := trivial
theorem tw1258717718454355964 : True := trivial
theorem tw12599741558188205749 : True := trivial
theorem tw12606261883493885652 : True := trivial
theorem tw12635297910168745909 : True := trivial
theorem tw12647630874787467225 : True := trivial
theorem tw12659028871203227004 : True := trivial
theorem tw12660628722211587041 : True := trivial
theorem tw1267870562809915468 : True := trivial
theorem tw12726346659333912481 : True := trivial
theorem tw12731603968600162155 : True := trivial
theorem tw12734952128020822468 : True := trivial
theorem tw12767683915131110723 : True := trivial
theorem tw1278341880987251545 : True := trivial
theorem tw12807690338718825411 : True := trivial
theorem tw12809422525583811893 : True := trivial
theorem tw12821735335276811757 : True := trivial
theorem tw12828332729040242785 : True := trivial
theorem tw12832477231654346042 : True := trivial
theorem tw12832791649633735192 : True := trivial
theorem tw12835720964997663042 : True := trivial
theorem tw12850107946570832962 : True := trivial
theorem tw12866136484021002089 : True := trivial
theorem tw12877114100897624224 : True := trivial
theorem tw12913785700363492387 : True := trivial
theorem tw1291980286583624508 : True := trivial
theorem tw12936123109605684276 : True := trivial
theorem tw12945451867199242903 : True := trivial
theorem tw12945968074294007009 : True := trivial
theorem tw12973657651903071711 : True := trivial
theorem tw12981051755390344553 : True := trivial
theorem tw12985358249318526461 : True := trivial
theorem tw12994954067883948608 : True := trivial
theorem tw13002492023102617099 : True := trivial
theorem tw13016732220969518872 : True := trivial
theorem tw13036272033356848781 : True := trivial
theorem tw1305609685974793870 : True := trivial
theorem tw1306790839584632651 : True := trivial
theorem tw13070384816801012346 : True := trivial
theorem tw13102660428377437172 : True := trivial
theorem tw13121200027793486533 : True := trivial
theorem tw13141144453892091621 : True := trivial
theorem tw13142473509193869113 : True := trivial
theorem tw13145125596335152023 : True := trivial
theorem tw13156168479132978002 : True := trivial
theorem tw13159241964716117882 : True := trivial
theorem tw13160144027095335755 : True := trivial
theorem tw13169248704851481478 : True := trivial
theorem tw13180171748994924942 : True := trivial
theorem tw13236226663087606529 : True := trivial
theorem tw13241461904039861399 : True := trivial
theorem tw13251161224904053152 : True := trivial
theorem tw13252181687094117063 : True := trivial
theorem tw13254397897704925713 : True := trivial
theorem tw13261706936674628187 : True := trivial
theorem tw13262538273218963204 : True := trivial
theorem tw13294325848734340343 : True := trivial
theorem tw13314330512976039754 : True := trivial
theorem tw13316322371389871543 : True := trivial
theorem tw13329733208086693882 : True := trivial
theorem tw1333364371103165705 : True := trivial
theorem tw13335737130258781183 : True := trivial
theorem tw13342524657329470049 : True := trivial
theorem tw13424232207471783386 : True := trivial
theorem tw13427988762788590312 : True := trivial
theorem tw1343220272319300887 : True := trivial
theorem tw13453990235181961046 : True := trivial
theorem tw13505292571300825877 : True := trivial
theorem tw13512673800721320934 : True := trivial
theorem tw13526986893379352335 : True := trivial
theorem tw13551572312386263098 : True := trivial
theorem tw1355338860687761863 : True := trivial
theorem tw13580328829973926956 : True := trivial
theorem tw13581749221687468397 : True := trivial
theorem tw13607416678640721797 : True := trivial
theorem tw13615603153576403970 : True := trivial
theorem tw13640514254501968386 : True := trivial
theorem tw13642483538084851733 : True := trivial
theorem tw13650077344797733491 : True := trivial
theorem tw13658505271682890234 : True := trivial
theorem tw136631920214876835 : True := trivial
theorem tw13678640442995254988 : True := trivial
theorem tw13690843758732723530 : True := trivial
theorem tw1370275717833778536 : True := trivial
theorem tw13721567128424951087 : True := trivial
theorem tw13725850141900786883 : True := trivial
theorem tw13746126617404028095 : True := trivial
theorem tw13749758060653150092 : True := trivial
theorem tw13759679279233594173 : True := trivial
theorem tw1377046205977697930 : True := trivial
theorem tw13775618736486673144 : True := trivial
theorem tw13776390136698705113 : True := trivial
theorem tw1378346296635387435 : True := trivial
theorem tw13783648951372772217 : True := trivial
theorem tw13789449189825218787 : True := trivial
theorem tw1379578315556383370 : True := trivial
theorem tw13804622635509601256 : True := trivial
theorem tw13809362725867891129 : True := trivial
theorem tw13816233472422033322 : True := trivial
theorem tw13818303002784851588 : True := trivial
theorem tw13827670908862324088 : True := trivial
theorem tw13833065179229638619 : True := trivial
theorem tw13847470327216474714 : True := trivial
theorem tw13853819408611901635 : True := trivial
theorem tw13871001218405608335 : True := trivial
theorem tw13902060940116135572 : True := trivial
theorem tw13902233598862641821 : True := trivial
theorem tw13903129631018457399 : True := trivial
theorem tw13912434898499826684 : True := trivial
theorem tw13915792640404377917 : True := trivial
theorem tw13925586954763233925 : True := trivial
theorem tw1393629259489396696 : True := trivial
theorem tw13951202360752479828 : True := trivial
theorem tw13951257522405164796 : True := trivial
theorem tw139799656371268569 : True := trivial
theorem tw13981391230805400906 : True := trivial
theorem tw13987355940573415152 : True := trivial
theorem tw1401972060568974870 : True := trivial
theorem tw14023627001141898710 : True := trivial
theorem tw14031254098957005024 : True := trivial
theorem tw14043711374191979534 : True := trivial
theorem tw14073706353221006472 : True := trivial
theorem tw14079958499647549597 : True := trivial
theorem tw14096952598973939363 : True := trivial
theorem tw1410096668721982599 : True := trivial
theorem tw14108194823987119177 : True := trivial
theorem tw14112274594779413971 : True := trivial
theorem tw14126943448341045398 : True := trivial
theorem tw1414301608579184545 : True := trivial
theorem tw14159497744377131790 : True := trivial
theorem tw14168537005229113720 : True := trivial
theorem tw14174611291570781762 : True := trivial
theorem tw14185684948912167051 : True := trivial
theorem tw14186486079044719983 : True := trivial
theorem tw14190725551584542720 : True := trivial
theorem tw1419416864934026935 : True := trivial
theorem tw14200474593977847096 : True := trivial
theorem tw14210447440969649564 : True := trivial
theorem tw14214133299417103183 : True := trivial
theorem tw14223099787259518943 : True := trivial
theorem tw14224011070414065920 : True := trivial
theorem tw1423138165483278961 : True := trivial
theorem tw14265314264860633672 : True := trivial
theorem tw14273802060069496912 : True := trivial
theorem tw14285029430470858289 : True := trivial
theorem tw14285374257681291273 : True := trivial
theorem tw14305139224198610471 : True := trivial
theorem tw14311459727803291754 : True := trivial
theorem tw14323765505736481980 : True := trivial
theorem tw14326252917377295143 : True := trivial
theorem tw14364280277409689854 : True := trivial
theorem tw14386061602966655976 : True := trivial
theorem tw14389334442490810641 : True := trivial
theorem tw14420389602138693270 : True := trivial
theorem tw14427280190107063356 : True := trivial
theorem tw14433975572909055671 : True := trivial
theorem tw14443633870133607999 : True := trivial
theorem tw14460367522058181017 : True := trivial
theorem tw14473539162793888280 : True := trivial
theorem tw14489655085307688843 : True := trivial
theorem tw14529259203199301258 : True := trivial
theorem tw14530364306720264245 : True := trivial
theorem tw14537914154153760125 : True := trivial
theorem tw14544052848187043789 : True := trivial
theorem tw14553827428707814869 : True := trivial
theorem tw14567578511070691153 : True := trivial
theorem tw14580368152464143365 : True := trivial
theorem tw14588557730865908194 : True := trivial
theorem tw1468114885665857710 : True := trivial
theorem tw14683798417357897080 : True := trivial
theorem tw14714103240675001986 : True := trivial
theorem tw14746774941630613163 : True := trivial
theorem tw14763704009068828915 : True := trivial
theorem tw14766643958189025262 : True := trivial
theorem tw14816952368964660110 : True := trivial
theorem tw1481926694345511941 : True := trivial
theorem tw14821650378409806113 : True := trivial
theorem tw148260917463534702 : True := trivial
theorem tw14837249469386935497 : True := trivial
theorem tw14843722373977536959 : True := trivial
theorem tw14844032806303022069 : True := trivial
theorem tw14870196432650325839 : True := trivial
theorem tw14874922208557711187 : True := trivial
theorem tw14884601019740666482 : True := trivial
theorem tw14896874001708588922 : True := trivial
theorem tw14907048974825807369 : True := trivial
theorem tw14909702598903578594 : True := trivial
theorem tw14920864480051887209 : True := trivial
theorem tw14934708107589980039 : True := trivial
theorem tw14942985259670156941 : True := trivial
theorem tw14952990662201256454 : True := trivial
theorem tw14971970265804392439 : True := trivial
theorem tw14973007898608030118 : True := trivial
theorem tw14979626087600564940 : True := trivial
theorem tw1499420768645567495 : True := trivial
theorem tw15007238320947547705 : True := trivial
theorem tw15020028541594565831 : True := trivial
theorem tw15025364365136419289 : True := trivial
theorem tw15028816761298942483 : True := trivial
theorem tw1503297043503765363 : True := trivial
theorem tw15034313371233782410 : True := trivial
theorem tw15039117976438264115 : True := trivial
theorem tw15041003319150489328 : True := trivial
theorem tw15059462757989803610 : True := trivial
theorem tw15062378111984178829 : True := trivial
theorem tw15066959818950650227 : True := trivial
theorem tw15067931366933112725 : True := trivial
theorem tw15078596067121957158 : True := trivial
theorem tw15079194523842364033 : True := trivial
theorem tw15103234261437856402 : True := trivial
theorem tw15112985482279097393 : True := trivial
theorem tw15140604188634761816 : True := trivial
theorem tw15157221202141545114 : True := trivial
theorem tw15168306246750427876 : True := trivial
theorem tw15194748194917737719 : True := trivial
theorem tw151948405760981731 : True := trivial
theorem tw15195428891847259777 : True := trivial
theorem tw15199281503961881116 : True := trivial
theorem tw15202239659555905331 : True := trivial
theorem tw15207642765257501584 : True := trivial
theorem tw15215539614974913122 : True := trivial
theorem tw15224661121926592747 : True := trivial
theorem tw15247426752500302083 : True := trivial
theorem tw15250204685079549951 : True := trivial
theorem tw15263041282635125899 : True := trivial
theorem tw15271515629493726085 : True := trivial
theorem tw15278061642289888581 : True := trivial
theorem tw15300170045991075079 : True := trivial
theorem tw15315713394281565010 : True := trivial
theorem tw15323854079317868165 : True := trivial
theorem tw15376083050721069600 : True := trivial
theorem tw15423634916342008072 : True := trivial
theorem tw1544652992362985085 : True := trivial
theorem tw15450981722951097364 : True := trivial
theorem tw15475462885187679331 : True := trivial
theorem tw15480198773659482676 : True := trivial
theorem tw15490439104401381959 : True := trivial
theorem tw15542503528162795033 : True := trivial
theorem tw15542691292777871779 : True := trivial
theorem tw15560500314895047343 : True := trivial
theorem tw15560853006256673968 : True := trivial
theorem tw15562837088269578035 : True := trivial
theorem tw15586084020490888360 : True := trivial
theorem tw15598799602833418400 : True := trivial
theorem tw15663404670287596823 : True := trivial
theorem tw15736541856241217950 : True := trivial
theorem tw15746797476787084713 : True := trivial
theorem tw1574873078441994576 : True := trivial
theorem tw15766043655864335149 : True := trivial
theorem tw15768644013482014892 : True := trivial
theorem tw15773981995205291829 : True := trivial
theorem tw15781324953245214433 : True := trivial
theorem tw15806122291839087668 : True := trivial
theorem tw15808557625122938864 : True := trivial
theorem tw15823609455315575823 : True := trivial
theorem tw15900120412870309639 : True := trivial
theorem tw15917270771655136656 : True := trivial
theorem tw15919542637913265678 : True := trivial
theorem tw15953636156762407896 : True := trivial
theorem tw15965015591981942514 : True := trivial
theorem tw15980859228951719591 : True := trivial
theorem tw15983881195869794717 : True := trivial
theorem tw16018607276475445134 : True := trivial
theorem tw16048576614497160029 : True := trivial
theorem tw16049961110935095269 : True := trivial
theorem tw16061558487514299878 : True := trivial
theorem tw16138931208732196661 : True := trivial
theorem tw16145008321745377990 : True := trivial
theorem tw16148938690769344688 : True := trivial
theorem tw1615719349143574890 : True := trivial
theorem tw16172117957621229858 : True := trivial
theorem tw16176465441171805009 : True := trivial
theorem tw16180483070735683940 : True := trivial
theorem tw16180582048198870337 : True := trivial
theorem tw16189536214700107852 : True := trivial
theorem tw1620339239838986703 : True := trivial
theorem tw16205121719441760329 : True := trivial
theorem tw16223305294053301992 : True := trivial
theorem tw16241802466949684156 : True := trivial
theorem tw16258813485015810305 : True := trivial
theorem tw16280195873916505411 : True := trivial
theorem tw16289391198768371057 : True := trivial
theorem tw16292439048969090190 : True := trivial
theorem tw16296994325663420285 : True := trivial
theorem tw16309933130070103497 : True := trivial
theorem tw1631149150583789468 : True := trivial
theorem tw16326889199254633757 : True := trivial
theorem tw16328912562034613984 : True := trivial
theorem tw16333089545024387485 : True := trivial
theorem tw16339471991904476338 : True := trivial
theorem tw16349216596472256690 : True := trivial
theorem tw16349804527192203551 : True := trivial
theorem tw16350708796919097252 : True := trivial
theorem tw16366562015402752707 : True := trivial
theorem tw16369446117885005094 : True := trivial
theorem tw16374537267813192141 : True := trivial
theorem tw16406328271908756883 : True := trivial
theorem tw16413264400604254196 : True := trivial
theorem tw16413963553889246368 : True := trivial
theorem tw1641718772566732887 : True := trivial
theorem tw16417370028952169744 : True := trivial
theorem tw16432479971616331241 : True := trivial
theorem tw16439824349840649037 : True := trivial
theorem tw16444073730201381095 : True := trivial
theorem tw16451151925259046446 : True := trivial
theorem tw16458521907211103643 : True := trivial
theorem tw16474492168511960337 : True := trivial
theorem tw16494616584097029746 : True := trivial
theorem tw16495097172686442475 : True := trivial
theorem tw16495559152270511615 : True := trivial
theorem tw16531745337717519161 : True := trivial
theorem tw16548257151911338427 : True := trivial
theorem tw16593013826814733010 : True := trivial
theorem tw16643379632663270332 : True := trivial
theorem tw16643706677886111943 : True := trivial
theorem tw16644606511662114574 : True := trivial
theorem tw16645262185327669138 : True := trivial
theorem tw16648231224745350325 : True := trivial
theorem tw16658944759067139292 : True := trivial
theorem tw1667231139898017245 : True := trivial
theorem tw16693541655264020344 : True := trivial
theorem tw16697116713213952808 : True := trivial
theorem tw16723424844129597499 : True := trivial
theorem tw16729788964589934307 : True := trivial
theorem tw16737559591592110954 : True := trivial
theorem tw16741492637210864865 : True := trivial
theorem tw16751196440357475278 : True := trivial
theorem tw16758808235637498351 : True := trivial
theorem tw16770459766345991936 : True := trivial
theorem tw16792545251062261874 : True := trivial
theorem tw16817318245366136608 : True := trivial
theorem tw16835247145936305501 : True := trivial
theorem tw16846860572762119324 : True := trivial
theorem tw16858649888358372208 : True := trivial
theorem tw16861218917600885097 : True := trivial
theorem tw16865151637890581275 : True := trivial
theorem tw16869277618539721502 : True := trivial
theorem tw16874561944515371726 : True := trivial
theorem tw16904869804480856166 : True := trivial
theorem tw1690735587144091376 : True := trivial
theorem tw16916688483869632129 : True := trivial
theorem tw16942194440817826258 : True := trivial
theorem tw16950312913027304927 : True := trivial
theorem tw16966814322356759819 : True := trivial
theorem tw16998109343291152856 : True := trivial
theorem tw17000155066101142889 : True := trivial
theorem tw17000458434675057986 : True := trivial
theorem tw17000756265888016 : True := trivial
theorem tw17015423121036801654 : True := trivial
theorem tw17018449646109014956 : True := trivial
theorem tw17018628822417861297 : True := trivial
theorem tw17020146562604978829 : True := trivial
theorem tw17024950926791866790 : True := trivial
theorem tw1702518465993881591 : True := trivial
theorem tw17026713947507217902 : True := trivial
theorem tw17037535293027105122 : True := trivial
theorem tw17041471163203698717 : True := trivial
theorem tw17045043414572947948 : True := trivial
theorem tw17057272898397164401 : True := trivial
theorem tw17060125343902188718 : True := trivial
theorem tw1706496860858754268 : True := trivial
theorem tw17071476683966804577 : True := trivial
theorem tw17082801352038058188 : True := trivial
theorem tw17100903815162463580 : True := trivial
theorem tw1711367819467211730 : True := trivial
theorem tw1711657323119017317 : True := trivial
theorem tw17139780236743587250 : True := trivial
theorem tw17164873540382356111 : True := trivial
theorem tw17169101284591775605 : True := trivial
theorem tw17172517015917474193 : True := trivial
theorem tw17183712847048597117 : True := trivial
theorem tw17207840028585114417 : True := trivial
theorem tw17230556039016184743 : True := trivial
theorem tw17231944260260642093 : True := trivial
theorem tw17233024954070867409 : True := trivial
theorem tw17238727255148662236 : True := trivial
theorem tw17274371674624000324 : True := trivial
theorem tw17279654841073493023 : True := trivial
theorem tw17280976486791472633 : True := trivial
theorem tw17283992503375333543 : True := trivial
theorem tw17295947923314359676 : True := trivial
theorem tw17318589155259679147 : True := trivial
theorem tw17335170898614401699 : True := trivial
theorem tw17341736924252097559 : True := trivial
theorem tw17352973434858128600 : True := trivial
theorem tw1735497430108182060 : True := trivial
theorem tw17370054149142409183 : True := trivial
theorem tw17382798495522986874 : True := trivial
theorem tw17394056326795013819 : True := trivial
theorem tw17429684086410527887 : True := trivial
theorem tw17434858337260393937 : True := trivial
theorem tw17475289236778735526 : True := trivial
theorem tw17476080006546285661 : True := trivial
theorem tw17497748084772794779 : True := trivial
theorem tw1749818173716722547 : True := trivial
theorem tw17503288770812694035 : True := trivial
theorem tw17517737089405305841 : True := trivial
theorem tw17520869792638436183 : True := trivial
theorem tw17528258088376854630 : True := trivial
theorem tw17532440430192770315 : True := trivial
theorem tw17532718790514356516 : True := trivial
theorem tw17537794083376710389 : True := trivial
theorem tw17552769576498331613 : True := trivial
theorem tw17554001833073541016 : True := trivial
theorem tw17626262904599113365 : True := trivial
theorem tw1763209079605825380 : True := trivial
theorem tw17672482021469178181 : True := trivial
theorem tw17679261114430710190 : True := trivial
theorem tw17695988578738506429 : True := trivial
theorem tw17696380409005109617 : True := trivial
theorem tw1771862750571323454 : True := trivial
theorem tw17719373434677690450 : True := trivial
theorem tw1772237422875290029 : True := trivial
theorem tw17727738676932873817 : True := trivial
theorem tw17728961539438068574 : True := trivial
theorem tw17730428716208468724 : True := trivial
theorem tw1775931318481535838 : True := trivial
theorem tw17765544955259793912 : True := trivial
theorem tw17774800907425398282 : True := trivial
theorem tw17803129079492736432 : True := trivial
theorem tw17804436615005485693 : True := trivial
theorem tw17814930658547583709 : True := trivial
theorem tw17815586953681464072 : True := trivial
theorem tw17827458813498177553 : True := trivial
theorem tw17828083071136270317 : True := trivial
theorem tw17842620306162639686 : True := trivial
theorem tw178441218286455893 : True := trivial
theorem tw17846936440860909165 : True := trivial
theorem tw17848772402925894760 : True := trivial
theorem tw17853915177807527196 : True := trivial
theorem tw17863021456227041891 : True := trivial
theorem tw17888162413812561239 : True := trivial
theorem tw17913803186225011329 : True := trivial
theorem tw17919728810627054236 : True := trivial
theorem tw17943406268862710625 : True := trivial
theorem tw17954471519018878134 : True := trivial
theorem tw17954736447514056666 : True := trivial
theorem tw17955133630450735404 : True := trivial
theorem tw17964007177503468958 : True := trivial
theorem tw17993156020533580102 : True := trivial
theorem tw18005109436024631819 : True := trivial
theorem tw18011898689540126615 : True := trivial
theorem tw18034167525097398909 : True := trivial
theorem tw18036702205230433160 : True := trivial
theorem tw18056578402003937789 : True := trivial
theorem tw18099695126128789690 : True := trivial
theorem tw18101931140130867144 : True := trivial
theorem tw18123110421147349612 : True := trivial
theorem tw18126140380344562322 : True := trivial
theorem tw18163462532019968843 : True := trivial
theorem tw18163708392712065173 : True := trivial
theorem tw18188234029961486008 : True := trivial
theorem tw18200712748503757919 : True := trivial
theorem tw18211773271919218964 : True := trivial
theorem tw18247082017555167765 : True := trivial
theorem tw18253757678009453241 : True := trivial
theorem tw18286265847491885052 : True := trivial
theorem tw18310272354389090212 : True := trivial
theorem tw18328561965235511954 : True := trivial
theorem tw18340240734955500558 : True := trivial
theorem tw18350638575300117064 : True := trivial
theorem tw18371169792594650754 : True := trivial
theorem tw183835017167291270 : True := trivial
theorem tw18410474027866654770 : True := trivial
theorem tw18428756778242999024 : True := trivial
theorem tw18466492976756830 : True := trivial
theorem tw1857294707202544078 : True := trivial
theorem tw1869930749605803152 : True := trivial
theorem tw1886563365779066154 : True := trivial
theorem tw189603312586018693 : True := trivial
theorem tw1916944219915559503 : True := trivial
theorem tw1930203975799679532 : True := trivial
theorem tw1944293319124727847 : True := trivial
theorem tw1954329431781641577 : True := trivial
theorem tw195516440579289731 : True := trivial
theorem tw1962928258387122110 : True := trivial
theorem tw1971209045111089449 : True := trivial
theorem tw1993567047419047990 : True := trivial
theorem tw1995926237046646575 : True := trivial
theorem tw2001226814458364393 : True := trivial
theorem tw2011108890870493169 : True := trivial
theorem tw2037417660504910701 : True := trivial
theorem tw2039238271031011813 : True := trivial
theorem tw2077871619930789226 : True := trivial
theorem tw2078703811421203504 : True := trivial
theorem tw2081053591005667728 : True := trivial
theorem tw2081907255765424308 : True := trivial
theorem tw2088498060469179804 : True := trivial
theorem tw2088544591296533915 : True := trivial
theorem tw2110668173088178060 : True := trivial
theorem tw2110851967338885185 : True := trivial
theorem tw2118141222776746865 : True := trivial
theorem tw2134368852220247820 : True := trivial
theorem tw2165606593764840688 : True := trivial
theorem tw2193789692954389824 : True := trivial
theorem tw219737044198020058 : True := trivial
theorem tw2283851925072248500 : True := trivial
theorem tw2302674139485633275 : True := trivial
theorem tw2305325121136568689 : True := trivial
theorem tw2313353295222260650 : True := trivial
theorem tw2314638664359121040 : True := trivial
theorem tw2315820567201803617 : True := trivial
theorem tw2322887356643228942 : True := trivial
theorem tw2334299552400917057 : True := trivial
theorem tw2351620601788327285 : True := trivial
theorem tw2354101950205528012 : True := trivial
theorem tw2354135333415324597 : True := trivial
theorem tw2370070277545300124 : True := trivial
theorem tw2370425770031549630 : True := trivial
theorem tw2378363196638174374 : True := trivial
theorem tw2387720566874501970 : True := trivial
theorem tw2401699919119007470 : True := trivial
theorem tw2408619945344806742 : True := trivial
theorem tw2422670821966735624 : True := trivial
theorem tw2425732281115038942 : True := trivial
theorem tw2447775223705975068 : True := trivial
theorem tw2447921434856996015 : True := trivial
theorem tw2478078296215019888 : True := trivial
theorem tw2504098582860672743 : True := trivial
theorem tw2504501939568898240 : True := trivial
theorem tw2506853364499732696 : True := trivial
theorem tw2569364866550412066 : True := trivial
theorem tw2571919107429820419 : True := trivial
theorem tw2599325451414397859 : True := trivial
theorem tw2611137233208623240 : True := trivial
theorem tw2614552105083212210 : True := trivial
theorem tw2627984346626558326 : True := trivial
theorem tw2637321087531721449 : True := trivial
theorem tw2651664433501786496 : True := trivial
theorem tw2660918139993853925 : True := trivial
theorem tw2670528217467546775 : True := trivial
theorem tw2674190319118857908 : True := trivial
theorem tw2708163388286742659 : True := trivial
theorem tw2708708594114744775 : True := trivial
theorem tw2711585505577850959 : True := trivial
theorem tw2718901123391026995 : True := trivial
theorem tw272414042388314806 : True := trivial
theorem tw2735471455948067141 : True := trivial
theorem tw2736616831223182526 : True := trivial
theorem tw2783177156126141945 : True := trivial
theorem tw2784737618629438770 : True := trivial
theorem tw282004115355043989 : True := trivial
theorem tw2862820112641550484 : True := trivial
theorem tw288087438632003012 : True := trivial
theorem tw2883484788219351825 : True := trivial
theorem tw2895304030280410150 : True := trivial
theorem tw2902314222560053993 : True := trivial
theorem tw2905824091091238844 : True := trivial
theorem tw2922074901204462755 : True := trivial
theorem tw293829605474521371 : True := trivial
theorem tw2948108419219029167 : True := trivial
theorem tw2951486255847992690 : True := trivial
theorem tw2958062672499776758 : True := trivial
theorem tw2968979199505139716 : True := trivial
theorem tw3039592710220408265 : True := trivial
theorem tw3054071069301022655 : True := trivial
theorem tw3069475018656635626 : True := trivial
theorem tw3093977132361051618 : True := trivial
theorem tw3094477031063562474 : True := trivial
theorem tw3105397867545767578 : True := trivial
theorem tw3118938333895590913 : True := trivial
theorem tw3131671291697673992 : True := trivial
theorem tw313226197891681235 : True := trivial
theorem tw3139228997032326918 : True := trivial
theorem tw3148276903521382524 : True := trivial
theorem tw3149940706203789266 : True := trivial
theorem tw3152983702415266003 : True := trivial
theorem tw3195343069725486020 : True := trivial
theorem tw3196378941336150401 : True := trivial
theorem tw3204418006412231623 : True := trivial
theorem tw3209381107111851631 : True := trivial
theorem tw3228652444460286982 : True := trivial
theorem tw3229698128091672885 : True := trivial
theorem tw325292655437039998 : True := trivial
theorem tw3256587380925597060 : True := trivial
theorem tw3264259588550801142 : True := trivial
theorem tw3267979357774110234 : True := trivial
theorem tw3282434896037501709 : True := trivial
theorem tw3302314484089059179 : True := trivial
theorem tw3306904295867340462 : True := trivial
theorem tw3315324234476444515 : True := trivial
theorem tw3324361733244956215 : True := trivial
theorem tw3325841961599345399 : True := trivial
theorem tw3327986453032591115 : True := trivial
theorem tw3345107109950449737 : True := trivial
theorem tw3355348695024010778 : True := trivial
theorem tw3362959441861295915 : True := trivial
theorem tw3365010085382643294 : True := trivial
theorem tw3365093317950918147 : True := trivial
theorem tw3386650904741475044 : True := trivial
theorem tw3395616883899927064 : True := trivial
theorem tw3424931102881643321 : True := trivial
theorem tw3427515755752030745 : True := trivial
theorem tw3436264866546951355 : True := trivial
theorem tw3442601649717412197 : True := trivial
theorem tw3459824189758198600 : True := trivial
theorem tw3460871413274159568 : True := trivial
theorem tw3470799630455053000 : True := trivial
theorem tw347637069881736656 : True := trivial
theorem tw3488208955921114670 : True := trivial
theorem tw3504847659760329788 : True := trivial
theorem tw3536357697601684980 : True := trivial
theorem tw3545756843259802059 : True := trivial
theorem tw3558216917135427349 : True := trivial
theorem tw3560238982266916124 : True := trivial
theorem tw3577408171920636059 : True := trivial
theorem tw3619232141914619222 : True := trivial
theorem tw3633577522364906407 : True := trivial
theorem tw3636048126100218174 : True := trivial
theorem tw3695515675974049574 : True := trivial
theorem tw3698559305507148144 : True := trivial
theorem tw3735880847841164279 : True := trivial
theorem tw3764465048917985505 : True := trivial
theorem tw3768068617246420682 : True := trivial
theorem tw3778451253796500701 : True := trivial
theorem tw3783086151370532256 : True := trivial
theorem tw3793695936567050837 : True := trivial
theorem tw3797612339304411714 : True := trivial
theorem tw3825061337978711158 : True := trivial
theorem tw3826639566459466600 : True := trivial
theorem tw383695940523520267 : True := trivial
theorem tw3856783459128436802 : True := trivial
theorem tw3880421473898291048 : True := trivial
theorem tw3889259530307233657 : True := trivial
theorem tw3891137856419664920 : True := trivial
theorem tw3898955781451842834 : True := trivial
theorem tw39160002569200845 : True := trivial
theorem tw392140993173905013 : True := trivial
theorem tw3932193239157236269 : True := trivial
theorem tw3951681838311420791 : True := trivial
theorem tw3952652319720093869 : True := trivial
theorem tw3953757239420563355 : True := trivial
theorem tw396607853666888187 : True := trivial
theorem tw3972328310683599613 : True := trivial
theorem tw4011157648589011858 : True := trivial
theorem tw4039474712603431140 : True := trivial
theorem tw4042386549635913901 : True := trivial
theorem tw4071324889030633612 : True := trivial
theorem tw4075660801711882420 : True := trivial
theorem tw4079309366810268342 : True := trivial
theorem tw4090926877573551719 : True := trivial
theorem tw4091194055036891139 : True := trivial
theorem tw4109823476700235019 : True := trivial
theorem tw4110589180456253056 : True := trivial
theorem tw4111355340424721971 : True := trivial
theorem tw4172830789200971933 : True := trivial
theorem tw4173924237407464957 : True := trivial
theorem tw4183877074749451670 : True := trivial
theorem tw4187477659947935285 : True := trivial
theorem tw4191792578759629841 : True := trivial
theorem tw4205239288364317433 : True := trivial
theorem tw421081507416450896 : True := trivial
theorem tw4224760802259116069 : True := trivial
theorem tw4264315005692455143 : True := trivial
theorem tw4275521005467322725 : True := trivial
theorem tw4278798014809849964 : True := trivial
theorem tw4287028408620065468 : True := trivial
theorem tw4292500188555128830 : True := trivial
theorem tw4299136966843209011 : True := trivial
theorem tw4302124980754421698 : True := trivial
theorem tw4318056027017086478 : True := trivial
theorem tw4319011637217762917 : True := trivial
theorem tw4319416812082413722 : True := trivial
theorem tw4352594626159697269 : True := trivial
theorem tw43969757491396457 : True := trivial
theorem tw4405960384096086239 : True := trivial
theorem tw4407734736301137906 : True := trivial
theorem tw441327347791068078 : True := trivial
theorem tw4430655021044022179 : True := trivial
theorem tw4434333111790514575 : True := trivial
theorem tw444394740498415473 : True := trivial
theorem tw4466658021391931909 : True := trivial
theorem tw447715330943862342 : True := trivial
theorem tw4504083675297759592 : True := trivial
theorem tw4507309187265873474 : True := trivial
theorem tw4525517667737911620 : True := trivial
theorem tw4527066259768149269 : True := trivial
theorem tw4544052334723312380 : True := trivial
theorem tw4549333791460862111 : True := trivial
theorem tw4552823106982906706 : True := trivial
theorem tw4558998842232669794 : True := trivial
theorem tw4575980220486274672 : True := trivial
theorem tw4594841794817819559 : True := trivial
theorem tw4600395469775339435 : True := trivial
theorem tw460243522976405022 : True := trivial
theorem tw4636218855388986860 : True := trivial
theorem tw4658958612460137192 : True := trivial
theorem tw4665496328224945229 : True := trivial
theorem tw4679858250743294509 : True := trivial
theorem tw4691851695120001716 : True := trivial
theorem tw470574548607681690 : True := trivial
theorem tw4706425542698204933 : True := trivial
theorem tw4716499452693333712 : True := trivial
theorem tw4733837786962973091 : True := trivial
theorem tw4745058802850807175 : True := trivial
theorem tw4748654258956052638 : True := trivial
theorem tw4768464013462379552 : True := trivial
theorem tw4769018279307018242 : True := trivial
theorem tw4775785305629353868 : True := trivial
theorem tw482417222145425773 : True := trivial
theorem tw4824431525194463578 : True := trivial
theorem tw4841608483596896988 : True := trivial
theorem tw4858009861420398278 : True := trivial
theorem tw487364732245791922 : True := trivial
theorem tw4879560196417449868 : True := trivial
theorem tw489095991917526796 : True := trivial
theorem tw4904739604578439355 : True := trivial
theorem tw4921902886906138986 : True := trivial
theorem tw4933834842325187142 : True := trivial
theorem tw4936483359421988267 : True := trivial
theorem tw494703546511474797 : True := trivial
theorem tw4949472239710415697 : True := trivial
theorem tw4966674849315620570 : True := trivial
theorem tw4978915544186085027 : True := trivial
theorem tw4980102563643897964 : True := trivial
theorem tw4989861115921178866 : True := trivial
theorem tw5032809538720368765 : True := trivial
theorem tw503676674663206642 : True := trivial
theorem tw505943868828395459 : True := trivial
theorem tw5082074563857973206 : True := trivial
theorem tw5111356299099525756 : True := trivial
theorem tw5135500740108067664 : True := trivial
theorem tw5144633987255907666 : True := trivial
theorem tw5149714755402479525 : True := trivial
theorem tw5152784196030571298 : True := trivial
theorem tw5189142188285759775 : True := trivial
theorem tw5200128776193632040 : True := trivial
theorem tw5228443966233409354 : True := trivial
theorem tw5247225353297040015 : True := trivial
theorem tw5268983451555188008 : True := trivial
theorem tw5289962621202845349 : True := trivial
theorem tw5315457868209417068 : True := trivial
theorem tw5318705664313079275 : True := trivial
theorem tw53402867556234148 : True := trivial
theorem tw5345256250457102556 : True := trivial
theorem tw5349121933718820234 : True := trivial
theorem tw535072334866317008 : True := trivial
theorem tw5357591511691535388 : True := trivial
theorem tw5386766301290243201 : True := trivial
theorem tw5396446701170858492 : True := trivial
theorem tw5410153933605578482 : True := trivial
theorem tw5415697137353194442 : True := trivial
theorem tw5423003317807263696 : True := trivial
theorem tw5425108064043664162 : True := trivial
theorem tw5450187663091677483 : True := trivial
theorem tw5512085447785999860 : True := trivial
theorem tw5518745428033880147 : True := trivial
theorem tw5550314157272711993 : True := trivial
theorem tw5565278806992967083 : True := trivial
theorem tw558745408833754511 : True := trivial
theorem tw5607064600570693084 : True := trivial
theorem tw563124612126607214 : True := trivial
theorem tw5646442142991981755 : True := trivial
theorem tw5697894365363955025 : True := trivial
theorem tw5698774287046732500 : True := trivial
theorem tw5701610774189311196 : True := trivial
theorem tw5706481520468235054 : True := trivial
theorem tw5720267713326709755 : True := trivial
theorem tw5721027456603625697 : True := trivial
theorem tw5732905514179830355 : True := trivial
theorem tw5736407798762289528 : True := trivial
theorem tw5758256569797452207 : True := trivial
theorem tw5770868932273138760 : True := trivial
theorem tw578555737997480806 : True := trivial
theorem tw5807050765050996992 : True := trivial
theorem tw5815302876190815700 : True := trivial
theorem tw5820445615435017067 : True := trivial
theorem tw5823794197072137003 : True := trivial
theorem tw5832503352825792928 : True := trivial
theorem tw5854066237105225762 : True := trivial
theorem tw5854881644878751223 : True := trivial
theorem tw5857867401354281197 : True := trivial
theorem tw5862295025349918931 : True := trivial
theorem tw5881240552750758400 : True := trivial
theorem tw5882768191206486792 : True := trivial
theorem tw5889167727604068794 : True := trivial
theorem tw5902227825499142635 : True := trivial
theorem tw5925582254088234700 : True := trivial
theorem tw5932643209090064906 : True := trivial
theorem tw5936146933674214641 : True := trivial
theorem tw5946566240119215348 : True := trivial
theorem tw5950129339639070837 : True := trivial
theorem tw5952267759425050802 : True := trivial
theorem tw5976474108018559520 : True := trivial
theorem tw5993344073523192782 : True := trivial
theorem tw5994239182223829532 : True := trivial
theorem tw5998781340512891400 : True := trivial
theorem tw6012508502120743258 : True := trivial
theorem tw6019396324639902685 : True := trivial
theorem tw6059929106960060952 : True := trivial
theorem tw607167704815816724 : True := trivial
theorem tw6076076219008924368 : True := trivial
theorem tw608726401823008365 : True := trivial
theorem tw6090905460779295987 : True := trivial
theorem tw610167625130883901 : True := trivial
theorem tw6122645084068987007 : True := trivial
theorem tw6123655918767846522 : True := trivial
theorem tw6125931036764729998 : True := trivial
theorem tw6127375697748050860 : True := trivial
theorem tw6132934438814934913 : True := trivial
theorem tw6144853644547557980 : True := trivial
theorem tw6148621092414575339 : True := trivial
theorem tw6179359751918216688 : True := trivial
theorem tw618205885557783147 : True := trivial
theorem tw6182678533730793537 : True := trivial
theorem tw6213141578215901147 : True := trivial
theorem tw6213697211615256494 : True := trivial
theorem tw6214688769961185500 : True := trivial
theorem tw6224646082405213132 : True := trivial
theorem tw6224834671499428021 : True := trivial
theorem tw6234664779796018075 : True := trivial
theorem tw6245536207120538393 : True := trivial
theorem tw6267220430429643429 : True := trivial
theorem tw6268969693082757200 : True := trivial
theorem tw6284913977507520645 : True := trivial
theorem tw6291368078380397288 : True := trivial
theorem tw6320383766622673092 : True := trivial
theorem tw6344021378708583682 : True := trivial
theorem tw6348685521300091022 : True := trivial
theorem tw6357409834272390260 : True := trivial
theorem tw6363645014702824404 : True := trivial
theorem tw6380047634161181297 : True := trivial
theorem tw6380782515089751550 : True := trivial
theorem tw6426273055680023932 : True := trivial
theorem tw6431602227632030956 : True := trivial
theorem tw6434138532213402376 : True := trivial
theorem tw6434265647005701932 : True := trivial
theorem tw6504275150365058295 : True := trivial
theorem tw6517296806544964722 : True := trivial
theorem tw6519424955469430661 : True := trivial
theorem tw6580340599500149305 : True := trivial
theorem tw6587116730350146372 : True := trivial
theorem tw6589095468515690095 : True := trivial
theorem tw6606113021469975653 : True := trivial
theorem tw662354867322794072 : True := trivial
theorem tw6624491594363574236 : True := trivial
theorem tw6636956529411117187 : True := trivial
theorem tw664245444349651233 : True := trivial
theorem tw6648295256997805279 : True := trivial
theorem tw6654550962395885724 : True := trivial
theorem tw6662432510661729299 : True := trivial
theorem tw667198328695590252 : True := trivial
theorem tw6679490504615227074 : True := trivial
theorem tw6683783046931543321 : True := trivial
theorem tw6697550738653902072 : True := trivial
theorem tw6698160770425034372 : True := trivial
theorem tw6711915476519705758 : True := trivial
theorem tw6714822604882049554 : True := trivial
theorem tw6722154040420286063 : True := trivial
theorem tw6733733256287894996 : True := trivial
theorem tw6761924902605998015 : True := trivial
theorem tw6789855027759293466 : True := trivial
theorem tw6792406925840432001 : True := trivial
theorem tw6813294653679155843 : True := trivial
theorem tw6817277305950994716 : True := trivial
theorem tw682011567655089306 : True := trivial
theorem tw6832808476680081064 : True := trivial
theorem tw6834602518627153040 : True := trivial
theorem tw6841013123486265825 : True := trivial
theorem tw686183698351167624 : True := trivial
theorem tw6888100737891179579 : True := trivial
theorem tw6891000109920058784 : True := trivial
theorem tw6900397732965128853 : True := trivial
theorem tw6909570525239066004 : True := trivial
theorem tw6917869754434977982 : True := trivial
theorem tw6929956602132211858 : True := trivial
theorem tw6937325167468391026 : True := trivial
theorem tw6944952908185719654 : True := trivial
theorem tw6952355047532471503 : True := trivial
theorem tw6967401301877209104 : True := trivial
theorem tw6980910045739468074 : True := trivial
theorem tw6990963922061375149 : True := trivial
theorem tw6993175162768986339 : True := trivial
theorem tw7009043117176579089 : True := trivial
theorem tw7035115661146626270 : True := trivial
theorem tw7057405563618977329 : True := trivial
theorem tw7074542288925894100 : True := trivial
theorem tw7074795694173733578 : True := trivial
theorem tw7081425507203772304 : True := trivial
theorem tw7094674258960923220 : True := trivial
theorem tw709596357894409271 : True := trivial
theorem tw7098571738820278039 : True := trivial
theorem tw7112787868492120936 : True := trivial
theorem tw7139942759574762340 : True := trivial
theorem tw7140130562030077042 : True := trivial
theorem tw7146146830050965766 : True := trivial
theorem tw7155543432591195943 : True := trivial
theorem tw7165179329215463379 : True := trivial
theorem tw716658179208862652 : True := trivial
theorem tw7191607858210974391 : True := trivial
theorem tw7198390536060210744 : True := trivial
theorem tw721709456127091705 : True := trivial
theorem tw7229665172594901996 : True := trivial
theorem tw7232422423428716515 : True := trivial
theorem tw724751600484774222 : True := trivial
theorem tw7248019205119043010 : True := trivial
theorem tw7250012664060256230 : True := trivial
theorem tw7258234576362860186 : True := trivial
theorem tw725871291056497461 : True := trivial
theorem tw7269565832213808900 : True := trivial
theorem tw7275051467321613617 : True := trivial
theorem tw7276740287692124622 : True := trivial
theorem tw7286323032743288035 : True := trivial
theorem tw7295312623806419368 : True := trivial
theorem tw7299303143086499733 : True := trivial
theorem tw7299951869573292228 : True := trivial
theorem tw7323676302269181137 : True := trivial
theorem tw7332914688054063159 : True := trivial
theorem tw7344376507651311505 : True := trivial
theorem tw7365555872484859036 : True := trivial
theorem tw7386744729831018872 : True := trivial
theorem tw7387991725200618308 : True := trivial
theorem tw7392212959928792091 : True := trivial
theorem tw7393211689510517793 : True := trivial
theorem tw7397068168572129948 : True := trivial
theorem tw7401281599722004195 : True := trivial
theorem tw7405434945208526273 : True := trivial
theorem tw7449101846280096545 : True := trivial
theorem tw7461879971939330490 : True := trivial
theorem tw7469732015759309437 : True := trivial
theorem tw7483462131439158144 : True := trivial
theorem tw7496433998918960881 : True := trivial
theorem tw7499937903120025604 : True := trivial
theorem tw7503421922109321716 : True := trivial
theorem tw7504490480230193789 : True := trivial
theorem tw7538125934224741611 : True := trivial
theorem tw7543195961347049332 : True := trivial
theorem tw7543618554067911206 : True := trivial
theorem tw7561037823649445926 : True := trivial
theorem tw757081541053455785 : True := trivial
theorem tw7573151900890175926 : True := trivial
theorem tw7574553109774388169 : True := trivial
theorem tw7581352650102555174 : True := trivial
theorem tw7581816359482902497 : True := trivial
theorem tw7582166717755450365 : True := trivial
theorem tw7585139358526817783 : True := trivial
theorem tw7618406622816332465 : True := trivial
theorem tw7619357645376055252 : True := trivial
theorem tw7641510929779896126 : True := trivial
theorem tw764782834095389478 : True := trivial
theorem tw7650934615059315214 : True := trivial
theorem tw7652866986338317172 : True := trivial
theorem tw7670514497116975361 : True := trivial
theorem tw7692015426583400375 : True := trivial
theorem tw7721631327575515661 : True := trivial
theorem tw7729641633298002090 : True := trivial
theorem tw7733015712792483723 : True := trivial
theorem tw7745614565497352828 : True := trivial
theorem tw7782445914667556100 : True := trivial
theorem tw7783732958741208154 : True := trivial
theorem tw7785048605280242668 : True := trivial
theorem tw7788680626742099145 : True := trivial
theorem tw7802139600951554647 : True := trivial
theorem tw7808205228206232076 : True := trivial
theorem tw7824674403005707151 : True := trivial
theorem tw7842807204330285214 : True := trivial
theorem tw7853834085085047284 : True := trivial
theorem tw790365300219607850 : True := trivial
theorem tw7950560144509940271 : True := trivial
theorem tw7957090006295546105 : True := trivial
theorem tw7976981314885711489 : True := trivial
theorem tw7987952416473584550 : True := trivial
theorem tw799472198861031185 : True := trivial
theorem tw8017206721242287953 : True := trivial
theorem tw8058433561772132124 : True := trivial
theorem tw8075568018651887793 : True := trivial
theorem tw8098380416015320538 : True := trivial
theorem tw8119918657739134586 : True := trivial
theorem tw8123005709971320403 : True := trivial
theorem tw8125055898148337911 : True := trivial
theorem tw8162909057868654942 : True := trivial
theorem tw8164371507598914237 : True := trivial
theorem tw8172093975534723114 : True := trivial
theorem tw8180830640274347804 : True := trivial
theorem tw8206430501311747189 : True := trivial
theorem tw8224813933742928703 : True := trivial
theorem tw8229689697521897066 : True := trivial
theorem tw8283515000281207119 : True := trivial
theorem tw8324364563912585990 : True := trivial
theorem tw8327172580234976593 : True := trivial
theorem tw8328094057196393916 : True := trivial
theorem tw8376441433122354887 : True := trivial
theorem tw8385612375773290118 : True := trivial
theorem tw8400853705098224536 : True := trivial
theorem tw8424611434330503625 : True := trivial
theorem tw8430678208038309684 : True := trivial
theorem tw8432684481940611981 : True := trivial
theorem tw8450942572126056277 : True := trivial
theorem tw8459811325457737761 : True := trivial
theorem tw8537084889766193716 : True := trivial
theorem tw8540232549379673566 : True := trivial
theorem tw8552093678088426289 : True := trivial
theorem tw8579058602437062094 : True := trivial
theorem tw8595292554425487202 : True := trivial
theorem tw8603108125212654177 : True := trivial
theorem tw8610040677353227653 : True := trivial
theorem tw8620020772036689432 : True := trivial
theorem tw8621552478659558853 : True := trivial
theorem tw8642067239939848140 : True := trivial
theorem tw8654737378357257675 : True := trivial
theorem tw8656719876789144132 : True := trivial
theorem tw8686407601681055034 : True := trivial
theorem tw8693227569615203950 : True := trivial
theorem tw8704618095886561957 : True := trivial
theorem tw8719427161674164953 : True := trivial
theorem tw8727135674562949291 : True := trivial
theorem tw8732485361984058174 : True := trivial
theorem tw8753696776887207221 : True := trivial
theorem tw8777329075199875621 : True := trivial
theorem tw8795123598061512290 : True := trivial
theorem tw8796240567053077481 : True := trivial
theorem tw8815187840785991937 : True := trivial
theorem tw882838713213173450 : True := trivial
theorem tw884248653220910886 : True := trivial
theorem tw8860024209350480642 : True := trivial
theorem tw8868882367808763553 : True := trivial
theorem tw894076849921957361 : True := trivial
theorem tw8944806292087596576 : True := trivial
theorem tw8946543629884556368 : True := trivial
theorem tw8949753489320171837 : True := trivial
theorem tw8959964123841196786 : True := trivial
theorem tw8987815912523675519 : True := trivial
theorem tw8989982439271903415 : True := trivial
theorem tw8999186272805695465 : True := trivial
theorem tw9011979029575296479 : True := trivial
theorem tw9020414848523098056 : True := trivial
theorem tw9047900276149940361 : True := trivial
theorem tw905877521529506861 : True := trivial
theorem tw9062771732600952553 : True := trivial
theorem tw9076128300344869771 : True := trivial
theorem tw9082586571710850966 : True := trivial
theorem tw9087420756778563785 : True := trivial
theorem tw9092458845897301907 : True := trivial
theorem tw9092590503495048627 : True := trivial
theorem tw912392155897948271 : True := trivial
theorem tw9130231340562597213 : True := trivial
theorem tw9131251417149488404 : True := trivial
theorem tw9136488742655976645 : True := trivial
theorem tw9139287138770789469 : True := trivial
theorem tw9151444980202551346 : True := trivial
theorem tw9165568632223901487 : True := trivial
theorem tw9190918148164325157 : True := trivial
theorem tw9203354889408330259 : True := trivial
theorem tw9206804518496725263 : True := trivial
theorem tw9219426015542480343 : True := trivial
theorem tw9235277983596991582 : True := trivial
theorem tw9236379625843700516 : True := trivial
theorem tw9236875199018929784 : True := trivial
theorem tw9248541637817142097 : True := trivial
theorem tw9265879793445154701 : True := trivial
theorem tw9267298106668617725 : True := trivial
theorem tw9281714027785469542 : True := trivial
theorem tw9285146279643344392 : True := trivial
theorem tw9292931687148149277 : True := trivial
theorem tw9300948228871686676 : True := trivial
theorem tw9305466669911107070 : True := trivial
theorem tw9305782018832362445 : True := trivial
theorem tw930746551332336609 : True := trivial
theorem tw931183843429516998 : True := trivial
theorem tw9315938663221665524 : True := trivial
theorem tw932993149863042379 : True := trivial
theorem tw9336959277828583989 : True := trivial
theorem tw937105155873367277 : True := trivial
theorem tw9376109419431680627 : True := trivial
theorem tw9378515921465572211 : True := trivial
theorem tw9396933662098498411 : True := trivial
theorem tw9407582987413476825 : True := trivial
theorem tw9411460985935078520 : True := trivial
theorem tw9413167413068371254 : True := trivial
theorem tw9455686188066324210 : True := trivial
theorem tw9458956999447867950 : True := trivial
theorem tw9467589175468403638 : True := trivial
theorem tw947111536369973478 : True := trivial
theorem tw9492235034089005946 : True := trivial
theorem tw9501820088010722379 : True := trivial
theorem tw9504726810853072989 : True := trivial
theorem tw9515652053505349548 : True := trivial
theorem tw951843321253372498 : True := trivial
theorem tw9520516817443398978 : True := trivial
theorem tw9529234661008812162 : True := trivial
theorem tw9537544019596298400 : True := trivial
theorem tw9564595351457756722 : True := trivial
theorem tw9575731206691268911 : True := trivial
theorem tw9575948337506731703 : True := trivial
theorem tw9577309144901391297 : True := trivial
theorem tw9594665118957945026 : True := trivial
theorem tw9626621113073979434 : True := trivial
theorem tw9626942728845285128 : True := trivial
theorem tw9673203406766833760 : True := trivial
theorem tw9676229304581654039 : True := trivial
theorem tw9720828393056574044 : True := trivial
theorem tw973662469405803806 : True := trivial
theorem tw9736788993784561348 : True := trivial
theorem tw9743207683681685546 : True := trivial
theorem tw9759809726879904816 : True := trivial
theorem tw9763268239775435451 : True := trivial
theorem tw9787396351842916947 : True := trivial
theorem tw9787463984185863102 : True := trivial
theorem tw9794667896261083176 : True := trivial
theorem tw9868982950595657695 : True := trivial
theorem tw9908251947323293946 : True := trivial
theorem tw9910355351051955638 : True := trivial
theorem tw9917628215930124269 : True := trivial
theorem tw9931943479562821362 : True := trivial
theorem tw9948023125614773506 : True := trivial
theorem tw9951705424602377420 : True := trivial
theorem tw9967523689320858472 : True := trivial
theorem tw9977392586421186931 : True := trivial
theorem tw9979284746773624096 : True := trivial
theorem tw8265968502654686089 : True := trivial
theorem tw14320153404804151612 : True := trivial
theorem tw14127431949159616355 : True := trivial
theorem tw11196123207308617619 : True := trivial
theorem tw1214102232304312720 : True := trivial
theorem tw9142955470437002223 : True := trivial
theorem tw8273978098576519718 : True := trivial
theorem tw986269853026090849 : True := trivial
theorem tw3393014988767919139 : True := trivial
theorem tw14955999705561699407 : True := trivial
theorem tw15094253645557627079 : True := trivial
theorem tw14850637758680703435 : True := trivial
theorem tw6448080314894763839 : True := trivial
theorem tw3739230766472764640 : True := trivial
theorem tw9719247598863346662 : True := trivial
end PySem.W.Fast
namespace Mine
open_top hd for PySem.Challenge.rw_ik0087_01
end Mine
set_option rowWalk.seconds 0
namespace Mine
local macro_rules | `(tactic| walk_at $s:str) => `(tactic| k_extra $s)
local macro_rules | `(tactic| k_all) => `(tactic| assumption)
local macro_rules | `(tactic| k_enter) => `(tactic| k_extra "mine enter")
section

/-! the plain law: what the law builds and asks, over lists of signs -/

noncomputable def signOf (n : Int) : Nat :=
  let p := (1 + Int.fmod (Int.fdiv n 1176) 1112063).toNat
  if p < 55296 then p else p + 2048
noncomputable def nameL (n : Int) : Nat → List Nat
  | 0 => [46]
  | 1 => [97]
  | 2 => [46]
  | 3 => [46, 46]
  | 4 => [34]
  | 5 => [98, 32, 99]
  | _ => [39, 92, if signOf n = 47 then 45 else signOf n]
noncomputable def nm1 (n : Int) : List Nat := nameL n (Int.fmod (Int.fdiv n 8) 7).toNat
noncomputable def nm2 (n : Int) : List Nat := nameL n (Int.fmod (Int.fdiv n 168) 7).toNat
noncomputable def midL (n : Int) : List Nat := match (Int.fmod (Int.fdiv n 56) 3).toNat with
  | 0 => [47]
  | 1 => [47, 47]
  | _ => [47, 46, 47]
noncomputable def absL (n : Int) : Bool := Int.fmod (Int.fdiv n 2) 4 == 0
noncomputable def oddL (n : Int) : Bool := Int.fmod n 2 == 1
noncomputable def wordL (n : Int) : List Nat := (if absL n then [47] else []) ++ (nm1 n ++ midL n ++ nm2 n)
noncomputable def spell1 (way : Int) (c : Nat) : List Nat :=
  if way = 0 then [92, c]
  else if way = 1 ∧ c ≠ 39 then [39, c, 39]
  else if c = 34 ∨ c = 92 then [34, 92, c, 34]
  else [34, c, 34]
noncomputable def spellL (n : Int) : Nat → List Nat → List Nat
  | _, [] => []
  | i, c :: r => spell1 (Int.fmod (n + (i : Int)) 3) c ++ spellL n (i + 1) r
noncomputable def cmdL (n : Int) : List Nat := if oddL n then [109, 107] else [99, 100]
noncomputable def spelledL (n : Int) : List Nat := cmdL n ++ [32] ++ spellL n 0 (wordL n)
noncomputable def lineL : List Int → List Nat
  | [] => []
  | [n] => spelledL n
  | n :: m :: r => spelledL n ++ [32] ++ lineL (m :: r)

/-! the lexer, sign by sign -/
inductive LS where
  | sp | a | sq | dq | bs | fin
structure Lx where
  st : LS
  escDq : Bool
  quoted : Bool
  tok : List Nat
inductive LR where
  | cont (x : Lx)
  | brk (x : Lx)
  | bad
noncomputable def lexStep (x : Lx) : Option Nat → LR
  | none => match x.st with
    | .a => .brk { x with st := .fin }
    | .fin => .brk { x with tok := [] }
    | _ => .bad
  | some c => match x.st with
    | .sp =>
      if c = 92 then .cont { x with st := .bs, escDq := false }
      else if c = 39 then .cont { x with st := .sq }
      else if c = 34 then .cont { x with st := .dq }
      else if c = 109 ∨ c = 99 then .cont { x with st := .a, tok := [c] }
      else .bad
    | .a =>
      if c = 92 then .cont { x with st := .bs, escDq := false }
      else if c = 39 then .cont { x with st := .sq }
      else if c = 34 then .cont { x with st := .dq }
      else if c = 107 ∨ c = 100 then .cont { x with tok := x.tok ++ [c] }
      else if c = 32 ∧ x.tok ≠ [] then .brk { x with st := .sp }
      else .bad
    | .sq =>
      if c = 39 then .cont { x with st := .a, quoted := true }
      else .cont { x with tok := x.tok ++ [c], quoted := true }
    | .dq =>
      if c = 34 then .cont { x with st := .a, quoted := true }
      else if c = 92 then .cont { x with st := .bs, escDq := true, quoted := true }
      else .cont { x with tok := x.tok ++ [c], quoted := true }
    | .bs =>
      if x.escDq then
        if c = 34 ∨ c = 92 then .cont { x with st := .dq, tok := x.tok ++ [c] } else .bad
      else .cont { x with st := .a, tok := x.tok ++ [c] }
    | .fin => .bad
noncomputable def lexRun (x : Lx) : List Nat → Option (Lx × List Nat)
  | [] => match lexStep x none with
    | .brk y => some (y, [])
    | _ => none
  | c :: r => match lexStep x (some c) with
    | .cont y => lexRun y r
    | .brk y => some (y, r)
    | .bad => none

theorem lexRun_cont {x y : Lx} {c : Nat} {r : List Nat} (h : lexStep x (some c) = .cont y) : lexRun x (c :: r) = lexRun y r := by
  simp [lexRun, h]

/-- a sign spelled -/
theorem lex_sign (x : Lx) (way : Int) (c : Nat) (r : List Nat) (hs : x.st = .sp ∧ x.tok = [] ∨ x.st = .a) :
    ∃ q e, lexRun x (spell1 way c ++ r) = lexRun { st := .a, escDq := e, quoted := q, tok := x.tok ++ [c] } r := by
  obtain ⟨st, e, q, t⟩ := x
  dsimp only at hs
  unfold spell1
  split
  · refine ⟨q, false, ?_⟩
    rcases hs with ⟨rfl, rfl⟩ | rfl <;> simp [lexRun, lexStep]
  · split
    · rename_i h1 h2
      refine ⟨true, e, ?_⟩
      rcases hs with ⟨rfl, rfl⟩ | rfl <;> simp [lexRun, lexStep, h2.2]
    · split
      · rename_i h1 h2 h3
        refine ⟨true, true, ?_⟩
        rcases hs with ⟨rfl, rfl⟩ | rfl <;> rcases h3 with rfl | rfl <;> simp [lexRun, lexStep]
      · rename_i h1 h2 h3
        have h4 : c ≠ 34 := fun h => h3 (.inl h)
        have h5 : c ≠ 92 := fun h => h3 (.inr h)
        refine ⟨true, e, ?_⟩
        rcases hs with ⟨rfl, rfl⟩ | rfl <;> simp [lexRun, lexStep, h4, h5]

theorem lex_word (n : Int) : ∀ (w : List Nat) (i : Nat) (x : Lx) (r : List Nat), x.st = .a →
    ∃ q e, lexRun x (spellL n i w ++ r) = lexRun { st := .a, escDq := e, quoted := q, tok := x.tok ++ w } r
  | [], _, x, r, hs => by
    obtain ⟨st, e, q, t⟩ := x
    dsimp only at hs
    subst hs
    exact ⟨q, e, by simp [spellL]⟩
  | c :: w, i, x, r, hs => by
    obtain ⟨q, e, h⟩ := lex_sign x (Int.fmod (n + (i : Int)) 3) c (spellL n (i + 1) w ++ r) (.inr hs)
    obtain ⟨q', e', h'⟩ := lex_word n w (i + 1) { st := .a, escDq := e, quoted := q, tok := x.tok ++ [c] } r rfl
    refine ⟨q', e', ?_⟩
    rw [spellL, List.append_assoc, h, h', List.append_assoc, List.singleton_append]

/-- a word from the start: it is not empty -/
theorem lex_word0 (n : Int) (c : Nat) (w : List Nat) (i : Nat) (x : Lx) (r : List Nat) (h0 : x.st = .sp) (ht : x.tok = []) :
    ∃ q e, lexRun x (spellL n i (c :: w) ++ r) = lexRun { st := .a, escDq := e, quoted := q, tok := c :: w } r := by
  obtain ⟨q, e, h⟩ := lex_sign x (Int.fmod (n + (i : Int)) 3) c (spellL n (i + 1) w ++ r) (.inl ⟨h0, ht⟩)
  obtain ⟨q', e', h'⟩ := lex_word n w (i + 1) { st := .a, escDq := e, quoted := q, tok := x.tok ++ [c] } r rfl
  refine ⟨q', e', ?_⟩
  rw [spellL, List.append_assoc, h, h', ht]
  rfl

theorem nameL_ne (n : Int) (i : Nat) : nameL n i ≠ [] := by
  unfold nameL; split <;> simp
theorem wordL_ne (n : Int) : wordL n ≠ [] := by
  unfold wordL nm1
  have := nameL_ne n (Int.fmod (Int.fdiv n 8) 7).toNat
  simp [this]

/-- the command is read -/
theorem lex_cmd (n : Int) (x : Lx) (r : List Nat) (h0 : x.st = .sp) : ∃ y, lexRun x (cmdL n ++ [32] ++ r) = some (y, r) ∧ y.st = .sp ∧ y.tok = cmdL n := by
  obtain ⟨st, e, q, t⟩ := x
  dsimp only at h0
  subst h0
  unfold cmdL
  split
  · exact ⟨⟨.sp, e, q, [109, 107]⟩, by simp [lexRun, lexStep], rfl, rfl⟩
  · exact ⟨⟨.sp, e, q, [99, 100]⟩, by simp [lexRun, lexStep], rfl, rfl⟩
/-- the path is read, a blank behind it -/
theorem lex_path (n : Int) (x : Lx) (r : List Nat) (h0 : x.st = .sp) (ht : x.tok = []) : ∃ y, lexRun x (spellL n 0 (wordL n) ++ ([32] ++ r)) = some (y, r) ∧ y.st = .sp ∧ y.tok = wordL n := by
  cases hw : wordL n with
  | nil => exact absurd hw (wordL_ne n)
  | cons c w =>
    obtain ⟨q, e, h⟩ := lex_word0 n c w 0 x ([32] ++ r) h0 ht
    rw [h]
    exact ⟨⟨.sp, e, q, c :: w⟩, by simp [lexRun, lexStep], rfl, rfl⟩
/-- the last path is read -/
theorem lex_last (n : Int) (x : Lx) (h0 : x.st = .sp) (ht : x.tok = []) : ∃ y, lexRun x (spellL n 0 (wordL n)) = some (y, []) ∧ y.st = .fin ∧ y.tok = wordL n := by
  cases hw : wordL n with
  | nil => exact absurd hw (wordL_ne n)
  | cons c w =>
    obtain ⟨q, e, h⟩ := lex_word0 n c w 0 x [] h0 ht
    rw [List.append_nil] at h
    rw [h]
    exact ⟨⟨.fin, e, q, c :: w⟩, by simp [lexRun, lexStep], rfl, rfl⟩

end
section

/-! the plain law of paths, over lists of signs -/
/-- parts between slashes -/
noncomputable def splitL : List Nat → List (List Nat)
  | [] => [[]]
  | c :: r => if c = 47 then [] :: splitL r else match splitL r with
    | [] => [[c]]
    | p :: q => (c :: p) :: q
noncomputable def joinL : List (List Nat) → List Nat
  | [] => []
  | [a] => a
  | a :: b :: r => a ++ 47 :: joinL (b :: r)
theorem splitL_ne (l : List Nat) : splitL l ≠ [] := by
  cases l with
  | nil => simp [splitL]
  | cons c r =>
    unfold splitL
    split
    · simp
    · split <;> simp
theorem splitL_free {a : List Nat} (h : 47 ∉ a) : splitL a = [a] := by
  induction a with
  | nil => rfl
  | cons c r ih =>
    have h1 : c ≠ 47 := fun e => h (by rw [e]; exact .head _)
    have h2 : 47 ∉ r := fun e => h (.tail _ e)
    unfold splitL
    rw [if_neg h1, ih h2]
theorem splitL_app {a : List Nat} (h : 47 ∉ a) (b : List Nat) : splitL (a ++ 47 :: b) = a :: splitL b := by
  induction a with
  | nil => simp [splitL]
  | cons c r ih =>
    have h1 : c ≠ 47 := fun e => h (by rw [e]; exact .head _)
    have h2 : 47 ∉ r := fun e => h (.tail _ e)
    rw [List.cons_append]
    show (if c = 47 then [] :: splitL (r ++ 47 :: b) else match splitL (r ++ 47 :: b) with | [] => [[c]] | p :: q => (c :: p) :: q) = _
    rw [if_neg h1, ih h2]
theorem splitL_join : ∀ {cs : List (List Nat)}, cs ≠ [] → (∀ c ∈ cs, 47 ∉ c) → splitL (joinL cs) = cs
  | [], h, _ => absurd rfl h
  | [a], _, h => by rw [joinL, splitL_free (h a (.head _))]
  | a :: b :: r, _, h => by
    rw [joinL, splitL_app (h a (.head _)), splitL_join (by simp) fun c hc => h c (.tail _ hc)]
theorem splitL_join_app : ∀ {cs : List (List Nat)}, cs ≠ [] → (∀ c ∈ cs, 47 ∉ c) → ∀ b, splitL (joinL cs ++ 47 :: b) = cs ++ splitL b
  | [], h, _, _ => absurd rfl h
  | [a], _, h, b => by rw [joinL, splitL_app (h a (.head _))]; rfl
  | a :: d :: r, _, h, b => by
    rw [joinL, List.append_assoc, List.cons_append, splitL_app (h a (.head _)), splitL_join_app (by simp) (fun c hc => h c (.tail _ hc)) b]
    rfl
/-- a name that may stand in a row: not empty, no dot, no two dots, no slash -/
noncomputable def Good1 (c : List Nat) : Prop := c ≠ [] ∧ c ≠ [46] ∧ c ≠ [46, 46] ∧ 47 ∉ c
noncomputable def GoodL (cs : List (List Nat)) : Prop := ∀ c ∈ cs, Good1 c
theorem goodL_nil : GoodL [] := by intro _ h; cases h
theorem joinL_ne {cs : List (List Nat)} (h : GoodL cs) (hn : cs ≠ []) : joinL cs ≠ [] := by
  cases cs with
  | nil => exact absurd rfl hn
  | cons a r =>
    have ha := (h a (.head _)).1
    cases r with
    | nil => exact ha
    | cons b r => simp [joinL]
theorem joinL_inj {a b : List (List Nat)} (ha : GoodL a) (hb : GoodL b) (h : joinL a = joinL b) : a = b := by
  by_cases h1 : a = []
  · subst h1
    by_cases h2 : b = []
    · exact h2.symm
    · exact absurd h.symm (joinL_ne hb h2)
  · by_cases h2 : b = []
    · subst h2; exact absurd h (joinL_ne ha h1)
    · rw [← splitL_join h1 fun c hc => (ha c hc).2.2.2, h, splitL_join h2 fun c hc => (hb c hc).2.2.2]
/-- one part of normpath, behind a slash at the start -/
noncomputable def normS (acc : List (List Nat)) (c : List Nat) : List (List Nat) :=
  if c = [] ∨ c = [46] then acc
  else if c ≠ [46, 46] ∨ (acc ≠ [] ∧ acc.getLast? = some [46, 46]) then acc ++ [c]
  else acc.dropLast
noncomputable def normC (cs : List (List Nat)) : List (List Nat) := cs.foldl normS []
/-- one name of the law's own reading -/
noncomputable def ledS (acc : List (List Nat)) (c : List Nat) : List (List Nat) :=
  if c = [46, 46] then acc.dropLast else if c ≠ [46] then acc ++ [c] else acc
noncomputable def ledL (stand : List (List Nat)) (n : Int) : List (List Nat) := ledS (ledS (if absL n then [] else stand) (nm1 n)) (nm2 n)
theorem goodL_snoc {a : List (List Nat)} {c : List Nat} (h : GoodL a) (hc : Good1 c) : GoodL (a ++ [c]) := fun x hx => by
  rcases List.mem_append.mp hx with hx | hx
  · exact h x hx
  · rw [List.mem_singleton.mp hx]; exact hc
theorem goodL_drop {a : List (List Nat)} (h : GoodL a) : GoodL a.dropLast := fun x hx => h x (List.dropLast_subset _ hx)
theorem noLast {a : List (List Nat)} (h : GoodL a) : ¬ (a ≠ [] ∧ a.getLast? = some [46, 46]) := fun ⟨_, e⟩ => (h _ (List.mem_of_getLast? e)).2.2.1 rfl
theorem normS_good {acc : List (List Nat)} (h : GoodL acc) {c : List Nat} (hc : Good1 c) : normS acc c = acc ++ [c] := by
  unfold normS
  rw [if_neg (fun q => q.elim hc.1 hc.2.1), if_pos (.inl hc.2.2.1)]
theorem fold_good : ∀ (cs acc : List (List Nat)), GoodL acc → GoodL cs → cs.foldl normS acc = acc ++ cs
  | [], acc, _, _ => by simp
  | c :: r, acc, h, hc => by
    have h1 := hc c (.head _)
    rw [List.foldl_cons, normS_good h h1, fold_good r _ (goodL_snoc h h1) (fun x hx => hc x (.tail _ hx)), List.append_assoc]
    rfl
/-- what a name of the law may be: a dot, two dots, or a good one -/
theorem nameL_kinds (n : Int) (i : Nat) : nameL n i = [46] ∨ nameL n i = [46, 46] ∨ Good1 (nameL n i) := by
  unfold nameL
  split
  · exact .inl rfl
  · exact .inr (.inr ⟨by simp, by simp, by simp, by simp⟩)
  · exact .inl rfl
  · exact .inr (.inl rfl)
  · exact .inr (.inr ⟨by simp, by simp, by simp, by simp⟩)
  · exact .inr (.inr ⟨by simp, by simp, by simp, by simp⟩)
  · refine .inr (.inr ⟨by simp, by simp, by simp, ?_⟩)
    simp only [List.mem_cons, List.not_mem_nil, or_false, not_or]
    refine ⟨by decide, by decide, ?_⟩
    split
    · decide
    · rename_i h; exact fun e => h e.symm
theorem normS_name {acc : List (List Nat)} (h : GoodL acc) (n : Int) (i : Nat) : normS acc (nameL n i) = ledS acc (nameL n i) ∧ GoodL (ledS acc (nameL n i)) := by
  rcases nameL_kinds n i with e | e | e
  · rw [e]; exact ⟨by simp [normS, ledS], by simpa [ledS] using h⟩
  · rw [e]
    refine ⟨?_, by simpa [ledS] using goodL_drop h⟩
    unfold normS ledS
    rw [if_neg (by simp), if_neg (fun q => q.elim (fun z => z rfl) (noLast h)), if_pos rfl]
  · rw [normS_good h e]
    have : ledS acc (nameL n i) = acc ++ [nameL n i] := by unfold ledS; rw [if_neg e.2.2.1, if_pos e.2.1]
    exact ⟨this.symm, by rw [this]; exact goodL_snoc h e⟩
theorem ledL_good {stand : List (List Nat)} (h : GoodL stand) (n : Int) : GoodL (ledL stand n) := by
  have h0 : GoodL (if absL n then [] else stand) := by split; exact goodL_nil; exact h
  exact (normS_name (normS_name h0 n _).2 n _).2
/-- the joined path behind its slash -/
noncomputable def wholeL (stand : List (List Nat)) (n : Int) : List Nat := (if absL n then [] else if stand = [] then [] else joinL stand ++ [47]) ++ (nm1 n ++ midL n ++ nm2 n)
theorem nameL_free (n : Int) (i : Nat) : 47 ∉ nameL n i := by
  rcases nameL_kinds n i with e | e | e
  · rw [e]; decide
  · rw [e]; decide
  · exact e.2.2.2
theorem nameL_ne' (n : Int) (i : Nat) : nameL n i ≠ [] := by
  rcases nameL_kinds n i with e | e | e
  · rw [e]; decide
  · rw [e]; decide
  · exact e.1
theorem norm_mid (n : Int) (acc : List (List Nat)) (h : GoodL acc) : (splitL (nm1 n ++ midL n ++ nm2 n)).foldl normS acc = ledS (ledS acc (nm1 n)) (nm2 n) := by
  have h1 : 47 ∉ nm1 n := nameL_free n _
  have h2 : 47 ∉ nm2 n := nameL_free n _
  have e1 := normS_name h n (Int.fmod (Int.fdiv n 8) 7).toNat
  have e2 := normS_name e1.2 n (Int.fmod (Int.fdiv n 168) 7).toNat
  have fin : ∀ l, (l.foldl normS (ledS acc (nm1 n)) = ledS acc (nm1 n)) → (nm1 n :: (l ++ [nm2 n])).foldl normS acc = ledS (ledS acc (nm1 n)) (nm2 n) := by
    intro l hl
    rw [List.foldl_cons, List.foldl_append]
    show (List.foldl normS (List.foldl normS (normS acc (nm1 n)) l) [nm2 n]) = _
    rw [show normS acc (nm1 n) = ledS acc (nm1 n) from e1.1, hl]
    exact e2.1
  unfold midL
  split
  · rw [List.append_assoc, List.singleton_append, splitL_app h1, splitL_free h2]
    exact fin [] rfl
  · rw [List.append_assoc]
    show List.foldl normS acc (splitL (nm1 n ++ 47 :: ([] ++ 47 :: nm2 n))) = _
    rw [splitL_app h1, splitL_app (by simp), splitL_free h2]
    exact fin [[]] (by simp [normS])
  · rw [List.append_assoc]
    show List.foldl normS acc (splitL (nm1 n ++ 47 :: ([46] ++ 47 :: nm2 n))) = _
    rw [splitL_app h1, splitL_app (by simp), splitL_free h2]
    exact fin [[46]] (by simp [normS])
/-- normpath of the joined path is what the names lead to -/
theorem norm_whole {stand : List (List Nat)} (h : GoodL stand) (n : Int) : normC (splitL (wholeL stand n)) = ledL stand n := by
  unfold wholeL ledL normC
  split
  · rw [List.nil_append]; exact norm_mid n [] goodL_nil
  · split
    · rename_i e; rw [List.nil_append, e]; exact norm_mid n [] goodL_nil
    · rename_i e
      rw [List.append_assoc, List.singleton_append, splitL_join_app e (fun c hc => (h c hc).2.2.2), List.foldl_append, fold_good _ _ goodL_nil h, List.nil_append]
      exact norm_mid n stand h
/-- the place's text -/
noncomputable def pathL (cs : List (List Nat)) : List Nat := 47 :: joinL cs
theorem pathL_inj {a b : List (List Nat)} (ha : GoodL a) (hb : GoodL b) : pathL a = pathL b ↔ a = b :=
  ⟨fun h => joinL_inj ha hb (List.cons.inj h).2, fun h => by rw [h]⟩
/-- a quotation mark twice -/
noncomputable def quoteL : List Nat → List Nat
  | [] => []
  | c :: r => if c = 34 then 34 :: 34 :: quoteL r else c :: quoteL r
/-- what parse257 makes of it -/
noncomputable def unquoteL : List Nat → List Nat
  | [] => []
  | c :: r => if c = 34 then match r with
    | 34 :: r' => 34 :: unquoteL r'
    | _ => []
    else c :: unquoteL r
theorem unquote_quote : ∀ (l r : List Nat), (∀ d r', r = d :: r' → d ≠ 34) → unquoteL (quoteL l ++ 34 :: r) = l
  | [], r, h => by
    cases r with
    | nil => rfl
    | cons d r' =>
      have := h d r' rfl
      show unquoteL (34 :: d :: r') = []
      unfold unquoteL
      rw [if_pos rfl]
      split
      · rename_i e; exact absurd (List.cons.inj e).1 this
      · rfl
  | c :: l, r, h => by
    have ih := unquote_quote l r h
    unfold quoteL
    split
    · rename_i e
      subst e
      show unquoteL (34 :: 34 :: (quoteL l ++ 34 :: r)) = _
      unfold unquoteL
      rw [if_pos rfl]
      show 34 :: unquoteL (quoteL l ++ 34 :: r) = _
      rw [ih]
    · rename_i e
      show unquoteL (c :: (quoteL l ++ 34 :: r)) = _
      unfold unquoteL
      rw [if_neg e, ih]
/-- the lexer reads these words to the end -/
noncomputable def LexAll : LS → List Nat → List (List Nat) → Prop
  | st, r, [] => ∃ y, lexRun ⟨st, false, false, []⟩ r = some (y, []) ∧ y.quoted = false ∧ y.tok = []
  | st, r, w :: ws => ∃ y r', lexRun ⟨st, false, false, []⟩ r = some (y, r') ∧ y.tok = w ∧ w ≠ [] ∧ y.st ≠ .bs ∧ LexAll y.st r' ws
noncomputable def tokL (ns : List Int) : List (List Nat) := ns.flatMap fun n => [cmdL n, wordL n]
theorem lexAll_cons {st : LS} {r : List Nat} {w : List Nat} {ws : List (List Nat)} {y : Lx} {r' : List Nat} (h : lexRun ⟨st, false, false, []⟩ r = some (y, r')) (ht : y.tok = w) (hw : w ≠ []) (hb : y.st ≠ .bs) (hr : LexAll y.st r' ws) : LexAll st r (w :: ws) :=
  ⟨y, r', h, ht, hw, hb, hr⟩
theorem cmdL_ne (n : Int) : cmdL n ≠ [] := by unfold cmdL; split <;> simp
/-- the line's words are the commands and the paths -/
theorem lex_line : ∀ (ns : List Int), ns ≠ [] → LexAll .sp (lineL ns) (tokL ns)
  | [], h => absurd rfl h
  | [n], _ => by
    obtain ⟨y, h1, h2, h3⟩ := lex_cmd n ⟨.sp, false, false, []⟩ (spellL n 0 (wordL n)) rfl
    obtain ⟨z, g1, g2, g3⟩ := lex_last n ⟨.sp, false, false, []⟩ rfl rfl
    refine lexAll_cons h1 h3 (cmdL_ne n) (by rw [h2]; simp) ?_
    rw [h2]
    refine lexAll_cons g1 g3 (wordL_ne n) (by rw [g2]; simp) ?_
    rw [g2]
    exact ⟨⟨.fin, false, false, []⟩, rfl, rfl, rfl⟩
  | n :: m :: r, _ => by
    have e : lineL (n :: m :: r) = cmdL n ++ [32] ++ (spellL n 0 (wordL n) ++ ([32] ++ lineL (m :: r))) := by
      rw [lineL, spelledL]
      simp only [List.append_assoc]
    obtain ⟨y, h1, h2, h3⟩ := lex_cmd n ⟨.sp, false, false, []⟩ (spellL n 0 (wordL n) ++ ([32] ++ lineL (m :: r))) rfl
    obtain ⟨z, g1, g2, g3⟩ := lex_path n ⟨.sp, false, false, []⟩ (lineL (m :: r)) rfl rfl
    rw [e]
    refine lexAll_cons h1 h3 (cmdL_ne n) (by rw [h2]; simp) ?_
    rw [h2]
    refine lexAll_cons g1 g3 (wordL_ne n) (by rw [g2]; simp) ?_
    rw [g2]
    exact lex_line (m :: r) (by simp)
/-- one command: the rows and the stand behind it, if it fits -/
noncomputable def fitsL (rows : List (List (List Nat))) (led : List (List Nat)) (odd : Bool) : Bool := if odd then !rows.contains led && rows.contains led.dropLast else rows.contains led
theorem contains_path {rows : List (List (List Nat))} {led : List (List Nat)} (hr : ∀ x ∈ rows, GoodL x) (hl : GoodL led) : (rows.map pathL).contains (pathL led) = rows.contains led := by
  rw [Bool.eq_iff_iff, List.contains_iff_mem, List.contains_iff_mem, List.mem_map]
  constructor
  · rintro ⟨x, hx, e⟩
    rw [← (pathL_inj (hr x hx) hl).mp e]
    exact hx
  · exact fun h => ⟨led, h, rfl⟩

end
section
set_option maxRecDepth 100000

noncomputable abbrev Kx (w : World) : Frag := hd.heap_39 w.params
noncomputable abbrev loo : List Str := looseW hd.view_39 [Str.ofString "check_arg_types_genericpath", Str.ofString "join_posixpath", Str.ofString "dirname_posixpath",
  Str.ofString "UnsupportedOperation", Str.ofString "IOBase", Str.ofString "BufferedIOBase",
      Str.ofString "TextIOBase", Str.ofString "BytesIO", Str.ofString "StringIO", Str.ofString "check_arg_types_path",
      Str.ofString "join_path", Str.ofString "dirname_path", Str.ofString "shlex", Str.ofString "split"]
noncomputable abbrev pw : Program := PySem.Challenge.pw_ik0087_01

/-- what a call of the text's def at f needs, and what it hands on: Ret r news' is what the rest must show -/
noncomputable abbrev Call (w : World) (f : Addr) (vs : List Value) (news : List (Addr × Obj)) (D U : Nat) (Ret : (Value → List (Addr × Obj) → Prop) → Prop) : Prop :=
  ∀ (mean : ExcName → Option Value) (mg mb : Str → Option Value) (dp un : Nat) (gd : Option (List Code)) (cn : Str) (cs : Scope) (a : Addr) (ccd : Value) (cl : List (Str × Addr)) (outer : List Env) (A₀ : Around) (base h₀ : Heap) (L : Addr) (m : Str → Option Value) (s : Shared) (Q E : Value → Shared → Prop),
    Below A₀ base outer h₀ → Fr h₀ L s.heap m → (hd.heap_39 w.params).In h₀ → News h₀ L s.heap news → Top hd.view_39 loo mean mg mb h₀ → cs.kind = .function → dp + D < recursionLimit → un + U < cLine →
    Ret (fun r news' => ∀ h' tk', Fr h₀ L h' m → News h₀ L h' news' → Q r { s with heap := h', toks := tk' }) →
    wpAny (model pw w) (ktrTop dp un gd cn cs L a ccd cl outer) (call (.ref f) vs) Q E s
theorem callUse {w : World} {f : Addr} {vs : List Value} {news : List (Addr × Obj)} {D U : Nat} {Ret : (Value → List (Addr × Obj) → Prop) → Prop} (C : Call w f vs news D U Ret)
    {mean : ExcName → Option Value} {mg mb : Str → Option Value} {dp un : Nat} {gd : Option (List Code)} {cn : Str} {cs : Scope} {a : Addr} {ccd : Value} {cl : List (Str × Addr)} {outer : List Env} {A₀ : Around} {base h₀ : Heap} {L : Addr} {m : Str → Option Value} {s : Shared} {Q E : Value → Shared → Prop}
    (k1 : Below A₀ base outer h₀) (k2 : Fr h₀ L s.heap m) (k3 : (hd.heap_39 w.params).In h₀) (k4 : News h₀ L s.heap news) (k5 : Top hd.view_39 loo mean mg mb h₀) (kK : cs.kind = .function) (kd : dp + D < recursionLimit) (ku : un + U < cLine)
    (ret : Ret (fun r news' => ∀ h' tk', Fr h₀ L h' m → News h₀ L h' news' → Q r { s with heap := h', toks := tk' })) :
    wpAny (model pw w) (ktrTop dp un gd cn cs L a ccd cl outer) (call (.ref f) vs) Q E s :=
  C mean mg mb dp un gd cn cs a ccd cl outer A₀ base h₀ L m s Q E k1 k2 k3 k4 k5 kK kd ku ret

end
section
set_option maxRecDepth 100000
noncomputable abbrev mkS (l : List Nat) : Str := ⟨l.toArray⟩
theorem item_str {prog : Program} {w : World} {A : Around} {E : Value → Shared → Prop} {s : Shared} {value slice : PySem.Expr} {l L : Addr} {vs : Array Value} {nn : Nat} {k : Int} {u : Tok} {x : Str} {h₀ : Heap} {news : List (Addr × Obj)} {Q : Value → Shared → Prop}
    (N : News h₀ L s.heap news) (hm : (l, W.listOf vs nn) ∈ news) (h0 : 0 ≤ k) (hhi : k < 2 ^ 63) (hx : ∃ t, vs[k.toNat]? = some (.str x t)) (h : ∀ t, Q (.str x t) s)
    (hs : subscripted slice false (.ref l) (.int k u) = operate [.ref l, .int k u] (getItem (.ref l) (.int k u)) := by with_unfolding_all rfl) :
    wpAny (model prog w) A (subscriptTail value slice (.ref l) (.int k u)) Q E s := by
  obtain ⟨t, hx⟩ := hx
  have hl : s.heap.IsList l vs := ⟨_, N.get hm, rfl, ⟨nn, rfl⟩⟩
  exact tail_any hl.typeIs slot_list_getitem.lookup (wpAny_getItem_list hl h0 hhi hx (h t)) hs

theorem ofs (s : String) (l : List Nat) (h : Str.ofString s = mkS l := by decide +kernel) : Str.ofString s = mkS l := h
theorem skip2 {h₀ h : Heap} {L : Addr} {a b : Addr × Obj} {news : List (Addr × Obj)} (N : News h₀ L h (a :: b :: news)) : News h₀ L h (a :: news) := fun p hp => by
  rcases List.mem_cons.mp hp with rfl | hp
  · exact N _ (.head _)
  · exact N _ (.tail _ (.tail _ hp))
theorem skip1 {h₀ h : Heap} {L : Addr} {a : Addr × Obj} {news : List (Addr × Obj)} (N : News h₀ L h (a :: news)) : News h₀ L h news := fun p hp => N _ (.tail _ hp)
theorem join_mem {prog : Program} {w : World} {A : Around} {E : Value → Shared → Prop} {s : Shared} {l L : Addr} {vs : Array Value} {nn : Nat} {x : Str} {t : Tok} {ys : List Str} {h₀ : Heap} {news : List (Addr × Obj)} {Q : Value → Shared → Prop}
    (N : News h₀ L s.heap news) (hm : (l, W.listOf vs nn) ∈ news) (hi : StrsAre vs.toList ys) (ht : (ys.map (·.length)).sum + ys.length * x.length ≤ 16777216)
    (h : ∀ t' k, Q (.str (Txt.join x ys) t') { s with toks := k }) : wpAny (model prog w) A (call (.builtin "str.join") [.str x t, .ref l]) Q E s :=
  join_list ⟨_, N.get hm, rfl, ⟨nn, rfl⟩⟩ hi ht h
theorem mkS_app (a b : List Nat) : mkS a ++ mkS b = mkS (a ++ b) := Str.ext' (by rw [Str.cps_append]; simp)
theorem mkS_len (a : List Nat) : (mkS a).length = a.length := by simp [Str.length]
theorem join2 (x a b : List Nat) : Txt.join (mkS x) [mkS a, mkS b] = mkS (a ++ x ++ b) := by
  show Builtin.Str.glued _ _ = _
  rw [StrLaws.glued_eq_join]
  show mkS a ++ mkS x ++ mkS b = _
  rw [mkS_app, mkS_app]
theorem IfExp_strs {M : Model} {A : Around} {E : Value → Shared → Prop} {s : Shared} {env : Env} {test : Expr} {a b : Str} {k1 k2 : Nat} {p1 p2 pos : Pos} {Q : Value → Shared → Prop}
    (h : wpAny M A (isTrue test env (eval test env)) (fun c s₁ => ∀ t k, Q (.str (if c = true then a else b) t) { s₁ with toks := k }) E s) :
    wpAny M A (eval (.IfExp test (.Constant (.str a) k1 p1) (.Constant (.str b) k2 p2) pos) env) Q E s := by
  refine IfExp_ (wpAny_mono h (fun c s₁ hc => ?_) fun _ _ x => x)
  cases c
  · rw [if_neg Bool.false_ne_true]
    refine Calls.Constant_str ?_
    have := hc s₁.toks (s₁.toks + 1)
    rw [if_neg Bool.false_ne_true] at this
    exact this
  · rw [if_pos rfl]
    refine Calls.Constant_str ?_
    have := hc s₁.toks (s₁.toks + 1)
    rw [if_pos rfl] at this
    exact this
theorem iadd {prog : Program} {w : World} {A : Around} {E : Value → Shared → Prop} {s : Shared} {x y : Str} {t u : Tok} {Q : Value → Shared → Prop}
    (hs : x.length + y.length ≤ 16777216) (h : ∀ t' k, Q (.str (x ++ y) t') { s with toks := k }) : wpAny (model prog w) A (inplaceOp .Add (.str x t) (.str y u)) Q E s := by
  refine PySem.P.iadd_str ?_
  cases hb : (x.length == 0) with
  | true =>
    rw [if_pos rfl]
    have e : x ++ y = y := Str.ext' (by
      have hz : x.cps.size = 0 := by simpa [Str.length] using hb
      rw [Str.cps_append, Array.eq_empty_of_size_eq_zero hz, Array.empty_append])
    have h' := h u s.toks
    rw [e] at h'
    exact h'
  | false =>
    rw [if_neg Bool.false_ne_true]
    cases hc : (y.length == 0) with
    | true =>
      rw [if_pos rfl]
      have e : x ++ y = x := Str.ext' (by
        have hz : y.cps.size = 0 := by simpa [Str.length] using hc
        rw [Str.cps_append, Array.eq_empty_of_size_eq_zero hz, Array.append_empty])
      have h' := h t s.toks
      rw [e] at h'
      exact h'
    | false =>
      rw [if_neg Bool.false_ne_true]
      exact ⟨by rw [Str.length_append, sizeLine_eq]; omega, h s.toks (s.toks + 1)⟩

end
section
set_option maxRecDepth 100000
theorem tl_mkS (a : List Nat) : (mkS a).cps.toList = a := rfl
theorem clip1 (i n : Nat) : max (0 : Int) (min (i : Int) (n : Int)) = max (0 : Int) (min ((min i n : Nat) : Int) (n : Int)) := by
  rcases Nat.le_total i n with h | h
  · rw [Nat.min_eq_left h]
  · rw [Nat.min_eq_right h, Int.min_self, Int.min_eq_right (Int.ofNat_le.mpr h)]
theorem nat_nn (i : Nat) : ¬ ((i : Int) < 0) := Int.not_lt.mpr (Int.natCast_nonneg i)
theorem clip_ss (i j n : Nat) : Builtin.Str.strSliceIndices (some (i : Int)) (some (j : Int)) 1 n = Builtin.Str.strSliceIndices (some ((min i n : Nat) : Int)) (some ((min j n : Nat) : Int)) 1 n := by
  have h1 := nat_nn i
  have h2 := nat_nn j
  have h3 := nat_nn (min i n)
  have h4 := nat_nn (min j n)
  have e1 := clip1 i n
  have e2 := clip1 j n
  simp only [Builtin.Str.strSliceIndices, h1, h2, h3, h4, if_false, e1, e2, show ((1 : Int) > 0) = True from by simp, if_true]
theorem take_min {α : Type} (l : List α) (k : Nat) : l.take (min k l.length) = l.take k := by
  by_cases h : k ≤ l.length
  · rw [Nat.min_eq_left h]
  · rw [Nat.min_eq_right (by omega), List.take_length, List.take_of_length_le (by omega)]
theorem sl_ss (a : List Nat) {i j : Nat} (h : i ≤ j) : Txt.slice (mkS a) (some (i : Int)) (some (j : Int)) = mkS ((a.drop i).take (j - i)) := by
  have e : Txt.slice (mkS a) (some (i : Int)) (some (j : Int)) = StrLaws.sliceText (mkS a) (some ((min i a.length : Nat) : Int)) (some ((min j a.length : Nat) : Int)) := by
    unfold Txt.slice StrLaws.sliceText
    rw [mkS_len, clip_ss]
  rw [e, StrLaws.sliceText_nat _ (Nat.le_min.mpr ⟨Nat.le_trans (Nat.min_le_left _ _) h, Nat.min_le_right _ _⟩) (by rw [mkS_len]; exact Nat.min_le_right _ _), tl_mkS]
  congr 2
  by_cases hi : i ≤ a.length
  · rw [Nat.min_eq_left hi]
    have : min j a.length - i = min (j - i) (a.drop i).length := by rw [List.length_drop, Nat.sub_min_sub_right]
    rw [this, take_min]
  · rw [Nat.min_eq_right (by omega), Nat.min_eq_right (by omega), List.drop_length, List.drop_of_length_le (by omega)]
    simp
theorem sl_ns (a : List Nat) (j : Nat) : Txt.slice (mkS a) none (some (j : Int)) = mkS (a.take j) := by
  have := sl_ss a (Nat.zero_le j)
  rw [List.drop_zero, Nat.sub_zero] at this
  rw [← this]
  unfold Txt.slice
  rw [StrLaws.sliceIdx_none_lo]
  rfl
theorem sl_sn (a : List Nat) (i : Nat) : Txt.slice (mkS a) (some (i : Int)) none = mkS (a.drop i) := by
  have e : Txt.slice (mkS a) (some (i : Int)) none = Txt.slice (mkS a) (some ((min i a.length : Nat) : Int)) (some (a.length : Int)) := by
    unfold Txt.slice
    rw [StrLaws.sliceIdx_none_hi, mkS_len, clip_ss]
    congr 3
    · rw [clip_ss (min i a.length) a.length, Nat.min_eq_left (Nat.min_le_right i a.length)]
    · rw [clip_ss (min i a.length) a.length, Nat.min_eq_left (Nat.min_le_right i a.length)]
  rw [e, sl_ss _ (by omega)]
  congr 2
  by_cases hi : i ≤ a.length
  · rw [Nat.min_eq_left hi]
    rw [List.take_of_length_le (by rw [List.length_drop]; omega)]
  · rw [Nat.min_eq_right (by omega), List.drop_length, List.drop_of_length_le (by omega), List.take_nil]
theorem sl_last (a : List Nat) (c : Nat) : Txt.slice (mkS (a ++ [c])) none (some (-1)) = mkS a := by
  have e : Txt.slice (mkS (a ++ [c])) none (some (-1)) = StrLaws.sliceText (mkS (a ++ [c])) none (some ((a.length : Nat) : Int)) := by
    have : StrLaws.sliceText (mkS (a ++ [c])) none (some (-1)) = StrLaws.sliceText (mkS (a ++ [c])) none (some (-1 + ((mkS (a ++ [c])).length : Int))) :=
      StrLaws.sliceText_neg_hi _ _ (by omega) (by rw [mkS_len, List.length_append, List.length_singleton]; omega)
    show StrLaws.sliceText _ _ _ = _
    rw [this, mkS_len, List.length_append, List.length_singleton]
    congr 2
    omega
  rw [e]
  have h2 := sl_ns (a ++ [c]) a.length
  rw [List.take_left] at h2
  exact h2

section
variable {prog : Program} {w : World} {A : Around} {E : Value → Shared → Prop} {s : Shared} {value slice : PySem.Expr} {a : List Nat} {t : Tok} {L : Addr} {h₀ : Heap} {m : Str → Option Value} {news : List (Addr × Obj)} {Q : Value → Shared → Prop}
theorem len_mk (hl : a.length ≤ 16777216) (h : ∀ t' k, Q (.int (a.length : Int) t') { s with toks := k }) : wpAny (model prog w) A (call (.builtin "len") [.str (mkS a) t]) Q E s := by
  refine PySem.P.len_str (by rw [mkS_len]; omega) ?_
  rw [mkS_len]
  exact h _ _
theorem slc_ss {i j : Int} {ui uj : Tok} (i' j' : Nat) (hF : Fr h₀ L s.heap m) (hN : News h₀ L s.heap news) (hi : i = i') (hj : j = j') (hij : i' ≤ j') (hl : a.length ≤ 16777216)
    (h : ∀ h' t' k, Fr h₀ L h' m → News h₀ L h' news → Q (.str (mkS ((a.drop i').take (j' - i'))) t') { s with heap := h', toks := k })
    (hs : subscripted slice false (.str (mkS a) t) (.ref s.heap.objs.size) = operate [.ref s.heap.objs.size, .str (mkS a) t] (getItem (.str (mkS a) t) (.ref s.heap.objs.size)))
    (ht : ∀ r, letTemporaryGo value (.str (mkS a) t) r = pure ()) :
    wpAny (model prog w) A (subscriptTail value slice (.str (mkS a) t) (.ref s.heap.objs.size)) Q E { s with heap := s.heap.push { cls := .type "slice", data := .fields #[.int i ui, .int j uj, .none] } } := by
  subst hi hj
  refine slice_strN_ss hF hN (fun h' t' k F N => ?_) hs ht (by rw [mkS_len, sizeLine_eq]; exact hl)
  rw [sl_ss a hij]
  exact h h' t' k F N
theorem slc_ns {j : Int} {uj : Tok} (j' : Nat) (hF : Fr h₀ L s.heap m) (hN : News h₀ L s.heap news) (hj : j = j') (hl : a.length ≤ 16777216)
    (h : ∀ h' t' k, Fr h₀ L h' m → News h₀ L h' news → Q (.str (mkS (a.take j')) t') { s with heap := h', toks := k })
    (hs : subscripted slice false (.str (mkS a) t) (.ref s.heap.objs.size) = operate [.ref s.heap.objs.size, .str (mkS a) t] (getItem (.str (mkS a) t) (.ref s.heap.objs.size)))
    (ht : ∀ r, letTemporaryGo value (.str (mkS a) t) r = pure ()) :
    wpAny (model prog w) A (subscriptTail value slice (.str (mkS a) t) (.ref s.heap.objs.size)) Q E { s with heap := s.heap.push { cls := .type "slice", data := .fields #[.none, .int j uj, .none] } } := by
  subst hj
  refine slice_strN_ns hF hN (fun h' t' k F N => ?_) hs ht (by rw [mkS_len, sizeLine_eq]; exact hl)
  rw [sl_ns a]
  exact h h' t' k F N
theorem slc_sn {i : Int} {ui : Tok} (i' : Nat) (hF : Fr h₀ L s.heap m) (hN : News h₀ L s.heap news) (hi : i = i') (hl : a.length ≤ 16777216)
    (h : ∀ h' t' k, Fr h₀ L h' m → News h₀ L h' news → Q (.str (mkS (a.drop i')) t') { s with heap := h', toks := k })
    (hs : subscripted slice false (.str (mkS a) t) (.ref s.heap.objs.size) = operate [.ref s.heap.objs.size, .str (mkS a) t] (getItem (.str (mkS a) t) (.ref s.heap.objs.size)))
    (ht : ∀ r, letTemporaryGo value (.str (mkS a) t) r = pure ()) :
    wpAny (model prog w) A (subscriptTail value slice (.str (mkS a) t) (.ref s.heap.objs.size)) Q E { s with heap := s.heap.push { cls := .type "slice", data := .fields #[.int i ui, .none, .none] } } := by
  subst hi
  refine slice_strN_sn hF hN (fun h' t' k F N => ?_) hs ht (by rw [mkS_len, sizeLine_eq]; exact hl)
  rw [sl_sn a]
  exact h h' t' k F N
theorem slc_last {uj : Tok} {c : Nat} (hF : Fr h₀ L s.heap m) (hN : News h₀ L s.heap news) (hl : a.length < 16777216)
    (h : ∀ h' t' k, Fr h₀ L h' m → News h₀ L h' news → Q (.str (mkS a) t') { s with heap := h', toks := k })
    (hs : subscripted slice false (.str (mkS (a ++ [c])) t) (.ref s.heap.objs.size) = operate [.ref s.heap.objs.size, .str (mkS (a ++ [c])) t] (getItem (.str (mkS (a ++ [c])) t) (.ref s.heap.objs.size)))
    (ht : ∀ r, letTemporaryGo value (.str (mkS (a ++ [c])) t) r = pure ()) :
    wpAny (model prog w) A (subscriptTail value slice (.str (mkS (a ++ [c])) t) (.ref s.heap.objs.size)) Q E { s with heap := s.heap.push { cls := .type "slice", data := .fields #[.none, .int (-1) uj, .none] } } := by
  refine slice_strN_ns hF hN (fun h' t' k F N => ?_) hs ht (by rw [mkS_len, sizeLine_eq, List.length_append, List.length_singleton]; omega)
  rw [sl_last a]
  exact h h' t' k F N
end

end
section
set_option maxRecDepth 100000
set_option maxHeartbeats 8000000
section names
theorem place_lt (n : Int) : 0 ≤ Int.fmod (Int.fdiv n 1176) 1112063 ∧ Int.fmod (Int.fdiv n 1176) 1112063 < 1112063 :=
  ⟨Int.fmod_nonneg_of_pos _ (by decide), Int.fmod_lt_of_pos _ (by decide)⟩
theorem beqS {a b : Str} {c : Bool} (h : (a == b) = c) : c = true → a = b := fun e => by subst e; exact eq_of_beq h
theorem beqS' {a b : Str} (h : ¬ (a == b) = true) : a ≠ b := fun e => h (by rw [e]; exact beq_self_eq_true _)
variable {n : Int}
theorem sg1 (h1 : 1 + (n.fdiv 1176).fmod 1112063 < 55296) : signOf n = (1 + (n.fdiv 1176).fmod 1112063).toNat := by
  have := place_lt n
  unfold signOf
  rw [if_pos (by omega)]
theorem sg2 (h1 : ¬ 1 + (n.fdiv 1176).fmod 1112063 < 55296) : signOf n = (1 + (n.fdiv 1176).fmod 1112063 + 2048).toNat := by
  have := place_lt n
  unfold signOf
  rw [if_neg (by omega)]
  omega
theorem slash_eq {c : Nat} (h : (mkS [c] == Str.ofString "/") = true) : c = 47 := by
  rw [ofs "/" [47]] at h
  have := eq_of_beq h
  simpa using this
theorem slash_ne {c : Nat} (h : (mkS [c] == Str.ofString "/") = false) : c ≠ 47 := by
  rintro rfl
  rw [ofs "/" [47], beq_self_eq_true] at h
  cases h
noncomputable def six (n : Int) : Str := mkS [39, 92, if signOf n = 47 then 45 else signOf n]
theorem six1 (h1 : 1 + (n.fdiv 1176).fmod 1112063 < 55296) (h2 : (mkS [(1 + (n.fdiv 1176).fmod 1112063).toNat] == Str.ofString "/") = true) : Str.ofString "'\\-" = six n := by
  unfold six
  rw [sg1 h1, if_pos (slash_eq h2)]
  decide +kernel
theorem six2 (h1 : ¬ 1 + (n.fdiv 1176).fmod 1112063 < 55296) (h2 : (mkS [(1 + (n.fdiv 1176).fmod 1112063 + 2048).toNat] == Str.ofString "/") = true) : Str.ofString "'\\-" = six n := by
  unfold six
  rw [sg2 h1, if_pos (slash_eq h2)]
  decide +kernel
theorem six3 (h1 : 1 + (n.fdiv 1176).fmod 1112063 < 55296) (h2 : (mkS [(1 + (n.fdiv 1176).fmod 1112063).toNat] == Str.ofString "/") = false) : Str.ofString "'\\" ++ mkS [(1 + (n.fdiv 1176).fmod 1112063).toNat] = six n := by
  unfold six
  rw [sg1 h1, if_neg (slash_ne h2), ofs "'\\" [39, 92]]
  rfl
theorem six4 (h1 : ¬ 1 + (n.fdiv 1176).fmod 1112063 < 55296) (h2 : (mkS [(1 + (n.fdiv 1176).fmod 1112063 + 2048).toNat] == Str.ofString "/") = false) : Str.ofString "'\\" ++ mkS [(1 + (n.fdiv 1176).fmod 1112063 + 2048).toNat] = six n := by
  unfold six
  rw [sg2 h1, if_neg (slash_ne h2), ofs "'\\" [39, 92]]
  rfl
theorem names_item (n : Int) {prog : Program} {w : World} {A : Around} {E : Value → Shared → Prop} {s : Shared} {value slice : PySem.Expr} {l L : Addr} {nn : Nat} {k : Int} {u t0 t1 t2 t3 t4 t5 t6 : Tok} {x6 : Str} {h₀ : Heap} {news : List (Addr × Obj)} {Q : Value → Shared → Prop}
    (N : News h₀ L s.heap news) (hm : (l, W.listOf #[.str (Str.ofString ".") t0, .str (Str.ofString "a") t1, .str (Str.ofString ".") t2, .str (Str.ofString "..") t3, .str (Str.ofString "\"") t4, .str (Str.ofString "b c") t5, .str x6 t6] nn) ∈ news)
    (h6 : x6 = six n) (h0 : 0 ≤ k ∧ k < 7) (h : ∀ t, Q (.str (mkS (nameL n k.toNat)) t) s)
    (hs : subscripted slice false (.ref l) (.int k u) = operate [.ref l, .int k u] (getItem (.ref l) (.int k u)) := by with_unfolding_all rfl) :
    wpAny (model prog w) A (subscriptTail value slice (.ref l) (.int k u)) Q E s := by
  refine item_str N hm h0.1 (by omega) ?_ h hs
  subst h6
  have : k.toNat < 7 := by omega
  generalize k.toNat = j at this
  match j, this with
  | 0, _ => exact ⟨t0, by rw [ofs "." [46]]; rfl⟩
  | 1, _ => exact ⟨t1, by rw [ofs "a" [97]]; rfl⟩
  | 2, _ => exact ⟨t2, by rw [ofs "." [46]]; rfl⟩
  | 3, _ => exact ⟨t3, by rw [ofs ".." [46, 46]]; rfl⟩
  | 4, _ => exact ⟨t4, by rw [ofs "\"" [34]]; rfl⟩
  | 5, _ => exact ⟨t5, by rw [ofs "b c" [98, 32, 99]]; rfl⟩
  | 6, _ => exact ⟨t6, rfl⟩
theorem mod7 (k : Int) : 0 ≤ k.fmod 7 ∧ k.fmod 7 < 7 := ⟨Int.fmod_nonneg_of_pos _ (by decide), Int.fmod_lt_of_pos _ (by decide)⟩
theorem names_call (w : World) (n : Int) (tn : Tok) (news : List (Addr × Obj)) : Call w 888 [.int n tn] news 2 20 fun K => ∀ l t1 t2, (∀ p ∈ news, p.1 < l) → K (.ref l) ((l, W.listOf #[.str (mkS (nm1 n)) t1, .str (mkS (nm2 n)) t2] 0) :: news) := by
  w_top off
  k_with_none
  k_with "subscriptTail Name BinOp ref int" => (k_here; (with_reducible show wpAny _ _ (subscriptTail _ _ (Value.ref _) (Value.int _ _)) _ _ _); (with_unfolding_all refine' names_item _ ?k1 ?k2 ?k3 (mod7 _) ?_ ?k6; (case k1 => k_asm); (case k2 => k_mem); (case k3 => first | exact six1 (by assumption) (by assumption) | exact six2 (by assumption) (by assumption) | exact six3 (by assumption) (by assumption) | exact six4 (by assumption) (by assumption)); (case k6 => with_unfolding_all rfl)); intro t9)
  intro mean mg mb dp un gd cn cs a ccd cl outer A₀ base h₀ L m s Q E B F X N T hk hd hu hret
  refine wpAny_call ?_
  k_dflt cell_enter
  k_steps
  all_goals (refine' hret _ _ _ ?e1 _ _ ?e2 ?e3; (case e3 => exact skip2 (by assumption)); (case e1 => exact ktn_ltOf (And.right (by assumption))); (case e2 => k_asm))
end names

end
section
set_option maxRecDepth 100000
set_option maxHeartbeats 8000000
section word
theorem mod3 (k : Int) : 0 ≤ k.fmod 3 ∧ k.fmod 3 < 3 := ⟨Int.fmod_nonneg_of_pos _ (by decide), Int.fmod_lt_of_pos _ (by decide)⟩
theorem mid_item (n : Int) {prog : Program} {w : World} {A : Around} {E : Value → Shared → Prop} {s : Shared} {value slice : PySem.Expr} {l L : Addr} {nn : Nat} {u t0 t1 t2 : Tok} {h₀ : Heap} {news : List (Addr × Obj)} {Q : Value → Shared → Prop}
    (N : News h₀ L s.heap news) (hm : (l, W.listOf #[.str (Str.ofString "/") t0, .str (Str.ofString "//") t1, .str (Str.ofString "/./") t2] nn) ∈ news)
    (h : ∀ t, Q (.str (mkS (midL n)) t) s)
    (hs : subscripted slice false (.ref l) (.int ((n.fdiv 56).fmod 3) u) = operate [.ref l, .int ((n.fdiv 56).fmod 3) u] (getItem (.ref l) (.int ((n.fdiv 56).fmod 3) u)) := by with_unfolding_all rfl) :
    wpAny (model prog w) A (subscriptTail value slice (.ref l) (.int ((n.fdiv 56).fmod 3) u)) Q E s := by
  have h3 := mod3 (n.fdiv 56)
  refine item_str N hm h3.1 (by omega) ?_ h hs
  unfold midL
  have : ((n.fdiv 56).fmod 3).toNat < 3 := by omega
  generalize ((n.fdiv 56).fmod 3).toNat = j at this
  match j, this with
  | 0, _ => exact ⟨t0, by rw [ofs "/" [47]]; rfl⟩
  | 1, _ => exact ⟨t1, by rw [ofs "//" [47, 47]]; rfl⟩
  | 2, _ => exact ⟨t2, by rw [ofs "/./" [47, 46, 47]]; rfl⟩
theorem nameL_len (n : Int) (i : Nat) : (nameL n i).length ≤ 3 := by unfold nameL; split <;> simp
theorem midL_len (n : Int) : (midL n).length ≤ 3 := by unfold midL; split <;> simp
theorem word_join (n : Int) {prog : Program} {w : World} {A : Around} {E : Value → Shared → Prop} {s : Shared} {l L : Addr} {nn : Nat} {t t1 t2 : Tok} {h₀ : Heap} {news : List (Addr × Obj)} {Q : Value → Shared → Prop}
    (N : News h₀ L s.heap news) (hm : (l, W.listOf #[.str (mkS (nm1 n)) t1, .str (mkS (nm2 n)) t2] nn) ∈ news)
    (h : ∀ t' k, Q (.str (mkS (nm1 n ++ midL n ++ nm2 n)) t') { s with toks := k }) : wpAny (model prog w) A (call (.builtin "str.join") [.str (mkS (midL n)) t, .ref l]) Q E s := by
  refine join_mem N hm (ys := [mkS (nm1 n), mkS (nm2 n)]) (.cons _ _ (.cons _ _ .nil)) ?_ ?_
  · have h1 := nameL_len n (Int.fmod (Int.fdiv n 8) 7).toNat
    have h2 := nameL_len n (Int.fmod (Int.fdiv n 168) 7).toNat
    have h3 := midL_len n
    simp only [List.map_cons, List.map_nil, List.sum_cons, List.sum_nil, List.length_cons, List.length_nil, mkS_len]
    unfold nm1 nm2
    omega
  · intro t' k
    rw [join2]
    exact h t' k
theorem body_len (n : Int) : (nm1 n ++ midL n ++ nm2 n).length ≤ 9 := by
  have h1 := nameL_len n (Int.fmod (Int.fdiv n 8) 7).toNat
  have h2 := nameL_len n (Int.fmod (Int.fdiv n 168) 7).toNat
  have h3 := midL_len n
  simp only [List.length_append]
  unfold nm1 nm2
  omega
theorem wordL_len (n : Int) : (wordL n).length ≤ 10 := by
  have := body_len n
  unfold wordL
  rw [List.length_append]
  split <;> simp only [List.length_cons, List.length_nil, List.append_assoc] at * <;> omega
theorem word_fit1 (n : Int) : (Str.ofString "/").length + (mkS (nm1 n ++ midL n ++ nm2 n)).length ≤ 16777216 := by
  have := body_len n
  rw [ofs "/" [47], mkS_len, mkS_len, List.length_singleton]
  omega
theorem word_fit0 (n : Int) : (Str.ofString "").length + (mkS (nm1 n ++ midL n ++ nm2 n)).length ≤ 16777216 := by
  have := body_len n
  rw [ofs "" [], mkS_len, mkS_len, List.length_nil]
  omega
theorem word_abs {n : Int} (h : (n.fdiv 2).fmod 4 = 0) : Str.ofString "/" ++ mkS (nm1 n ++ midL n ++ nm2 n) = mkS (wordL n) := by
  rw [ofs "/" [47], mkS_app]
  unfold wordL absL
  rw [h]
  rfl
theorem word_rel {n : Int} (h : (n.fdiv 2).fmod 4 ≠ 0) : Str.ofString "" ++ mkS (nm1 n ++ midL n ++ nm2 n) = mkS (wordL n) := by
  rw [ofs "" [], mkS_app]
  unfold wordL absL
  rw [beq_false_of_ne h]
  rfl
theorem word_call (w : World) (n : Int) (tn : Tok) (news : List (Addr × Obj)) : Call w 895 [.int n tn] news 4 40 fun K => ∀ t, K (.str (mkS (wordL n)) t) news := by
  w_top off
  k_with_none
  k_with "subscriptTail List" => (k_here; (with_reducible show wpAny _ _ (subscriptTail _ _ (Value.ref _) (Value.int _ _)) _ _ _); (with_unfolding_all refine' mid_item _ ?k1 ?k2 ?_ ?k6; (case k1 => k_asm); (case k2 => k_mem); (case k6 => with_unfolding_all rfl)); intro t9)
  k_with "call ref" => (k_here; k_dflt (refine' callUse (names_call _ _ _ _) ?k1 ?k2 ?k3 ?k4 ?k5 ?kK ?kd ?ku ?_; (case k1 => k_asm); (case k2 => k_asm); (case k3 => k_asm); (case k4 => k_asm); (case k5 => k_asm); (case kK => first | exact rfl | assumption); (case kd => ktr_room); (case ku => ktr_units)); intro l9 t9 u9 hl9 h9 tk9 F9 N9; k_lt hl9; (try dsimp only); (try k_sweep); (try k_fold))
  k_with "call builtin:str.join" => (k_here; k_dflt (refine' word_join _ ?k1 ?k2 ?_; (case k1 => k_asm); (case k2 => k_mem)); intro t9 k9)
  k_with "binaryOp Add str str" => (k_here; k_dflt (refine' KOpn.add ?k1 ?_; (case k1 => first | exact word_fit1 _ | exact word_fit0 _)); intro t9 k9 _)
  intro mean mg mb dp un gd cn cs a ccd cl outer A₀ base h₀ L m s Q E B F X N T hk hd hu hret
  refine wpAny_call ?_
  k_dflt cell_enter
  k_steps
  all_goals (first | rw [word_abs (by assumption)] | rw [word_rel (by assumption)])
  all_goals exact hret _ _ _ (by k_asm) (by first | exact skip1 (by k_asm) | exact skip1 (skip1 (by k_asm)))
end word

end
section
set_option maxRecDepth 100000
set_option maxHeartbeats 8000000
section spelled
theorem mapPut {m : Str → Option Value} {k : Str} {v : Value} (h : m k = some v) : m = fun y => if y = k then some v else m y := by
  funext y
  by_cases e : y = k
  · rw [if_pos e, e, h]
  · rw [if_neg e]
theorem signs_mkS (l : List Nat) : signs (mkS l) = l.map fun c => mkS [c] := rfl
/-- what is spelled when i signs are through -/
noncomputable def upto (n : Int) (i : Nat) : List Nat := cmdL n ++ [32] ++ spellL n 0 ((wordL n).take i)
theorem spellL_snoc (n : Int) (c : Nat) : ∀ (w : List Nat) (i : Nat), spellL n i (w ++ [c]) = spellL n i w ++ spell1 (Int.fmod (n + ((i + w.length : Nat) : Int)) 3) c
  | [], i => by simp [spellL]
  | d :: w, i => by
    rw [List.cons_append, spellL, spellL, spellL_snoc n c w (i + 1), List.append_assoc, List.length_cons]
    congr 5
    omega
theorem upto_succ {n : Int} {i : Nat} {c : Nat} (h : (wordL n)[i]? = some c) : upto n (i + 1) = upto n i ++ spell1 (Int.fmod (n + (i : Int)) 3) c := by
  unfold upto
  have hl : i < (wordL n).length := (List.getElem?_eq_some_iff.mp h).1
  rw [List.take_add_one, h, Option.toList_some, spellL_snoc, List.length_take, Nat.min_eq_left (by omega), Nat.zero_add, List.append_assoc (cmdL n ++ [32])]
theorem spell1_len (k : Int) (c : Nat) : (spell1 k c).length ≤ 4 := by unfold spell1; (repeat' split) <;> simp
theorem spellL_len (n : Int) : ∀ (w : List Nat) (i : Nat), (spellL n i w).length ≤ 4 * w.length
  | [], _ => by simp [spellL]
  | c :: w, i => by
    have h1 := spell1_len (Int.fmod (n + (i : Int)) 3) c
    have h2 := spellL_len n w (i + 1)
    rw [spellL, List.length_append, List.length_cons]
    omega
theorem cmdL_len (n : Int) : (cmdL n).length = 2 := by unfold cmdL; split <;> rfl
theorem upto_len (n : Int) (i : Nat) : (upto n i).length ≤ 43 := by
  have h1 := spellL_len n ((wordL n).take i) 0
  have h2 := wordL_len n
  have h3 := cmdL_len n
  have h4 : ((wordL n).take i).length ≤ 10 := by rw [List.length_take]; omega
  unfold upto
  rw [List.length_append, List.length_append, List.length_singleton]
  omega
theorem upto_end (n : Int) : upto n (wordL n).length = spelledL n := by
  unfold upto spelledL
  rw [List.take_length]
noncomputable def SpJ (n : Int) (tn : Tok) (news : List (Addr × Obj)) (i : Nat) (m₁ : Str → Option Value) (news₁ : List (Addr × Obj)) : Prop :=
  news₁ = news ∧ m₁ (Str.ofString "number") = some (.int n tn) ∧ ∃ t, m₁ (Str.ofString "written") = some (.str (mkS (upto n i)) t)
theorem cmd_eq (n : Int) : (if (n.fmod 2 == 1) = true then Str.ofString "mk " else Str.ofString "cd ") = mkS (upto n 0) := by
  unfold upto cmdL oddL
  rw [List.take_zero, spellL]
  split
  · rw [ofs "mk " [109, 107, 32]]; rfl
  · rw [ofs "cd " [99, 100, 32]]; rfl
theorem sign_at {l : List Nat} {i : Nat} {a : Str} (h : (signs (mkS l))[i]? = some a) : ∃ c, l[i]? = some c ∧ a = mkS [c] := by
  rw [signs_mkS, List.getElem?_map, Option.map_eq_some_iff] at h
  obtain ⟨c, h1, h2⟩ := h
  exact ⟨c, h1, h2.symm⟩
theorem len_of {m₁ : Str → Option Value} {k : Str} {n : Int} {i : Nat} {t : Tok} (_h : m₁ k = some (.str (mkS (upto n i)) t)) : (upto n i).length ≤ 43 := upto_len n i
theorem ln1 : (Str.ofString "\\").length = 1 := by decide +kernel
theorem ln2 : (Str.ofString "'").length = 1 := by decide +kernel
theorem ln3 : (Str.ofString "\"\\").length = 2 := by decide +kernel
theorem ln4 : (Str.ofString "\"").length = 1 := by decide +kernel
theorem one_eq {c d : Nat} {s : String} (hs : Str.ofString s = mkS [d]) (h : (mkS [c] == Str.ofString s) = true) : c = d := by
  rw [hs] at h
  simpa using eq_of_beq h
theorem one_ne {c d : Nat} {s : String} (hs : Str.ofString s = mkS [d]) (h : (mkS [c] == Str.ofString s) = false) : c ≠ d := by
  rintro rfl
  rw [hs, beq_self_eq_true] at h
  cases h
theorem one_bne {c d : Nat} {s : String} (hs : Str.ofString s = mkS [d]) (h : (mkS [c] != Str.ofString s) = true) : c ≠ d :=
  one_ne hs (by simpa using h)
theorem one_bne' {c d : Nat} {s : String} (hs : Str.ofString s = mkS [d]) (h : (mkS [c] != Str.ofString s) = false) : c = d :=
  one_eq hs (by simpa using h)
section
variable {n : Int} {i c : Nat} (hc : (wordL n)[i]? = some c)
include hc
theorem sp_a (h : (n + (i : Int)).fmod 3 = 0) : mkS (upto n i) ++ (Str.ofString "\\" ++ mkS [c]) = mkS (upto n (i + 1)) := by
  rw [upto_succ hc, ofs "\\" [92], mkS_app, mkS_app]
  simp [spell1, h]
theorem sp_b (h : (n + (i : Int)).fmod 3 = 1) (hne : (mkS [c] != Str.ofString "'") = true) : mkS (upto n i) ++ (Str.ofString "'" ++ mkS [c] ++ Str.ofString "'") = mkS (upto n (i + 1)) := by
  have := one_bne (ofs "'" [39]) hne
  rw [upto_succ hc, ofs "'" [39], mkS_app, mkS_app, mkS_app]
  simp [spell1, h, this]
theorem sp_c (h0 : (n + (i : Int)).fmod 3 ≠ 0) (h1 : (n + (i : Int)).fmod 3 = 1 → c = 39) (h : c = 34 ∨ c = 92) : mkS (upto n i) ++ (Str.ofString "\"\\" ++ mkS [c] ++ Str.ofString "\"") = mkS (upto n (i + 1)) := by
  rw [upto_succ hc, ofs "\"\\" [34, 92], ofs "\"" [34], mkS_app, mkS_app, mkS_app]
  have : ¬ ((n + (i : Int)).fmod 3 = 1 ∧ c ≠ 39) := fun q => q.2 (h1 q.1)
  unfold spell1
  rw [if_neg h0, if_neg this, if_pos h]
  rfl
theorem sp_d (h0 : (n + (i : Int)).fmod 3 ≠ 0) (h1 : (n + (i : Int)).fmod 3 = 1 → c = 39) (h : c ≠ 34) (h' : c ≠ 92) : mkS (upto n i) ++ (Str.ofString "\"" ++ mkS [c] ++ Str.ofString "\"") = mkS (upto n (i + 1)) := by
  rw [upto_succ hc, ofs "\"" [34], mkS_app, mkS_app, mkS_app]
  have : ¬ ((n + (i : Int)).fmod 3 = 1 ∧ c ≠ 39) := fun q => q.2 (h1 q.1)
  have h2 : ¬ (c = 34 ∨ c = 92) := fun q => q.elim h h'
  unfold spell1
  rw [if_neg h0, if_neg this, if_neg h2]
  rfl
end
theorem spelled_call (w : World) (n : Int) (tn : Tok) (news : List (Addr × Obj)) : Call w 902 [.int n tn] news 6 60 fun K => ∀ t, K (.str (mkS (spelledL n)) t) news := by
  w_top off
  k_with_none
  k_with "call ref" => (k_here; k_dflt (refine' callUse (word_call _ _ _ _) ?k1 ?k2 ?k3 ?k4 ?k5 ?kK ?kd ?ku ?_; (case k1 => k_asm); (case k2 => k_asm); (case k3 => k_asm); (case k4 => k_asm); (case k5 => k_asm); (case kK => first | exact rfl | assumption); (case kd => ktr_room); (case ku => ktr_units)); intro t9 h9 tk9 F9 N9; (try dsimp only); (try k_sweep); (try k_fold))
  k_with "eval IfExp" => (k_here; refine IfExp_strs ?_)
  k_with "binaryOp Add str str" => (k_here; k_dflt (refine' KOpn.add ?k1 ?_; (case k1 => (simp only [Str.length_append, mkS_len, ln1, ln2, ln3, ln4, List.length_cons, List.length_nil]; omega))); intro t9 k9 _)
  k_with "inplaceOp Add str str" => (k_here; k_dflt (refine' iadd ?k1 ?_; (case k1 => (simp only [Str.length_append, mkS_len, ln1, ln2, ln3, ln4, List.length_cons, List.length_nil]; omega))); intro t9 k9)
  intro mean mg mb dp un gd cn cs a ccd cl outer A₀ base h₀ L m s Q E B F X N T hk hd hu hret
  refine wpAny_call ?_
  k_dflt cell_enter
  k_steps
  refine' (PairSrcL.at (by assumption) _ rfl) _ _ _ _ (SpJ n tn news) ⟨rfl, rfl, _, congrArg (fun x => some (Value.str x _)) (cmd_eq _)⟩ ?kstep ?kdone
  case kdone =>
    intro h9 tk9 m9 n9 F9 N9 ha9 hJ9
    obtain ⟨rfl, hn9, w9, hw9⟩ := hJ9
    rw [signs_mkS, List.length_map, upto_end] at hw9
    rw [mapPut hw9] at F9
    k_sweep
    k_steps
    exact hret _ _ _ (by k_asm) (by k_asm)
  case kstep =>
    intro i9 a9 t9 v9 m9 n9 s9 o9 hs9 hi9 hv9 hJ9 ha9 ho9 F9 N9
    obtain ⟨h9, tk9, rfl⟩ := hs9
    obtain ⟨u9, rfl⟩ := ItemKind.str_is hv9
    obtain ⟨c9, hc9, rfl⟩ := sign_at hi9
    obtain ⟨rfl, hn9, w9, hw9⟩ := hJ9
    have hl9 := upto_len n i9
    rw [mapPut hn9, mapPut hw9] at F9
    k_sweep
    dsimp only
    try k_fold
    k_steps
    all_goals refine ⟨rfl, rfl, _, congrArg (fun x => some (Value.str x _)) ?_⟩
    all_goals with_reducible first
      | exact sp_a hc9 (by assumption)
      | exact sp_b hc9 (by assumption) (by assumption)
      | exact sp_c hc9 (by assumption) (by first | exact fun _ => one_bne' (ofs "'" [39]) (by assumption) | exact fun q => absurd q (by assumption)) (by first | exact .inl (one_eq (ofs "\"" [34]) (by assumption)) | exact .inr (one_eq (ofs "\\" [92]) (by assumption)))
      | exact sp_d hc9 (by assumption) (by first | exact fun _ => one_bne' (ofs "'" [39]) (by assumption) | exact fun q => absurd q (by assumption)) (one_ne (ofs "\"" [34]) (by assumption)) (one_ne (ofs "\\" [92]) (by assumption))
end spelled

end
section
set_option maxRecDepth 100000
set_option maxHeartbeats 8000000
noncomputable abbrev ent (h : Int) (k : String) (t : Tok) (v : Value) : DictEntry := ⟨h, .str (Str.ofString k) t, v⟩
noncomputable abbrev ioD (h1 h2 h3 : Int) (k1 k2 k3 tn tb tp : Tok) (buf : List Nat) (pos : Nat) : Obj :=
  W.dictOf [ent h1 "_StringIO__newline" k1 (.str (Str.ofString "\n") tn), ent h2 "_StringIO__buf" k2 (.str (mkS buf) tb), ent h3 "_StringIO__pos" k3 (.int pos tp)] 3
theorem read_slc {prog : Program} {w : World} {A : Around} {E : Value → Shared → Prop} {s : Shared} {value slice : PySem.Expr} {buf : List Nat} {t : Tok} {L : Addr} {h₀ : Heap} {m : Str → Option Value} {news : List (Addr × Obj)} {Q : Value → Shared → Prop}
    {j : Int} {ui uj : Tok} {pos c : Nat} (hc : buf[pos]? = some c) (hF : Fr h₀ L s.heap m) (hN : News h₀ L s.heap news) (hj : j = (pos : Int) + 1) (hl : buf.length ≤ 16777216)
    (h : ∀ h' t' k, Fr h₀ L h' m → News h₀ L h' news → Q (.str (mkS [c]) t') { s with heap := h', toks := k })
    (hs : subscripted slice false (.str (mkS buf) t) (.ref s.heap.objs.size) = operate [.ref s.heap.objs.size, .str (mkS buf) t] (getItem (.str (mkS buf) t) (.ref s.heap.objs.size)))
    (ht : ∀ r, letTemporaryGo value (.str (mkS buf) t) r = pure ()) :
    wpAny (model prog w) A (subscriptTail value slice (.str (mkS buf) t) (.ref s.heap.objs.size)) Q E { s with heap := s.heap.push { cls := .type "slice", data := .fields #[.int pos ui, .int j uj, .none] } } := by
  refine slc_ss pos (pos + 1) hF hN rfl (by omega) (by omega) hl (fun h' t' k F N => ?_) hs ht
  have e : (buf.drop pos).take (pos + 1 - pos) = [c] := by
    have : pos + 1 - pos = 0 + 1 := by omega
    rw [this, List.take_add_one, List.take_zero, List.getElem?_drop, Nat.add_zero, hc]
    rfl
  rw [e]
  exact h h' t' k F N
theorem sl_blank (c : Nat) : Txt.slice (mkS [c] ++ Str.ofString " ") none (some (-1)) = mkS [c] := by
  rw [ofs " " [32], mkS_app]
  exact sl_last [c] 32
theorem read_call (w : World) (io dio : Addr) (h1 h2 h3 : Int) (k1 k2 k3 tn tb tp t1 : Tok) (buf : List Nat) (pos c : Nat) (rest : List (Addr × Obj)) (hne : io ≠ dio) (hr : ∀ p ∈ rest, p.1 ≠ dio) (hb : buf.length ≤ 100000) (hc : buf[pos]? = some c) :
    Call w 680 [.ref io, .int 1 t1] ((io, instObj 734 dio) :: (dio, ioD h1 h2 h3 k1 k2 k3 tn tb tp buf pos) :: rest) 6 60
    fun K => ∀ t tp', K (.str (mkS [c]) t) ((io, instObj 734 dio) :: (dio, ioD h1 h2 h3 k1 k2 k3 tn tb tp' buf (pos + 1)) :: rest) := by
  w_top off
  k_with_none
  k_with "mine enter" => (refine' code_def ?k1 ?k2 ?k3 ?k4 ?k5 ?kA ?kF ?kK ?k6 ?k7 ?k8 ?k9 ?kB ?_ ?c2 ?c3 ?c4 ?c5; (case kA => exact rfl); (case kF => exact rfl); (case kK => first | exact rfl | assumption); (case k1 => k_asm); (case k2 => k_asm); (case k3 => k_asm); (case k4 => k_asm); (case k5 => k_asm); (case k6 => k_is); (case k7 => k_is); (case k8 => ktr_room); (case k9 => first | exact BindsTo.of_eq rfl | exact binds_K (by k_in) rfl (by k_is) rfl rfl rfl); (case c5 => decide); (case kB => exact locs rfl); (case c2 => exact rfl); (case c3 => exact rfl); (case c4 => exact rfl); k_whole; intro g' L' h' FG' F' N' B' X' T'; (try dsimp only); (try k_lift B'); (try k_fold))
  k_with "call builtin:len" => (k_here; (with_reducible show wpAny _ _ (call (Value.builtin "len") [Value.str (Str.mk (List.toArray _)) _]) _ _ _); k_dflt (refine' len_mk ?k1 ?_; (case k1 => omega)); intro t9 k9)
  k_with "subscriptTail" => (k_here; (with_reducible show wpAny _ _ (subscriptTail _ (Expr.Slice (some _) (some _) none _) (Value.str (Str.mk _) _) (Value.ref _)) _ _ _); (with_reducible rename Fr _ _ _ _ => F'); (with_reducible rename News _ _ _ _ => N'); (refine' read_slc (s := ⟨_, _, _, _, _⟩) ?k1 F' N' ?k2 ?k3 ?_ ?k6 ?k7; (case k1 => with_reducible assumption); (case k2 => omega); (case k3 => omega); (case k6 => with_unfolding_all rfl); (case k7 => (intro _; with_unfolding_all rfl))); intro _ _ _ _ _)
  intro mean mg mb dp un gd cn cs a ccd cl outer A₀ base h₀ L m s Q E B F X N T hk hd hu hret
  have hlt : pos < buf.length := (List.getElem?_eq_some_iff.mp hc).1
  refine wpAny_call ?_
  k_dflt walk_at "mine enter"
  k_steps
  all_goals rw [sl_blank]
  all_goals (refine' hret _ _ _ _ (by k_asm) ?e; (case e => first | k_asm | (rw [show pos + 1 = buf.length by omega]; k_asm)))

end
section
set_option maxRecDepth 100000
set_option maxHeartbeats 8000000
theorem read_eof (w : World) (io dio : Addr) (h1 h2 h3 : Int) (k1 k2 k3 tn tb tp t1 : Tok) (buf : List Nat) (rest : List (Addr × Obj)) (hne : io ≠ dio) (hr : ∀ p ∈ rest, p.1 ≠ dio) (hb : buf.length ≤ 100000) :
    Call w 680 [.ref io, .int 1 t1] ((io, instObj 734 dio) :: (dio, ioD h1 h2 h3 k1 k2 k3 tn tb tp buf buf.length) :: rest) 6 60
    fun K => ∀ t, K (.str (mkS []) t) ((io, instObj 734 dio) :: (dio, ioD h1 h2 h3 k1 k2 k3 tn tb tp buf buf.length) :: rest) := by
  w_top off
  k_with_none
  k_with "mine enter" => (refine' code_def ?k1 ?k2 ?k3 ?k4 ?k5 ?kA ?kF ?kK ?k6 ?k7 ?k8 ?k9 ?kB ?_ ?c2 ?c3 ?c4 ?c5; (case kA => exact rfl); (case kF => exact rfl); (case kK => first | exact rfl | assumption); (case k1 => k_asm); (case k2 => k_asm); (case k3 => k_asm); (case k4 => k_asm); (case k5 => k_asm); (case k6 => k_is); (case k7 => k_is); (case k8 => ktr_room); (case k9 => first | exact BindsTo.of_eq rfl | exact binds_K (by k_in) rfl (by k_is) rfl rfl rfl); (case c5 => decide); (case kB => exact locs rfl); (case c2 => exact rfl); (case c3 => exact rfl); (case c4 => exact rfl); k_whole; intro g' L' h' FG' F' N' B' X' T'; (try dsimp only); (try k_lift B'); (try k_fold))
  k_with "call builtin:len" => (k_here; (with_reducible show wpAny _ _ (call (Value.builtin "len") [Value.str (Str.mk (List.toArray _)) _]) _ _ _); k_dflt (refine' len_mk ?k1 ?_; (case k1 => omega)); intro t9 k9)
  intro mean mg mb dp un gd cn cs a ccd cl outer A₀ base h₀ L m s Q E B F X N T hk hd hu hret
  refine wpAny_call ?_
  k_dflt walk_at "mine enter"
  k_steps
  all_goals rw [ofs "" []]
  all_goals exact hret _ _ _ (by k_asm) (by k_asm)

end
section
set_option maxRecDepth 100000
set_option maxHeartbeats 4000000
/-! a small interpreter of plain statements over one frame and one object's fields, and its soundness -/
/-- what is known of one sign: is it a line's end, a quote, a double quote, a backslash -/
structure CK where
  nl : Bool
  sq : Bool
  dq : Bool
  bs : Bool
inductive PV where
  | non
  | boo (b : Bool)
  | num (i : Int)
  | txt (s : Str)
  | tx (s : Str) (n : Nat) (e : Bool)
  | chr (s : Str) (k : CK)
  | obj (a : Addr)
namespace PV
noncomputable def av : PV → Tok → Value
  | non, _ => .none
  | boo b, _ => .bool b
  | num i, t => .int i t
  | txt s, t => .str s t
  | tx s _ _, t => .str s t
  | chr s _, t => .str s t
  | obj a, _ => .ref a
noncomputable def ok : PV → Prop
  | tx s n e => s.length ≤ n ∧ (s.length != 0) = e
  | chr s k => ∃ c, s = mkS [c] ∧ k.nl = (c == 10) ∧ k.sq = (c == 39) ∧ k.dq = (c == 34) ∧ k.bs = (c == 92)
  | _ => True
noncomputable def tr : PV → Option Bool
  | non => some false
  | boo b => some b
  | num i => some (i != 0)
  | txt s => if s.length ≤ 16777216 then some (s.length != 0) else none
  | tx _ n e => if n ≤ 16777216 then some e else none
  | chr _ _ => some true
  | obj _ => none
noncomputable def isNon : PV → Bool
  | non => true
  | _ => false
noncomputable def txtOf : PV → Option Str
  | txt s => some s
  | _ => none
noncomputable def numOf : PV → Option Int
  | num i => some i
  | _ => none
/-- is it this text -/
noncomputable def eqT (y : Str) : PV → Option Bool
  | txt x => some (x == y)
  | tx _ _ e => if y.length == 0 then some (!e) else none
  | chr _ k => if y == Str.ofString "\n" then some k.nl else if y == Str.ofString "'" then some k.sq else if y == Str.ofString "\"" then some k.dq else none
  | _ => none
noncomputable def inT (y : Str) : PV → Option Bool
  | txt x => some (Txt.contains y x)
  | chr _ k => if y == Str.ofString "\\" then some k.bs else none
  | _ => none
noncomputable def eqv (a : PV) : PV → Option Bool
  | txt y => eqT y a
  | num j => a.numOf.map (· == j)
  | _ => none
noncomputable def cmp (op : CmpOp) (a b : PV) : Option Bool := match op with
  | .Is => if b.isNon then some a.isNon else none
  | .Eq => eqv a b
  | .NotEq => b.txtOf.bind fun y => a.txtOf.map (· != y)
  | .Lt => b.numOf.bind fun j => a.numOf.map fun i => decide (i < j)
  | .In => b.txtOf.bind fun y => inT y a
  | .NotIn => b.txtOf.bind fun y => a.txtOf.map fun x => !Txt.contains y x
  | .GtE => b.numOf.bind fun j => a.numOf.map fun i => decide (i ≥ j)
  | .Gt => b.numOf.bind fun j => a.numOf.map fun i => decide (i > j)
  | _ => none
noncomputable def text : PV → Option (Str × Nat × Bool)
  | txt s => some (s, s.length, s.length != 0)
  | tx s n e => some (s, n, e)
  | chr s _ => some (s, 1, true)
  | _ => none
noncomputable def add (a b : PV) : Option PV :=
  (a.numOf.bind fun i => b.numOf.map fun j => num (i + j)).or
    (a.text.bind fun p => b.text.bind fun q => if p.2.1 + q.2.1 ≤ 16777216 then some (tx (p.1 ++ q.1) (p.2.1 + q.2.1) (p.2.2 || q.2.2)) else none)
end PV
structure MS where
  lo : List (Str × PV)
  fs : List (Str × PV)
noncomputable def setF (a : Str) (v : PV) : List (Str × PV) → List (Str × PV)
  | [] => []
  | (b, u) :: r => if b == a then (b, v) :: r else (b, u) :: setF a v r
/-- a local name of the frame -/
noncomputable def locN (sc : Scope) (x : Str) : Bool := sc.names.lookup x == some .local && !(x == ("__debug__" : Str))
noncomputable def oneL {α : Type} : List α → Option α
  | [] => none
  | a :: r => if r.isEmpty then some a else none
noncomputable def nameOf : Expr → Option Str
  | .Name x _ => some x
  | _ => none
noncomputable def constOf : Const → Option PV
  | .str x => some (.txt x)
  | .none => some .non
  | .bool b => some (.boo b)
  | .int i => some (.num i)
  | _ => none
noncomputable def ev (sc : Scope) (σ : MS) : Nat → Expr → Option PV
  | 0, _ => none
  | n + 1, e => match e with
    | .Constant c _ _ => constOf c
    | .Name x _ => if locN sc x then σ.lo.lookup x else none
    | .Attribute o a _ => (nameOf o).bind fun x => if locN sc x && x == ("self" : Str) then
      if a == ("punctuation_chars" : Str) then (if ((σ.fs.lookup ("_punctuation_chars" : Str)).bind PV.txtOf) == some (Str.ofString "") then some (.txt (Str.ofString "")) else none) else σ.fs.lookup a
      else none
    | .Compare l ops rs _ => (oneL ops).bind fun op => (oneL rs).bind fun r => if behindInMarks op r then none else (ev sc σ n l).bind fun a => (ev sc σ n r).bind fun b => (PV.cmp op a b).map .boo
    | .BinOp l op r _ => if op = .Add then (ev sc σ n l).bind fun a => (ev sc σ n r).bind fun b => PV.add a b else none
    | _ => none
noncomputable def allO (f : Expr → Option Bool) : List Expr → Option Bool
  | [] => some true
  | e :: r => (f e).bind fun b => if b then allO f r else some false
noncomputable def anyO (f : Expr → Option Bool) : List Expr → Option Bool
  | [] => some false
  | e :: r => (f e).bind fun b => if b then some true else anyO f r
noncomputable def strOf : Expr → Option Str
  | .Constant c _ _ => (constOf c).bind PV.txtOf
  | _ => none
/-- a pair of texts -/
noncomputable def twoL : Expr → Option (Str × Str)
  | .Tuple es _ _ => match es with
    | [] => none
    | a :: r => (oneL r).bind fun b => (strOf a).bind fun x => (strOf b).map fun y => (x, y)
  | _ => none
noncomputable def tr (sc : Scope) (σ : MS) : Nat → Expr → Option Bool
  | 0, _ => none
  | n + 1, e => match e with
    | .BoolOp op es _ => if op = .And then allO (tr sc σ n) es else anyO (tr sc σ n) es
    | .UnaryOp op x _ => if op = .Not then (tr sc σ n x).map (!·) else none
    | .Compare l ops rs _ => (oneL ops).bind fun op => (oneL rs).bind fun r =>
      if op = .In ∧ (twoL r).isSome then (twoL r).bind fun p => (ev sc σ n l).bind fun a => a.txtOf.map fun x => [p.1, p.2].any (· == x)
      else if behindInMarks op r then none else (ev sc σ n l).bind fun a => (ev sc σ n r).bind fun b => PV.cmp op a b
    | .Name x p => (ev sc σ n (.Name x p)).bind PV.tr
    | .Attribute o a p => (ev sc σ n (.Attribute o a p)).bind PV.tr
    | _ => none
inductive MF where
  | nxt | brk | cnt
  | ret (v : PV)
noncomputable def MF.isNxt : MF → Bool
  | .nxt => true
  | _ => false
noncomputable def plainV : Expr → Bool
  | .Constant .. | .Name .. | .Attribute .. | .Compare .. | .BinOp .. => true
  | _ => false
/-- a target's value, and its new value -/
noncomputable def getT (sc : Scope) (σ : MS) : Expr → Option PV
  | .Name x _ => if locN sc x && !(x == ("self" : Str)) then σ.lo.lookup x else none
  | .Attribute o a _ => (nameOf o).bind fun x => if locN sc x && x == ("self" : Str) then σ.fs.lookup a else none
  | _ => none
noncomputable def putT (sc : Scope) (σ : MS) (v : PV) : Expr → Option MS
  | .Name x _ => if locN sc x && !(x == ("self" : Str)) then some { σ with lo := (x, v) :: σ.lo } else none
  | .Attribute o a _ => (nameOf o).bind fun x => if locN sc x && x == ("self" : Str) && (σ.fs.lookup a).isSome then some { σ with fs := setF a v σ.fs } else none
  | _ => none
noncomputable def runs (f : MS → Stmt → Option (MF × MS)) : List Stmt → MS → Option (MF × MS)
  | [], σ => some (.nxt, σ)
  | s :: r, σ => (f σ s).bind fun p => if p.1.isNxt then runs f r p.2 else some p
noncomputable def ex1 (sc : Scope) : Nat → MS → Stmt → Option (MF × MS)
  | 0, _, _ => none
  | n + 1, σ, st => match st with
    | .Assign ts e _ => (oneL ts).bind fun t => if plainV e then (ev sc σ n e).bind fun v => (putT sc σ v t).map fun z => (.nxt, z) else none
    | .AugAssign t op e _ => if op = .Add then (getT sc σ t).bind fun a => (ev sc σ n e).bind fun b => (PV.add a b).bind fun v => (putT sc σ v t).map fun z => (.nxt, z) else none
    | .If t b o _ => (tr sc σ n t).bind fun c => runs (ex1 sc n) (if c then b else o) σ
    | .Break _ => some (.brk, σ)
    | .Continue _ => some (.cnt, σ)
    | .Return v _ => v.bind fun e => (ev sc σ n e).map fun u => (.ret u, σ)
    | _ => none
noncomputable def exs (sc : Scope) (σ : MS) (n : Nat) (b : List Stmt) : Option (MF × MS) := runs (ex1 sc n) b σ
theorem ns {α : Type} {v : α} {P : Prop} (h : (none : Option α) = some v) : P := nomatch h
theorem of_if {α : Type} {c : Prop} [Decidable c] {x : Option α} {v : α} (h : (if c then x else none) = some v) : c ∧ x = some v := by
  by_cases hc : c
  · exact ⟨hc, by rw [if_pos hc] at h; exact h⟩
  · rw [if_neg hc] at h; exact ns h
theorem of_nif {α : Type} {c : Prop} [Decidable c] {x : Option α} {v : α} (h : (if c then none else x) = some v) : ¬ c ∧ x = some v := by
  by_cases hc : c
  · rw [if_pos hc] at h; exact ns h
  · exact ⟨hc, by rw [if_neg hc] at h; exact h⟩
theorem si {α : Type} {a b : α} (h : some a = some b) : a = b := Option.some.inj h
theorem bs {α β : Type} {o : Option α} {f : α → Option β} {v : β} (h : o.bind f = some v) : ∃ a, o = some a ∧ f a = some v := Option.bind_eq_some_iff.mp h
theorem ms {α β : Type} {o : Option α} {f : α → β} {v : β} (h : o.map f = some v) : ∃ a, o = some a ∧ f a = v := Option.map_eq_some_iff.mp h
theorem oneL_eq {α : Type} {l : List α} {a : α} (h : oneL l = some a) : l = [a] := by
  cases l with
  | nil => exact ns h
  | cons b r =>
    obtain ⟨h1, h2⟩ := of_if (show (if r.isEmpty = true then some b else none) = some a from h)
    cases si h2
    rw [List.isEmpty_iff.mp h1]
theorem nameOf_eq {e : Expr} {x : Str} (h : nameOf e = some x) : ∃ p, e = .Name x p := by
  cases e with
  | Name y p => cases si h; exact ⟨p, rfl⟩
  | _ => exact ns h
theorem txtOf_eq {v : PV} {x : Str} (h : v.txtOf = some x) : v = .txt x := by
  cases v with
  | txt y => cases si h; rfl
  | _ => exact ns h
theorem numOf_eq {v : PV} {x : Int} (h : v.numOf = some x) : v = .num x := by
  cases v with
  | num y => cases si h; rfl
  | _ => exact ns h
theorem strOf_eq {e : Expr} {x : Str} (h : strOf e = some x) : ∃ k p, e = .Constant (.str x) k p := by
  cases e with
  | Constant c k p =>
    obtain ⟨v, h1, h2⟩ := bs (show (constOf c).bind PV.txtOf = some x from h)
    have e := txtOf_eq h2
    subst e
    cases c with
    | str y => cases si h1; exact ⟨k, p, rfl⟩
    | none | bool b | int i => cases h1
    | _ => exact ns h1
  | _ => exact ns h
theorem twoL_eq {e : Expr} {q : Str × Str} (h : twoL e = some q) : ∃ k1 p1 k2 p2 c p, e = .Tuple [.Constant (.str q.1) k1 p1, .Constant (.str q.2) k2 p2] c p := by
  cases e with
  | Tuple es c p =>
    cases es with
    | nil => exact ns h
    | cons a r =>
      obtain ⟨b, h1, h⟩ := bs (show ((oneL r).bind fun b => (strOf a).bind fun x => (strOf b).map fun y => (x, y)) = some q from h)
      obtain ⟨x, h2, h⟩ := bs h
      obtain ⟨y, h3, h⟩ := ms h
      subst h
      obtain ⟨k1, p1, rfl⟩ := strOf_eq h2
      obtain ⟨k2, p2, rfl⟩ := strOf_eq h3
      rw [oneL_eq h1]
      exact ⟨k1, p1, k2, p2, c, p, rfl⟩
  | _ => exact ns h
/-- the dict's entries -/
noncomputable def ents (hs : Nat → Int) (ks vt : Nat → Tok) : Nat → List (Str × PV) → List DictEntry
  | _, [] => []
  | i, (a, v) :: r => ⟨hs i, .str a (ks i), v.av (vt i)⟩ :: ents hs ks vt (i + 1) r
theorem ents_get {hs : Nat → Int} {ks vt : Nat → Tok} {a : Str} {v : PV} : ∀ (fs : List (Str × PV)) (i : Nat), fs.lookup a = some v → ∃ j, getL a (ents hs ks vt i fs) = some (some (v.av (vt j)))
  | [], _, h => by cases h
  | (b, u) :: r, i, h => by
    unfold getL ents
    rw [List.find?_cons]
    rw [show (Value.str b (ks i)).isStr a = (b == a) from rfl]
    rw [List.lookup_cons] at h
    by_cases hb : a == b
    · rw [hb] at h
      cases h
      rw [show (b == a) = true from by rw [eq_of_beq hb]; exact beq_self_eq_true _]
      exact ⟨i, rfl⟩
    · have hb' : (a == b) = false := by simpa using hb
      rw [hb'] at h
      have hb2 : (b == a) = false := by
        cases q : b == a with
        | false => rfl
        | true => rw [eq_of_beq q, beq_self_eq_true] at hb'; cases hb'
      rw [hb2]
      obtain ⟨j, hj⟩ := ents_get r (i + 1) h
      unfold getL at hj
      refine ⟨j, ?_⟩
      revert hj
      cases List.find? (fun x => x.key.isStr a) (ents hs ks vt (i + 1) r) with
      | some e => exact id
      | none => intro hj; exfalso; revert hj; dsimp only; split <;> intro hj <;> simp at hj
theorem ents_congr {hs : Nat → Int} {ks vt vt' : Nat → Tok} : ∀ (fs : List (Str × PV)) (i : Nat), (∀ k, i ≤ k → vt k = vt' k) → ents hs ks vt i fs = ents hs ks vt' i fs
  | [], _, _ => rfl
  | (b, u) :: r, i, h => by
    unfold ents
    rw [h i (Nat.le_refl i), ents_congr r (i + 1) fun k hk => h k (by omega)]
theorem ents_put {hs : Nat → Int} {ks : Nat → Tok} {a : Str} {v : PV} {t : Tok} {hsh : Int} {key : Value} : ∀ (fs : List (Str × PV)) (i : Nat) (vt : Nat → Tok), (fs.lookup a).isSome = true →
    ∃ vt', putL a hsh key (v.av t) (ents hs ks vt i fs) = ents hs ks vt' i (setF a v fs) ∧ (∀ k, k < i → vt' k = vt k) ∧ (ents hs ks vt i fs).any (·.key.isStr a) = true
  | [], _, _, h => by cases h
  | (b, u) :: r, i, vt, h => by
    rw [List.lookup_cons] at h
    unfold ents putL setF
    by_cases hb : a == b
    · have e : b = a := (eq_of_beq hb).symm
      subst e
      refine ⟨fun k => if k = i then t else vt k, ?_, fun k hk => if_neg (by omega), ?_⟩
      · rw [show (Value.str b (ks i)).isStr b = true from beq_self_eq_true b, if_pos rfl, beq_self_eq_true, if_pos rfl]
        have e1 : (fun k => if k = i then t else vt k) i = t := if_pos rfl
        have e2 : ents hs ks vt (i + 1) r = ents hs ks (fun k => if k = i then t else vt k) (i + 1) r := ents_congr r (i + 1) fun k hk => (if_neg (show ¬ k = i by omega)).symm
        show (⟨hs i, .str b (ks i), v.av t⟩ : DictEntry) :: ents hs ks vt (i + 1) r = ⟨hs i, .str b (ks i), v.av ((fun k => if k = i then t else vt k) i)⟩ :: ents hs ks (fun k => if k = i then t else vt k) (i + 1) r
        rw [e1, ← e2]
      · rw [List.any_cons, show (Value.str b (ks i)).isStr b = true from beq_self_eq_true b, Bool.true_or]
    · have hb' : (a == b) = false := by simpa using hb
      have hb2 : (b == a) = false := by
        cases q : b == a with
        | false => rfl
        | true => rw [eq_of_beq q, beq_self_eq_true] at hb'; cases hb'
      rw [hb'] at h
      obtain ⟨vt', h1, h2, h3⟩ := ents_put r (i + 1) vt h
      refine ⟨vt', ?_, fun k hk => h2 k (by omega), ?_⟩
      · rw [show (Value.str b (ks i)).isStr a = false from hb2, if_neg Bool.false_ne_true, hb2, if_neg Bool.false_ne_true, h1]
        show _ = _ :: _
        rw [h2 i (by omega)]
      · rw [List.any_cons, h3, Bool.or_true]
theorem ents_len {hs : Nat → Int} {ks vt : Nat → Tok} : ∀ (fs : List (Str × PV)) (i : Nat), (ents hs ks vt i fs).length = fs.length
  | [], _ => rfl
  | (b, u) :: r, i => by unfold ents; rw [List.length_cons, List.length_cons, ents_len r]
theorem setF_len {a : Str} {v : PV} : ∀ fs : List (Str × PV), (setF a v fs).length = fs.length
  | [] => rfl
  | (b, u) :: r => by unfold setF; split <;> simp [setF_len r]
theorem setF_look {a : Str} {v : PV} {b : Str} : ∀ fs : List (Str × PV), (setF a v fs).lookup b = if b == a ∧ (fs.lookup a).isSome = true then some v else fs.lookup b
  | [] => by simp [setF]
  | (c, u) :: r => by
    unfold setF
    by_cases h1 : c = a
    · subst h1
      rw [if_pos (beq_self_eq_true _), List.lookup_cons, List.lookup_cons, List.lookup_cons, beq_self_eq_true]
      cases b == c <;> simp
    · have h2 : (c == a) = false := by simpa using h1
      have h3 : (a == c) = false := by simpa using fun e => h1 e.symm
      rw [h2, if_neg Bool.false_ne_true, List.lookup_cons, List.lookup_cons, List.lookup_cons, h3, setF_look r]
      by_cases h4 : b = c
      · subst h4
        simp [h1]
      · have h5 : (b == c) = false := by simpa using h4
        rw [h5]
theorem setF_some {a : Str} {v : PV} {b : Str} : ∀ fs : List (Str × PV), ((setF a v fs).lookup b).isSome = (fs.lookup b).isSome
  | [] => rfl
  | (c, u) :: r => by
    unfold setF
    split
    · rw [List.lookup_cons, List.lookup_cons]
      cases b == c <;> rfl
    · rw [List.lookup_cons, List.lookup_cons]
      cases b == c
      · exact setF_some r
      · rfl
theorem setF_ok {a : Str} {v : PV} (vo : v.ok) {fs : List (Str × PV)} (g : ∀ a v, fs.lookup a = some v → v.ok) {b : Str} {u : PV} (h : (setF a v fs).lookup b = some u) : u.ok := by
  rw [setF_look] at h
  split at h
  · cases h; exact vo
  · exact g _ _ h
noncomputable def attrOk (K : Frag) (C : Addr) (a : Str) : Bool := plainGet K C a && (match findIn K (.ref C) a with | some attr => noGet K attr | none => false) && takerIn K C a == some none
structure Good (K : Frag) (h₀ : Heap) (C lx dlx : Addr) (rest : List (Addr × Obj)) (sc : Scope) : Prop where
  X : K.In h₀
  set : findIn K (.ref C) "__setattr__" = some (some (.builtin "object.__setattr__"))
  plain : plainOver K C = true
  dict : hasDictIn K C = true
  ne : lx ≠ dlx
  off : ∀ p ∈ rest, p.1 ≠ dlx
  kind : sc.kind = .function
structure Rep (K : Frag) (h₀ : Heap) (L C lx dlx : Addr) (nn : Nat) (hs : Nat → Int) (ks : Nat → Tok) (rest : List (Addr × Obj)) (σ : MS) (m : Str → Option Value) (h : Heap) : Prop where
  F : Fr h₀ L h m
  lo : ∀ x v, σ.lo.lookup x = some v → v.ok ∧ ∃ t, m x = some (v.av t)
  slf : m (Str.ofString "self") = some (.ref lx)
  N : ∃ vt, News h₀ L h ((lx, instObj C dlx) :: (dlx, W.dictOf (ents hs ks vt 0 σ.fs) nn) :: rest)
  keys : ∀ a, (σ.fs.lookup a).isSome = true → attrOk K C a = true
  good : ∀ a v, σ.fs.lookup a = some v → v.ok
  few : σ.fs.length ≤ 1000
section
variable {prog : Program} {w : World} {A : Around} {E : Value → Shared → Prop} {K : Frag} {h₀ : Heap} {C lx dlx L f : Addr} {nn : Nat} {hs : Nat → Int} {ks : Nat → Tok} {rest : List (Addr × Obj)} {nm : Str} {sc : Scope} {cd : Value} {σ : MS} {m : Str → Option Value}
theorem locN_parts {x : Str} (h : locN sc x = true) : (envOf nm sc L f cd).kindOf x = some .local ∧ (x == Str.ofString "__debug__") = false := by
  unfold locN at h
  rw [Bool.and_eq_true, Bool.not_eq_true'] at h
  exact ⟨eq_of_beq h.1, h.2⟩
theorem handed_av (v : PV) (t : Tok) : handedIn (v.av t) = true := by cases v <;> rfl
theorem attr_sound {a : Str} {v : PV} (G : Good K h₀ C lx dlx rest sc) {s : Shared} (R : Rep K h₀ L C lx dlx nn hs ks rest σ m s.heap) (h : σ.fs.lookup a = some v) {Q : Value → Shared → Prop} {b : Bool}
    (q : ∀ t k, Q (v.av t) { s with toks := k }) : wpAny (model prog w) A (getAttr (.ref lx) a b) Q E s := by
  obtain ⟨vt, N⟩ := R.N
  have ok := R.keys a (by rw [h]; rfl)
  unfold attrOk at ok
  rw [Bool.and_eq_true, Bool.and_eq_true] at ok
  obtain ⟨⟨o1, o2⟩, o3⟩ := ok
  obtain ⟨j, hj⟩ := ents_get (hs := hs) (ks := ks) (vt := vt) σ.fs 0 h
  cases hf : findIn K (.ref C) a with
  | none => rw [hf] at o2; cases o2
  | some attr =>
    rw [hf] at o2
    exact get_own R.F G.X (InstAt.of_news N (.head _) (.tail _ (.head _))) o1 G.dict hf o2 hj (handed_av _ _) (q _ _)
theorem set_sound {a : Str} {v : PV} {t : Tok} (vo : v.ok) (G : Good K h₀ C lx dlx rest sc) {s : Shared} (R : Rep K h₀ L C lx dlx nn hs ks rest σ m s.heap) (h : (σ.fs.lookup a).isSome = true) {Q : Unit → Shared → Prop}
    (q : ∀ h' k, Rep K h₀ L C lx dlx nn hs ks rest { σ with fs := setF a v σ.fs } m h' → Q () { s with heap := h', toks := k }) : wpAny (model prog w) A (setAttr (.ref lx) a (v.av t)) Q E s := by
  obtain ⟨vt, N⟩ := R.N
  have ok := R.keys a h
  unfold attrOk at ok
  rw [Bool.and_eq_true, Bool.and_eq_true] at ok
  obtain ⟨⟨o1, o2⟩, o3⟩ := ok
  obtain ⟨vt', e1, -, e3⟩ := ents_put (hs := hs) (ks := ks) (v := v) (t := t) (hsh := PyData.keyHash w.params a) (key := .str a (s.toks + 1)) σ.fs 0 vt h
  have hg : (getL a (ents hs ks vt 0 σ.fs)).isSome = true := by
    obtain ⟨u, hu⟩ := Option.isSome_iff_exists.mp h
    obtain ⟨j, hj⟩ := ents_get (hs := hs) (ks := ks) (vt := vt) σ.fs 0 hu
    rw [hj]; rfl
  have en : putN a (ents hs ks vt 0 σ.fs) nn = nn := by unfold putN; rw [e3, if_pos rfl]
  refine set_dict R.F G.X N (InstAt.of_news N (.head _) (.tail _ (.head _))) rfl G.set G.plain (eq_of_beq o3) G.dict hg (by rw [e1, en]) (Upd.tail G.ne (Upd.head G.off)) (by rw [ents_len, setF_len]; exact R.few) fun h' F' N' => ?_
  exact q h' _ ⟨F', R.lo, R.slf, ⟨vt', N'⟩, fun b hb => R.keys b (by rw [setF_some] at hb; exact hb), fun b u hb => setF_ok vo R.good hb, by rw [setF_len]; exact R.few⟩
theorem Rep.toks {s : Shared} {k : Nat} (R : Rep K h₀ L C lx dlx nn hs ks rest σ m s.heap) : Rep K h₀ L C lx dlx nn hs ks rest σ m ({ s with toks := k } : Shared).heap := R
theorem isNon_sound {a : PV} {t u : Tok} {s : Shared} {Q : Value → Shared → Prop} (q' : Q (.bool a.isNon) s) : wpAny (model prog w) A (compareOp .Is (a.av t) (PV.non.av u)) Q E s := by
  revert q'
  cases a
  · exact fun q' => is_none_none q'
  · exact fun q' => is_bool_none q'
  · exact fun q' => is_int_none q'
  · exact fun q' => is_str_none q'
  · exact fun q' => is_str_none q'
  · exact fun q' => is_str_none q'
  · exact fun q' => is_ref_none q'
theorem text_sound {v : PV} {x : Str} {n : Nat} {e : Bool} (h : v.text = some (x, n, e)) (o : v.ok) : (∀ t, v.av t = .str x t) ∧ x.length ≤ n ∧ (x.length != 0) = e := by
  cases v with
  | txt s => cases h; exact ⟨fun _ => rfl, Nat.le_refl _, rfl⟩
  | tx s m f => cases h; exact ⟨fun _ => rfl, o.1, o.2⟩
  | chr s k =>
    cases h
    obtain ⟨c, rfl, _⟩ := o
    exact ⟨fun _ => rfl, Nat.le_refl _, rfl⟩
  | _ => cases h
theorem str_len_app (x y : Str) : (x ++ y).length = x.length + y.length := by
  show (x ++ y).cps.size = _
  rw [Str.cps_append, Array.size_append]; rfl
theorem contains1 (c d : Nat) : Txt.contains (mkS [d]) (mkS [c]) = (c == d) := by
  refine (StrLaws.found_one (mkS [d]) c).trans ?_
  by_cases h : c = d
  · subst h; simp
  · simp [h]
theorem mkS_eq1 (c d : Nat) : (mkS [c] == mkS [d]) = (c == d) := by
  by_cases h : c = d
  · subst h; simp
  · have h1 : (c == d) = false := by simpa using h
    rw [h1]
    exact beq_eq_false_iff_ne.mpr fun e => h (by injection e with e; simpa using congrArg Array.toList e)
theorem eqT_sound {y : Str} {a : PV} {c : Bool} (oa : a.ok) (h : PV.eqT y a = some c) {t u : Tok} {s : Shared} {Q : Value → Shared → Prop} (q : Q (.bool c) s) : wpAny (model prog w) A (compareOp .Eq (a.av t) (.str y u)) Q E s := by
  cases a with
  | txt x => cases si h; exact eq_str q
  | tx x n e =>
    obtain ⟨hy, h⟩ := of_if (show (if (y.length == 0) = true then some (!e) else none) = some c from h)
    cases si h
    refine eq_str ?_
    have hb : y = Str.ofString "" := Str.ext' (by
      have hz : y.cps.size = 0 := eq_of_beq hy
      rw [Array.eq_empty_of_size_eq_zero hz]; decide +kernel)
    have ho := oa.2
    have : (x == y) = !e := by
      rw [← ho]
      cases hx : x == y with
      | true => rw [eq_of_beq hx, hb]; decide +kernel
      | false =>
        have : x.length ≠ 0 := fun hz => by
          have hz' : x.cps.size = 0 := hz
          have hx' : x = Str.ofString "" := Str.ext' (by rw [Array.eq_empty_of_size_eq_zero hz']; decide +kernel)
          rw [hx', hb, beq_self_eq_true] at hx; cases hx
        rw [bne_iff_ne.mpr this]; rfl
    rw [this]
    exact q
  | chr x k =>
    obtain ⟨c', rfl, h1, h2, h3, h4⟩ := oa
    have h : (if (y == Str.ofString "\n") = true then some k.nl else if (y == Str.ofString "'") = true then some k.sq else if (y == Str.ofString "\"") = true then some k.dq else none) = some c := h
    by_cases hy : (y == Str.ofString "\n") = true
    · rw [if_pos hy] at h
      cases si h
      refine eq_str ?_
      rw [eq_of_beq hy, show Str.ofString "\n" = mkS [10] by decide +kernel, mkS_eq1, ← h1]
      exact q
    · rw [if_neg hy] at h
      by_cases hy : (y == Str.ofString "'") = true
      · rw [if_pos hy] at h
        cases si h
        refine eq_str ?_
        rw [eq_of_beq hy, show Str.ofString "'" = mkS [39] by decide +kernel, mkS_eq1, ← h2]
        exact q
      · rw [if_neg hy] at h
        obtain ⟨hy, h⟩ := of_if h
        cases si h
        refine eq_str ?_
        rw [eq_of_beq hy, show Str.ofString "\"" = mkS [34] by decide +kernel, mkS_eq1, ← h3]
        exact q
  | _ => exact ns h
theorem cmp_sound {op : CmpOp} {a b : PV} {c : Bool} (oa : a.ok) (h : PV.cmp op a b = some c) {t u : Tok} {s : Shared} {Q : Value → Shared → Prop} (q : Q (.bool c) s) :
    wpAny (model prog w) A (compareOp op (a.av t) (b.av u)) Q E s := by
  cases op with
  | Is =>
    obtain ⟨hb, h⟩ := of_if (show (if b.isNon = true then some a.isNon else none) = some c from h)
    cases si h
    cases b with
    | non => exact isNon_sound q
    | _ => cases hb
  | Eq =>
    cases b with
    | txt y => exact eqT_sound oa h q
    | num j =>
      obtain ⟨i, h1, h⟩ := ms (show a.numOf.map (· == j) = some c from h)
      cases numOf_eq h1
      cases h
      exact eq_int q
    | _ => exact ns h
  | NotEq =>
    obtain ⟨y, h1, h⟩ := bs (show (b.txtOf.bind fun y => a.txtOf.map (· != y)) = some c from h)
    obtain ⟨x, h2, h⟩ := ms h
    cases txtOf_eq h1; cases txtOf_eq h2; cases h
    exact ne_str q
  | Lt =>
    obtain ⟨y, h1, h⟩ := bs (show (b.numOf.bind fun j => a.numOf.map fun i => decide (i < j)) = some c from h)
    obtain ⟨x, h2, h⟩ := ms h
    cases numOf_eq h1; cases numOf_eq h2; cases h
    exact lt_int q
  | In =>
    obtain ⟨y, h1, h⟩ := bs (show (b.txtOf.bind fun y => PV.inT y a) = some c from h)
    cases txtOf_eq h1
    cases a with
    | txt x => cases si h; exact PyProof.Rows.in_str q
    | chr x k =>
      obtain ⟨c', rfl, h1, h2, h3, h4⟩ := oa
      obtain ⟨hy, h⟩ := of_if (show (if (y == Str.ofString "\\") = true then some k.bs else none) = some c from h)
      cases si h
      refine PyProof.Rows.in_str ?_
      have e2 := contains1 c' 92
      rw [eq_of_beq hy, show Str.ofString "\\" = mkS [92] by decide +kernel]
      rw [h4, ← e2] at q
      exact q
    | _ => exact ns h
  | NotIn =>
    obtain ⟨y, h1, h⟩ := bs (show (b.txtOf.bind fun y => a.txtOf.map fun x => !Txt.contains y x) = some c from h)
    obtain ⟨x, h2, h⟩ := ms h
    cases txtOf_eq h1; cases txtOf_eq h2; cases h
    exact PyProof.Rows.notIn_str q
  | GtE =>
    obtain ⟨y, h1, h⟩ := bs (show (b.numOf.bind fun j => a.numOf.map fun i => decide (i ≥ j)) = some c from h)
    obtain ⟨x, h2, h⟩ := ms h
    cases numOf_eq h1; cases numOf_eq h2; cases h
    exact ge_int q
  | Gt =>
    obtain ⟨y, h1, h⟩ := bs (show (b.numOf.bind fun j => a.numOf.map fun i => decide (i > j)) = some c from h)
    obtain ⟨x, h2, h⟩ := ms h
    cases numOf_eq h1; cases numOf_eq h2; cases h
    exact gt_int q
  | LtE => exact ns h
  | IsNot => exact ns h
theorem truth_sound {a : PV} {c : Bool} (oa : a.ok) (h : PV.tr a = some c) {t : Tok} {s : Shared} {Q : Bool → Shared → Prop} (q : ∀ k, Q c { s with toks := k }) : wpAny (model prog w) A (truthy (a.av t)) Q E s := by
  cases a with
  | non => cases h; exact PyProof.Rows.truthy_none (q s.toks)
  | boo b => cases h; exact wpAny_truthy_bool (q s.toks)
  | num i => cases h; exact PyProof.Rows.truthy_int (q s.toks)
  | txt x =>
    by_cases hl : x.length ≤ 16777216
    · have h' : some (x.length != 0) = some c := by rw [← h]; exact (if_pos hl).symm
      cases h'
      refine SBL.truthy (by omega) ?_
      have e : ((x.length : Int) != 0) = (x.length != 0) := by
        cases hx : x.length with
        | zero => rfl
        | succ n => simp; omega
      rw [e]
      exact q _
    · have h' : none = some c := by rw [← h]; exact (if_neg hl).symm
      cases h'
  | tx x n eb =>
    obtain ⟨o1, o2⟩ := oa
    by_cases hl : n ≤ 16777216
    · have h' : some eb = some c := by rw [← h]; exact (if_pos hl).symm
      cases h'
      refine SBL.truthy (by omega) ?_
      have e : ((x.length : Int) != 0) = c := by
        rw [← o2]
        cases hx : x.length with
        | zero => rfl
        | succ n => simp; omega
      rw [e]
      exact q _
    · have h' : none = some c := by rw [← h]; exact (if_neg hl).symm
      cases h'
  | chr x k =>
    obtain ⟨c', rfl, _⟩ := oa
    cases h
    refine SBL.truthy (by rw [mkS_len]; show ((1 : Nat) : Int) < _; decide) ?_
    exact q _
  | obj a => cases h
theorem add_ok {a b v : PV} (oa : a.ok) (ob : b.ok) (h : PV.add a b = some v) : v.ok ∧ ((∃ i j, a = .num i ∧ b = .num j ∧ v = .num (i + j)) ∨ ∃ x y n e, (∀ t, a.av t = .str x t) ∧ (∀ t, b.av t = .str y t) ∧ x.length + y.length ≤ 16777216 ∧ v = .tx (x ++ y) n e) := by
  rcases Option.or_eq_some_iff.mp (show Option.or _ _ = some v from h) with h | ⟨-, h⟩
  · obtain ⟨i, h1, h⟩ := bs h
    obtain ⟨j, h2, h⟩ := ms h
    subst h; cases numOf_eq h1; cases numOf_eq h2
    exact ⟨trivial, .inl ⟨_, _, rfl, rfl, rfl⟩⟩
  · obtain ⟨⟨x, n, e⟩, hx, h⟩ := bs h
    obtain ⟨⟨y, m, f⟩, hy, h⟩ := bs h
    obtain ⟨hl, h⟩ := of_if (show (if n + m ≤ 16777216 then some (PV.tx (x ++ y) (n + m) (e || f)) else none) = some v from h)
    cases si h
    obtain ⟨a1, a2, a3⟩ := text_sound hx oa
    obtain ⟨b1, b2, b3⟩ := text_sound hy ob
    refine ⟨⟨?_, ?_⟩, .inr ⟨x, y, _, _, a1, b1, by omega, rfl⟩⟩
    · rw [str_len_app]; exact Nat.add_le_add a2 b2
    · rw [← a3, ← b3, str_len_app]
      cases x.length with
      | zero => rw [Nat.zero_add]; rfl
      | succ k => rw [Nat.succ_add]; rfl
theorem add_sound {a b v : PV} (oa : a.ok) (ob : b.ok) (h : PV.add a b = some v) {t u : Tok} {s : Shared} {Q : Value → Shared → Prop} (q : ∀ t k, Q (v.av t) { s with toks := k }) : wpAny (model prog w) A (binaryOp .Add (a.av t) (b.av u)) Q E s := by
  obtain ⟨-, ⟨i, j, rfl, rfl, rfl⟩ | ⟨x, y, n, e, a1, b1, hl, rfl⟩⟩ := add_ok oa ob h
  · exact PyProof.Rows.add_int (q _ _)
  · rw [a1, b1]; exact KOpn.add hl fun t' k _ => q t' k
theorem iadd_sound {a b v : PV} (oa : a.ok) (ob : b.ok) (h : PV.add a b = some v) {t u : Tok} {s : Shared} {Q : Value → Shared → Prop} (q : ∀ t k, Q (v.av t) { s with toks := k }) : wpAny (model prog w) A (inplaceOp .Add (a.av t) (b.av u)) Q E s := by
  obtain ⟨-, ⟨i, j, rfl, rfl, rfl⟩ | ⟨x, y, n, e, a1, b1, hl, rfl⟩⟩ := add_ok oa ob h
  · exact iadd_int (q _ _)
  · rw [a1, b1]; exact iadd hl fun t' k => q t' k
noncomputable def PropOk (prog : Program) (w : World) (A : Around) (E : Value → Shared → Prop) (K : Frag) (h₀ : Heap) (C lx dlx L : Addr) (nn : Nat) (hs : Nat → Int) (ks : Nat → Tok) (rest : List (Addr × Obj)) : Prop :=
  ∀ (σ : MS) (m : Str → Option Value) (s : Shared) (b : Bool) (Q : Value → Shared → Prop), Rep K h₀ L C lx dlx nn hs ks rest σ m s.heap → σ.fs.lookup (Str.ofString "_punctuation_chars") = some (.txt (Str.ofString "")) →
    (∀ t h' k, Rep K h₀ L C lx dlx nn hs ks rest σ m h' → Q (.str (Str.ofString "") t) { s with heap := h', toks := k }) → wpAny (model prog w) A (getAttr (.ref lx) (Str.ofString "punctuation_chars") b) Q E s
theorem attrN_sound (G : Good K h₀ C lx dlx rest sc) {o : Expr} {x a : Str} (hx : nameOf o = some x) (hl : (locN sc x && x == Str.ofString "self") = true) {pos : Pos} {s : Shared} {Q : Value → Shared → Prop} (R : Rep K h₀ L C lx dlx nn hs ks rest σ m s.heap)
    (q : wpAny (model prog w) A (getAttr (.ref lx) a true) Q E s) : wpAny (model prog w) A (eval (.Attribute o a pos) (envOf nm sc L f cd)) Q E s := by
  rw [Bool.and_eq_true] at hl
  obtain ⟨h1, h2⟩ := locN_parts (nm := nm) (L := L) (f := f) (cd := cd) hl.1
  cases eq_of_beq hl.2
  obtain ⟨p, rfl⟩ := nameOf_eq hx
  exact Attribute_Name_ (ld R.F R.slf q G.kind h1 h2)
theorem ev_sound (G : Good K h₀ C lx dlx rest sc) (P : PropOk prog w A E K h₀ C lx dlx L nn hs ks rest) : ∀ (n : Nat) (e : Expr) (v : PV), ev sc σ n e = some v → ∀ {s : Shared} {Q : Value → Shared → Prop}, Rep K h₀ L C lx dlx nn hs ks rest σ m s.heap →
    (v.ok → ∀ t h' k, Rep K h₀ L C lx dlx nn hs ks rest σ m h' → Q (v.av t) { s with heap := h', toks := k }) → wpAny (model prog w) A (eval e (envOf nm sc L f cd)) Q E s
  | 0, _, _, h, _, _, _, _ => ns h
  | n + 1, e, v, h0, s, Q, R, q => by
    cases e with
    | Constant c k p =>
      cases c with
      | str x => cases si h0; exact Calls.Constant_str (q trivial _ _ _ R)
      | none => cases si h0; exact Constant_none (q trivial 0 _ s.toks R)
      | bool b => cases si h0; exact Constant_bool (q trivial 0 _ s.toks R)
      | int i => cases si h0; exact wpAny_Constant_int (q trivial _ _ _ R)
      | _ => exact ns h0
    | Name x p =>
      obtain ⟨hl, h⟩ := of_if (show (if locN sc x = true then σ.lo.lookup x else none) = some v from h0)
      obtain ⟨o, t, ht⟩ := R.lo _ _ h
      obtain ⟨h1, h2⟩ := locN_parts (nm := nm) (L := L) (f := f) (cd := cd) hl
      exact ld R.F ht (q o t _ s.toks R) G.kind h1 h2
    | Attribute o a p =>
      obtain ⟨x, hx, h⟩ := bs (show ((nameOf o).bind fun x => if (locN sc x && x == Str.ofString "self") = true then
        if (a == Str.ofString "punctuation_chars") = true then (if (((σ.fs.lookup (Str.ofString "_punctuation_chars")).bind PV.txtOf) == some (Str.ofString "")) = true then some (.txt (Str.ofString "")) else none) else σ.fs.lookup a
        else none) = some v from h0)
      obtain ⟨hl, h⟩ := of_if h
      refine attrN_sound G hx hl R ?_
      by_cases ha : (a == Str.ofString "punctuation_chars") = true
      · rw [if_pos ha] at h
        obtain ⟨hp, h⟩ := of_if h
        cases si h
        rw [eq_of_beq ha]
        obtain ⟨u, h1, h2⟩ := bs (eq_of_beq hp)
        cases txtOf_eq h2
        exact P σ m _ _ Q R h1 fun t h' k R' => q trivial t h' k R'
      · rw [if_neg ha] at h
        exact attr_sound G R h fun t k => q (R.good _ _ h) t _ k R
    | Compare l ops rs p =>
      obtain ⟨op, ho, h⟩ := bs (show ((oneL ops).bind fun op => (oneL rs).bind fun r => if behindInMarks op r = true then none else (ev sc σ n l).bind fun a => (ev sc σ n r).bind fun b => (PV.cmp op a b).map PV.boo) = some v from h0)
      obtain ⟨r, hr, h⟩ := bs h
      obtain ⟨hb, h⟩ := of_nif h
      obtain ⟨a, ha, h⟩ := bs h
      obtain ⟨b, hb', h⟩ := bs h
      obtain ⟨c, hc, rfl⟩ := ms h
      cases oneL_eq ho
      cases oneL_eq hr
      refine wpAny_Compare1 (ev_sound G P n _ _ ha R fun oa t h₁ k R₁ => ?_) (Bool.eq_false_iff.mpr hb)
      refine ev_sound G P n _ _ hb' R₁ fun ob u h₂ k' R₂ => ?_
      exact cmp_sound oa hc (q trivial 0 h₂ _ R₂)
    | BinOp l op r p =>
      obtain ⟨rfl, h⟩ := of_if (show (if op = .Add then (ev sc σ n l).bind fun a => (ev sc σ n r).bind fun b => PV.add a b else none) = some v from h0)
      obtain ⟨a, ha, h⟩ := bs h
      obtain ⟨b, hb', h⟩ := bs h
      refine wpAny_BinOp (ev_sound G P n _ _ ha R fun oa t h₁ k R₁ => ?_)
      refine ev_sound G P n _ _ hb' R₁ fun ob u h₂ k' R₂ => ?_
      exact add_sound oa ob h fun t k => q (add_ok oa ob h).1 t h₂ k R₂
    | _ => exact ns h0
theorem strs2 {M : Model} {env : Env} {a b : Str} {k1 k2 : Nat} {p1 p2 pos : Pos} {s : Shared} {Q : List Value → Shared → Prop} (h : Q [.str a s.toks, .str b (s.toks + 1)] { s with toks := s.toks + 2 }) :
    wpAny M A (spliced (backTo pos (starEach [.Constant (.str a) k1 p1, .Constant (.str b) k2 p2] env))) Q E s := fun _ _ _ => h
theorem all_sound {F : Expr → Option Bool}
    (ih : ∀ (e : Expr) (c : Bool), F e = some c → ∀ {s : Shared} {Q : Bool → Shared → Prop}, Rep K h₀ L C lx dlx nn hs ks rest σ m s.heap → (∀ h' k, Rep K h₀ L C lx dlx nn hs ks rest σ m h' → Q c { s with heap := h', toks := k }) → wpAny (model prog w) A (isTrue e (envOf nm sc L f cd) (eval e (envOf nm sc L f cd))) Q E s) :
    ∀ (es : List Expr) (c : Bool), allO F es = some c → ∀ (pos : Pos) (whole : Sem Value) {s : Shared} {Q : Bool → Shared → Prop}, Rep K h₀ L C lx dlx nn hs ks rest σ m s.heap → (∀ h' k, Rep K h₀ L C lx dlx nn hs ks rest σ m h' → Q c { s with heap := h', toks := k }) → wpAny (model prog w) A (isTrue (.BoolOp .And es pos) (envOf nm sc L f cd) whole) Q E s
  | [], c, h, _, _, s, _, R, q => by cases si h; exact isTrue_and_nil (q _ s.toks R)
  | e :: r, c, h, pos, whole, s, Q, R, q => by
    obtain ⟨b, he, h⟩ := bs (show ((F e).bind fun b => if b = true then allO F r else some false) = some c from h)
    cases b with
    | true => exact isTrue_and (ih _ _ he R fun h' k R' => by rw [if_pos rfl]; exact all_sound ih r c h _ _ R' fun h'' k' R'' => q h'' k' R'')
    | false =>
      cases si h
      exact isTrue_and (ih _ _ he R fun h' k R' => by rw [if_neg Bool.false_ne_true]; exact q h' k R')
theorem any_sound {F : Expr → Option Bool}
    (ih : ∀ (e : Expr) (c : Bool), F e = some c → ∀ {s : Shared} {Q : Bool → Shared → Prop}, Rep K h₀ L C lx dlx nn hs ks rest σ m s.heap → (∀ h' k, Rep K h₀ L C lx dlx nn hs ks rest σ m h' → Q c { s with heap := h', toks := k }) → wpAny (model prog w) A (isTrue e (envOf nm sc L f cd) (eval e (envOf nm sc L f cd))) Q E s) :
    ∀ (es : List Expr) (c : Bool), anyO F es = some c → ∀ (pos : Pos) (whole : Sem Value) {s : Shared} {Q : Bool → Shared → Prop}, Rep K h₀ L C lx dlx nn hs ks rest σ m s.heap → (∀ h' k, Rep K h₀ L C lx dlx nn hs ks rest σ m h' → Q c { s with heap := h', toks := k }) → wpAny (model prog w) A (isTrue (.BoolOp .Or es pos) (envOf nm sc L f cd) whole) Q E s
  | [], c, h, _, _, s, _, R, q => by cases si h; exact isTrue_or_nil (q _ s.toks R)
  | e :: r, c, h, pos, whole, s, Q, R, q => by
    obtain ⟨b, he, h⟩ := bs (show ((F e).bind fun b => if b = true then some true else anyO F r) = some c from h)
    cases b with
    | true =>
      cases si h
      exact isTrue_or (ih _ _ he R fun h' k R' => by rw [if_pos rfl]; exact q h' k R')
    | false => exact isTrue_or (ih _ _ he R fun h' k R' => by rw [if_neg Bool.false_ne_true]; exact any_sound ih r c h _ _ R' fun h'' k' R'' => q h'' k' R'')
theorem tr_sound (G : Good K h₀ C lx dlx rest sc) (P : PropOk prog w A E K h₀ C lx dlx L nn hs ks rest) : ∀ (n : Nat) (e : Expr) (c : Bool), tr sc σ n e = some c → ∀ {s : Shared} {Q : Bool → Shared → Prop}, Rep K h₀ L C lx dlx nn hs ks rest σ m s.heap → (∀ h' k, Rep K h₀ L C lx dlx nn hs ks rest σ m h' → Q c { s with heap := h', toks := k }) → wpAny (model prog w) A (isTrue e (envOf nm sc L f cd) (eval e (envOf nm sc L f cd))) Q E s
  | 0, _, _, h, _, _, _, _ => ns h
  | n + 1, e, c, h0, s, Q, R, q => by
    have ih : ∀ (e : Expr) (c : Bool), tr sc σ n e = some c → ∀ {s : Shared} {Q : Bool → Shared → Prop}, Rep K h₀ L C lx dlx nn hs ks rest σ m s.heap → (∀ h' k, Rep K h₀ L C lx dlx nn hs ks rest σ m h' → Q c { s with heap := h', toks := k }) → wpAny (model prog w) A (isTrue e (envOf nm sc L f cd) (eval e (envOf nm sc L f cd))) Q E s := tr_sound G P n
    cases e with
    | BoolOp op es p =>
      cases op with
      | And => exact all_sound ih es c h0 _ _ R q
      | Or => exact any_sound ih es c h0 _ _ R q
    | UnaryOp op x p =>
      obtain ⟨rfl, h⟩ := of_if (show (if op = .Not then (tr sc σ n x).map (!·) else none) = some c from h0)
      obtain ⟨b, hb, rfl⟩ := ms h
      exact isTrue_not (ih _ _ hb R fun h' k R' => q h' k R')
    | Compare l ops rs p =>
      obtain ⟨op, ho, hA⟩ := bs (show ((oneL ops).bind fun op => (oneL rs).bind fun r =>
        if op = .In ∧ (twoL r).isSome = true then (twoL r).bind fun p => (ev sc σ n l).bind fun a => a.txtOf.map fun x => [p.1, p.2].any (· == x)
        else if behindInMarks op r = true then none else (ev sc σ n l).bind fun a => (ev sc σ n r).bind fun b => PV.cmp op a b) = some c from h0)
      obtain ⟨r, hr, h⟩ := bs hA
      cases oneL_eq ho
      cases oneL_eq hr
      by_cases h2 : op = .In ∧ (twoL r).isSome = true
      · rw [if_pos h2] at h
        cases h2.1
        obtain ⟨z, hz, hB⟩ := bs h
        obtain ⟨k1, p1, k2, p2, cx, p3, rfl⟩ := twoL_eq hz
        obtain ⟨v, hv, hC⟩ := bs hB
        obtain ⟨x, hx, hD⟩ := ms hC
        cases txtOf_eq hx
        cases hD
        refine wpAny_isTrue_Compare1 (ev_sound G P n _ _ hv R fun _ t h₁ k R₁ => ?_) rfl
        refine Tuple_ (strs2 ?_)
        obtain ⟨vt, N⟩ := R₁.N
        refine newTuple_N (s := ⟨_, _, _, _, _⟩) R₁.F N (fun h' F' N' => ?_) (by show 2 ≤ sizeLine; rw [sizeLine_eq]; decide)
        refine in_tuple_strs (News.isTup N' (.head _)) (.cons _ _ (.cons _ _ .nil)) (wpAny_truthy_bool ?_)
        exact q h' _ ⟨F', R.lo, R.slf, ⟨vt, fun p hp => N' p (.tail _ hp)⟩, R.keys, R.good, R.few⟩
      · rw [if_neg h2] at h
        obtain ⟨hb, h⟩ := of_nif h
        obtain ⟨a, ha, h⟩ := bs h
        obtain ⟨b, hb', h⟩ := bs h
        refine wpAny_isTrue_Compare1 (ev_sound G P n _ _ ha R fun oa t h₁ k R₁ => ?_) (Bool.eq_false_iff.mpr hb)
        refine ev_sound G P n _ _ hb' R₁ fun ob u h₂ k' R₂ => ?_
        exact cmp_sound oa h (wpAny_truthy_bool (q _ _ R₂))
    | Name x p =>
      obtain ⟨v, hv, ht⟩ := bs (show (ev sc σ n (.Name x p)).bind PV.tr = some c from h0)
      exact isTrue_plain (ev_sound G P n _ _ hv R fun o t h₁ k R₁ => truth_sound o ht fun k' => q _ k' R₁) rfl
    | Attribute o a p =>
      obtain ⟨v, hv, ht⟩ := bs (show (ev sc σ n (.Attribute o a p)).bind PV.tr = some c from h0)
      exact isTrue_plain (ev_sound G P n _ _ hv R fun o t h₁ k R₁ => truth_sound o ht fun k' => q _ k' R₁) rfl
    | _ => exact ns h0
noncomputable def MF.flow : MF → Tok → Flow
  | .nxt, _ => .next
  | .brk, _ => .brk
  | .cnt, _ => .cont
  | .ret v, t => .ret (v.av t)
theorem swaps_plain {e t : Expr} {n : Nat} {env : Env} (h : plainV e = true) : swapsWith e (some t) n env = pure false := by
  cases e <;> first | rfl | cases h
theorem store_sound {x : Str} {v : PV} {t : Tok} (vo : v.ok) (G : Good K h₀ C lx dlx rest sc) {s : Shared} (R : Rep K h₀ L C lx dlx nn hs ks rest σ m s.heap) (hl : locN sc x = true) (hx : (x == Str.ofString "self") = false) {Q : Unit → Shared → Prop}
    (q : ∀ h' k m', Rep K h₀ L C lx dlx nn hs ks rest { σ with lo := (x, v) :: σ.lo } m' h' → Q () { s with heap := h', toks := k }) : wpAny (model prog w) A (storeName (envOf nm sc L f cd) x (v.av t)) Q E s := by
  obtain ⟨vt, N⟩ := R.N
  obtain ⟨h1, h2⟩ := locN_parts (nm := nm) (L := L) (f := f) (cd := cd) hl
  refine stN R.F N (fun h' F' N' => q h' _ _ ⟨F', fun y u hy => ?_, ?_, ⟨vt, N'⟩, R.keys, R.good, R.few⟩) G.kind h1
  · rw [List.lookup_cons] at hy
    cases hc : y == x with
    | true =>
      rw [hc] at hy
      cases hy
      exact ⟨vo, t, if_pos (eq_of_beq hc)⟩
    | false =>
      rw [hc] at hy
      obtain ⟨o', t', ht'⟩ := R.lo y u hy
      exact ⟨o', t', by rw [if_neg (fun e => by rw [e, beq_self_eq_true] at hc; cases hc)]; exact ht'⟩
  · show (if Str.ofString "self" = x then _ else _) = _
    rw [if_neg (fun e => by rw [← e, beq_self_eq_true] at hx; cases hx)]
    exact R.slf
theorem runs_sound {F : MS → Stmt → Option (MF × MS)}
    (ih : ∀ (st : Stmt) (σ : MS) (m : Str → Option Value) (r : MF × MS), F σ st = some r → ∀ {s : Shared} {Q : Flow → Shared → Prop}, Rep K h₀ L C lx dlx nn hs ks rest σ m s.heap →
      (∀ h' k m' t, Rep K h₀ L C lx dlx nn hs ks rest r.2 m' h' → Q (r.1.flow t) { s with heap := h', toks := k }) → wpAny (model prog w) A (exec st (envOf nm sc L f cd)) Q E s) :
    ∀ (b : List Stmt) (σ : MS) (m : Str → Option Value) (r : MF × MS), runs F b σ = some r → ∀ {s : Shared} {Q : Flow → Shared → Prop}, Rep K h₀ L C lx dlx nn hs ks rest σ m s.heap →
      (∀ h' k m' t, Rep K h₀ L C lx dlx nn hs ks rest r.2 m' h' → Q (r.1.flow t) { s with heap := h', toks := k }) → wpAny (model prog w) A (execs b (envOf nm sc L f cd)) Q E s
  | [], σ, m, r', h, s, Q, R, q => by cases si h; exact wpAny_execs_nil (q _ _ _ 0 R)
  | st :: r, σ, m, r', h, s, Q, R, q => by
    obtain ⟨⟨fl₁, σ₁⟩, h1, h⟩ := bs (show ((F σ st).bind fun p => if p.1.isNxt = true then runs F r p.2 else some p) = some r' from h)
    cases fl₁ with
    | nxt => exact wpAny_execs_cons (ih _ _ _ _ h1 R fun h' k m' t R' => runs_sound ih r _ _ _ h R' fun h'' k' m'' t' R'' => q h'' k' m'' t' R'')
    | brk => cases si h; exact wpAny_execs_cons (ih _ _ _ _ h1 R fun h' k m' t R' => q h' k m' t R')
    | cnt => cases si h; exact wpAny_execs_cons (ih _ _ _ _ h1 R fun h' k m' t R' => q h' k m' t R')
    | ret v => cases si h; exact wpAny_execs_cons (ih _ _ _ _ h1 R fun h' k m' t R' => q h' k m' t R')
theorem ex1_sound (G : Good K h₀ C lx dlx rest sc) (P : PropOk prog w A E K h₀ C lx dlx L nn hs ks rest) : ∀ (n : Nat) (st : Stmt) (σ : MS) (m : Str → Option Value) (r : MF × MS), ex1 sc n σ st = some r → ∀ {s : Shared} {Q : Flow → Shared → Prop}, Rep K h₀ L C lx dlx nn hs ks rest σ m s.heap →
      (∀ h' k m' t, Rep K h₀ L C lx dlx nn hs ks rest r.2 m' h' → Q (r.1.flow t) { s with heap := h', toks := k }) → wpAny (model prog w) A (exec st (envOf nm sc L f cd)) Q E s
  | 0, _, _, _, _, h, _, _, _, _ => ns h
  | n + 1, st, σ, m, r', h0, s, Q, R, q => by
    cases st with
    | Assign ts e p =>
      obtain ⟨t, ht, h⟩ := bs (show ((oneL ts).bind fun t => if plainV e = true then (ev sc σ n e).bind fun v => (putT sc σ v t).map fun z => (MF.nxt, z) else none) = some r' from h0)
      obtain ⟨hp, h⟩ := of_if h
      obtain ⟨v, hv, h⟩ := bs h
      obtain ⟨z, hz, h⟩ := ms h
      subst h
      cases oneL_eq ht
      cases t with
      | Name x p =>
        obtain ⟨hc, hz⟩ := of_if (show (if (locN sc x && !(x == Str.ofString "self")) = true then some ({ σ with lo := (x, v) :: σ.lo } : MS) else none) = some z from hz)
        rw [Bool.and_eq_true, Bool.not_eq_true'] at hc
        cases si hz
        refine wpAny_Assign_Name (ev_sound G P n _ _ hv R fun o t h₁ k R₁ => ?_) (swaps_plain hp)
        exact store_sound (s := ⟨h₁, _, _, _, _⟩) o G R₁ hc.1 hc.2 fun h' k' m' R' => q h' k' m' 0 R'
      | Attribute o a p =>
        obtain ⟨x, hx, hz⟩ := bs (show ((nameOf o).bind fun x => if (locN sc x && x == Str.ofString "self" && (σ.fs.lookup a).isSome) = true then some ({ σ with fs := setF a v σ.fs } : MS) else none) = some z from hz)
        obtain ⟨hc, hz⟩ := of_if hz
        cases si hz
        rw [Bool.and_eq_true, Bool.and_eq_true] at hc
        obtain ⟨h1, h2⟩ := locN_parts (nm := nm) (L := L) (f := f) (cd := cd) hc.1.1
        cases eq_of_beq hc.1.2
        obtain ⟨p, rfl⟩ := nameOf_eq hx
        refine plainObj_wpAny_Assign_Attribute (ev_sound G P n _ _ hv R fun o t h₁ k R₁ => ?_) (swaps_plain hp)
        refine ld (s := ⟨h₁, _, _, _, _⟩) R₁.F R₁.slf ?_ G.kind h1 h2
        exact set_sound (s := ⟨h₁, _, _, _, _⟩) o G R₁ hc.2 fun h' k' R' => q h' k' _ 0 R'
      | _ => exact ns hz
    | AugAssign t op e p =>
      obtain ⟨rfl, h⟩ := of_if (show (if op = .Add then (getT sc σ t).bind fun a => (ev sc σ n e).bind fun b => (PV.add a b).bind fun v => (putT sc σ v t).map fun z => (MF.nxt, z) else none) = some r' from h0)
      obtain ⟨a, ha, h⟩ := bs h
      obtain ⟨b, hb, h⟩ := bs h
      obtain ⟨v, hv, h⟩ := bs h
      obtain ⟨z, hz, h⟩ := ms h
      subst h
      cases t with
      | Name x p =>
        obtain ⟨hc, ha⟩ := of_if (show (if (locN sc x && !(x == Str.ofString "self")) = true then σ.lo.lookup x else none) = some a from ha)
        obtain ⟨-, hz⟩ := of_if (show (if (locN sc x && !(x == Str.ofString "self")) = true then some ({ σ with lo := (x, v) :: σ.lo } : MS) else none) = some z from hz)
        rw [Bool.and_eq_true, Bool.not_eq_true'] at hc
        cases si hz
        obtain ⟨oa, t, ht⟩ := R.lo _ _ ha
        obtain ⟨h1, h2⟩ := locN_parts (nm := nm) (L := L) (f := f) (cd := cd) hc.1
        refine wpAny_AugAssign_Name (ldn R.F ht ?_ G.kind h1)
        refine ev_sound G P n _ _ hb R fun ob u h₁ k R₁ => ?_
        refine iadd_sound oa ob hv fun u' k' => ?_
        exact store_sound (s := ⟨h₁, _, _, _, _⟩) (add_ok oa ob hv).1 G R₁ hc.1 hc.2 fun h' k' m' R' => q h' k' m' 0 R'
      | Attribute o a' p =>
        obtain ⟨x, hx, hg⟩ := bs (show ((nameOf o).bind fun x => if (locN sc x && x == Str.ofString "self") = true then σ.fs.lookup a' else none) = some a from ha)
        obtain ⟨hc, hk⟩ := of_if hg
        obtain ⟨y, hy, hz⟩ := bs (show ((nameOf o).bind fun x => if (locN sc x && x == Str.ofString "self" && (σ.fs.lookup a').isSome) = true then some ({ σ with fs := setF a' v σ.fs } : MS) else none) = some z from hz)
        obtain ⟨-, hz⟩ := of_if hz
        cases si hz
        rw [Bool.and_eq_true] at hc
        obtain ⟨h1, h2⟩ := locN_parts (nm := nm) (L := L) (f := f) (cd := cd) hc.1
        cases eq_of_beq hc.2
        obtain ⟨p, rfl⟩ := nameOf_eq hx
        refine wpAny_AugAssign_AttributeAny (ld R.F R.slf ?_ G.kind h1 h2)
        refine attr_sound G R hk fun t k => ?_
        refine ev_sound G P n _ _ hb (Rep.toks R) fun ob u h₁ k R₁ => ?_
        refine iadd_sound (R.good _ _ hk) ob hv fun u' k' => ?_
        exact set_sound (s := ⟨h₁, _, _, _, _⟩) (add_ok (R.good _ _ hk) ob hv).1 G R₁ (by rw [hk]; rfl) fun h' k' R' => q h' k' _ 0 R'
      | _ => exact ns hz
    | If t b o p =>
      obtain ⟨c, ht, h⟩ := bs (show ((tr sc σ n t).bind fun c => runs (ex1 sc n) (if c = true then b else o) σ) = some r' from h0)
      refine wpAny_If (tr_sound G P n _ _ ht R fun h₂ k R₂ => ?_)
      cases c with
      | true => rw [if_pos rfl]; exact runs_sound (ex1_sound G P n) b _ _ _ h R₂ fun h' k' m' t R' => q h' k' m' t R'
      | false => rw [if_neg Bool.false_ne_true]; exact runs_sound (ex1_sound G P n) o _ _ _ h R₂ fun h' k' m' t R' => q h' k' m' t R'
    | Break p => cases si h0; exact wpAny_Break (q _ _ _ 0 R)
    | Continue p => cases si h0; exact wpAny_Continue (q _ _ _ 0 R)
    | Return v p =>
      cases v with
      | none => exact ns h0
      | some e =>
        obtain ⟨v, hv, h⟩ := ms (show ((ev sc σ n e).map fun u => (MF.ret u, σ)) = some r' from h0)
        subst h
        exact wpAny_Return_some (ev_sound G P n _ _ hv R fun _ t h₁ k R₁ => q _ k _ t R₁)
    | _ => exact ns h0
theorem ex_sound (G : Good K h₀ C lx dlx rest sc) (P : PropOk prog w A E K h₀ C lx dlx L nn hs ks rest) (n : Nat) (b : List Stmt) (σ σ' : MS) (m : Str → Option Value) (fl : MF) (h : exs sc σ n b = some (fl, σ')) {s : Shared} {Q : Flow → Shared → Prop} (R : Rep K h₀ L C lx dlx nn hs ks rest σ m s.heap)
    (q : ∀ h' k m' t, Rep K h₀ L C lx dlx nn hs ks rest σ' m' h' → Q (fl.flow t) { s with heap := h', toks := k }) : wpAny (model prog w) A (execs b (envOf nm sc L f cd)) Q E s := runs_sound (ex1_sound G P n) b σ m (fl, σ') h R q
end

end
section
set_option maxRecDepth 100000
/-! one turn of the lexer's loop, by the interpreter -/
noncomputable abbrev fsL (io pb fs : Addr) (st tok : PV) (ln : Int) : List (Str × PV) :=
  [("instream", .obj io), ("infile", .non), ("posix", .boo true), ("eof", .non), ("commenters", .txt (Str.ofString "")),
   ("wordchars", .txt (Str.ofString "abcdfeghijklmnopqrstuvwxyzABCDEFGHIJKLMNOPQRSTUVWXYZ0123456789_ßàáâãäåæçèéêëìíîïðñòóôõöøùúûüýþÿÀÁÂÃÄÅÆÇÈÉÊËÌÍÎÏÐÑÒÓÔÕÖØÙÚÛÜÝÞ")),
   ("whitespace", .txt (Str.ofString " \t\r\n")), ("whitespace_split", .boo true), ("quotes", .txt (Str.ofString "'\"")), ("escape", .txt (Str.ofString "\\")), ("escapedquotes", .txt (Str.ofString "\"")),
   ("state", st), ("pushback", .obj pb), ("lineno", .num ln), ("debug", .num 0), ("token", tok), ("filestack", .obj fs), ("source", .non), ("_punctuation_chars", .txt (Str.ofString ""))]
noncomputable def stP : LS → PV
  | .sp => .txt (Str.ofString " ")
  | .a => .txt (Str.ofString "a")
  | .sq => .txt (Str.ofString "'")
  | .dq => .txt (Str.ofString "\"")
  | .bs => .txt (Str.ofString "\\")
  | .fin => .non
noncomputable def σ0 (io pb fs : Addr) (cv : PV) (q : Bool) (es : Str) (st tok : PV) (ln : Int) : MS :=
  ⟨[("nextchar", cv), ("quoted", .boo q), ("escapedstate", .txt es)], fsL io pb fs st tok ln⟩
noncomputable def escS (e : Bool) : Str := if e then Str.ofString "\"" else Str.ofString "a"
/-- what the turn's evaluations give; one line a case -/
noncomputable def Ev (sc : Scope) (b : List Stmt) (io pb fs : Addr) (cv : PV) (st : LS) (es : Option Str) (e : Option Bool) (qo : Bool → Bool) (eo : Str → Str) (fl : MF) (st' : LS) (tk : Str → Bool → PV) : Prop :=
  ∀ (q : Bool) (es' : Str) (t : Str) (e' : Bool) (ln : Int), (∀ x, es = some x → es' = x) → (∀ x, e = some x → e' = x) → ∃ ln',
    (exs sc (σ0 io pb fs cv q es' (stP st) (.tx t 100000 e') ln) 60 b).map (fun p => (p.1, p.2.fs, p.2.lo.lookup (Str.ofString "quoted"), p.2.lo.lookup (Str.ofString "escapedstate"))) =
      some (fl, fsL io pb fs (stP st') (tk t e') ln', some (.boo (qo q)), some (.txt (eo es')))
structure RtOk (sc : Scope) (b : List Stmt) (io pb fs : Addr) : Prop where
  sp92 : Ev sc b io pb fs (.txt (mkS [92])) .sp none none id (fun _ => escS false) .nxt .bs (fun t e => .tx t 100000 e)
  sp39 : Ev sc b io pb fs (.txt (mkS [39])) .sp none none id id .nxt .sq (fun t e => .tx t 100000 e)
  sp34 : Ev sc b io pb fs (.txt (mkS [34])) .sp none none id id .nxt .dq (fun t e => .tx t 100000 e)
  sp109 : Ev sc b io pb fs (.txt (mkS [109])) .sp none none id id .nxt .a (fun _ _ => .txt (mkS [109]))
  sp99 : Ev sc b io pb fs (.txt (mkS [99])) .sp none none id id .nxt .a (fun _ _ => .txt (mkS [99]))
  a92 : Ev sc b io pb fs (.txt (mkS [92])) .a none none id (fun _ => escS false) .nxt .bs (fun t e => .tx t 100000 e)
  a39 : Ev sc b io pb fs (.txt (mkS [39])) .a none none id id .nxt .sq (fun t e => .tx t 100000 e)
  a34 : Ev sc b io pb fs (.txt (mkS [34])) .a none none id id .nxt .dq (fun t e => .tx t 100000 e)
  a107 : Ev sc b io pb fs (.txt (mkS [107])) .a none none id id .nxt .a (fun t e => .tx (t ++ mkS [107]) 100001 (e || true))
  a100 : Ev sc b io pb fs (.txt (mkS [100])) .a none none id id .nxt .a (fun t e => .tx (t ++ mkS [100]) 100001 (e || true))
  a32 : Ev sc b io pb fs (.txt (mkS [32])) .a none (some true) id id .brk .sp (fun t e => .tx t 100000 e)
  a0 : Ev sc b io pb fs (.txt (mkS [])) .a none none id id .brk .fin (fun t e => .tx t 100000 e)
  fin0 : Ev sc b io pb fs (.txt (mkS [])) .fin none none id id .brk .fin (fun _ _ => .txt (mkS []))
  sq39 : Ev sc b io pb fs (.txt (mkS [39])) .sq none none (fun _ => true) id .nxt .a (fun t e => .tx t 100000 e)
  sqc : ∀ (c : Str) (nl bs dq : Bool), Ev sc b io pb fs (.chr c ⟨nl, false, dq, bs⟩) .sq none none (fun _ => true) id .nxt .sq (fun t e => .tx (t ++ c) 100001 (e || true))
  dq34 : Ev sc b io pb fs (.txt (mkS [34])) .dq none none (fun _ => true) id .nxt .a (fun t e => .tx t 100000 e)
  dq92 : Ev sc b io pb fs (.txt (mkS [92])) .dq none none (fun _ => true) (fun _ => escS true) .nxt .bs (fun t e => .tx t 100000 e)
  dqc : ∀ (c : Str) (nl sq : Bool), Ev sc b io pb fs (.chr c ⟨nl, sq, false, false⟩) .dq none none (fun _ => true) id .nxt .dq (fun t e => .tx (t ++ c) 100001 (e || true))
  bs34 : Ev sc b io pb fs (.txt (mkS [34])) .bs (some (escS true)) none id id .nxt .dq (fun t e => .tx (t ++ mkS [34]) 100001 (e || true))
  bs92 : Ev sc b io pb fs (.txt (mkS [92])) .bs (some (escS true)) none id id .nxt .dq (fun t e => .tx (t ++ mkS [92]) 100001 (e || true))
  bsc : ∀ (c : Str) (nl sq dq bs : Bool), Ev sc b io pb fs (.chr c ⟨nl, sq, dq, bs⟩) .bs (some (escS false)) none id id .nxt .a (fun t e => .tx (t ++ c) 100001 (e || true))

structure Raw (K : Frag) (h₀ : Heap) (L C lx dlx : Addr) (nn : Nat) (hs : Nat → Int) (ks : Nat → Tok) (io pb fs : Addr) (rest : List (Addr × Obj)) (x : Lx) (m : Str → Option Value) (h : Heap) : Prop where
  F : Fr h₀ L h m
  slf : m (Str.ofString "self") = some (.ref lx)
  quo : m (Str.ofString "quoted") = some (.bool x.quoted)
  esc : ∃ es t, m (Str.ofString "escapedstate") = some (.str es t) ∧ (x.st = .bs → es = escS x.escDq)
  N : ∃ vt ln, News h₀ L h ((lx, instObj C dlx) :: (dlx, W.dictOf (ents hs ks vt 0 (fsL io pb fs (stP x.st) (.txt (mkS x.tok)) ln)) nn) :: rest)
theorem stP_ok (s : LS) : (stP s).ok := by cases s <;> trivial
theorem fsL_keys {K : Frag} {C io pb fs : Addr} {st tok : PV} {ln : Int} (h : (fsL io pb fs .non .non 0).all (fun p => attrOk K C p.1) = true) : ∀ a, ((fsL io pb fs st tok ln).lookup a).isSome = true → attrOk K C a = true := by
  have gen : ∀ (l l' : List (Str × PV)), l.map (·.1) = l'.map (·.1) → l'.all (fun p => attrOk K C p.1) = true → ∀ a, (l.lookup a).isSome = true → attrOk K C a = true := by
    intro l
    induction l with
    | nil => intro _ _ _ a h; cases h
    | cons p l ih =>
      intro l' hm ha a hl
      cases l' with
      | nil => cases hm
      | cons p' l' =>
        injection hm with e1 e2
        rw [List.all_cons, Bool.and_eq_true] at ha
        obtain ⟨k, v⟩ := p
        rw [List.lookup_cons] at hl
        cases hk : a == k with
        | true => rw [eq_of_beq hk]; have := ha.1; rw [← (show k = p'.1 from e1)] at this; exact this
        | false => rw [hk] at hl; exact ih l' e2 ha.2 a hl
  exact gen _ (fsL io pb fs .non .non 0) rfl h
theorem fsL_good {io pb fs : Addr} {st tok : PV} {ln : Int} (h1 : st.ok) (h2 : tok.ok) : ∀ a v, (fsL io pb fs st tok ln).lookup a = some v → v.ok := by
  have gen : ∀ (l : List (Str × PV)), (∀ p ∈ l, p.2.ok) → ∀ a v, l.lookup a = some v → v.ok := by
    intro l
    induction l with
    | nil => intro _ _ _ h; cases h
    | cons p l ih =>
      intro hp a v hl
      obtain ⟨k, u⟩ := p
      rw [List.lookup_cons] at hl
      cases hk : a == k with
      | true => rw [hk] at hl; cases hl; exact hp _ (.head _)
      | false => rw [hk] at hl; exact ih (fun q hq => hp q (.tail _ hq)) a v hl
  refine gen _ ?_
  simp only [List.forall_mem_cons]
  refine ⟨trivial, trivial, trivial, trivial, trivial, trivial, trivial, trivial, trivial, trivial, trivial, h1, trivial, trivial, trivial, h2, trivial, trivial, trivial, ?_⟩
  intro _ h; cases h
section
variable {prog : Program} {w : World} {A : Around} {E : Value → Shared → Prop} {K : Frag} {h₀ : Heap} {C lx dlx L f io pb fs : Addr} {nn : Nat} {hs : Nat → Int} {ks : Nat → Tok} {rest : List (Addr × Obj)} {nm : Str} {sc : Scope} {cd : Value} {m : Str → Option Value}
theorem rep_of {h : Heap} {x : Lx} {l : List Nat} (hk : (fsL io pb fs .non .non 0).all (fun p => attrOk K C p.1) = true) (R : Raw K h₀ L C lx dlx nn hs ks io pb fs rest x m h) (hc : ∃ t, m (Str.ofString "nextchar") = some (.str (mkS l) t)) (hl : x.tok.length ≤ 99999)
    (cv : PV) (ho : cv.ok) (hv : ∀ t, cv.av t = .str (mkS l) t) :
    ∃ es ln, (x.st = .bs → es = escS x.escDq) ∧ Rep K h₀ L C lx dlx nn hs ks rest (σ0 io pb fs cv x.quoted es (stP x.st) (.tx (mkS x.tok) 100000 (x.tok.length != 0)) ln) m h := by
  obtain ⟨es, t, h1, h2⟩ := R.esc
  obtain ⟨vt, ln, N⟩ := R.N
  refine ⟨es, ln, h2, R.F, ?_, R.slf, ⟨vt, N⟩, fsL_keys hk, fsL_good (stP_ok _) ⟨by rw [mkS_len]; omega, by rw [mkS_len]⟩, by show (19 : Nat) ≤ 1000; omega⟩
  intro a v ha
  unfold σ0 at ha
  dsimp only at ha
  simp only [List.lookup_cons] at ha
  split at ha
  · rename_i e; cases ha; rw [eq_of_beq e]; obtain ⟨t, hc⟩ := hc; exact ⟨ho, t, by rw [hv]; exact hc⟩
  · split at ha
    · rename_i e; cases ha; rw [eq_of_beq e]; exact ⟨trivial, 0, R.quo⟩
    · split at ha
      · rename_i e; cases ha; rw [eq_of_beq e]; exact ⟨trivial, t, h1⟩
      · cases ha
theorem raw_of {h : Heap} {y : Lx} {σ' : MS} {es : Str} {t : PV} {ln : Int} (R : Rep K h₀ L C lx dlx nn hs ks rest σ' m h) (h1 : σ'.fs = fsL io pb fs (stP y.st) t ln) (h2 : σ'.lo.lookup (Str.ofString "quoted") = some (.boo y.quoted)) (h3 : σ'.lo.lookup (Str.ofString "escapedstate") = some (.txt es))
    (h4 : y.st = .bs → es = escS y.escDq) (h5 : ∀ k, t.av k = .str (mkS y.tok) k) : Raw K h₀ L C lx dlx nn hs ks io pb fs rest y m h := by
  obtain ⟨-, t1, e1⟩ := R.lo _ _ h2
  obtain ⟨-, t2, e2⟩ := R.lo _ _ h3
  obtain ⟨vt, N⟩ := R.N
  refine ⟨R.F, R.slf, e1, ⟨es, t2, e2, h4⟩, vt, ln, ?_⟩
  rw [h1] at N
  have : ents hs ks vt 0 (fsL io pb fs (stP y.st) t ln) = ents hs ks vt 0 (fsL io pb fs (stP y.st) (.txt (mkS y.tok)) ln) := by
    simp only [ents, h5]
    rfl
  rw [this] at N
  exact N
/-- one case of a turn -/
theorem turn_case (P : PropOk prog w A E K h₀ C lx dlx L nn hs ks rest) {b : List Stmt} {x y : Lx} {l : List Nat} {cv : PV} {oe : Option Str} {ob : Option Bool} {qo : Bool → Bool} {eo : Str → Str} {fl : MF} {st' : LS} {tk : Str → Bool → PV} (G : Good K h₀ C lx dlx rest sc)
    (hk : (fsL io pb fs .non .non 0).all (fun p => attrOk K C p.1) = true) {s : Shared} (R : Raw K h₀ L C lx dlx nn hs ks io pb fs rest x m s.heap) (hc : ∃ t, m (Str.ofString "nextchar") = some (.str (mkS l) t)) (hl : x.tok.length ≤ 99999)
    (ho : cv.ok) (hv : ∀ t, cv.av t = .str (mkS l) t) {st : LS} (ev : Ev sc b io pb fs cv st oe ob qo eo fl st' tk) (hst : x.st = st) (e1 : ∀ z, oe = some z → st = .bs ∧ z = escS x.escDq) (e2 : ∀ z, ob = some z → (x.tok.length != 0) = z)
    (y1 : y.st = st') (y2 : y.quoted = qo x.quoted) (y3 : y.st = .bs → ∀ es, eo es = escS y.escDq) (y4 : ∀ e k, (tk (mkS x.tok) e).av k = .str (mkS y.tok) k) {Q : Flow → Shared → Prop}
    (q : ∀ h' k m' t, Raw K h₀ L C lx dlx nn hs ks io pb fs rest y m' h' → Q (fl.flow t) { s with heap := h', toks := k }) : wpAny (model prog w) A (execs b (envOf nm sc L f cd)) Q E s := by
  subst hst
  obtain ⟨es, ln, hb, R'⟩ := rep_of hk R hc hl cv ho hv
  obtain ⟨ln', ce⟩ := ev x.quoted es (mkS x.tok) (x.tok.length != 0) ln (fun z hz => by rw [(e1 z hz).2]; exact hb (e1 z hz).1) (fun z hz => e2 z hz)
  obtain ⟨⟨fl', σ'⟩, c1, ce⟩ := Option.map_eq_some_iff.mp ce
  obtain ⟨c0, ce⟩ := Prod.mk.inj ce
  obtain ⟨c2, ce⟩ := Prod.mk.inj ce
  obtain ⟨c3, c4⟩ := Prod.mk.inj ce
  dsimp only at c0 c2 c3 c4
  subst c0
  refine ex_sound G P 60 _ _ _ _ _ c1 R' fun h' k m' t R'' => q h' k m' t ?_
  exact raw_of R'' (by rw [y1]; exact c2) (by rw [y2]; exact c3) c4 (fun h => y3 h es) (y4 _)
/-- behind the loop -/
structure TlOk (sc : Scope) (b : List Stmt) (io pb fs : Addr) : Prop where
  q : ∀ (st : PV) (t : Str) (e : Bool) (ln : Int), (exs sc ⟨[("quoted", .boo true)], fsL io pb fs st (.tx t 100000 e) ln⟩ 60 b).map (fun p => (p.1, p.2.fs)) = some (.ret (.tx t 100000 e), fsL io pb fs st (.txt (Str.ofString "")) ln)
  n : ∀ (st : PV) (t : Str) (ln : Int), (exs sc ⟨[("quoted", .boo false)], fsL io pb fs st (.tx t 100000 true) ln⟩ 60 b).map (fun p => (p.1, p.2.fs)) = some (.ret (.tx t 100000 true), fsL io pb fs st (.txt (Str.ofString "")) ln)
  z : ∀ (st : PV) (t : Str) (ln : Int), (exs sc ⟨[("quoted", .boo false)], fsL io pb fs st (.tx t 100000 false) ln⟩ 60 b).map (fun p => (p.1, p.2.fs)) = some (.ret .non, fsL io pb fs st (.txt (Str.ofString "")) ln)
noncomputable def resV (y : Lx) (v : Value) : Prop := if y.quoted = false ∧ y.tok = [] then v = .none else ∃ t, v = .str (mkS y.tok) t
theorem tail_ok (P : PropOk prog w A E K h₀ C lx dlx L nn hs ks rest) {b : List Stmt} {y : Lx} (H : TlOk sc b io pb fs) (G : Good K h₀ C lx dlx rest sc)
    (hk : (fsL io pb fs .non .non 0).all (fun p => attrOk K C p.1) = true) {s : Shared} (R : Raw K h₀ L C lx dlx nn hs ks io pb fs rest y m s.heap) (hl : y.tok.length ≤ 99999) {Q : Flow → Shared → Prop}
    (q : ∀ h' k m' v vt ln, resV y v → Fr h₀ L h' m' → News h₀ L h' ((lx, instObj C dlx) :: (dlx, W.dictOf (ents hs ks vt 0 (fsL io pb fs (stP y.st) (.txt (mkS [])) ln)) nn) :: rest) → Q (.ret v) { s with heap := h', toks := k }) :
    wpAny (model prog w) A (execs b (envOf nm sc L f cd)) Q E s := by
  obtain ⟨vt, ln, N⟩ := R.N
  have R' : ∀ e, (y.tok.length != 0) = e → Rep K h₀ L C lx dlx nn hs ks rest ⟨[("quoted", .boo y.quoted)], fsL io pb fs (stP y.st) (.tx (mkS y.tok) 100000 e) ln⟩ m s.heap := by
    intro e he
    refine ⟨R.F, ?_, R.slf, ⟨vt, N⟩, fsL_keys hk, fsL_good (stP_ok _) ⟨by rw [mkS_len]; omega, by rw [mkS_len]; exact he⟩, by show (19 : Nat) ≤ 1000; omega⟩
    intro a v ha
    dsimp only at ha
    simp only [List.lookup_cons] at ha
    split at ha
    · rename_i e; cases ha; rw [eq_of_beq e]; exact ⟨trivial, 0, R.quo⟩
    · cases ha
  have fin : ∀ (e : Bool) (v : PV), (y.tok.length != 0) = e → (exs sc ⟨[("quoted", .boo y.quoted)], fsL io pb fs (stP y.st) (.tx (mkS y.tok) 100000 e) ln⟩ 60 b).map (fun p => (p.1, p.2.fs)) = some (.ret v, fsL io pb fs (stP y.st) (.txt (Str.ofString "")) ln) → (∀ t, resV y (v.av t)) →
      wpAny (model prog w) A (execs b (envOf nm sc L f cd)) Q E s := by
    intro e v he ce hv
    obtain ⟨⟨fl', σ'⟩, c1, ce⟩ := Option.map_eq_some_iff.mp ce
    obtain ⟨c0, c2⟩ := Prod.mk.inj ce
    dsimp only at c0 c2
    subst c0
    refine ex_sound G P 60 _ _ _ _ _ c1 (R' e he) fun h' k m' t R'' => ?_
    obtain ⟨vt', N'⟩ := R''.N
    rw [c2, show Str.ofString "" = mkS [] from by decide +kernel] at N'
    have N2 : News h₀ L h' ((lx, instObj C dlx) :: (dlx, W.dictOf (ents hs ks vt' 0 (fsL io pb fs (stP y.st) (.txt (mkS [])) ln)) nn) :: rest) := N'
    exact q h' k m' _ vt' ln (hv t) R''.F N2
  cases hq : y.quoted with
  | true =>
    refine fin (y.tok.length != 0) _ rfl (by rw [hq]; exact H.q _ _ _ _) fun t => ?_
    unfold resV
    rw [if_neg (by rw [hq]; simp)]
    exact ⟨t, rfl⟩
  | false =>
    by_cases ht : y.tok = []
    · refine fin false _ (by rw [ht]; rfl) (by rw [hq]; exact H.z _ _ _) fun t => ?_
      unfold resV
      rw [if_pos ⟨hq, ht⟩]
      rfl
    · refine fin true _ (by cases h : y.tok with | nil => exact absurd h ht | cons => rfl) (by rw [hq]; exact H.n _ _ _) fun t => ?_
      unfold resV
      rw [if_neg (fun h => ht h.2)]
      exact ⟨t, rfl⟩
end

end
section
set_option maxRecDepth 100000
section
variable {prog : Program} {w : World} {A : Around} {E : Value → Shared → Prop} {K : Frag} {h₀ : Heap} {C lx dlx L f io pb fs : Addr} {nn : Nat} {hs : Nat → Int} {ks : Nat → Tok} {rest : List (Addr × Obj)} {nm : Str} {sc : Scope} {cd : Value} {m : Str → Option Value}
theorem mput {m : Str → Option Value} {k : Str} {v : Value} (h : m k = some v) : m = fun y => if y = k then some v else m y := by
  funext y
  by_cases e : y = k
  · rw [if_pos e, e, h]
  · rw [if_neg e]
theorem chr_ok (c : Nat) : PV.ok (.chr (mkS [c]) ⟨c == 10, c == 39, c == 34, c == 92⟩) := ⟨c, rfl, rfl, rfl, rfl, rfl⟩
noncomputable def LR.on (Pc Pb : Lx → Prop) : LR → Prop
  | .cont y => Pc y
  | .brk y => Pb y
  | .bad => True
theorem ite_on {c : Prop} [Decidable c] {Pc Pb : Lx → Prop} {a b : LR} (ha : c → a.on Pc Pb) (hb : ¬ c → b.on Pc Pb) : (if c then a else b).on Pc Pb := by
  by_cases h : c
  · rw [if_pos h]; exact ha h
  · rw [if_neg h]; exact hb h
theorem turn_ok (P : PropOk prog w A E K h₀ C lx dlx L nn hs ks rest) {b : List Stmt} {x y : Lx} {oc : Option Nat} {fl : MF} (H : RtOk sc b io pb fs) (G : Good K h₀ C lx dlx rest sc)
    (hk : (fsL io pb fs .non .non 0).all (fun p => attrOk K C p.1) = true) {s : Shared} (R : Raw K h₀ L C lx dlx nn hs ks io pb fs rest x m s.heap) (hc : ∃ t, m (Str.ofString "nextchar") = some (.str (mkS oc.toList) t)) (hl : x.tok.length ≤ 99999)
    (step : lexStep x oc = .cont y ∧ fl = .nxt ∨ lexStep x oc = .brk y ∧ fl = .brk) {Q : Flow → Shared → Prop}
    (q : ∀ h' k m' t, Raw K h₀ L C lx dlx nn hs ks io pb fs rest y m' h' → Q (fl.flow t) { s with heap := h', toks := k }) : wpAny (model prog w) A (execs b (envOf nm sc L f cd)) Q E s := by
  have nb : ∀ {P : Prop} (l : LS), l ≠ .bs → l = .bs → P := fun _ h h' => absurd h' h
  obtain ⟨st, ed, qd, tok⟩ := x
  have key : (lexStep ⟨st, ed, qd, tok⟩ oc).on (fun y => (∀ h' k m' t, Raw K h₀ L C lx dlx nn hs ks io pb fs rest y m' h' → Q (MF.nxt.flow t) { s with heap := h', toks := k }) → wpAny (model prog w) A (execs b (envOf nm sc L f cd)) Q E s)
      (fun y => (∀ h' k m' t, Raw K h₀ L C lx dlx nn hs ks io pb fs rest y m' h' → Q (MF.brk.flow t) { s with heap := h', toks := k }) → wpAny (model prog w) A (execs b (envOf nm sc L f cd)) Q E s) := by
    cases oc with
    | none =>
      cases st with
      | a => exact fun q => turn_case P G hk R hc hl (by exact trivial) (fun _ => rfl) H.a0 rfl (fun _ h => by cases h) (fun _ h => by cases h) (by rfl) (by rfl) (nb _ (fun h => LS.noConfusion h)) (by intros; rfl) q
      | fin => exact fun q => turn_case P G hk R hc hl (by exact trivial) (fun _ => rfl) H.fin0 rfl (fun _ h => by cases h) (fun _ h => by cases h) (by rfl) (by rfl) (nb _ (fun h => LS.noConfusion h)) (by intros; rfl) q
      | _ => exact trivial
    | some c =>
      cases st with
      | sp =>
        refine ite_on (fun h => ?_) fun _ => ite_on (fun h => ?_) fun _ => ite_on (fun h => ?_) fun _ => ite_on (fun h => ?_) fun _ => trivial
        · subst h; exact fun q => turn_case P G hk R hc hl (by exact trivial) (fun _ => rfl) H.sp92 rfl (fun _ h => by cases h) (fun _ h => by cases h) (by rfl) (by rfl) (by intros; rfl) (by intros; rfl) q
        · subst h; exact fun q => turn_case P G hk R hc hl (by exact trivial) (fun _ => rfl) H.sp39 rfl (fun _ h => by cases h) (fun _ h => by cases h) (by rfl) (by rfl) (nb _ (fun h => LS.noConfusion h)) (by intros; rfl) q
        · subst h; exact fun q => turn_case P G hk R hc hl (by exact trivial) (fun _ => rfl) H.sp34 rfl (fun _ h => by cases h) (fun _ h => by cases h) (by rfl) (by rfl) (nb _ (fun h => LS.noConfusion h)) (by intros; rfl) q
        · rcases h with rfl | rfl
          · exact fun q => turn_case P G hk R hc hl (by exact trivial) (fun _ => rfl) H.sp109 rfl (fun _ h => by cases h) (fun _ h => by cases h) (by rfl) (by rfl) (nb _ (fun h => LS.noConfusion h)) (by intros; rfl) q
          · exact fun q => turn_case P G hk R hc hl (by exact trivial) (fun _ => rfl) H.sp99 rfl (fun _ h => by cases h) (fun _ h => by cases h) (by rfl) (by rfl) (nb _ (fun h => LS.noConfusion h)) (by intros; rfl) q
      | a =>
        refine ite_on (fun h => ?_) fun _ => ite_on (fun h => ?_) fun _ => ite_on (fun h => ?_) fun _ => ite_on (fun h => ?_) fun _ => ite_on (fun h => ?_) fun _ => trivial
        · subst h; exact fun q => turn_case P G hk R hc hl (by exact trivial) (fun _ => rfl) H.a92 rfl (fun _ h => by cases h) (fun _ h => by cases h) (by rfl) (by rfl) (by intros; rfl) (by intros; rfl) q
        · subst h; exact fun q => turn_case P G hk R hc hl (by exact trivial) (fun _ => rfl) H.a39 rfl (fun _ h => by cases h) (fun _ h => by cases h) (by rfl) (by rfl) (nb _ (fun h => LS.noConfusion h)) (by intros; rfl) q
        · subst h; exact fun q => turn_case P G hk R hc hl (by exact trivial) (fun _ => rfl) H.a34 rfl (fun _ h => by cases h) (fun _ h => by cases h) (by rfl) (by rfl) (nb _ (fun h => LS.noConfusion h)) (by intros; rfl) q
        · rcases h with rfl | rfl
          · exact fun q => turn_case P G hk R hc hl (by exact trivial) (fun _ => rfl) H.a107 rfl (fun _ h => by cases h) (fun _ h => by cases h) (by rfl) (by rfl) (nb _ (fun h => LS.noConfusion h)) (by intros; rw [← mkS_app]; rfl) q
          · exact fun q => turn_case P G hk R hc hl (by exact trivial) (fun _ => rfl) H.a100 rfl (fun _ h => by cases h) (fun _ h => by cases h) (by rfl) (by rfl) (nb _ (fun h => LS.noConfusion h)) (by intros; rw [← mkS_app]; rfl) q
        · obtain ⟨rfl, ht⟩ := h
          exact fun q => turn_case P G hk R hc hl (by exact trivial) (fun _ => rfl) H.a32 rfl (fun _ h => by cases h) (fun _ h => by cases h; cases tok with | nil => exact absurd rfl ht | cons => rfl) (by rfl) (by rfl) (nb _ (fun h => LS.noConfusion h)) (by intros; rfl) q
      | sq =>
        refine ite_on (fun h => ?_) fun h => ?_
        · subst h; exact fun q => turn_case P G hk R hc hl (by exact trivial) (fun _ => rfl) H.sq39 rfl (fun _ h => by cases h) (fun _ h => by cases h) (by rfl) (by rfl) (nb _ (fun h => LS.noConfusion h)) (by intros; rfl) q
        · have e : (c == 39) = false := beq_eq_false_iff_ne.mpr h
          exact fun q => turn_case P G hk R hc hl (chr_ok c) (fun _ => rfl) (by rw [e]; exact H.sqc _ _ _ _) rfl (fun _ h => by cases h) (fun _ h => by cases h) (by rfl) (by rfl) (nb _ (fun h => LS.noConfusion h)) (by intros; rw [← mkS_app]; rfl) q
      | dq =>
        refine ite_on (fun h => ?_) fun h1 => ite_on (fun h => ?_) fun h2 => ?_
        · subst h; exact fun q => turn_case P G hk R hc hl (by exact trivial) (fun _ => rfl) H.dq34 rfl (fun _ h => by cases h) (fun _ h => by cases h) (by rfl) (by rfl) (nb _ (fun h => LS.noConfusion h)) (by intros; rfl) q
        · subst h; exact fun q => turn_case P G hk R hc hl (by exact trivial) (fun _ => rfl) H.dq92 rfl (fun _ h => by cases h) (fun _ h => by cases h) (by rfl) (by rfl) (by intros; rfl) (by intros; rfl) q
        · have e1 : (c == 34) = false := beq_eq_false_iff_ne.mpr h1
          have e2 : (c == 92) = false := beq_eq_false_iff_ne.mpr h2
          exact fun q => turn_case P G hk R hc hl (chr_ok c) (fun _ => rfl) (by rw [e1, e2]; exact H.dqc _ _ _) rfl (fun _ h => by cases h) (fun _ h => by cases h) (by rfl) (by rfl) (nb _ (fun h => LS.noConfusion h)) (by intros; rw [← mkS_app]; rfl) q
      | bs =>
        refine ite_on (fun h => ?_) fun h => ?_
        · cases ed with
          | false => cases h
          | true =>
            refine ite_on (fun h => ?_) fun _ => trivial
            rcases h with rfl | rfl
            · exact fun q => turn_case P G hk R hc hl (by exact trivial) (fun _ => rfl) H.bs34 rfl (by intro _ h; cases h; exact ⟨rfl, rfl⟩) (fun _ h => by cases h) (by rfl) (by rfl) (nb _ (fun h => LS.noConfusion h)) (by intros; rw [← mkS_app]; rfl) q
            · exact fun q => turn_case P G hk R hc hl (by exact trivial) (fun _ => rfl) H.bs92 rfl (by intro _ h; cases h; exact ⟨rfl, rfl⟩) (fun _ h => by cases h) (by rfl) (by rfl) (nb _ (fun h => LS.noConfusion h)) (by intros; rw [← mkS_app]; rfl) q
        · cases ed with
          | true => exact absurd rfl h
          | false => exact fun q => turn_case P G hk R hc hl (chr_ok c) (fun _ => rfl) (H.bsc _ _ _ _ _) rfl (by intro _ h; cases h; exact ⟨rfl, rfl⟩) (fun _ h => by cases h) (by rfl) (by rfl) (nb _ (fun h => LS.noConfusion h)) (by intros; rw [← mkS_app]; rfl) q
      | fin => exact trivial
  rcases step with ⟨h, rfl⟩ | ⟨h, rfl⟩
  · rw [h] at key
    exact key q
  · rw [h] at key
    exact key q
end

end
section
set_option maxRecDepth 100000
set_option maxHeartbeats 8000000
theorem prop_ok (w : World) {lx dlx : Addr} {nn : Nat} {hs : Nat → Int} {ks : Nat → Tok} {rest : List (Addr × Obj)}
    {mean : ExcName → Option Value} {mg mb : Str → Option Value} {dp un : Nat} {gd : Option (List Code)} {cn : Str} {cs : Scope} {a : Addr} {ccd : Value} {cl : List (Str × Addr)} {outer : List Env} {A₀ : Around} {base h₀ : Heap} {L : Addr} {E : Value → Shared → Prop}
    (B : Below A₀ base outer h₀) (X : (Mine.hd.heap_39 w.params).In h₀) (T : Top Mine.hd.view_39 loo mean mg mb h₀) (hk : cs.kind = .function) (hd : dp + 6 < recursionLimit) (hu : un + 60 < cLine) :
    PropOk pw w (ktrTop dp un gd cn cs L a ccd cl outer) E (Kx w) h₀ 869 lx dlx L nn hs ks rest := by
  w_top off
  k_with_none
  k_with "mine enter" => (refine' code_def ?k1 ?k2 ?k3 ?k4 ?k5 ?kA ?kF ?kK ?k6 ?k7 ?k8 ?k9 ?kB ?_ ?c2 ?c3 ?c4 ?c5; (case kA => exact rfl); (case kF => exact rfl); (case kK => first | exact rfl | assumption); (case k1 => k_asm); (case k2 => k_asm); (case k3 => k_asm); (case k4 => k_asm); (case k5 => k_asm); (case k6 => k_is); (case k7 => k_is); (case k8 => ktr_room); (case k9 => first | exact BindsTo.of_eq rfl | exact binds_K (by k_in) rfl (by k_is) rfl rfl rfl); (case c5 => decide); (case kB => exact locs rfl); (case c2 => exact rfl); (case c3 => exact rfl); (case c4 => exact rfl); k_whole; intro g' L' h' FG' F' N' B' X' T'; (try dsimp only); (try k_lift B'); (try k_fold))
  k_with "call builtin:len" => (k_here; (with_reducible show wpAny _ _ (call (Value.builtin "len") [Value.str (Str.mk (List.toArray _)) _]) _ _ _); k_dflt (refine' len_mk ?k1 ?_; (case k1 => omega)); intro t9 k9)
  k_with "getAttr ref" => (k_here; (with_reducible show wpAny _ _ (getAttr _ (Str.ofString "_punctuation_chars") _) _ _ _); k_dflt (refine' get_own ?k1 ?k2 ?k3 ?k4 ?k5 ?k6 ?k7 ?k8 ?k9 ?_; (case k1 => k_asm); (case k2 => k_asm); (case k3 => k_inst); (case k4 => k_is); (case k5 => k_is); (case k6 => k_is); (case k7 => k_is); (case k8 => assumption); (case k9 => k_handed); k_whole))
  intro σ m s b Q R hps q
  obtain ⟨F, lo, slf, ⟨vt, N⟩, keys, good, few⟩ := R
  obtain ⟨j, hj⟩ := ents_get (hs := hs) (ks := ks) (vt := vt) σ.fs 0 hps
  have fin : ∀ h' k t, Fr h₀ L h' m → News h₀ L h' ((lx, instObj 869 dlx) :: (dlx, W.dictOf (ents hs ks vt 0 σ.fs) nn) :: rest) → Q (.str (Str.ofString "") t) { s with heap := h', toks := k } := fun h' k t F' N' => q t h' k ⟨F', lo, slf, ⟨vt, N'⟩, keys, good, few⟩
  clear q keys good few lo slf
  dsimp only [PV.av] at hj
  generalize ents hs ks vt 0 σ.fs = es at *
  k_steps
  all_goals exact fin _ _ _ (by k_asm) (by k_asm)

end
section
set_option maxRecDepth 100000
set_option maxHeartbeats 8000000
/-- a mark: the walk stops here -/
noncomputable def Hold (P : Prop) : Prop := P
theorem Hold.out {P : Prop} (h : Hold P) : P := h
/-- the loop's measure, the names and the ledger at a turn -/
inductive RtJ (hs : Nat → Int) (ks : Nat → Tok) (line : List Nat) (io dio lx dlx pb fs : Addr) (h1 h2 h3 : Int) (k1 k2 k3 tn tb : Tok) (rest : List (Addr × Obj)) (y : Lx) (r' : List Nat) (n : Nat) (m : Str → Option Value) (news : List (Addr × Obj)) : Prop
  | mk (x : Lx) (r : List Nat) (pos : Nat) (vt : Nat → Tok) (ln : Int) (tp : Tok) (es : Str) (te : Tok) (a0 : n = r.length) (a1 : line.drop pos = r) (a2 : pos + r.length = line.length) (a3 : lexRun x r = some (y, r')) (a4 : x.tok.length ≤ pos) (a5 : (x.st = .bs → es = escS x.escDq)) (a6 : m (Str.ofString "self") = some (.ref lx)) (a7 : m (Str.ofString "quoted") = some (.bool x.quoted)) (a8 : m (Str.ofString "escapedstate") = some (.str es te)) (a9 : news = (lx, instObj 869 dlx) :: (dlx, W.dictOf (ents hs ks vt 0 (fsL io pb fs (stP x.st) (.txt (mkS x.tok)) ln)) 19) :: (io, instObj 734 dio) :: (dio, ioD h1 h2 h3 k1 k2 k3 tn tb tp line pos) :: rest) : RtJ hs ks line io dio lx dlx pb fs h1 h2 h3 k1 k2 k3 tn tb rest y r' n m news
noncomputable def ev_ln (ln : Int) : Nat → Int
  | 0 => ln
  | _ => ln + 1
noncomputable def LR.bd (n : Nat) : LR → Prop
  | .cont y => y.tok.length ≤ n + 1
  | .brk y => y.tok.length ≤ n
  | .bad => True
theorem ite_bd {c : Prop} [Decidable c] {n : Nat} {a b : LR} (ha : LR.bd n a) (hb : LR.bd n b) : LR.bd n (if c then a else b) := by
  by_cases h : c
  · rw [if_pos h]; exact ha
  · rw [if_neg h]; exact hb
theorem lexStep_bd (x : Lx) (c : Option Nat) : LR.bd x.tok.length (lexStep x c) := by
  obtain ⟨st, e, q, t⟩ := x
  cases c with
  | none => cases st <;> first | exact trivial | exact Nat.le_refl _ | exact Nat.zero_le _
  | some c =>
    have h0 : t.length ≤ t.length + 1 := Nat.le_succ _
    have h1 : (t ++ [c]).length ≤ t.length + 1 := by rw [List.length_append]; exact Nat.le_refl _
    unfold lexStep
    dsimp only
    cases st with
    | sp => exact ite_bd h0 (ite_bd h0 (ite_bd h0 (ite_bd (Nat.succ_le_succ (Nat.zero_le _)) trivial)))
    | a => exact ite_bd h0 (ite_bd h0 (ite_bd h0 (ite_bd h1 (ite_bd (Nat.le_refl _) trivial))))
    | sq => exact ite_bd h0 h1
    | dq => exact ite_bd h0 (ite_bd h0 h1)
    | bs => exact ite_bd (ite_bd h1 trivial) h1
    | fin => exact trivial
theorem lexStep_len {x y : Lx} {c : Nat} (h : lexStep x (some c) = .cont y) : y.tok.length ≤ x.tok.length + 1 := by
  have := lexStep_bd x (some c)
  rw [h] at this
  exact this
theorem lexStep_len' {x y : Lx} {c : Option Nat} (h : lexStep x c = .brk y) : y.tok.length ≤ x.tok.length := by
  have := lexStep_bd x c
  rw [h] at this
  exact this
theorem off2 {lx dlx dio : Addr} {o1 o2 : Obj} {rest : List (Addr × Obj)} (h1 : lx ≠ dio) (h2 : dio ≠ dlx) (hr : ∀ p ∈ rest, p.1 ≠ dio) : ∀ p ∈ (lx, o1) :: (dlx, o2) :: rest, p.1 ≠ dio := by
  intro p hp
  rcases List.mem_cons.mp hp with rfl | hp
  · exact h1
  · rcases List.mem_cons.mp hp with rfl | hp
    · exact Ne.symm h2
    · exact hr p hp
theorem swap22 {h₀ h : Heap} {L : Addr} {a b c d : Addr × Obj} {news : List (Addr × Obj)} (N : News h₀ L h (a :: b :: c :: d :: news)) : News h₀ L h (c :: d :: a :: b :: news) := fun p hp => N p (by
  simp only [List.mem_cons] at hp ⊢
  rcases hp with h | h | h | h | h <;> simp [h])
theorem token_call (w : World) (io dio lx dlx pb fs : Addr) (h1 h2 h3 : Int) (k1 k2 k3 tn tb tp : Tok) (hs : Nat → Int) (ks vt : Nat → Tok) (line : List Nat) (pos : Nat) (ln : Int) (x y : Lx) (r' : List Nat) (rest : List (Addr × Obj))
    (hne1 : io ≠ dio) (hne2 : lx ≠ dlx) (hne3 : lx ≠ dio) (hne4 : io ≠ dlx) (hne5 : dio ≠ dlx) (hr : ∀ p ∈ rest, p.1 ≠ dio) (hr2 : ∀ p ∈ rest, p.1 ≠ dlx) (hb : line.length ≤ 99999) (hp : pos ≤ line.length) (hx : x.tok = [] ∧ x.quoted = false) (hst : x.st ≠ .bs) (hrun : lexRun x (line.drop pos) = some (y, r')) :
    Call w 837 [.ref lx] ((lx, instObj 869 dlx) :: (dlx, W.dictOf (ents hs ks vt 0 (fsL io pb fs (stP x.st) (.txt (mkS [])) ln)) 19) :: (io, instObj 734 dio) :: (dio, ioD h1 h2 h3 k1 k2 k3 tn tb tp line pos) :: rest) 12 120
    fun K => ∀ v vt' ln' tp' pos', resV y v → line.drop pos' = r' → pos' ≤ line.length →
      K v ((lx, instObj 869 dlx) :: (dlx, W.dictOf (ents hs ks vt' 0 (fsL io pb fs (stP y.st) (.txt (mkS [])) ln')) 19) :: (io, instObj 734 dio) :: (dio, ioD h1 h2 h3 k1 k2 k3 tn tb tp' line pos') :: rest) := by
  w_top off
  k_with_none
  k_with "mine enter" => (refine' code_def ?k1 ?k2 ?k3 ?k4 ?k5 ?kA ?kF ?kK ?k6 ?k7 ?k8 ?k9 ?kB ?_ ?c2 ?c3 ?c4 ?c5; (case kA => exact rfl); (case kF => exact rfl); (case kK => first | exact rfl | assumption); (case k1 => k_asm); (case k2 => k_asm); (case k3 => k_asm); (case k4 => k_asm); (case k5 => k_asm); (case k6 => k_is); (case k7 => k_is); (case k8 => ktr_room); (case k9 => first | exact BindsTo.of_eq rfl | exact binds_K (by k_in) rfl (by k_is) rfl rfl rfl); (case c5 => decide); (case kB => exact locs rfl); (case c2 => exact rfl); (case c3 => exact rfl); (case c4 => exact rfl); k_whole; intro g' L' h' FG' F' N' B' X' T'; (try dsimp only); (try k_lift B'); (try k_fold))
  k_with "call builtin:len" => (k_here; (with_reducible show wpAny _ _ (call (Value.builtin "len") [Value.str (Str.mk (List.toArray _)) _]) _ _ _); k_dflt (refine' len_mk ?k1 ?_; (case k1 => omega)); intro t9 k9)
  k_with "exec While" => refine Hold.out ?_
  k_with "execs cons" => ((with_reducible show wpAny _ _ (execs (Stmt.If (Expr.Compare (Expr.Name (Str.ofString "nextchar") _) _ _ _) _ _ _ :: _) _) _ _ _); refine Hold.out ?_)
  k_with "ev0" => (intro q es t e ln h1 h2; (try (have e1 := h1 _ rfl; subst e1)); (try (have e2 := h2 _ rfl; subst e2)); first | exact ⟨ev_ln ln 0, by kernel_rfl⟩)
  k_with "ev1" => (intro q es t e ln h1 h2; (try (have e1 := h1 _ rfl; subst e1)); (try (have e2 := h2 _ rfl; subst e2)); first | exact ⟨ev_ln ln 1, by kernel_rfl⟩)
  k_with "ev all" => (constructor; all_goals first | k_extra "ev0" | (intro c b1 b2; cases b1; k_extra "ev0"; k_extra "ev1") | (intro c b1 b2 b3; cases b1 <;> cases b2; k_extra "ev0"; k_extra "ev0"; k_extra "ev1"; k_extra "ev1") | (intro c b1 b2 b3 b4; cases b1; k_extra "ev0"; k_extra "ev1"))
  k_with "call ref" => (k_here; k_dflt (refine' callUse (read_call _ _ _ _ _ _ _ _ _ _ _ _ _ _ _ _ _ ?q1 ?q2 ?q3 ?q4) ?k1 ?k2 ?k3 ?k4 ?k5 ?kK ?kd ?ku ?_; (case k4 => k_asm); (case q1 => assumption); (case q2 => exact off2 (by assumption) (by assumption) (by assumption)); (case q3 => omega); (case q4 => assumption); (case k1 => k_asm); (case k2 => k_asm); (case k3 => k_asm); (case k5 => k_asm); (case kK => first | exact rfl | assumption); (case kd => ktr_room); (case ku => ktr_units)); intro t9 tp9 h9 tk9 F9 N9; (try dsimp only); (try k_sweep); (try k_fold))
  k_with "call ref" => (k_here; k_dflt (refine' callUse (read_eof _ _ _ _ _ _ _ _ _ _ _ _ _ _ _ ?q1 ?q2 ?q3) ?k1 ?k2 ?k3 ?k4 ?k5 ?kK ?kd ?ku ?_; (case k4 => k_asm); (case q1 => assumption); (case q2 => exact off2 (by assumption) (by assumption) (by assumption)); (case q3 => omega); (case k1 => k_asm); (case k2 => k_asm); (case k3 => k_asm); (case k5 => k_asm); (case kK => first | exact rfl | assumption); (case kd => ktr_room); (case ku => ktr_units)); intro t9 h9 tk9 F9 N9; (try dsimp only); (try k_sweep); (try k_fold))
  intro mean mg mb dp un gd cn cs a ccd cl outer A₀ base h₀ L m s Q E B F X N T hk hd hu hret
  refine wpAny_call ?_
  k_dflt walk_at "mine enter"
  k_steps
  (with_reducible rename Fr _ _ _ _ => F9)
  (with_reducible rename News _ _ _ _ => N9)
  (with_reducible rename Frag.In _ _ => X9)
  (with_reducible rename Below _ _ _ _ => B9)
  (with_reducible rename Top _ _ _ _ _ _ => T9)
  have G9 : ∀ tp p (sc : Scope), sc.kind = .function → Good (Kx w) _ 869 lx dlx ((io, instObj 734 dio) :: (dio, ioD h1 h2 h3 k1 k2 k3 tn tb tp line p) :: rest) sc := fun tp p sc hsc => ⟨X9, by kernel_rfl, by kernel_rfl, by kernel_rfl, hne2, off2 hne4 (Ne.symm hne5) hr2, hsc⟩
  have hk9 : (fsL io pb fs .non .non 0).all (fun p => attrOk (Kx w) 869 p.1) = true := by kernel_rfl
  refine While_inv2 (RtJ hs ks line io dio lx dlx pb fs h1 h2 h3 k1 k2 k3 tn tb rest y r') F9 N9 ⟨x, _, pos, vt, ln, tp, _, _, rfl, rfl, ?j1, hrun, ?j2, ?j3, rfl, ?j4, rfl, ?j5⟩ ?turn
  case j1 => rw [List.length_drop]; omega
  case j2 => rw [hx.1]; exact Nat.zero_le _
  case j3 => exact fun h => absurd h hst
  case j4 => rw [hx.2]; rfl
  case j5 => rw [hx.1]
  case turn =>
    clear F9 N9
    refine (fun (HR : RtOk ?sc9 ?b9 io pb fs) (HT : TlOk ?sc8 ?b8 io pb fs) => ?main9) ?hr9 ?ht9
    case main9 =>
      intro n m₁ news₁ h₉ tk₉ F₉ N₉ hJ
      obtain ⟨x, r, pos, vt, ln, tp, es, te, hn, hdr, hps, hrun, hlen, hes, e1, e2, e3, rfl⟩ := hJ
      dsimp only [ents, fsL, PV.av] at N₉
      rw [mput e1, mput e2, mput e3] at F₉
      replace N₉ := swap22 N₉
      have hlx : x.tok.length ≤ 99999 := by omega
      cases r with
      | nil =>
        have hpe : pos = line.length := by simpa using hps
        subst hpe
        k_steps
        refine Hold.out ?_
        (with_reducible rename Fr _ _ _ _ => F8)
        (with_reducible rename News _ _ _ _ => N8)
        replace N8 := swap22 N8
        cases hL : lexStep x none with
        | bad => rw [lexRun, hL] at hrun; cases hrun
        | cont y' => rw [lexRun, hL] at hrun; cases hrun
        | brk y' =>
          have hry : y' = y ∧ ([] : List Nat) = r' := by rw [lexRun, hL] at hrun; cases hrun; exact ⟨rfl, rfl⟩
          obtain ⟨rfl, rfl⟩ := hry
          refine turn_ok (x := x) (y := y') (oc := none) (fl := .brk) ?P ?H (G9 _ _ _ rfl) hk9 ⟨F8, rfl, rfl, ⟨es, te, rfl, hes⟩, vt, ln, N8⟩ ⟨_, rfl⟩ hlx (.inr ⟨hL, rfl⟩) fun h' k' m' t R => ?qq
          case P => exact prop_ok w B9 X9 T9 rfl (by ktr_room) (by ktr_units)
          case H => exact HR
          case qq =>
            dsimp only [WhileStep2, MF.flow]
            refine tail_ok (prop_ok w B9 X9 T9 rfl (by ktr_room) (by ktr_units)) ?TH (G9 _ _ _ rfl) hk9 R (by have := lexStep_len' hL; omega) ?tq
            case TH => exact HT
            case tq =>
              intro h2 k2 m2 v2 vt2 ln2 hv2 F2 N2
              replace N2 := N2
              k_steps
              exact hret v2 vt2 ln2 _ _ hv2 hdr (Nat.le_refl _) _ _ (by k_asm) (by k_asm)
      | cons c r =>
        have hc : line[pos]? = some c := by
          have : (line.drop pos)[0]? = some c := by rw [hdr]; rfl
          rwa [List.getElem?_drop, Nat.add_zero] at this
        k_steps
        refine Hold.out ?_
        (with_reducible rename Fr _ _ _ _ => F8)
        (with_reducible rename News _ _ _ _ => N8)
        replace N8 := swap22 N8
        cases hL : lexStep x (some c) with
        | bad => rw [lexRun, hL] at hrun; cases hrun
        | cont y' =>
          refine turn_ok (x := x) (y := y') (oc := some c) (fl := .nxt) ?P ?H (G9 _ _ _ rfl) hk9 ⟨F8, rfl, rfl, ⟨es, te, rfl, hes⟩, vt, ln, N8⟩ ⟨_, rfl⟩ hlx (.inl ⟨hL, rfl⟩) fun h' k' m' t R => ?qq
          case P => exact prop_ok w B9 X9 T9 rfl (by ktr_room) (by ktr_units)
          case H => exact HR
          case qq =>
            obtain ⟨F', slf', quo', ⟨es', te', esc', hes'⟩, vt', ln', N'⟩ := R
            have hl2 : y'.tok.length ≤ pos + 1 := Nat.le_trans (lexStep_len hL) (by omega)
            exact ⟨h', k', m', _, r.length, rfl, F', N', by rw [hn]; exact Nat.lt_succ_self _, y', r, pos + 1, vt', ln', _, es', te', rfl, by rw [← List.drop_drop, hdr]; rfl, by rw [List.length_cons] at hps; omega, by rw [lexRun, hL] at hrun; exact hrun, hl2, hes', slf', quo', esc', rfl⟩
        | brk y' =>
          have hry : y' = y ∧ r = r' := by rw [lexRun, hL] at hrun; cases hrun; exact ⟨rfl, rfl⟩
          obtain ⟨rfl, rfl⟩ := hry
          refine turn_ok (x := x) (y := y') (oc := some c) (fl := .brk) ?P ?H (G9 _ _ _ rfl) hk9 ⟨F8, rfl, rfl, ⟨es, te, rfl, hes⟩, vt, ln, N8⟩ ⟨_, rfl⟩ hlx (.inr ⟨hL, rfl⟩) fun h' k' m' t R => ?qq
          case P => exact prop_ok w B9 X9 T9 rfl (by ktr_room) (by ktr_units)
          case H => exact HR
          case qq =>
            dsimp only [WhileStep2, MF.flow]
            refine tail_ok (prop_ok w B9 X9 T9 rfl (by ktr_room) (by ktr_units)) ?TH (G9 _ _ _ rfl) hk9 R (by have := lexStep_len' hL; omega) ?tq
            case TH => exact HT
            case tq =>
              intro h2 k2 m2 v2 vt2 ln2 hv2 F2 N2
              replace N2 := N2
              k_steps
              exact hret v2 vt2 ln2 _ (pos + 1) hv2 (by rw [← List.drop_drop, hdr]; rfl) (by rw [List.length_cons] at hps; omega) _ _ (by k_asm) (by k_asm)
    case hr9 => k_extra "ev all"
    case ht9 => (constructor; all_goals (intros; kernel_rfl))

end
section
open PySem.Builtin
open Sem (wp)
set_option maxRecDepth 100000
/-! the deque: its making and its truth -/
theorem noBool_dq : typeLookup (.type "collections.deque") "__bool__" = pure none := by rw [typeLookup_type, builtinLookup_eq_fast]; kernel_rfl
theorem slot_dq_len : Slot "collections.deque" "__len__" "collections.deque.__len__" :=
  .of (owner := "collections.deque") (n := "__len__") (by rw [typeLookup_type, builtinLookup_eq_fast]; kernel_rfl) (by decide +kernel) (by decide +kernel) (by decide +kernel)
    (by first | exact .inl (by decide +kernel) | exact .inr (by decide +kernel)) (by rw [isSubtype_type]; kernel_rfl)
theorem entry_dq_len : entryFor table "collections.deque.__len__" = some Builtin.«collections.deque.__len__» := entryFor_of_fast (by kernel_rfl)
theorem args_dq_len (a : Value) : argsOk "collections.deque.__len__" ⟨[a], []⟩ := by unfold argsOk; kernel_rfl
theorem mro_dq : mroOf (.type "collections.deque") = pure [.type "collections.deque", .type "object"] := by rw [mroOf_type]; kernel_rfl
theorem lookup_dq_new : typeLookup (.type "collections.deque") "__new__" = pure (some (.builtin "collections.deque.__new__")) := by rw [typeLookup_type, builtinLookup_eq_fast]; kernel_rfl
theorem slot_dq_init : Slot "collections.deque" "__init__" "collections.deque.__init__" :=
  .of (owner := "collections.deque") (n := "__init__") (by rw [typeLookup_type, builtinLookup_eq_fast]; kernel_rfl) (by decide +kernel) (by decide +kernel) (by decide +kernel)
    (by first | exact .inl (by decide +kernel) | exact .inr (by decide +kernel)) (by rw [isSubtype_type]; kernel_rfl)
theorem called_dq : TypeCalled "collections.deque" "collections.deque.__new__" "collections.deque.__init__" :=
  ⟨by decide +kernel, by decide +kernel, ⟨_, _, mro_dq⟩, madeBy_type mro_dq lookup_dq_new (by decide +kernel), by decide +kernel, by rw [isSubtype_type]; kernel_rfl, slot_dq_init⟩
theorem typeCall_dq : checkTypeCall "collections.deque" ⟨[], []⟩ = pure () := by kernel_rfl
theorem newCall_dq : checkBuiltinCall "collections.deque.__new__" ⟨[.type "collections.deque"], []⟩ = pure () := by kernel_rfl
theorem entry_dq_new : entryFor table "collections.deque.__new__" = some Builtin.«collections.deque.__new__» := entryFor_of_fast (by kernel_rfl)
theorem entry_dq_init : entryFor table "collections.deque.__init__" = some Builtin.«collections.deque.__init__» := entryFor_of_fast (by kernel_rfl)
theorem plain_dq_new : plainId "collections.deque.__new__" = true := by decide +kernel
theorem sub_dq_self : isSubtype (.type "collections.deque") (.type "collections.deque") = pure true := by rw [isSubtype_type]; kernel_rfl
/-- an empty deque -/
noncomputable abbrev dqO (u : Tok) : Obj := { cls := .type "collections.deque", data := .fields #[.none, .int 0 u] }
section
variable {prog : Program} {w : World} {A : Around} {E : Value → Shared → Prop} {s : Shared}
theorem truthy_dq {l : Addr} {u : Tok} {Q : Bool → Shared → Prop} (hl : s.heap.get? l = some (dqO u)) (h : Q false { s with toks := s.toks + 1 + 1 }) : wpAny (model prog w) A (truthy (.ref l)) Q E s := by
  have hT : s.TypeIs (.ref l) "collections.deque" := ⟨_, hl, rfl⟩
  have key : wpAny (model prog w) A (runValue (.builtin "len" ⟨[.ref l], []⟩)) (fun r s' => r = .int 0 (s.toks + 1) ∧ Q false s') E s := by
    refine wpAny_runValue (codeAny_builtin entry_len ?_)
    rw [Around.under_plainId plain_len _]
    unfold Builtin.«len»
    refine wpAny_bind (m := oneArg "len" _) (wpAny_pure ?_)
    refine wpAny_bind (m := callSpecial? (.ref l) (Str.ofString "__len__")) (wpAny_callSpecial?_slot (name := Str.ofString "__len__") hT slot_dq_len
      (wpAny_call_entry slot_dq_len hT entry_dq_len ?_ (args_dq_len _)))
    show wpAny _ _ (do retInt (← Deque.size (.ref l))) _ _ s
    unfold Deque.size fieldsOf
    refine wpAny_bind (wpAny_bind (wpAny_bind (wpAny_load hl ?_)))
    dsimp only
    refine wpAny_pure (wpAny_pure (wpAny_bind (wpAny_mkInt (wpAny_pure ⟨_, rfl, ?_⟩))))
    refine wpAny_bind (wpAny_holding (wpAny_pure ?_))
    refine wpAny_bind (wpAny_letGo ?_)
    exact wpAny_bind (wpAny_mkInt (wpAny_pure ⟨rfl, h⟩))
  unfold truthy
  first
    | refine wpAny_bind (wpAny_callSpecial?_none (name := Str.ofString "__bool__") hT noBool_dq ?_)
    | refine wpAny_bind (wpAny_pure (wpAny_bind (wpAny_callSpecial?_none (name := Str.ofString "__bool__") hT noBool_dq ?_)))
  first
    | refine wpAny_bind (wpAny_specialOf (name := Str.ofString "__len__") hT slot_dq_len.lookup ?_)
    | refine wpAny_bind (wpAny_pure (wpAny_bind (wpAny_specialOf (name := Str.ofString "__len__") hT slot_dq_len.lookup ?_)))
  first
    | exact wpAny_bind (wpAny_mono key (fun r s' h' => by obtain ⟨rfl, hq⟩ := h'; exact wpAny_pure hq) fun _ _ e => e)
    | exact wpAny_bind (wpAny_pure (wpAny_bind (wpAny_mono key (fun r s' h' => by obtain ⟨rfl, hq⟩ := h'; exact wpAny_pure hq) fun _ _ e => e)))
theorem code_dq_new {Q₁ : Value → Shared → Prop}
    (h : Q₁ (.ref s.heap.objs.size) { s with heap := s.heap.push (dqO 0) }) :
    codeAny (model prog w) A (.call (.builtin "collections.deque.__new__") ⟨[.type "collections.deque"], []⟩) (wants Q₁ E) s := by
  refine codeAny_of_tree ?_
  show wpAny _ A.in1 (do checkBuiltinCall "collections.deque.__new__" ⟨[.type "collections.deque"], []⟩; again (.builtin "collections.deque.__new__" ⟨[.type "collections.deque"], []⟩)) _ _ s
  refine wpAny_bind (wpAny_of_eq newCall_dq (wpAny_pure ⟨plainId_quiet plain_dq_new _, codeAny_builtin entry_dq_new ?_⟩))
  rw [Around.under_plainId plain_dq_new _]
  have e : Builtin.«collections.deque.__new__» ⟨[.type "collections.deque"], []⟩ = (do let (cls, _) ← Deque.newArgs Deque.ty ⟨[.type "collections.deque"], []⟩; let r ← Deque.new cls #[] none; ret r) := rfl
  rw [e]
  have hz : ¬ ((#[] : Array Value).size > sizeLine) := by rw [sizeLine_eq]; decide
  have hn : Deque.new (.type "collections.deque") #[] none = newObj (.type "collections.deque") (.fields #[.none, .int 0 0]) none := by
    unfold Deque.new
    rw [if_neg hz, if_neg (by rw [show typeHasDict (.type "collections.deque") = false by kernel_rfl]; simp)]
    rfl
  unfold Deque.newArgs
  have hsub : isSubtype (.type "collections.deque") (.type Deque.ty) = pure true := sub_dq_self
  have hd : typeHasDict (.type "collections.deque") = false := by kernel_rfl
  obtain ⟨hp, g, d, tk, os⟩ := s
  dsimp only
  refine wpAny_bind (wpAny_bind (m := isType (.type "collections.deque")) (wpAny_pure ?_))
  refine wpAny_bind (wpAny_of_eq hsub (wpAny_pure ?_))
  show wpAny _ _ (do let r ← Deque.new (.type "collections.deque") #[] none; ret r) _ _ _
  rw [hn]
  have hz2 : ¬ ((#[Value.none, .int 0 0] : Array Value).size > sizeLine + 2) := by rw [sizeLine_eq]; decide
  simp only [newObj, newObjAsIs, if_neg hz2]

  refine wpAny_bind (wpAny_bind (wpAny_alloc (wpAny_pure ?_)))
  exact wpAny_pure h
end

end
section
open PySem.Builtin
set_option maxRecDepth 100000
section
variable {prog : Program} {w : World} {A : Around} {E : Value → Shared → Prop} {s : Shared}
theorem owner_dq : Manifest.owners.lookup (String.ofList ['e', 'u', 'q', 'e', 'd', '.', 's', 'n', 'o', 'i', 't', 'c', 'e', 'l', 'l', 'o', 'c'].reverse) = some Manifest.sig_collections_deque := by kernel_rfl
theorem sig_dq_init : Manifest.signature? "collections.deque.__init__" = some ⟨.keywords, "deque", "deque", .self, [⟨"iterable", .posOrKw, false⟩, ⟨"maxlen", .posOrKw, false⟩]⟩ := by
  rw [signature?_of (id := "collections.deque.__init__") (n := ['_', '_', 't', 'i', 'n', 'i', '_', '_']) (o := ['e', 'u', 'q', 'e', 'd', '.', 's', 'n', 'o', 'i', 't', 'c', 'e', 'l', 'l', 'o', 'c']) (by kernel_rfl) owner_dq]; kernel_rfl
theorem kind_dq_init : builtinKind "collections.deque.__init__" = some .slot := by kernel_rfl
theorem split_dq_init : splitId "collections.deque.__init__" = some ("collections.deque", "__init__") := by kernel_rfl
theorem check_dq_init {M : Model} {self : Value} {Q : Unit → Shared → Prop} (hT : s.TypeIs self "collections.deque") (hQ : Q () s) :
    wpAny M A (checkBuiltinCall "collections.deque.__init__" ⟨[self], []⟩) Q E s := by
  simp only [checkBuiltinCall, kind_dq_init, split_dq_init, sig_dq_init]
  refine wpAny_bind (wpAny_isInstance hT sub_dq_self ?_)
  simp only [Bool.not_true, Bool.false_eq_true, if_false]
  unfold Bind.checkArgs
  dsimp only
  refine wpAny_bind (m := Bind.printed "deque" true _ _) (PyProof.Rows.printed_name (by decide) ?_)
  refine wpAny_bind (m := Bind.printed "deque" false _ _) (PyProof.Rows.printed_name (by decide) ?_)
  have hc : Bind.check ⟨.keywords, "deque", "deque", .self, [⟨"iterable", .posOrKw, false⟩, ⟨"maxlen", .posOrKw, false⟩]⟩ "deque" "deque" (if (Manifest.Receiver.self == Manifest.Receiver.none) = true then [self].length else [self].length - 1) (List.map (fun x => x.fst) ([] : List (Str × Value))) = pure () := by
    kernel_rfl
  rw [hc]
  exact wpAny_pure hQ
theorem dq_init_eq (a : Addr) : Builtin.«collections.deque.__init__» ⟨[.ref a], []⟩ = (do setField (.ref a) 0 .none; Deque.clear (.ref a); ret .none) := by
  first | rfl | (unfold Builtin.«collections.deque.__init__»; simp)
theorem upd_self {h : Heap} {a : Addr} {o : Obj} {f : Obj → Obj} (hg : h.get? a = some o) (hf : f o = o) : h.update a f = h := by
  obtain ⟨objs, l⟩ := h
  have ho : objs[a]? = some o := by
    unfold Heap.get? at hg
    dsimp only at hg
    revert hg
    cases objs[a]? with
    | none => intro hg; cases hg
    | some x => intro hg; split at hg <;> first | exact hg | cases hg
  show (⟨objs.modify a f, l⟩ : Heap) = ⟨objs, l⟩
  congr 1
  apply Array.ext (by simp)
  intro i h1 h2
  rw [Array.getElem_modify]
  split
  · rename_i e
    subst e
    have : objs[a] = o := by rw [Array.getElem?_eq_getElem h2] at ho; exact Option.some.inj ho
    rw [this, hf]
  · rfl
theorem dq_init {M : Model} {a : Addr} {Q : PySem.Fin → Shared → Prop} (hS : s.heap.get? a = some (dqO 0)) (hQ : Q (.done (.ret .none)) s) : wpAny M A (Builtin.«collections.deque.__init__» ⟨[.ref a], []⟩) Q E s := by
  rw [dq_init_eq]
  refine wpAny_bind (wpAny_setField hS rfl (by decide) ?_)
  rw [upd_self hS rfl]
  unfold Deque.clear Deque.items fieldsOf
  refine wpAny_bind (wpAny_bind (wpAny_bind (wpAny_bind (wpAny_load hS ?_))))
  dsimp only
  refine wpAny_pure (wpAny_pure ?_)
  rw [if_neg (by decide)]
  exact wpAny_pure (wpAny_pure hQ)
set_option maxHeartbeats 4000000 in
theorem call_dq_0 {Q : Value → Shared → Prop}
    (h : Q (.ref s.heap.objs.size) { s with heap := s.heap.push (dqO 0) }) :
    wpAny (model prog w) A (call (.type "collections.deque") []) Q E s := by
  obtain ⟨c, tl, hmro⟩ := called_dq.mro
  have hmade := called_dq.made
  have hsub := called_dq.sub
  refine wpAny_call (codeAny_of_tree ?_)
  show wpAny _ _ (callAny (.type "collections.deque") _) _ _ _
  refine wpAny_pure ⟨Code.quiet_builtin _ (by decide +kernel), codeAny_builtin F.entry_type_call ?_⟩
  rw [Around.under_plain (weight_type_call_type "collections.deque" [] []) rfl]
  have h1 := called_dq.notType
  have h2 := called_dq.canCreate
  have hct := typeCall_dq
  repeat (any_goals (first | assumption | wp_step))
  refine codeAny_mono (code_dq_new (E := E) (Q₁ := fun obj s₁ => obj = .ref s.heap.objs.size ∧ s₁ = { s with heap := s.heap.push (dqO 0) }) ⟨rfl, rfl⟩) fun r s₁ hr => ?_
  cases r with
  | error e => exact hr
  | ok fl =>
    cases fl with
    | ret obj =>
      obtain ⟨rfl, rfl⟩ := hr
      have hS : (s.heap.push (dqO 0)).get? s.heap.objs.size = some (dqO 0) := Heap.get?_push_size _ rfl
      have hT : Shared.TypeIs { s with heap := s.heap.push (dqO 0) } (.ref s.heap.objs.size) "collections.deque" := ⟨_, hS, rfl⟩
      have hli := called_dq.init.lookup
      have hbi := called_dq.init.bind (.ref s.heap.objs.size)
      repeat (any_goals (first | assumption | wp_step))
      refine codeAny_mono (codeAny_call_builtin (R := wants (fun r s₂ => r = .none ∧ Q (.ref s.heap.objs.size) s₂) E) called_dq.init.plain entry_dq_init (check_dq_init hT ?_)) fun r₂ s₂ hr₂ => ?_
      · exact dq_init (by exact hS) ⟨rfl, h⟩
      · cases r₂ with
        | error e => exact hr₂
        | ok fl₂ =>
          cases fl₂ with
          | ret r =>
            obtain ⟨rfl, hq⟩ := hr₂
            repeat (any_goals (first | assumption | wp_step))
          | _ => exact hr₂.elim
    | _ => exact hr.elim
end

end
section
set_option maxRecDepth 100000
set_option maxHeartbeats 8000000
theorem get_ents {prog : Program} {w : World} {A : Around} {E : Value → Shared → Prop} {s : Shared} {K : Frag} {h₀ : Heap} {L C lx dlx : Addr} {nn : Nat} {hs : Nat → Int} {ks vt : Nat → Tok} {m : Str → Option Value} {rest : List (Addr × Obj)} {fl : List (Str × PV)} {a : Str} {v : PV} {b : Bool} {Q : Value → Shared → Prop}
    (F : Fr h₀ L s.heap m) (X : K.In h₀) (N : News h₀ L s.heap ((lx, instObj C dlx) :: (dlx, W.dictOf (ents hs ks vt 0 fl) nn) :: rest)) (hd : hasDictIn K C = true) (ok : attrOk K C a = true) (h : fl.lookup a = some v) (q : ∀ t k, Q (v.av t) { s with toks := k }) :
    wpAny (model prog w) A (getAttr (.ref lx) a b) Q E s := by
  unfold attrOk at ok
  rw [Bool.and_eq_true, Bool.and_eq_true] at ok
  obtain ⟨⟨o1, o2⟩, o3⟩ := ok
  obtain ⟨j, hj⟩ := ents_get (hs := hs) (ks := ks) (vt := vt) fl 0 h
  cases hf : findIn K (.ref C) a with
  | none => rw [hf] at o2; cases o2
  | some attr =>
    rw [hf] at o2
    exact get_own F X (InstAt.of_news N (.head _) (.tail _ (.head _))) o1 hd hf o2 hj (handed_av _ _) (q _ _)
section
variable {io pb fs : Addr} {st tok : PV} {ln : Int}
theorem fsL_pushback : (fsL io pb fs st tok ln).lookup (Str.ofString "pushback") = some (.obj pb) := by kernel_rfl
theorem fsL_filestack : (fsL io pb fs st tok ln).lookup (Str.ofString "filestack") = some (.obj fs) := by kernel_rfl
theorem fsL_source : (fsL io pb fs st tok ln).lookup (Str.ofString "source") = some .non := by kernel_rfl
theorem fsL_eof : (fsL io pb fs st tok ln).lookup (Str.ofString "eof") = some .non := by kernel_rfl
theorem fsL_debug : (fsL io pb fs st tok ln).lookup (Str.ofString "debug") = some (.num 0) := by kernel_rfl
end
theorem get_call (w : World) (io dio lx dlx pb fs : Addr) (h1 h2 h3 : Int) (k1 k2 k3 tn tb tp : Tok) (hs : Nat → Int) (ks vt : Nat → Tok) (line : List Nat) (pos : Nat) (ln : Int) (x y : Lx) (r' : List Nat) (u1 u2 : Tok) (rest : List (Addr × Obj))
    (hne1 : io ≠ dio) (hne2 : lx ≠ dlx) (hne3 : lx ≠ dio) (hne4 : io ≠ dlx) (hne5 : dio ≠ dlx) (hr : ∀ p ∈ (pb, dqO u1) :: (fs, dqO u2) :: rest, p.1 ≠ dio) (hr2 : ∀ p ∈ (pb, dqO u1) :: (fs, dqO u2) :: rest, p.1 ≠ dlx) (hb : line.length ≤ 99999) (hp : pos ≤ line.length) (hx : x.tok = [] ∧ x.quoted = false) (hst : x.st ≠ .bs) (hrun : lexRun x (line.drop pos) = some (y, r')) :
    Call w 830 [.ref lx] ((lx, instObj 869 dlx) :: (dlx, W.dictOf (ents hs ks vt 0 (fsL io pb fs (stP x.st) (.txt (mkS [])) ln)) 19) :: (io, instObj 734 dio) :: (dio, ioD h1 h2 h3 k1 k2 k3 tn tb tp line pos) :: (pb, dqO u1) :: (fs, dqO u2) :: rest) 20 200
    fun K => ∀ v vt' ln' tp' pos', resV y v → line.drop pos' = r' → pos' ≤ line.length →
      K v ((lx, instObj 869 dlx) :: (dlx, W.dictOf (ents hs ks vt' 0 (fsL io pb fs (stP y.st) (.txt (mkS [])) ln')) 19) :: (io, instObj 734 dio) :: (dio, ioD h1 h2 h3 k1 k2 k3 tn tb tp' line pos') :: (pb, dqO u1) :: (fs, dqO u2) :: rest) := by
  w_top off
  k_with_none
  k_with "mine enter" => (refine' code_def ?k1 ?k2 ?k3 ?k4 ?k5 ?kA ?kF ?kK ?k6 ?k7 ?k8 ?k9 ?kB ?_ ?c2 ?c3 ?c4 ?c5; (case kA => exact rfl); (case kF => exact rfl); (case kK => first | exact rfl | assumption); (case k1 => k_asm); (case k2 => k_asm); (case k3 => k_asm); (case k4 => k_asm); (case k5 => k_asm); (case k6 => k_is); (case k7 => k_is); (case k8 => ktr_room); (case k9 => first | exact BindsTo.of_eq rfl | exact binds_K (by k_in) rfl (by k_is) rfl rfl rfl); (case c5 => decide); (case kB => exact locs rfl); (case c2 => exact rfl); (case c3 => exact rfl); (case c4 => exact rfl); k_whole; intro g' L' h' FG' F' N' B' X' T'; (try dsimp only); (try k_lift B'); (try k_fold))
  k_with "call builtin:len" => (k_here; (with_reducible show wpAny _ _ (call (Value.builtin "len") [Value.str (Str.mk (List.toArray _)) _]) _ _ _); k_dflt (refine' len_mk ?k1 ?_; (case k1 => omega)); intro t9 k9)
  k_with "getAttr ref" => (k_here; k_dflt (refine' get_ents (K := Kx _) (C := 869) ?k1 ?k2 ?k3 ?k4 ?k5 ?k6 ?_; (case k1 => k_asm); (case k2 => k_asm); (case k3 => k_asm); (case k6 => with_reducible first | exact fsL_pushback | exact fsL_filestack | exact fsL_source | exact fsL_eof | exact fsL_debug); (case k4 => kernel_rfl); (case k5 => kernel_rfl)); intro t9 k9; (try dsimp only [PV.av]))
  k_with "truthy ref" => (k_here; k_dflt (refine' truthy_dq (News.get (by k_asm) (by (repeat (first | exact List.Mem.head _ | apply List.Mem.tail)))) ?_))
  k_with "call ref" => (k_here; k_dflt (refine' callUse (token_call _ _ _ _ _ _ _ _ _ _ _ _ _ _ _ _ _ _ _ _ _ _ _ _ _ _ ?q1 ?q2 ?q3 ?q4 ?q5 ?q6 ?q7 ?q8 ?q9 ?q10 ?q11 ?q12) ?k1 ?k2 ?k3 ?k4 ?k5 ?kK ?kd ?ku ?_; (case k4 => k_asm); (case q1 => assumption); (case q2 => assumption); (case q3 => assumption); (case q4 => assumption); (case q5 => assumption); (case q6 => assumption); (case q7 => assumption); (case q8 => assumption); (case q9 => assumption); (case q10 => assumption); (case q11 => assumption); (case q12 => assumption); (case k1 => k_asm); (case k2 => k_asm); (case k3 => k_asm); (case k5 => k_asm); (case kK => first | exact rfl | assumption); (case kd => ktr_room); (case ku => ktr_units)); intro v9 vt9 ln9 tp9 pos9 rv9 dr9 le9 h9 tk9 F9 N9; (try dsimp only); (try k_sweep); (try k_fold))
  intro mean mg mb dp un gd cn cs a ccd cl outer A₀ base h₀ L m s Q E B F X N T hk hd hu hret
  refine wpAny_call ?_
  k_dflt walk_at "mine enter"
  k_steps
  (with_reducible rename resV _ _ => RV)
  have RV' := RV
  unfold resV at RV
  split at RV
  · subst RV
    k_steps
    exact hret _ _ _ _ _ RV' (by assumption) (by assumption) _ _ (by k_asm) (by k_asm)
  · obtain ⟨t8, RV⟩ := RV
    subst RV
    k_steps
    exact hret _ _ _ _ _ RV' (by assumption) (by assumption) _ _ (by k_asm) (by k_asm)

end
section
set_option maxRecDepth 100000
set_option maxHeartbeats 8000000
theorem owit_stopS {M : Model} {A A₀ : Around} {E : Value → Shared → Prop} {s : Shared} {base g G : Heap} {outer : List Env} {L a e t : Addr} {m : Str → Option Value} {name : Str} {scope : Scope} {cd : Value} {vs : List Value} {news : List (Addr × Obj)} {KF : Frag}
    {p : Program} {loose : List Str} {mean : ExcName → Option Value} {mg mb : Str → Option Value} {X : String} {Q : Option Value → Shared → Prop}
    (R : RaisedS base G (envOf name scope L a cd :: outer) e (.type X) t vs news s.heap) (K : Below A₀ base outer g) (F : Fr g L G m) (hsm : G.UpToSlots s.heap) (XB : KF.In base) (TB : Top p loose mean mg mb base) (D : KtsDicts (outer.filterMap (·.frame)) g)
    (hsub : isSubtype (.type X) (.type "StopIteration") = pure true)
    (k : ∀ g', KtsTurn (outer.filterMap (·.frame)) g g' → Fr g' L s.heap m → News g' L s.heap news → Below A₀ base outer g' → KF.In g' → Top p loose mean mg mb g' → KtsDicts (outer.filterMap (·.frame)) g' → Q none s) : OwitStop M A Q E (.ref e) s := by
  obtain ⟨⟨B, hB, hBG, hl, hfl, hnew⟩, htup⟩ := R
  have hL : B.get? L = none := by
    obtain ⟨_, ⟨L', _, hf, hn', _⟩, _⟩ := hfl.2.2.1
    obtain rfl : L = L' := Option.some.inj hf
    exact hn'
  obtain ⟨g₅, T₅, F₅, K₅⟩ := kts_ground K F hBG hfl.1 hsm
  obtain ⟨ob, hob, hobc⟩ := hfl.there
  have hT : s.TypeIs (.ref e) X := (show ∃ o, s.heap.get? e = some o ∧ o.cls = .type X from ⟨ob, hob, hobc⟩)
  unfold OwitStop
  refine wpAny_isInstance hT hsub ?_
  show (if true = true then Q none s else E (.ref e) s)
  rw [if_pos rfl]
  exact k g₅ T₅ F₅ (fun q hq => ⟨hfl.1 _ _ (hl q hq).1, (fun z => by have := (hl q hq).1; rw [z, hL] at this; cases this), T₅.none_ _ (kts_none F.keep (hl q hq).2.1)⟩) K₅ (XB.keeps K₅.stays) (TB.keeps K₅.stays) (D.turn T₅)
theorem next_call (w : World) (io dio lx dlx pb fs : Addr) (h1 h2 h3 : Int) (k1 k2 k3 tn tb tp : Tok) (hs : Nat → Int) (ks vt : Nat → Tok) (line : List Nat) (pos : Nat) (ln : Int) (x y : Lx) (r' : List Nat) (u1 u2 : Tok) (rest : List (Addr × Obj))
    (hne1 : io ≠ dio) (hne2 : lx ≠ dlx) (hne3 : lx ≠ dio) (hne4 : io ≠ dlx) (hne5 : dio ≠ dlx) (hr : ∀ p ∈ (pb, dqO u1) :: (fs, dqO u2) :: rest, p.1 ≠ dio) (hr2 : ∀ p ∈ (pb, dqO u1) :: (fs, dqO u2) :: rest, p.1 ≠ dlx) (hb : line.length ≤ 99999) (hp : pos ≤ line.length) (hx : x.tok = [] ∧ x.quoted = false) (hst : x.st ≠ .bs) (hrun : lexRun x (line.drop pos) = some (y, r')) :
    ∀ (mean : ExcName → Option Value) (mg mb : Str → Option Value) (dp un : Nat) (gd : Option (List Code)) (cn : Str) (cs : Scope) (a : Addr) (ccd : Value) (outer : List Env) (A₀ : Around) (base h₀ : Heap) (L : Addr) (m : Str → Option Value) (s : Shared) (Q : Option Value → Shared → Prop) (E : Value → Shared → Prop),
    Below A₀ base outer h₀ → Fr h₀ L s.heap m → (Mine.hd.heap_39 w.params).In h₀ → News h₀ L s.heap ((lx, instObj 869 dlx) :: (dlx, W.dictOf (ents hs ks vt 0 (fsL io pb fs (stP x.st) (.txt (mkS [])) ln)) 19) :: (io, instObj 734 dio) :: (dio, ioD h1 h2 h3 k1 k2 k3 tn tb tp line pos) :: (pb, dqO u1) :: (fs, dqO u2) :: rest) → Top Mine.hd.view_39 loo mean mg mb h₀ → (Mine.hd.heap_39 w.params).In base → Top Mine.hd.view_39 loo mean mg mb base → KtsDicts (outer.filterMap (·.frame)) h₀ → cs.kind = .function → dp + 26 < recursionLimit → un + 260 < cLine →
    (∀ t vt' ln' tp' pos', ¬ (y.quoted = false ∧ y.tok = []) → line.drop pos' = r' → pos' ≤ line.length → ∀ h' tk', Fr h₀ L h' m →
      News h₀ L h' ((lx, instObj 869 dlx) :: (dlx, W.dictOf (ents hs ks vt' 0 (fsL io pb fs (stP y.st) (.txt (mkS [])) ln')) 19) :: (io, instObj 734 dio) :: (dio, ioD h1 h2 h3 k1 k2 k3 tn tb tp' line pos') :: (pb, dqO u1) :: (fs, dqO u2) :: rest) → Q (some (.str (mkS y.tok) t)) { s with heap := h', toks := tk' }) →
    (∀ vt' ln' tp' pos', (y.quoted = false ∧ y.tok = []) → line.drop pos' = r' → pos' ≤ line.length → ∀ g' h' tk', KtsTurn (outer.filterMap (·.frame)) h₀ g' → Fr g' L h' m → Below A₀ base outer g' → (Mine.hd.heap_39 w.params).In g' → Top Mine.hd.view_39 loo mean mg mb g' → KtsDicts (outer.filterMap (·.frame)) g' →
      News g' L h' ((lx, instObj 869 dlx) :: (dlx, W.dictOf (ents hs ks vt' 0 (fsL io pb fs (stP y.st) (.txt (mkS [])) ln')) 19) :: (io, instObj 734 dio) :: (dio, ioD h1 h2 h3 k1 k2 k3 tn tb tp' line pos') :: (pb, dqO u1) :: (fs, dqO u2) :: rest) → Q none { s with heap := h', toks := tk' }) →
    wpAny (model pw w) (ktrTop dp un gd cn cs L a ccd [] outer) (pyNext (.ref lx)) Q E s := by
  w_top off
  k_with_none
  k_with "mine enter" => (refine' code_def ?k1 ?k2 ?k3 ?k4 ?k5 ?kA ?kF ?kK ?k6 ?k7 ?k8 ?k9 ?kB ?_ ?c2 ?c3 ?c4 ?c5; (case kA => exact rfl); (case kF => exact rfl); (case kK => first | exact rfl | assumption); (case k1 => k_asm); (case k2 => k_asm); (case k3 => k_asm); (case k4 => k_asm); (case k5 => k_asm); (case k6 => k_is); (case k7 => k_is); (case k8 => ktr_room); (case k9 => first | exact BindsTo.of_eq rfl | exact binds_K (by k_in) rfl (by k_is) rfl rfl rfl); (case c5 => decide); (case kB => exact locs rfl); (case c2 => exact rfl); (case c3 => exact rfl); (case c4 => exact rfl); k_whole; intro g' L' h' FG' F' N' B' X' T'; (try dsimp only); (try k_lift B'); (try k_fold))
  k_with "call builtin:len" => (k_here; (with_reducible show wpAny _ _ (call (Value.builtin "len") [Value.str (Str.mk (List.toArray _)) _]) _ _ _); k_dflt (refine' len_mk ?k1 ?_; (case k1 => omega)); intro t9 k9)
  k_with "getAttr ref" => (k_here; k_dflt (refine' get_ents (K := Kx _) (C := 869) ?k1 ?k2 ?k3 ?k4 ?k5 ?k6 ?_; (case k1 => k_asm); (case k2 => k_asm); (case k3 => k_asm); (case k6 => with_reducible first | exact fsL_pushback | exact fsL_filestack | exact fsL_source | exact fsL_eof | exact fsL_debug); (case k4 => kernel_rfl); (case k5 => kernel_rfl)); intro t9 k9; (try dsimp only [PV.av]))
  k_with "call ref" => (k_here; k_dflt (refine' callUse (get_call _ _ _ _ _ _ _ _ _ _ _ _ _ _ _ _ _ _ _ _ _ _ _ _ _ _ _ _ ?q1 ?q2 ?q3 ?q4 ?q5 ?q6 ?q7 ?q8 ?q9 ?q10 ?q11 ?q12) ?k1 ?k2 ?k3 ?k4 ?k5 ?kK ?kd ?ku ?_; (case k4 => k_asm); (case q1 => assumption); (case q2 => assumption); (case q3 => assumption); (case q4 => assumption); (case q5 => assumption); (case q6 => assumption); (case q7 => assumption); (case q8 => assumption); (case q9 => assumption); (case q10 => assumption); (case q11 => assumption); (case q12 => assumption); (case k1 => k_asm); (case k2 => k_asm); (case k3 => k_asm); (case k5 => k_asm); (case kK => first | exact rfl | assumption); (case kd => ktr_room); (case ku => ktr_units)); intro v9 vt9 ln9 tp9 pos9 rv9 dr9 le9 h9 tk9 F9 N9; (try dsimp only); (try k_sweep); (try k_fold))
  intro mean mg mb dp un gd cn cs a ccd outer A₀ base h₀ L m s Q E B F X N T XB TB D hk hd hu hret hend
  refine' owit_next (C := 869) F X (InstAt.of_news N (.head _) (.tail _ (.head _))) ?hs ?hf ?_
  case hs => k_is
  case hf => k_is
  refine wpAny_call ?_
  k_dflt walk_at "mine enter"
  k_steps
  (with_reducible rename resV _ _ => RV)
  have RV' := RV
  unfold resV at RV
  split at RV
  · subst RV
    k_steps
    (with_reducible rename RaisedS _ _ _ _ _ _ _ _ _ => rsX)
    refine owit_stopS rsX B (by assumption) (by assumption) XB TB (by assumption) (by first | rfl | kernel_rfl | decide) fun g₉ T₉ F₉ N₉ B₉ X₉ P₉ D₉ => ?_
    exact hend _ _ _ _ (by assumption) (by assumption) (by assumption) g₉ _ _ T₉ F₉ B₉ X₉ P₉ D₉ N₉
  · obtain ⟨t8, RV⟩ := RV
    subst RV
    k_steps
    exact hret _ _ _ _ _ (by assumption) (by assumption) (by assumption) _ _ (by k_asm) (by k_asm)

end
section
open PySem.Builtin
set_option maxRecDepth 100000
/-! list(x) of an iterator of one's own -/
section
variable {prog : Program} {w : World} {A : Around} {E : Value → Shared → Prop} {s : Shared} {h₀ : Heap} {L : Addr} {m : Str → Option Value}
theorem upd_seq {M : Model} {S : Addr} {its : Array Value} {c : Nat} {news : List (Addr × Obj)} {f : Array Value → Array Value} {Q : Unit → Shared → Prop} (F : Fr h₀ L s.heap m) (N : News h₀ L s.heap ((S, W.listOf its c) :: news)) (hap : ∀ p ∈ news, p.1 ≠ S)
    (h1 : its.size ≤ sizeLine) (h2 : (f its).size ≤ sizeLine + 1) (h : ∀ h' c', Fr h₀ L h' m → News h₀ L h' ((S, W.listOf (f its) c') :: news) → Q () { s with heap := h' }) : wpAny M A (updateSeq S f) Q E s := by
  have z := N _ (.head _)
  refine wpAny_updateSeq (hz := h1) (_hz' := h2) z.1 rfl (h _ _ (F.change (Heap.SameBut.update ..) z.2.1 z.2.2) (news_set (pre := []) N (fun _ h => (nomatch h)) hap (Heap.SameBut.update ..) (Heap.get?_update_self _ z.1 rfl)))
variable {S I : Addr} {res : Value} {R : Result → Shared → Prop}
theorem extend_own (T : Nat → List Value → List (Addr × Obj) → Prop) (Fin : List Value → Shared → Prop)
    (ap : ∀ k acc news, T k acc news → (∀ p ∈ news, p.1 ≠ S) ∧ acc.length ≤ 1000)
    (stepN : ∀ k acc news c (s : Shared) (Q : Option Value → Shared → Prop) (E : Value → Shared → Prop), T (k + 1) acc news → Fr h₀ L s.heap m → News h₀ L s.heap ((S, W.listOf acc.toArray c) :: news) →
      (∀ v news' h' tk', Fr h₀ L h' m → News h₀ L h' ((S, W.listOf acc.toArray c) :: news') → (∀ p ∈ news', p.1 ≠ S) → T k (acc ++ [v]) news' → Q (some v) { s with heap := h', toks := tk' }) → wpAny (model prog w) A.in1 (pyNext (.ref I)) Q E s)
    (step0 : ∀ acc news c (s : Shared) (Q : Option Value → Shared → Prop) (E : Value → Shared → Prop), T 0 acc news → Fr h₀ L s.heap m → News h₀ L s.heap ((S, W.listOf acc.toArray c) :: news) →
      (∀ h' tk', Fin acc { s with heap := h', toks := tk' } → Q none { s with heap := h', toks := tk' }) → wpAny (model prog w) A.in1 (pyNext (.ref I)) Q E s) :
    ∀ (k : Nat) (acc : List Value) (news : List (Addr × Obj)) (c : Nat) (s : Shared), T k acc news → Fr h₀ L s.heap m → News h₀ L s.heap ((S, W.listOf acc.toArray c) :: news) →
      (∀ acc' h' tk', Fin acc' { s with heap := h', toks := tk' } → R (.ok (.ret res)) { s with heap := h', toks := tk' }) →
      codeAny (model prog w) A (.builtin "list.extend.loop" ⟨[.ref S, .ref I, res], []⟩) R s := by
  intro k
  induction k with
  | zero =>
    intro acc news c s hT F N hR
    refine codeAny_builtin PySem.F.entry_extend_loop ?_
    rw [Around.under_plainId PySem.F.plain_extend_loop _]
    show wpAny _ A.in1 (pyNext (.ref I) >>= _) _ _ s
    refine wpAny_bind (step0 acc news c s _ _ hT F N fun h' tk' hf => ?_)
    exact wpAny_pure (hR acc h' tk' hf)
  | succ k ih =>
    intro acc news c s hT F N hR
    refine codeAny_builtin PySem.F.entry_extend_loop ?_
    rw [Around.under_plainId PySem.F.plain_extend_loop _]
    show wpAny _ A.in1 (pyNext (.ref I) >>= _) _ _ s
    refine wpAny_bind (stepN k acc news c s _ _ hT F N fun v news' h' tk' F' N' ap' hT' => ?_)
    show wpAny _ A.in1 (updateSeq S (·.push v) >>= _) _ _ _
    have hl := (ap _ _ _ hT).2
    refine wpAny_bind (upd_seq (s := ⟨h', _, _, tk', _⟩) F' N' ap' (by rw [sizeLine_eq]; simp; omega) (by rw [sizeLine_eq]; simp; omega) fun h2 c2 F2 N2 => ?_)
    refine wpAny_pure ⟨plainId_quiet PySem.F.plain_extend_loop _, ?_⟩
    refine ih (acc ++ [v]) news' c2 _ hT' F2 ?_ fun acc' h3 tk3 hf => hR acc' h3 tk3 hf
    have e : (acc ++ [v]).toArray = acc.toArray.push v := by simp
    rw [e]
    exact N2
theorem list_own {K : Frag} {C : Addr} {ox : Obj} {od : Option Obj} {news : List (Addr × Obj)} {Q : Value → Shared → Prop} (T : Addr → Nat → List Value → List (Addr × Obj) → Prop) (Fin : Addr → List Value → Shared → Prop) (k : Nat)
    (F : Fr h₀ L s.heap m) (X : K.In h₀) (N : News h₀ L s.heap news) (I' : ∀ h, News h₀ L h news → InstAt h I ox C od)
    (hlen : findIn K (.ref C) "__len__" = some none) (hhint : findIn K (.ref C) "__length_hint__" = some none)
    (hT0 : ∀ S, (∀ p ∈ news, p.1 ≠ S) → T S k [] news)
    (hI : ∃ o, (I, o) ∈ news)
    (iter : ∀ (s : Shared) (nw : List (Addr × Obj)) (Q : Value → Shared → Prop) (E : Value → Shared → Prop), Fr h₀ L s.heap m → News h₀ L s.heap (nw ++ news) → (∀ h' tk', Fr h₀ L h' m → News h₀ L h' (nw ++ news) → Q (.ref I) { s with heap := h', toks := tk' }) → wpAny (model prog w) A.in1.in1 (pyIter (.ref I)) Q E s)
    (ap : ∀ S k acc news, T S k acc news → (∀ p ∈ news, p.1 ≠ S) ∧ acc.length ≤ 1000)
    (stepN : ∀ S k acc news c (s : Shared) (Q : Option Value → Shared → Prop) (E : Value → Shared → Prop), T S (k + 1) acc news → Fr h₀ L s.heap m → News h₀ L s.heap ((S, W.listOf acc.toArray c) :: news) →
      (∀ v news' h' tk', Fr h₀ L h' m → News h₀ L h' ((S, W.listOf acc.toArray c) :: news') → (∀ p ∈ news', p.1 ≠ S) → T S k (acc ++ [v]) news' → Q (some v) { s with heap := h', toks := tk' }) → wpAny (model prog w) A.in1.in1 (pyNext (.ref I)) Q E s)
    (step0 : ∀ S acc news c (s : Shared) (Q : Option Value → Shared → Prop) (E : Value → Shared → Prop), T S 0 acc news → Fr h₀ L s.heap m → News h₀ L s.heap ((S, W.listOf acc.toArray c) :: news) →
      (∀ h' tk', Fin S acc { s with heap := h', toks := tk' } → Q none { s with heap := h', toks := tk' }) → wpAny (model prog w) A.in1.in1 (pyNext (.ref I)) Q E s)
    (q : ∀ S acc h' tk', Fin S acc { s with heap := h', toks := tk' } → Q (.ref S) { s with heap := h', toks := tk' }) :
    wpAny (model prog w) A (call (.type "list") [.ref I]) Q E s := by
  refine callType_codes (Q₁ := fun obj s₁ => obj = .ref s.heap.objs.size ∧ s₁ = { s with heap := s.heap.push { cls := .type "list", data := .seq #[] } }) PySem.F.called_list (PySem.F.typeCall_list_1 _) PySem.F.entry_list_init
    (code_list_new _ ⟨rfl, rfl⟩) fun obj s₁ h₁ => ?_
  obtain ⟨rfl, rfl⟩ := h₁
  have hS : (s.heap.push { cls := .type "list", data := .seq #[] }).get? s.heap.objs.size = some { cls := .type "list", data := .seq #[] } := Heap.get?_push_size _ rfl
  refine ⟨⟨_, hS, rfl⟩, PySem.F.args_list_init_2 _ _, ?_⟩
  have F1 := F.push { cls := .type "list", data := .seq #[] }
  have N1 : News h₀ L _ ((s.heap.objs.size, W.listOf #[] 0) :: news) := N.push F { cls := .type "list", data := .seq #[] }
  have ap0 : ∀ p ∈ news, p.1 ≠ s.heap.objs.size := fun p hp => Nat.ne_of_lt (Heap.lt_size (N p hp).1)
  generalize s.heap.objs.size = S at *
  generalize s.heap.push _ = h1 at *
  show wpAny _ A.in1.in1 (do let old ← Builtin.List.listItems (.ref S); Builtin.List.listUpdate (.ref S) (fun _ => #[]); letGo old.toList.reverse; Builtin.List.listExtendWith (.ref S) (.ref I) .none) _ _ _
  refine wpAny_bind ?_
  unfold Builtin.List.listItems
  refine wpAny_bind (wpAny_seqItems hS rfl (wpAny_pure ?_))
  refine wpAny_bind (upd_seq (s := ⟨h1, _, _, _, _⟩) F1 N1 ap0 (by rw [sizeLine_eq]; decide) (by rw [sizeLine_eq]; decide) fun h2 c2 F2 N2 => ?_)
  refine wpAny_bind (wpAny_letGo ?_)
  unfold Builtin.List.listExtendWith
  have I2 := I' h2 fun p hp => N2 p (.tail _ hp)
  have hSI : S ≠ I := by
    obtain ⟨o, ho⟩ := hI
    exact fun e => ap0 _ ho e.symm
  refine wpAny_bind (I2.type.here ?_)
  have h1' : Builtin.List.listSameRef (.ref S) (.ref I) = false := by simp [Builtin.List.listSameRef, hSI]
  have h2' : (Value.ref C == Value.type "list") = false := rfl
  have h3' : (Value.ref C == Value.type "tuple") = false := rfl
  simp only [h1', h2', h3', Bool.or_false, Bool.false_eq_true, if_false]
  refine wpAny_bind (iter ⟨h2, _, _, _, _⟩ [(S, W.listOf #[] c2)] _ _ F2 N2 fun h3 tk3 F3 N3 => ?_)
  have I3 := I' h3 fun p hp => N3 p (.tail _ hp)
  have X3 := X.keeps F3.keep
  refine wpAny_bind (wpAny_holding ?_)
  unfold Builtin.List.listLengthHint specialOf
  refine wpAny_bind (wpAny_bind (I3.type.here ((looks_findIn X3 hlen).here ?_)))
  show wpAny _ A.in1.in1 ((do let t ← typeOf (Value.ref I); typeLookup t (Str.ofString "__length_hint__")) >>= _) _ _ _
  refine wpAny_bind (wpAny_bind (I3.type.here ((looks_findIn X3 hhint).here ?_)))
  refine wpAny_pure ?_
  show wpAny _ A.in1.in1 (rule "list.extend.makes-room" >>= fun _ => Builtin.List.listTouch (.ref S) >>= fun _ =>
    again (.builtin "list.extend.loop" ⟨[.ref S, .ref I, .none], []⟩)) _ _ _
  refine wpAny_bind (wpAny_rule ?_)
  refine wpAny_bind ?_
  show wpAny _ A.in1.in1 (updateSeq S (·.push .none) >>= fun _ => updateSeq S (·.pop)) _ _ _
  refine wpAny_bind (upd_seq (s := ⟨h3, _, _, tk3, _⟩) F3 N3 ap0 (by rw [sizeLine_eq]; decide) (by rw [sizeLine_eq]; decide) fun h4 c4 F4 N4 => ?_)
  refine upd_seq (s := ⟨h4, _, _, tk3, _⟩) F4 N4 ap0 (by rw [sizeLine_eq]; decide) (by rw [sizeLine_eq]; decide) fun h5 c5 F5 N5 => ?_
  refine wpAny_pure ⟨plainId_quiet PySem.F.plain_extend_loop _, ?_⟩
  refine extend_own (A := A.in1) (T S) (Fin S) (ap S) (stepN S) (step0 S) k [] news c5 _ (hT0 S ap0) F5 N5 fun acc' h' tk' hf => ?_
  exact ⟨rfl, q S acc' h' tk' hf⟩
end

end
section
set_option maxRecDepth 100000
set_option maxHeartbeats 8000000
theorem iter_call (w : World) (lx dlx : Addr) (od : Obj) (news : List (Addr × Obj)) : Call w 859 [.ref lx] ((lx, instObj 869 dlx) :: (dlx, od) :: news) 3 20 fun K => K (.ref lx) ((lx, instObj 869 dlx) :: (dlx, od) :: news) := by
  w_top off
  k_with_none
  k_with "mine enter" => (refine' code_def ?k1 ?k2 ?k3 ?k4 ?k5 ?kA ?kF ?kK ?k6 ?k7 ?k8 ?k9 ?kB ?_ ?c2 ?c3 ?c4 ?c5; (case kA => exact rfl); (case kF => exact rfl); (case kK => first | exact rfl | assumption); (case k1 => k_asm); (case k2 => k_asm); (case k3 => k_asm); (case k4 => k_asm); (case k5 => k_asm); (case k6 => k_is); (case k7 => k_is); (case k8 => ktr_room); (case k9 => first | exact BindsTo.of_eq rfl | exact binds_K (by k_in) rfl (by k_is) rfl rfl rfl); (case c5 => decide); (case kB => exact locs rfl); (case c2 => exact rfl); (case c3 => exact rfl); (case c4 => exact rfl); k_whole; intro g' L' h' FG' F' N' B' X' T'; (try dsimp only); (try k_lift B'); (try k_fold))
  k_with "call builtin:len" => (k_here; (with_reducible show wpAny _ _ (call (Value.builtin "len") [Value.str (Str.mk (List.toArray _)) _]) _ _ _); k_dflt (refine' len_mk ?k1 ?_; (case k1 => omega)); intro t9 k9)
  intro mean mg mb dp un gd cn cs a ccd cl outer A₀ base h₀ L m s Q E B F X N T hk hd hu hret
  refine wpAny_call ?_
  k_dflt walk_at "mine enter"
  k_steps
  exact hret _ _ (by k_asm) (by k_asm)
theorem iter_py (w : World) (lx dlx : Addr) (es : List DictEntry) (nn : Nat) (news : List (Addr × Obj)) {mean : ExcName → Option Value} {mg mb : Str → Option Value} {dp un : Nat} {gd : Option (List Code)} {cn : Str} {cs : Scope} {a : Addr} {ccd : Value} {cl : List (Str × Addr)} {outer : List Env} {A₀ : Around} {base h₀ : Heap} {L : Addr} {m : Str → Option Value} {s : Shared} {Q E : Value → Shared → Prop}
    (B : Below A₀ base outer h₀) (F : Fr h₀ L s.heap m) (X : (Mine.hd.heap_39 w.params).In h₀) (N : News h₀ L s.heap ((lx, instObj 869 dlx) :: (dlx, W.dictOf es nn) :: news)) (T : Top Mine.hd.view_39 loo mean mg mb h₀) (hk : cs.kind = .function) (hd : dp + 3 < recursionLimit) (hu : un + 20 < cLine)
    (q : ∀ h' tk', Fr h₀ L h' m → News h₀ L h' ((lx, instObj 869 dlx) :: (dlx, W.dictOf es nn) :: news) → Q (.ref lx) { s with heap := h', toks := tk' }) :
    wpAny (model pw w) (ktrTop dp un gd cn cs L a ccd cl outer) (pyIter (.ref lx)) Q E s := by
  refine' owit_iter (C := 869) F X (InstAt.of_news N (.head _) (.tail _ (.head _))) ?hs ?hf ?_
  case hs => k_is
  case hf => k_is
  refine iter_call w lx dlx _ news _ _ _ _ _ _ _ _ _ _ _ _ _ _ _ _ _ _ _ _ B F X N T hk hd hu ?_
  intro h' tk' F' N'
  refine' owit_it (C := 869) F' X (InstAt.of_news N' (.head _) (.tail _ (.head _))) ?hs2 (q h' tk' F' N')
  case hs2 => k_is

end
section
set_option maxRecDepth 100000
set_option maxHeartbeats 8000000
noncomputable abbrev lexN (lx dlx io dio pb fs : Addr) (h1 h2 h3 : Int) (k1 k2 k3 tn tb tp : Tok) (hs : Nat → Int) (ks vt : Nat → Tok) (line : List Nat) (st : LS) (ln : Int) (pos : Nat) (u1 u2 : Tok) : List (Addr × Obj) :=
  [(lx, instObj 869 dlx), (dlx, W.dictOf (ents hs ks vt 0 (fsL io pb fs (stP st) (.txt (mkS [])) ln)) 19), (io, instObj 734 dio), (dio, ioD h1 h2 h3 k1 k2 k3 tn tb tp line pos), (pb, dqO u1), (fs, dqO u2)]
theorem strsAre_snoc {vs : List Value} {xs : List Str} {x : Str} {t : Tok} (h : StrsAre vs xs) : StrsAre (vs ++ [.str x t]) (xs ++ [x]) := by
  induction h with
  | nil => exact .cons _ _ .nil
  | cons _ _ _ ih => exact .cons _ _ ih
theorem news_in {h₀ h : Heap} {L : Addr} {x a b : List (Addr × Obj)} (N : News h₀ L h (x ++ (a ++ b))) : News h₀ L h (a ++ (x ++ b)) := fun p hp => N p (by
  simp only [List.mem_append] at hp ⊢
  rcases hp with h | h | h <;> simp [h])
theorem swapIn {h₀ h : Heap} {L : Addr} {x p1 p2 p3 p4 p5 p6 : Addr × Obj} {b : List (Addr × Obj)} (N : News h₀ L h (x :: ([p1, p2, p3, p4, p5, p6] ++ b))) : News h₀ L h (p1 :: p2 :: p3 :: p4 :: p5 :: p6 :: x :: b) := news_in (x := [x]) (a := [p1, p2, p3, p4, p5, p6]) N
theorem swapOut {h₀ h : Heap} {L : Addr} {x p1 p2 p3 p4 p5 p6 : Addr × Obj} {b : List (Addr × Obj)} (N : News h₀ L h (p1 :: p2 :: p3 :: p4 :: p5 :: p6 :: x :: b)) : News h₀ L h (x :: ([p1, p2, p3, p4, p5, p6] ++ b)) := news_in (x := [p1, p2, p3, p4, p5, p6]) (a := [x]) N
theorem offS {S d : Addr} {o : Obj} {p1 p2 : Addr × Obj} {b : List (Addr × Obj)} (h : d ≠ S) (hr : ∀ p ∈ p1 :: p2 :: b, p.1 ≠ d) : ∀ p ∈ p1 :: p2 :: (S, o) :: b, p.1 ≠ d := by
  intro p hp
  rcases List.mem_cons.mp hp with rfl | hp
  · exact hr _ (.head _)
  · rcases List.mem_cons.mp hp with rfl | hp
    · exact hr _ (.tail _ (.head _))
    · rcases List.mem_cons.mp hp with rfl | hp
      · exact fun e => h e.symm
      · exact hr _ (.tail _ (.tail _ hp))
theorem keysEq {S a1 a2 a3 a4 a5 a6 : Addr} {o1 o2 o3 o4 o5 o6 o1' o2' o3' o4' o5' o6' : Obj} {b : List (Addr × Obj)} (h : ∀ p ∈ [(a1, o1), (a2, o2), (a3, o3), (a4, o4), (a5, o5), (a6, o6)] ++ b, p.1 ≠ S) : ∀ p ∈ [(a1, o1'), (a2, o2'), (a3, o3'), (a4, o4'), (a5, o5'), (a6, o6')] ++ b, p.1 ≠ S := by
  simp only [List.cons_append, List.nil_append, List.forall_mem_cons] at h ⊢
  exact h
theorem strsAre_len {vs : List Value} {xs : List Str} (h : StrsAre vs xs) : vs.length = xs.length := by
  induction h with
  | nil => rfl
  | cons _ _ _ ih => simp [ih]
inductive LxS (io dio lx dlx pb fs : Addr) (h1 h2 h3 : Int) (k1 k2 k3 tn tb : Tok) (hs : Nat → Int) (ks : Nat → Tok) (line : List Nat) (u1 u2 : Tok) (rest : List (Addr × Obj)) (ws : List (List Nat)) (S : Addr) (k : Nat) (acc : List Value) (news : List (Addr × Obj)) : Prop
  | mk (st : LS) (vt : Nat → Tok) (ln : Int) (tp : Tok) (pos : Nat) (wd wr : List (List Nat)) (e1 : LexAll st (line.drop pos) wr) (e2 : StrsAre acc (wd.map mkS)) (e3 : wd ++ wr = ws) (e4 : wr.length = k) (e5 : st ≠ .bs) (e6 : pos ≤ line.length) (e7 : ∀ p ∈ news, p.1 ≠ S)
    (e8 : news = lexN lx dlx io dio pb fs h1 h2 h3 k1 k2 k3 tn tb tp hs ks vt line st ln pos u1 u2 ++ rest) : LxS io dio lx dlx pb fs h1 h2 h3 k1 k2 k3 tn tb hs ks line u1 u2 rest ws S k acc news
theorem lex_list (w : World) (io dio lx dlx pb fs : Addr) (h1 h2 h3 : Int) (k1 k2 k3 tn tb tp : Tok) (hs : Nat → Int) (ks vt : Nat → Tok) (line : List Nat) (ln : Int) (st : LS) (u1 u2 : Tok) (rest : List (Addr × Obj)) (ws : List (List Nat))
    (hne1 : io ≠ dio) (hne2 : lx ≠ dlx) (hne3 : lx ≠ dio) (hne4 : io ≠ dlx) (hne5 : dio ≠ dlx) (hr : ∀ p ∈ (pb, dqO u1) :: (fs, dqO u2) :: rest, p.1 ≠ dio) (hr2 : ∀ p ∈ (pb, dqO u1) :: (fs, dqO u2) :: rest, p.1 ≠ dlx) (hb : line.length ≤ 99999) (hst : st ≠ .bs) (hall : LexAll st line ws) (hws : ws.length ≤ 1000)
    {mean : ExcName → Option Value} {mg mb : Str → Option Value} {dp un : Nat} {gd : Option (List Code)} {cn : Str} {cs : Scope} {a : Addr} {ccd : Value} {outer : List Env} {A₀ : Around} {base h₀ : Heap} {L : Addr} {m : Str → Option Value} {s : Shared} {Q E : Value → Shared → Prop}
    (B : Below A₀ base outer h₀) (F : Fr h₀ L s.heap m) (X : (Mine.hd.heap_39 w.params).In h₀) (N : News h₀ L s.heap (lexN lx dlx io dio pb fs h1 h2 h3 k1 k2 k3 tn tb tp hs ks vt line st ln 0 u1 u2 ++ rest)) (T : Top Mine.hd.view_39 loo mean mg mb h₀) (XB : (Mine.hd.heap_39 w.params).In base) (TB : Top Mine.hd.view_39 loo mean mg mb base) (D : KtsDicts (outer.filterMap (·.frame)) h₀) (hk : cs.kind = .function) (hd : dp + 30 < recursionLimit) (hu : un + 300 < cLine)
    (q : ∀ S acc c vt ln tp st' g' h' tk', StrsAre acc (ws.map mkS) → KtsTurn (outer.filterMap (·.frame)) h₀ g' → Fr g' L h' m → Below A₀ base outer g' → (Mine.hd.heap_39 w.params).In g' → Top Mine.hd.view_39 loo mean mg mb g' → KtsDicts (outer.filterMap (·.frame)) g' →
      News g' L h' ((S, W.listOf acc.toArray c) :: (lexN lx dlx io dio pb fs h1 h2 h3 k1 k2 k3 tn tb tp hs ks vt line st' ln line.length u1 u2 ++ rest)) → Q (.ref S) { s with heap := h', toks := tk' }) :
    wpAny (model pw w) (ktrTop dp un gd cn cs L a ccd [] outer) (call (.type "list") [.ref lx]) Q E s := by
  refine list_own (K := Kx w) (C := 869) (ox := instObj 869 dlx) (od := some (W.dictOf (ents hs ks vt 0 (fsL io pb fs (stP st) (.txt (mkS [])) ln)) 19)) (news := lexN lx dlx io dio pb fs h1 h2 h3 k1 k2 k3 tn tb tp hs ks vt line st ln 0 u1 u2 ++ rest)
    (LxS io dio lx dlx pb fs h1 h2 h3 k1 k2 k3 tn tb hs ks line u1 u2 rest ws)
    (fun S acc s' => ∃ c vt ln tp st' g', StrsAre acc (ws.map mkS) ∧ KtsTurn (outer.filterMap (·.frame)) h₀ g' ∧ Fr g' L s'.heap m ∧ Below A₀ base outer g' ∧ (Mine.hd.heap_39 w.params).In g' ∧ Top Mine.hd.view_39 loo mean mg mb g' ∧ KtsDicts (outer.filterMap (·.frame)) g' ∧
      News g' L s'.heap ((S, W.listOf acc.toArray c) :: (lexN lx dlx io dio pb fs h1 h2 h3 k1 k2 k3 tn tb tp hs ks vt line st' ln line.length u1 u2 ++ rest)))
    ws.length F X N (fun h N => InstAt.of_news N (.head _) (.tail _ (.head _))) (by kernel_rfl) (by kernel_rfl) ?t0 ⟨_, .head _⟩ ?it ?ap ?sN ?s0 ?q
  case t0 => exact fun S hap => ⟨st, vt, ln, tp, 0, [], ws, hall, .nil, rfl, rfl, hst, Nat.zero_le _, hap, rfl⟩
  case it =>
    intro s nw Q E F N q
    refine iter_py w lx dlx _ 19 _ B F X (news_in N) T hk (by show dp + 3 < _; omega) (by show un + 1 + 1 + 20 < _; omega) fun h' tk' F' N' => q h' tk' F' (news_in N')
  case ap =>
    rintro S k acc news ⟨st, vt, ln, tp, pos, wd, wr, e1, e2, e3, e4, e5, e6, e7, rfl⟩
    refine ⟨e7, ?_⟩
    have := strsAre_len e2
    rw [List.length_map] at this
    have h := congrArg List.length e3
    rw [List.length_append] at h
    omega
  case sN =>
    rintro S k acc news c s Q E ⟨st, vt, ln, tp, pos, wd, wr, e1, e2, e3, e4, e5, e6, e7, rfl⟩ F N q
    cases wr with
    | nil => cases e4
    | cons wd1 wr =>
      obtain ⟨y, r', hrun, hy, hne, hyb, hrest⟩ := e1
      have hq : ¬ (y.quoted = false ∧ y.tok = []) := fun h => hne (by rw [← hy]; exact h.2)
      refine next_call w io dio lx dlx pb fs h1 h2 h3 k1 k2 k3 tn tb tp hs ks vt line pos ln ⟨st, false, false, []⟩ y r' u1 u2 ((S, W.listOf acc.toArray c) :: rest) hne1 hne2 hne3 hne4 hne5 (offS (e7 _ (.tail _ (.tail _ (.tail _ (.head _)))))  hr) (offS (e7 _ (.tail _ (.head _))) hr2) hb e6 ⟨rfl, rfl⟩ e5 hrun mean mg mb dp (un + 1 + 1) gd cn cs a ccd outer A₀ base h₀ L m s Q E B F X (swapIn N) T XB TB D hk (by omega) (by omega) ?ret ?fin
      case ret =>
        intro t vt' ln' tp' pos' hv hd' hp' h' tk' F' N'
        refine q (.str (mkS y.tok) t) _ h' tk' F' (swapOut N') ?o ⟨y.st, vt', ln', tp', pos', wd ++ [wd1], wr, by rw [hd']; exact hrest, ?_, by rw [List.append_assoc]; exact e3, by simpa using e4, hyb, hp', ?o2, rfl⟩
        case o => exact keysEq e7
        case o2 => exact keysEq e7
        rw [List.map_append, List.map_singleton, hy.symm]
        exact strsAre_snoc e2
      case fin => exact fun _ _ _ _ h => absurd h hq
  case s0 =>
    rintro S acc news c s Q E ⟨st, vt, ln, tp, pos, wd, wr, e1, e2, e3, e4, e5, e6, e7, rfl⟩ F N q
    cases wr with
    | cons _ _ => cases e4
    | nil =>
      obtain ⟨y, hrun, hy1, hy2⟩ := e1
      rw [List.append_nil] at e3
      subst e3
      refine next_call w io dio lx dlx pb fs h1 h2 h3 k1 k2 k3 tn tb tp hs ks vt line pos ln ⟨st, false, false, []⟩ y [] u1 u2 ((S, W.listOf acc.toArray c) :: rest) hne1 hne2 hne3 hne4 hne5 (offS (e7 _ (.tail _ (.tail _ (.tail _ (.head _)))))  hr) (offS (e7 _ (.tail _ (.head _))) hr2) hb e6 ⟨rfl, rfl⟩ e5 hrun mean mg mb dp (un + 1 + 1) gd cn cs a ccd outer A₀ base h₀ L m s Q E B F X (swapIn N) T XB TB D hk (by omega) (by omega) ?ret ?fin
      case ret => exact fun _ _ _ _ _ h => absurd ⟨hy1, hy2⟩ h
      case fin =>
        intro vt' ln' tp' pos' _ hd' hp' g' h' tk' hT F' B' X' T' D' N'
        have hpe : pos' = line.length := by
          have := congrArg List.length hd'
          rw [List.length_drop, List.length_nil] at this
          omega
        subst hpe
        exact q h' tk' ⟨c, vt', ln', tp', y.st, g', e2, hT, F', B', X', T', D', swapOut N'⟩
  case q =>
    rintro S acc h' tk' ⟨c, vt, ln, tp, st', g', x1, x2, x3, x4, x5, x6, x7, x8⟩
    exact q S acc c vt ln tp st' g' h' tk' x1 x2 x3 x4 x5 x6 x7 x8

end
section
set_option maxRecDepth 100000
set_option maxHeartbeats 8000000
theorem sio_init (w : World) (io dio : Addr) (line : List Nat) (t : Tok) (news : List (Addr × Obj)) (hne : io ≠ dio) (hr : ∀ p ∈ news, p.1 ≠ dio) (hb : line.length ≤ 99999) : Call w 504 [.ref io, .str (mkS line) t] ((io, instObj 734 dio) :: (dio, W.dictOf [] 0) :: news) 8 60 fun K => ∀ h1 h2 h3 k1 k2 k3 tn tb tp, K .none ((io, instObj 734 dio) :: (dio, ioD h1 h2 h3 k1 k2 k3 tn tb tp line 0) :: news) := by
  w_top off
  k_with_none
  k_with "mine enter" => (refine' code_def ?k1 ?k2 ?k3 ?k4 ?k5 ?kA ?kF ?kK ?k6 ?k7 ?k8 ?k9 ?kB ?_ ?c2 ?c3 ?c4 ?c5; (case kA => exact rfl); (case kF => exact rfl); (case kK => first | exact rfl | assumption); (case k1 => k_asm); (case k2 => k_asm); (case k3 => k_asm); (case k4 => k_asm); (case k5 => k_asm); (case k6 => k_is); (case k7 => k_is); (case k8 => ktr_room); (case k9 => first | exact BindsTo.of_eq rfl | exact binds_K (by k_in) rfl (by k_is) rfl rfl rfl); (case c5 => decide); (case kB => exact locs rfl); (case c2 => exact rfl); (case c3 => exact rfl); (case c4 => exact rfl); k_whole; intro g' L' h' FG' F' N' B' X' T'; (try dsimp only); (try k_lift B'); (try k_fold))
  k_with "call builtin:len" => (k_here; (with_reducible show wpAny _ _ (call (Value.builtin "len") [Value.str (Str.mk (List.toArray _)) _]) _ _ _); k_dflt (refine' len_mk ?k1 ?_; (case k1 => omega)); intro t9 k9)
  intro mean mg mb dp un gd cn cs a ccd cl outer A₀ base h₀ L m s Q E B F X N T hk hd hu hret
  refine wpAny_call ?_
  k_dflt walk_at "mine enter"
  k_steps
  exact hret _ _ _ _ _ _ _ _ _ _ _ (by k_asm) (by first | k_asm | exact (by assumption))

end
section
set_option maxRecDepth 100000
/-- a class whose __new__ is its own -/
noncomputable def ownIn (K : Frag) (C : Addr) (bs : List Value) : Bool := match K.lookup C with
  | some ⟨_, _, .cls cd, sl⟩ => (sl.toList[4]?).join == some .none && !cd.mro.isEmpty && cd.bases == bs && cd.slotNames.isEmpty
  | _ => false
theorem made_none {K : Frag} {M : Model} {h : Heap} (X : K.In h) {C : Addr} {bs : List Value} (e : ownIn K C bs = true) : Looks M h (Bind.madeBy (.ref C)) none := by
  unfold ownIn at e
  split at e
  · rename_i oc od cd sl ho
    simp only [Bool.and_eq_true, Bool.not_eq_true', beq_iff_eq] at e
    obtain ⟨⟨⟨e3, e4⟩, e5⟩, e6⟩ := e
    have hc : clsIn K C = some cd := by unfold clsIn; rw [ho]
    have hm : Looks M h (mroOf (.ref C)) cd.mro := (looks_clsIn X hc).andThen .now
    obtain ⟨c, l, hl⟩ : ∃ c l, cd.mro = c :: l := by cases q : cd.mro with | nil => rw [q] at e4; cases e4 | cons c l => exact ⟨c, l, rfl⟩
    intro A Q E s k q
    unfold Bind.madeBy
    refine wpAny_bind (hm A _ E s k ?_)
    rw [hl, List.forIn_cons]
    refine wpAny_bind (wpAny_bind (wpAny_bind (wpAny_bind (wpAny_loadPart (k _ _ (X _ _ ho)) (wpAny_pure ?_)))))
    dsimp only
    rw [← Array.getElem?_toList, e3]
    exact wpAny_pure (wpAny_pure (wpAny_pure q))
  · cases e
theorem own_734 (w : World) : ownIn (Kx w) 734 [.ref 257] = true := by kernel_rfl
theorem own_257 (w : World) : ownIn (Kx w) 257 [.ref 230] = true := by kernel_rfl
theorem own_230 (w : World) : ownIn (Kx w) 230 [.type "object"] = true := by kernel_rfl
theorem mro_734 (w : World) : (clsIn (Kx w) 734).map (·.mro) = some [.ref 734, .ref 257, .ref 230, .type "object"] := by kernel_rfl
theorem mro_257 (w : World) : (clsIn (Kx w) 257).map (·.mro) = some [.ref 257, .ref 230, .type "object"] := by kernel_rfl
theorem mro_230 (w : World) : (clsIn (Kx w) 230).map (·.mro) = some [.ref 230, .type "object"] := by kernel_rfl
theorem own_cd {K : Frag} {C : Addr} {bs : List Value} (e : ownIn K C bs = true) : ∃ cd, clsIn K C = some cd ∧ cd.bases = bs ∧ cd.slotNames = [] := by
  unfold ownIn at e
  split at e
  · rename_i oc od cd sl ho
    simp only [Bool.and_eq_true, Bool.not_eq_true', beq_iff_eq] at e
    refine ⟨cd, by unfold clsIn; rw [ho], e.1.2, ?_⟩
    exact List.isEmpty_iff.mp e.2
  · cases e
theorem slots_ref {K : Frag} {M : Model} {h : Heap} (X : K.In h) {C : Addr} {bs : List Value} (e : ownIn K C bs = true) : Looks M h (Builtin.Slots.slotNamesOf (.ref C)) [] := by
  obtain ⟨cd, hc, h1, h2⟩ := own_cd e
  have := (looks_clsIn (M := M) X hc).andThen (f := fun cd : ClassData => (pure cd.slotNames : Sem (List Str))) .now
  rw [h2] at this
  exact this
theorem slots_object {M : Model} {h : Heap} : Looks M h (Builtin.Slots.slotNamesOf (.type "object")) [] := Looks.of_pure (by
  show (do let l ← mroOf (.type "object"); let n ← forIn l 0 (fun c n => match c with | .type name => pure (ForInStep.yield (n + cFieldsOf name)) | _ => pure (ForInStep.yield n)); pure (List.replicate n Str.empty) : Sem (List Str)) = pure []
  rw [show mroOf (.type "object") = pure [.type "object"] from by kernel_rfl]
  rfl)
theorem adds_no {K : Frag} {M : Model} {h : Heap} (X : K.In h) {C : Addr} {b : Value} (e : ownIn K C [b] = true) (hb : Looks M h (Builtin.Slots.slotNamesOf b) []) : Looks M h (Builtin.Slots.addsLayout (.ref C)) false := by
  obtain ⟨cd, hc, h1, h2⟩ := own_cd e
  intro A Q E s k q
  unfold Builtin.Slots.addsLayout
  refine wpAny_bind (looks_clsIn X hc A _ E s k ?_)
  rw [h1, h2]
  dsimp only
  rw [List.forIn_cons]
  refine wpAny_bind (wpAny_bind (wpAny_bind (hb A _ E s k ?_)))
  exact wpAny_pure (wpAny_pure (wpAny_pure q))
theorem adds_object {M : Model} {h : Heap} : Looks M h (Builtin.Slots.addsLayout (.type "object")) false := Looks.of_pure rfl
theorem mro_looks {K : Frag} {M : Model} {h : Heap} (X : K.In h) {C : Addr} {l : List Value} (e : (clsIn K C).map (·.mro) = some l) : Looks M h (mroOf (.ref C)) l := by
  obtain ⟨cd, hc, rfl⟩ := Option.map_eq_some_iff.mp e
  exact (looks_clsIn (M := M) X hc).andThen (f := fun cd : ClassData => (pure cd.mro : Sem (List Value))) .now
theorem solid_257 (w : World) {M : Model} {h : Heap} (X : (Kx w).In h) : Looks M h (Builtin.Slots.solid (.ref 257)) (.type "object") := by
  intro A Q E s k q
  unfold Builtin.Slots.solid
  refine wpAny_bind (mro_looks X (mro_257 w) A _ E s k ?_)
  dsimp only
  rw [List.forIn_cons]
  refine wpAny_bind (wpAny_bind (wpAny_bind (adds_no X (own_257 w) (slots_ref X (own_230 w)) A _ E s k ?_)))
  rw [if_neg Bool.false_ne_true]
  refine wpAny_pure ?_
  dsimp only
  rw [List.forIn_cons]
  refine wpAny_bind (wpAny_bind (adds_no X (own_230 w) slots_object A _ E s k ?_))
  rw [if_neg Bool.false_ne_true]
  refine wpAny_pure ?_
  dsimp only
  rw [List.forIn_cons]
  refine wpAny_bind (wpAny_bind (adds_object A _ E s k ?_))
  rw [if_neg Bool.false_ne_true]
  dsimp only
  split
  · exact wpAny_pure (wpAny_pure (wpAny_pure q))
  · refine wpAny_pure ?_
    dsimp only
    rw [List.forIn_nil]
    exact wpAny_pure (wpAny_pure q)
theorem solid_230 (w : World) {M : Model} {h : Heap} (X : (Kx w).In h) : Looks M h (Builtin.Slots.solid (.ref 230)) (.type "object") := by
  intro A Q E s k q
  unfold Builtin.Slots.solid
  refine wpAny_bind (mro_looks X (mro_230 w) A _ E s k ?_)
  dsimp only
  rw [List.forIn_cons]
  refine wpAny_bind (wpAny_bind (wpAny_bind (adds_no X (own_230 w) slots_object A _ E s k ?_)))
  rw [if_neg Bool.false_ne_true]
  refine wpAny_pure ?_
  dsimp only
  rw [List.forIn_cons]
  refine wpAny_bind (wpAny_bind (adds_object A _ E s k ?_))
  rw [if_neg Bool.false_ne_true]
  dsimp only
  split
  · exact wpAny_pure (wpAny_pure (wpAny_pure q))
  · refine wpAny_pure ?_
    dsimp only
    rw [List.forIn_nil]
    exact wpAny_pure (wpAny_pure q)
theorem solid_object {M : Model} {h : Heap} : Looks M h (Builtin.Slots.solid (.type "object")) (.type "object") := by
  intro A Q E s k q
  unfold Builtin.Slots.solid
  rw [show mroOf (.type "object") = pure [.type "object"] from by kernel_rfl]
  refine wpAny_bind (wpAny_pure ?_)
  dsimp only
  rw [List.forIn_cons]
  refine wpAny_bind (wpAny_bind (wpAny_bind (adds_object A _ E s k ?_)))
  rw [if_neg Bool.false_ne_true]
  dsimp only
  split
  · exact wpAny_pure (wpAny_pure (wpAny_pure q))
  · refine wpAny_pure ?_
    dsimp only
    rw [List.forIn_nil]
    exact wpAny_pure (wpAny_pure q)
theorem best_one {M : Model} {h : Heap} {b : Value} (hs : Looks M h (Builtin.Slots.solid b) (.type "object")) : Looks M h (Builtin.Slots.bestBase [b]) b := by
  intro A Q E s k q
  unfold Builtin.Slots.bestBase
  dsimp only
  rw [List.forIn_cons]
  refine wpAny_bind (wpAny_bind (wpAny_bind (hs A _ E s k ?_)))
  dsimp only
  refine wpAny_pure ?_
  dsimp only
  rw [List.forIn_nil]
  exact wpAny_pure (wpAny_pure q)
theorem made_object {M : Model} {h : Heap} : Looks M h (Bind.madeBy (.type "object")) (some "object.__new__") := by
  intro A Q E s k q
  unfold Bind.madeBy
  rw [show mroOf (.type "object") = pure [.type "object"] from by kernel_rfl]
  refine wpAny_bind (wpAny_pure ?_)
  dsimp only
  rw [List.forIn_cons]
  dsimp only
  rw [show typeLookup (.type "object") (Str.ofString "__new__") = pure (some (.builtin "object.__new__")) from by rw [typeLookup_type, builtinLookup_eq_fast]; kernel_rfl]
  refine wpAny_bind (wpAny_bind (wpAny_bind (wpAny_pure ?_)))
  dsimp only
  rw [if_neg (by rw [show ("object.__new__".endsWith ".__new__") = true from by decide +kernel]; decide)]
  exact wpAny_pure (wpAny_pure (wpAny_pure q))
theorem base_734 (w : World) {M : Model} {h : Heap} (X : (Kx w).In h) : Looks M h (Bind.staticBase (.ref 734)) (.type "object") := by
  intro A Q E s k q
  unfold Bind.staticBase
  refine wpAny_bind (mro_looks X (mro_734 w) A _ E s k ?_)
  dsimp only
  rw [List.forIn_cons]
  refine wpAny_bind (wpAny_bind (wpAny_bind (made_none X (own_734 w) A _ E s k ?_)))
  rw [if_neg (by decide)]
  dsimp only
  obtain ⟨cd1, hc1, hb1, -⟩ := own_cd (own_734 w)
  refine wpAny_bind (looks_clsIn X hc1 A _ E s k ?_)
  rw [hb1]
  refine wpAny_bind (best_one (solid_257 w X) A _ E s k ?_)
  refine wpAny_pure ?_
  dsimp only
  rw [List.forIn_cons]
  refine wpAny_bind (wpAny_bind (made_none X (own_257 w) A _ E s k ?_))
  dsimp only
  rw [if_neg (by decide)]
  obtain ⟨cd2, hc2, hb2, -⟩ := own_cd (own_257 w)
  refine wpAny_bind (looks_clsIn X hc2 A _ E s k ?_)
  rw [hb2]
  refine wpAny_bind (best_one (solid_230 w X) A _ E s k ?_)
  refine wpAny_pure ?_
  dsimp only
  rw [List.forIn_cons]
  refine wpAny_bind (wpAny_bind (made_none X (own_230 w) A _ E s k ?_))
  dsimp only
  rw [if_neg (by decide)]
  obtain ⟨cd3, hc3, hb3, -⟩ := own_cd (own_230 w)
  refine wpAny_bind (looks_clsIn X hc3 A _ E s k ?_)
  rw [hb3]
  refine wpAny_bind (best_one (solid_object) A _ E s k ?_)
  refine wpAny_pure ?_
  dsimp only
  rw [List.forIn_cons]
  refine wpAny_bind (wpAny_bind (made_object A _ E s k ?_))
  dsimp only
  rw [if_pos (by decide)]
  exact wpAny_pure (wpAny_pure (wpAny_pure q))

end
section
set_option maxRecDepth 100000
noncomputable def plainIn (K : Frag) (C : Addr) : Bool := match K.lookup C with
  | some ⟨_, _, .cls cd, _⟩ => !cd.abstract && !cd.hasDel && !cd.mro.isEmpty
  | _ => false
theorem plain_cd {K : Frag} {C : Addr} (e : plainIn K C = true) : ∃ oc od cd sl, K.lookup C = some ⟨oc, od, .cls cd, sl⟩ ∧ cd.abstract = false ∧ cd.hasDel = false ∧ cd.mro.isEmpty = false := by
  unfold plainIn at e
  split at e
  · rename_i oc od cd sl ho
    simp only [Bool.and_eq_true, Bool.not_eq_true'] at e
    exact ⟨oc, od, cd, sl, ho, e.1.1, e.1.2, e.2⟩
  · cases e
theorem new_734 {prog : Program} (w : World) {A : Around} {R : Result → Shared → Prop} {h : Heap} {g : Array GenState} {d : Drawn} {t : Nat} {os : OsState} (X : (Kx w).In h)
    (hq : R (.ok (.ret (.ref (h.objs.size + 1)))) ⟨(h.push emptyDict).push (instObj 734 h.objs.size), g, d, t, os⟩) :
    codeAny (model prog w) A (.call (.builtin "object.__new__") ⟨[.ref 734], []⟩) R ⟨h, g, d, t, os⟩ := by
  obtain ⟨oc, od, cd, sl, ho, e1, e2, e4⟩ := plain_cd (show plainIn (Kx w) 734 = true by kernel_rfl)
  have hC := X _ _ ho
  have top : Looks (model prog w) h (isSubtype (.ref 734) (.type "object")) true := looks_mroIn X (by kernel_rfl)
  have typ : Looks (model prog w) h (isInstance (.ref 734) (.type "type")) true := looks_instIn X (by kernel_rfl)
  have base : Looks (model prog w) h (Bind.staticBase (.ref 734)) (.type "object") := base_734 w X
  have madeO : Looks (model prog w) h (Bind.madeBy (.type "object")) (some "object.__new__") := made_object
  have F := PySem.F.objNew
  refine codeAny_call_builtin_code (Code.quiet_builtin _ F.quiet) ?_
  simp only [checkBuiltinCall, F.kind, F.split, F.row]
  have here : Looks (model prog w) h (Bind.madeHere "object.__new__" (.ref 734)) () := (base_734 w X).andThen (made_object.andThen (Looks.of_pure (by simp only [Option.map_some, bne_self_eq_false, Bool.false_eq_true, if_false])))
  have args : Bind.checkArgs "object.__new__" ⟨.hand, "object.__new__", "__new__", .cls, []⟩ ⟨[.ref 734], []⟩ = pure () := by kernel_rfl
  rw [args]
  repeat (first | simp only [bne_self_eq_false, Bool.false_eq_true, if_false] | lk)
  refine codeAny_builtin F.entry ?_
  unfold Builtin.«object.__new__»
  have fin : ∀ A', wpAny (model prog w) A' (do
      let d ← if typeHasDict (.ref 734) then some <$> alloc { cls := .type "dict", data := .dict #[] } else pure none
      ret (← newObj (.ref 734) .plain d)) (fun fin s' => match fin with | .done f => R (.ok f) s' | .again c' => c'.quiet = true ∧ codeAny (model prog w) A c' R s') (fun e s' => R (.error e) s') ⟨h, g, d, t, os⟩ := by
    intro A'
    show wpAny _ _ ((alloc emptyDict >>= fun x => pure (some x)) >>= _) _ _ _
    refine wpAny_bind (wpAny_bind (wpAny_alloc (wpAny_pure (wpAny_bind ?_))))
    show wpAny _ _ (newObjAsIs _ _ _) _ _ _
    unfold newObjAsIs classHasDel
    refine wpAny_bind (wpAny_alloc (wpAny_bind (wpAny_bind (wpAny_load (Heap.get?_push_of_some _ (Heap.get?_push_of_some _ hC)) (wpAny_pure ?_)))))
    rw [e2]
    refine wpAny_pure (wpAny_pure ?_)
    show R _ _
    rw [Heap.size_push]
    exact hq
  repeat (first | simp only [e1, Bool.false_eq_true, if_false] | exact fin _ | lk)

end
section
set_option maxRecDepth 100000
set_option maxHeartbeats 8000000
theorem new_N {prog : Program} {w : World} {A : Around} {E : Value → Shared → Prop} {s : Shared} {h₀ : Heap} {L : Addr} {m : Str → Option Value} {news : List (Addr × Obj)} {Q : Value → Shared → Prop} (F : Fr h₀ L s.heap m) (N : News h₀ L s.heap news) (X : (Kx w).In h₀)
    (h : ∀ x dx h', Fr h₀ L h' m → News h₀ L h' ((x, instObj 734 dx) :: (dx, W.dictOf [] 0) :: news) → (∀ p ∈ news, p.1 < dx) → dx < x → Q (.ref x) { s with heap := h' }) : wpAny (model prog w) A (call (.builtin "object.__new__") [.ref 734]) Q E s := by
  refine wpAny_call ?_
  obtain ⟨hp, g, d, t, os⟩ := s
  refine new_734 w (X.keeps F.keep) ?_
  have F1 := F.push emptyDict
  have N1 := N.push F emptyDict
  have F2 := F1.push (instObj 734 hp.objs.size)
  have N2 := N1.push F1 (instObj 734 hp.objs.size)
  rw [Heap.size_push] at N2
  exact h _ _ _ F2 N2 (fun p hp => Heap.lt_size (N p hp).1) (Nat.lt_succ_self _)
theorem drop34 {h₀ h : Heap} {L : Addr} {a b c d : Addr × Obj} {news : List (Addr × Obj)} (N : News h₀ L h (a :: b :: c :: d :: news)) : News h₀ L h (a :: b :: news) := fun p hp => N p (by
  rcases List.mem_cons.mp hp with rfl | hp
  · exact .head _
  · rcases List.mem_cons.mp hp with rfl | hp
    · exact .tail _ (.head _)
    · exact .tail _ (.tail _ (.tail _ (.tail _ hp))))
theorem new_call (w : World) (line : List Nat) (t : Tok) (news : List (Addr × Obj)) (hb : line.length ≤ 99999) : Call w 227 [.ref 734, .str (mkS line) t] news 8 60 fun K => ∀ x dx, (∀ p ∈ news, p.1 < dx) → dx < x → K (.ref x) ((x, instObj 734 dx) :: (dx, W.dictOf [] 0) :: news) := by
  w_top off
  k_with_none
  k_with "mine enter" => (refine' code_def ?k1 ?k2 ?k3 ?k4 ?k5 ?kA ?kF ?kK ?k6 ?k7 ?k8 ?k9 ?kB ?_ ?c2 ?c3 ?c4 ?c5; (case kA => exact rfl); (case kF => exact rfl); (case kK => first | exact rfl | assumption); (case k1 => k_asm); (case k2 => k_asm); (case k3 => k_asm); (case k4 => k_asm); (case k5 => k_asm); (case k6 => k_is); (case k7 => k_is); (case k8 => ktr_room); (case k9 => first | exact BindsTo.of_eq rfl | exact binds_K (by k_in) rfl (by k_is) rfl rfl rfl); (case c5 => decide); (case kB => exact locs rfl); (case c2 => exact rfl); (case c3 => exact rfl); (case c4 => exact rfl); k_whole; intro g' L' h' FG' F' N' B' X' T'; (try dsimp only); (try k_lift B'); (try k_fold))
  k_with "call builtin:len" => (k_here; (with_reducible show wpAny _ _ (call (Value.builtin "len") [Value.str (Str.mk (List.toArray _)) _]) _ _ _); k_dflt (refine' len_mk ?k1 ?_; (case k1 => omega)); intro t9 k9)
  k_with "mine both" => ((refine' kp_both ?k1 ?k2 ?k3 ?k4 ?k5 ?kA ?kF ?kK ?k6 ?k7 ?k8 ?kV ?kX ?kQ ?kM ?kN ?kD ?kR ?kP ?kS ?kT ?kB ?_ ?c2 ?c3 ?c4 ?c5; (case kA => exact rfl); (case kF => exact rfl); (case kK => first | exact rfl | assumption); (case k1 => k_asm); (case k2 => k_asm); (case k3 => k_asm); (case k4 => k_asm); (case k5 => k_asm); (case k6 => k_is); (case k7 => k_is); (case k8 => ktr_room); (case kV => kp_lit); (case kX => kp_lit); (case kQ => exact rfl); (case kM => exact rfl); (case kN => exact rfl); (case kD => kp_flats); (case kR => exact rfl); (case kP => exact rfl); (case kS => exact fun _ => rfl); (case kT => exact fun _ _ => rfl); (case kB => exact fun _ _ => locs rfl); (case c5 => decide); (case c2 => exact rfl); (case c3 => exact rfl); (case c4 => exact rfl); k_whole; intro C' D' o' g' L' h' tk' l1 l2 lo' hs' fs' FG' F' N' B' X' T'; (try k_lt l1); (try k_lt2 l2); (try dsimp only); (try k_lift B'); (try k_fold)))
  k_with "call builtin:object.__new__" => (k_here; k_dflt (refine' new_N ?k1 ?k2 ?k3 ?_; (case k1 => k_asm); (case k2 => k_asm); (case k3 => k_asm)); intro x9 dx9 h9 F9 N9 l9 m9)
  intro mean mg mb dp un gd cn cs a ccd cl outer A₀ base h₀ L m s Q E B F X N T hk hd hu hret
  refine wpAny_call ?_
  k_dflt walk_at "mine both"
  k_steps
  rename_i kF kN _ _
  exact hret _ _ (fun p hp => l9 p (.tail _ (.tail _ hp))) m9 _ _ (by k_asm) (drop34 kN)

end
section
set_option maxRecDepth 100000
set_option maxHeartbeats 8000000
theorem make_sio (w : World) (line : List Nat) (t : Tok) (news : List (Addr × Obj)) (hb : line.length ≤ 99999) : Call w 734 [.str (mkS line) t] news 20 200
    fun K => ∀ x dx h1 h2 h3 k1 k2 k3 tn tb tp, (∀ p ∈ news, p.1 < dx) → dx < x → K (.ref x) ((x, instObj 734 dx) :: (dx, ioD h1 h2 h3 k1 k2 k3 tn tb tp line 0) :: news) := by
  intro mean mg mb dp un gd cn cs a ccd cl outer A₀ base h₀ L m s Q E B F X N T hk hd hu hret
  have Xs := X.keeps F.keep
  obtain ⟨oc, od, cd, sl, ho, e1, e2, e4⟩ := plain_cd (show plainIn (Kx w) 734 = true by kernel_rfl)
  have hC := Xs _ _ ho
  have cdc : clsIn (Kx w) 734 = some cd := by unfold clsIn; rw [ho]
  have made : Looks (model pw w) s.heap (Bind.madeBy (.ref 734)) none := made_none Xs (own_734 w)
  have call : Looks (model pw w) s.heap (specialOf (.ref 734) "__call__") (some (.builtin "type.__call__")) := looks_specialIn Xs (by kernel_rfl)
  have typ : Looks (model pw w) s.heap (isInstance (.ref 734) (.type "type")) true := looks_instIn Xs (by kernel_rfl)
  have hm : Looks (model pw w) s.heap (mroOf (.ref 734)) cd.mro := ((Looks.ld (part := none) hC).andThen .now).andThen .now
  refine wpAny_call (codeAny_of_tree ?_)
  show wpAny _ _ (callAny (.ref 734) _) _ _ _
  obtain ⟨h, g, d, tk, os⟩ := s
  refine nd_load hC ?_
  show wpAny _ _ (callAny.viaDunder (.ref 734) _) _ _ _
  unfold callAny.viaDunder
  refine wpAny_bind (call.at ?_)
  dsimp only
  rw [tc_bind]
  refine wpAny_bind (wpAny_pure (wpAny_bind (wpAny_pure ?_)))
  refine wpAny_pure (a := Fin.again (.call (.builtin "type.__call__") ⟨.ref 734 :: [.str (mkS line) t], []⟩)) (And.intro rfl ?_)
  refine codeAny_call_builtin_at (Code.quiet_builtin _ (by decide +kernel)) entry_typeCall (check_slot tc_kind tc_split typ (tc_args _ _ _) ?_)
  unfold Builtin.«type.__call__»
  repeat (first | simp only [e4, Bool.false_eq_true, if_false] | ((fail_if_success (with_reducible show wpAny _ _ (getAttr _ _ _) _ _ _)); lk))
  refine cls_sm (K := Kx w) (C := 734) (mc := .type "type") (p := 231) (f := .ref 227) (rest := []) F X (by kernel_rfl) (by kernel_rfl) (by kernel_rfl) (by kernel_rfl) rfl ?_
  refine wpAny_bind (wpAny_holding ?_)
  refine callUse (new_call w line t news hb) (outer := outer) (L := L) (a := a) (ccd := ccd) (cl := cl) (cn := cn) (cs := cs) B F X N T hk ?hd ?hu ?_
  case hd => show dp + 1 + 8 < recursionLimit; omega
  case hu => show un + 1 + 60 < cLine; omega
  intro x dx lo hi h' tk' F' N'
  have X' := X.keeps F'.keep
  have I := InstAt.of_news N' (.head _) (.tail _ (.head _))
  have t1 : Looks (model pw w) h' (typeOf (.ref x)) (.ref 734) := I.type
  have s1 : Looks (model pw w) h' (isSubtype (.ref 734) (.ref 734)) true := looks_mroIn X' (by kernel_rfl)
  have i1 : Looks (model pw w) h' (typeLookup (.ref 734) "__init__") (some (.ref 504)) := looks_findIn X' (by kernel_rfl)
  have b1 : Looks (model pw w) h' (bindSpecial (.ref 504) (.ref x)) (.ref 504, [.ref x]) := bind_fn X' _ (by kernel_rfl)
  unfold isInstance callSpecial? specialOf
  repeat ((fail_if_success (with_reducible show wpAny _ _ (PySem.call _ _) _ _ _)); lk)
  have nx : ∀ p ∈ news, p.1 ≠ dx := fun p hp e => Nat.lt_irrefl _ (e ▸ lo p hp)
  refine callUse (sio_init w x dx line t news (Nat.ne_of_gt hi) nx hb) (outer := outer) (L := L) (a := a) (ccd := ccd) (cl := cl) (cn := cn) (cs := cs) B F' X N' T hk ?hd ?hu ?_
  case hd => show dp + 1 + 8 < recursionLimit; omega
  case hu => show un + 1 + 60 < cLine; omega
  intro h1 h2 h3 k1 k2 k3 tn tb tp h'' tk'' F'' N''
  refine wpAny_pure ?_
  dsimp only
  rw [if_neg (by decide)]
  exact wpAny_pure (hret x dx h1 h2 h3 k1 k2 k3 tn tb tp lo hi h'' tk'' F'' N'')

end
section

/-- written entries of the fields fs -/
inductive EM : List DictEntry → List (Str × PV) → Prop
  | nil : EM [] []
  | cons (h : Int) (a : Str) (k : Tok) (v : PV) (t : Tok) {r : List DictEntry} {fs : List (Str × PV)} : EM r fs → EM (⟨h, .str a k, v.av t⟩ :: r) ((a, v) :: fs)
theorem ents_shift {hs hs' : Nat → Int} {ks ks' vt vt' : Nat → Tok} : ∀ (fs : List (Str × PV)) (i j : Nat), (∀ k, hs (i + k) = hs' (j + k) ∧ ks (i + k) = ks' (j + k) ∧ vt (i + k) = vt' (j + k)) → ents hs ks vt i fs = ents hs' ks' vt' j fs
  | [], _, _, _ => rfl
  | (a, v) :: r, i, j, h => by
    have h0 := h 0
    rw [Nat.add_zero, Nat.add_zero] at h0
    unfold ents
    rw [h0.1, h0.2.1, h0.2.2, ents_shift r (i + 1) (j + 1) fun k => by
      have := h (k + 1)
      rw [show i + (k + 1) = i + 1 + k by omega, show j + (k + 1) = j + 1 + k by omega] at this
      exact this]
theorem EM.ents {es : List DictEntry} {fs : List (Str × PV)} (h : EM es fs) : ∃ hs ks vt, es = Mine.ents hs ks vt 0 fs := by
  induction h with
  | nil => exact ⟨fun _ => 0, fun _ => 0, fun _ => 0, rfl⟩
  | @cons h a k v t r fs _ ih =>
    obtain ⟨hs, ks, vt, e⟩ := ih
    refine ⟨fun i => match i with | 0 => h | i + 1 => hs i, fun i => match i with | 0 => k | i + 1 => ks i, fun i => match i with | 0 => t | i + 1 => vt i, ?_⟩
    conv => rhs; unfold Mine.ents
    rw [e]
    congr 1
    exact ents_shift fs 0 1 fun k => ⟨by rw [show 0 + k = k by omega, show 1 + k = k + 1 by omega], by rw [show 0 + k = k by omega, show 1 + k = k + 1 by omega], by rw [show 0 + k = k by omega, show 1 + k = k + 1 by omega]⟩

end
section
set_option maxRecDepth 100000
set_option maxHeartbeats 8000000
theorem allNe_of {l : List (Addr × Obj)} {d : Addr} (h : ∀ p ∈ l, p.1 < d) : ∀ p ∈ l, p.1 ≠ d := fun p hp => Nat.ne_of_lt (h p hp)
local macro_rules | `(tactic| k_all) => `(tactic| exact allNe_of (by assumption))
theorem units_tc (A : Around) (args : Args) : (A.under (.builtin "type.__call__" args)).units = A.units + 1 := rfl
theorem dq_N {prog : Program} {w : World} {A : Around} {E : Value → Shared → Prop} {s : Shared} {h₀ : Heap} {L : Addr} {m : Str → Option Value} {news : List (Addr × Obj)} {Q : Value → Shared → Prop} (F : Fr h₀ L s.heap m) (N : News h₀ L s.heap news)
    (h : ∀ x h', Fr h₀ L h' m → News h₀ L h' ((x, dqO 0) :: news) → (∀ p ∈ news, p.1 < x) → Q (.ref x) { s with heap := h' }) : wpAny (model prog w) A (call (.type "collections.deque") []) Q E s :=
  call_dq_0 (h _ _ (F.push _) (N.push F _) fun p hp => Heap.lt_size (N p hp).1)
theorem pack {h₀ h : Heap} {L : Addr} {lx dlx io dio pb fs : Addr} {h1 h2 h3 : Int} {k1 k2 k3 tn tb tp u1 u2 : Tok} {line : List Nat} {es : List DictEntry} {news : List (Addr × Obj)}
    (N : News h₀ L h ((fs, dqO u2) :: (pb, dqO u1) :: (io, instObj 734 dio) :: (dio, ioD h1 h2 h3 k1 k2 k3 tn tb tp line 0) :: (lx, instObj 869 dlx) :: (dlx, W.dictOf es 19) :: news)) (M : EM es (fsL io pb fs (.txt (Str.ofString " ")) (.txt (Str.ofString "")) 1)) :
    ∃ hs ks vt, News h₀ L h (lexN lx dlx io dio pb fs h1 h2 h3 k1 k2 k3 tn tb tp hs ks vt line .sp 1 0 u1 u2 ++ news) := by
  obtain ⟨hs, ks, vt, rfl⟩ := M.ents
  refine ⟨hs, ks, vt, fun p hp => ?_⟩
  have e : lexN lx dlx io dio pb fs h1 h2 h3 k1 k2 k3 tn tb tp hs ks vt line .sp 1 0 u1 u2 = [(lx, instObj 869 dlx), (dlx, W.dictOf (ents hs ks vt 0 (fsL io pb fs (.txt (Str.ofString " ")) (.txt (Str.ofString "")) 1)) 19), (io, instObj 734 dio), (dio, ioD h1 h2 h3 k1 k2 k3 tn tb tp line 0), (pb, dqO u1), (fs, dqO u2)] := by
    unfold lexN
    rw [show (mkS [] : Str) = Str.ofString "" from by decide +kernel]
    rfl
  rw [e] at hp
  have at6 : ∀ {a b c d f g : Addr × Obj}, News h₀ L h (f :: g :: c :: d :: a :: b :: news) → News h₀ L h (a :: b :: c :: d :: g :: f :: news) := fun M => List.forall_mem_cons.mpr ⟨M _ (.tail _ (.tail _ (.tail _ (.tail _ (.head _))))), List.forall_mem_cons.mpr ⟨M _ (.tail _ (.tail _ (.tail _ (.tail _ (.tail _ (.head _)))))), List.forall_mem_cons.mpr ⟨M _ (.tail _ (.tail _ (.head _))), List.forall_mem_cons.mpr ⟨M _ (.tail _ (.tail _ (.tail _ (.head _)))),
    List.forall_mem_cons.mpr ⟨M _ (.tail _ (.head _)), List.forall_mem_cons.mpr ⟨M _ (.head _), fun p hp => M p (.tail _ (.tail _ (.tail _ (.tail _ (.tail _ (.tail _ hp))))))⟩⟩⟩⟩⟩⟩
  exact at6 N p hp
theorem allLt_ne {d : Addr} : ∀ {l : List (Addr × Obj)}, AllLt d l → ∀ p ∈ l, p.1 ≠ d
  | [], _, _, h => by cases h
  | a :: l, h, p, hp => by
    rcases List.mem_cons.mp hp with rfl | hp
    · exact Nat.ne_of_lt h.1
    · exact allLt_ne h.2 p hp
theorem two_ne {a b d : Addr} {o1 o2 : Obj} {news : List (Addr × Obj)} (h1 : d < a) (h2 : d < b) (h : AllLt d news) : ∀ p ∈ (a, o1) :: (b, o2) :: news, p.1 ≠ d := fun p hp => by
  rcases List.mem_cons.mp hp with rfl | hp
  · exact (Nat.ne_of_lt h1).symm
  · rcases List.mem_cons.mp hp with rfl | hp
    · exact (Nat.ne_of_lt h2).symm
    · exact allLt_ne h p hp
theorem skipAll {h₀ h : Heap} {L : Addr} {x p1 p2 p3 p4 p5 p6 : Addr × Obj} {b : List (Addr × Obj)} (N : News h₀ L h (x :: ([p1, p2, p3, p4, p5, p6] ++ b))) : News h₀ L h (x :: b) := fun p hp => N p (by
  rcases List.mem_cons.mp hp with h | h
  · exact h ▸ .head _
  · exact .tail _ (List.mem_append_right _ h))
theorem split_call (w : World) (line : List Nat) (t : Tok) (ws : List (List Nat)) (news : List (Addr × Obj)) (hb : line.length ≤ 99999) (hall : LexAll .sp line ws) (hws : ws.length ≤ 1000)
    {mean : ExcName → Option Value} {mg mb : Str → Option Value} {dp un : Nat} {gd : Option (List Code)} {cn : Str} {cs : Scope} {a : Addr} {ccd : Value} {A₀ : Around} {h₀ : Heap} {L : Addr} {m : Str → Option Value} {s : Shared} {Q E : Value → Shared → Prop}
    (B : Below A₀ h₀ [] h₀) (F : Fr h₀ L s.heap m) (X : (Mine.hd.heap_39 w.params).In h₀) (N : News h₀ L s.heap news) (T : Top Mine.hd.view_39 loo mean mg mb h₀) (hk : cs.kind = .function) (hd : dp + 60 < recursionLimit) (hu : un + 600 < cLine)
    (q : ∀ S acc c h' tk', StrsAre acc (ws.map mkS) → Fr h₀ L h' m → News h₀ L h' ((S, W.listOf acc.toArray c) :: news) → Q (.ref S) { s with heap := h', toks := tk' }) :
    wpAny (model pw w) (ktrTop dp un gd cn cs L a ccd [] []) (call (.ref 881) [.str (mkS line) t]) Q E s := by
  w_top off
  k_with_none
  k_with "mine enter" => (refine' code_def ?k1 ?k2 ?k3 ?k4 ?k5 ?kA ?kF ?kK ?k6 ?k7 ?k8 ?k9 ?kB ?_ ?c2 ?c3 ?c4 ?c5; (case kA => exact rfl); (case kF => exact rfl); (case kK => first | exact rfl | assumption); (case k1 => k_asm); (case k2 => k_asm); (case k3 => k_asm); (case k4 => k_asm); (case k5 => k_asm); (case k6 => k_is); (case k7 => k_is); (case k8 => ktr_room); (case k9 => first | exact BindsTo.of_eq rfl | exact binds_K (by k_in) rfl (by k_is) rfl rfl rfl); (case c5 => decide); (case kB => exact locs rfl); (case c2 => exact rfl); (case c3 => exact rfl); (case c4 => exact rfl); k_whole; intro g' L' h' FG' F' N' B' X' T'; (try dsimp only); (try k_lift B'); (try k_fold))
  k_with "call builtin:len" => (k_here; (with_reducible show wpAny _ _ (call (Value.builtin "len") [Value.str (Str.mk (List.toArray _)) _]) _ _ _); k_dflt (refine' len_mk ?k1 ?_; (case k1 => omega)); intro t9 k9)
  k_with "mine split" => (refine' code_defS0 ?k1 ?k2 ?k3 ?k4 ?k5 ?kA ?k6 ?k7 ?k8 ?k9 ?kB ?_ ?cK ?c2 ?c3 ?c4 ?c5; (case kA => exact rfl); (case k2 => k_asm); (case k1 => k_asm); (case k3 => k_asm); (case k4 => k_asm); (case k5 => k_asm); (case k6 => k_is); (case k7 => k_is); (case k8 => ktr_room); (case k9 => first | exact binds_K (by k_in) rfl (by k_is) rfl rfl rfl | exact BindsTo.of_eq rfl); (case kB => exact locs rfl); (case cK => first | exact rfl | assumption); (case c2 => exact rfl); (case c3 => exact rfl); (case c4 => exact rfl); (case c5 => decide); k_whole; intro g' L' h' FG' F' N' B' X' T' D'; (try dsimp only); (try k_lift B'); (try k_fold))
  k_with "call ref" => (k_here; (with_reducible show wpAny _ _ (call (Value.ref 734) _) _ _ _); k_dflt (refine' callUse (make_sio _ _ _ _ ?q1) ?k1 ?k2 ?k3 ?k4 ?k5 ?kK ?kd ?ku ?_; (case k4 => k_asm); (case q1 => assumption); (case k1 => k_asm); (case k2 => k_asm); (case k3 => k_asm); (case k5 => k_asm); (case kK => first | exact rfl | assumption); (case kd => ktr_room); (case ku => first | ktr_units | (simp only [units_tc, units_deeper, cLine_is] at *; (try dsimp only [ktrTop] at *); omega))); intro x9 dx9 h1 h2 h3 k1 k2 k3 tn tb tp lo9 hi9 h9 tk9 F9 N9; (try k_lt lo9); (replace hi9 := ltN hi9); (try dsimp only); (try k_sweep); (try k_fold))
  k_with "call type:collections.deque" => (k_here; k_dflt (refine' dq_N ?k1 ?k2 ?_; (case k1 => k_asm); (case k2 => k_asm)); intro x9 h9 F9 N9 lo9; (try k_lt lo9); (try dsimp only); (try k_sweep); (try k_fold))
  refine wpAny_call ?_
  k_dflt walk_at "mine split"
  k_steps
  (with_reducible rename News _ _ _ _ => NN)
  (with_reducible rename Fr _ _ _ _ => FF)
  obtain ⟨hs, ks, vt, NN⟩ := pack NN (by repeat (first | exact EM.nil | refine EM.cons _ _ _ (.obj _) 0 ?_ | refine EM.cons _ _ _ .non 0 ?_ | refine EM.cons _ _ _ (.boo _) 0 ?_ | refine EM.cons _ _ _ (.num _) _ ?_ | refine EM.cons _ _ _ (.txt _) _ ?_))
  refine' lex_list w _ _ _ _ _ _ _ _ _ _ _ _ _ _ _ hs ks vt line 1 .sp 0 0 news ws ?n1 ?n2 ?n3 ?n4 ?n5 ?r1 ?r2 hb (by simp) hall hws (outer := [envX cn cs L a ccd []]) ?bb FF ?xx NN ?tt X T ?dd rfl ?kd ?ku ?_
  case bb => assumption
  case xx => assumption
  case tt => assumption
  case dd => assumption
  case n1 => k_ne
  case n2 => k_ne
  case n3 => k_ne
  case n4 => k_ne
  case n5 => k_ne
  case r1 => exact two_ne (ltN (by omega)) (ltN (by omega)) (And.right (And.right (by assumption)))
  case r2 => exact two_ne (ltN (by omega)) (ltN (by omega)) (allLt_of (by assumption))
  case kd => ktr_room
  case ku => ktr_units
  intro S acc c vt ln tp st' g' h' tk' hacc T9 F9 B9 X9 P9 D9 N9
  replace N9 := skipAll N9
  k_steps
  exact q S acc c _ _ hacc (by assumption) (by assumption)

end
section
open PySem.Builtin PySem.Builtin.Str
set_option maxRecDepth 100000
/-! texts as lists of signs: what the text methods make of them -/
theorem eq_mkS {x : Str} {l : List Nat} (h : x.cps.toList = l) : x = mkS l := by
  apply Str.ext'
  apply Array.toList_inj.mp
  rw [h]
theorem join_mkL : ∀ cs : List (List Nat), Str.join (mkS [47]) (cs.map mkS) = mkS (joinL cs)
  | [] => rfl
  | [a] => rfl
  | a :: b :: r => by
    show mkS a ++ mkS [47] ++ Str.join (mkS [47]) ((b :: r).map mkS) = _
    rw [join_mkL (b :: r), mkS_app, mkS_app, joinL, List.append_assoc, List.singleton_append]
theorem txt_join (cs : List (List Nat)) : Txt.join (mkS [47]) (cs.map mkS) = mkS (joinL cs) := by
  show glued _ _ = _
  rw [StrLaws.glued_eq_join, join_mkL]
theorem map_mk_of (xs : List Str) : xs = (xs.map (·.cps.toList)).map mkS := by
  rw [List.map_map]
  conv => lhs; rw [← List.map_id xs]
  exact List.map_congr_left fun x _ => eq_mkS rfl
theorem mkS_inj {a b : List Nat} (h : mkS a = mkS b) : a = b := by
  have := congrArg (fun x => x.cps.toList) h
  exact this
theorem txt_split (l : List Nat) : Txt.split (mkS l) (mkS [47]) = (splitL l).map mkS := by
  have h1 := StrLaws.join_split (mkS l) (mkS [47])
  have h2 := StrLaws.split_free (mkS l) 47
  generalize hx : Txt.split (mkS l) (mkS [47]) = xs at h1
  rw [show (⟨#[47]⟩ : Str) = mkS [47] from rfl, hx] at h2
  rw [map_mk_of xs] at h1 ⊢
  rw [join_mkL] at h1
  have e := mkS_inj h1
  have hne : xs.map (·.cps.toList) ≠ [] := by
    intro h
    have : xs = [] := by simpa using h
    subst this
    unfold Txt.split at hx
    split at hx
    · cases hx
    · split at hx
      · cases hx
      · rw [StrLaws.partsBetween_eq] at hx
        obtain ⟨p, r, hpr⟩ := StrLaws.partsFrom_ne (mkS l) (mkS [47]).length 0 (occurrences (mkS l) (mkS [47]) 0 (mkS l).length ((mkS l).length + 1))
        rw [hpr] at hx
        cases hx
  rw [← e, splitL_join hne]
  intro c hc
  obtain ⟨x, hx', rfl⟩ := List.mem_map.mp hc
  exact h2 x hx'
theorem dbl_quote : ∀ l : List Nat, StrLaws.dbl 34 l = quoteL l
  | [] => rfl
  | c :: r => by
    unfold StrLaws.dbl quoteL
    rw [dbl_quote r]
    split
    · rename_i h; rw [h]
    · rfl
theorem txt_replace (l : List Nat) : Txt.replace (mkS l) (mkS [34]) (mkS [34, 34]) = mkS (quoteL l) :=
  eq_mkS (by rw [← dbl_quote]; exact StrLaws.replace_double (mkS l) 34)
theorem at_one (l : List Nat) (i : Nat) : StrLaws.At (mkS l) (mkS [47]) (mkS l).length i ↔ l[i]? = some 47 := StrLaws.subAt_one (mkS l) 47 i
theorem txt_rfind {a b : List Nat} (h : 47 ∉ b) : Txt.rfind (mkS (a ++ 47 :: b)) (mkS [47]) = (a.length : Int) := by
  unfold Txt.rfind
  have ha : (a ++ 47 :: b)[a.length]? = some 47 := by simp
  rcases StrLaws.last_spec (mkS (a ++ 47 :: b)) (mkS [47]) with ⟨_, hn⟩ | ⟨i, hi, hA, hlast⟩
  · exact absurd ((at_one _ _).mpr ha) (hn _)
  · rw [hi]
    show (i : Int) = _
    have e1 := (at_one _ _).mp hA
    have : ¬ a.length > i := fun h' => hlast _ h' ((at_one _ _).mpr ha)
    by_cases hlt : a.length < i
    · exfalso
      rw [List.getElem?_append_right (by omega)] at e1
      obtain ⟨k, hk⟩ : ∃ k, i - a.length = k + 1 := ⟨i - a.length - 1, by omega⟩
      rw [hk, List.getElem?_cons_succ] at e1
      exact h (List.mem_of_getElem? e1)
    · omega
theorem txt_starts (a : List Nat) (c : Nat) : Txt.startswith (mkS a) (mkS [c]) = (a.head? == some c) := by
  unfold Txt.startswith
  rw [StrLaws.subAt_eq, mkS_len, mkS_len]
  cases a with
  | nil => rfl
  | cons d r =>
    rw [show (mkS (d :: r)).cps.toList = d :: r from rfl, show (mkS [c]).cps.toList = [c] from rfl]
    simp
theorem txt_ends (a : List Nat) (c : Nat) : Txt.endswith (mkS a) (mkS [c]) = (a.getLast? == some c) := by
  unfold Txt.endswith
  rw [StrLaws.subAt_eq, mkS_len, mkS_len]
  rw [show (mkS a).cps.toList = a from rfl, show (mkS [c]).cps.toList = [c] from rfl]
  rcases List.eq_nil_or_concat a with rfl | ⟨r, d, rfl⟩
  · rfl
  · simp
theorem txt_rstrip {a : List Nat} (h : a.getLast? ≠ some 47) : Txt.rstripChars (mkS (a ++ [47])) (mkS [47]) = mkS a := by
  have hg : ∀ c, (mkS [47]).cps.contains c = (c == 47) := fun c => by
    show (#[47] : Array Nat).contains c = _
    rw [Bool.eq_iff_iff]
    simp
  have hw : ((a ++ [47]).reverse.takeWhile (mkS [47]).cps.contains).length = 1 := by
    rw [List.reverse_append, List.reverse_singleton, List.singleton_append, List.takeWhile_cons, hg, if_pos (beq_self_eq_true _)]
    rcases List.eq_nil_or_concat a with rfl | ⟨r, d, rfl⟩
    · rfl
    · have hd : d ≠ 47 := fun e => h (by rw [e]; simp)
      rw [List.concat_eq_append, List.reverse_append, List.reverse_singleton, List.singleton_append, List.takeWhile_cons, hg, if_neg (by simpa using hd)]
      rfl
  have hi : stripHi (mkS [47]).cps.contains true (mkS (a ++ [47])) 0 = a.length := by
    unfold stripHi
    rw [if_pos rfl, List.drop_zero, tl_mkS, hw, mkS_len, List.length_append, List.length_singleton]
    omega
  have hlo : stripLo (mkS [47]).cps.contains false (mkS (a ++ [47])) = 0 := rfl
  unfold Txt.rstripChars Txt.stripBy stripSame PySem.stripped
  rw [hlo, hi, mkS_len, List.length_append, List.length_singleton, if_neg (by simp)]
  refine eq_mkS ?_
  rw [StrLaws.strSub_toList, tl_mkS]
  simp

end
section
set_option maxRecDepth 100000
/-! the text rules, each by what is known of the text -/
theorem ff {c : Bool} (h : c = false) : ¬ c = true := by rw [h]; exact Bool.false_ne_true
theorem szL {l : List Nat} (h : l.length ≤ 16777000) : (mkS l).length ≤ sizeLine := by rw [mkS_len, sizeLine_eq]; omega
namespace EL
section
variable {prog : Program} {w : World} {A : Around} {E : Value → Shared → Prop} {s : Shared} {value slice : PySem.Expr} {a y : List Nat} {z : Str} {t u : Tok} {L : Addr} {h₀ : Heap} {m : Str → Option Value} {news : List (Addr × Obj)} {Q : Value → Shared → Prop} {b : Bool}
theorem truthy {Q : Bool → Shared → Prop} (e : (a.length != 0) = b) (hs : a.length ≤ 16777000) (h : ∀ k, Q b { s with toks := k }) : wpAny (model prog w) A (truthy (.str (mkS a) t)) Q E s := by
  refine SBL.truthy (by rw [mkS_len]; omega) ?_
  have e' : (((mkS a).length : Int) != 0) = (a.length != 0) := by
    rw [mkS_len]
    cases a with
    | nil => rfl
    | cons c r => simp; omega
  rw [e', e]
  exact h _
theorem sl {lo hi : Option Int} {lv hv : Value} (e : Txt.slice (mkS a) lo hi = mkS y) (hl : lo = none ∧ lv = .none ∨ ∃ i ui, lo = some i ∧ lv = .int i ui) (hh : hi = none ∧ hv = .none ∧ lo ≠ none ∨ ∃ j uj, hi = some j ∧ hv = .int j uj) (hs : a.length ≤ 16777000)
    (F : Fr h₀ L s.heap m) (N : News h₀ L s.heap news) (h : ∀ h' t' k, Fr h₀ L h' m → News h₀ L h' news → Q (.str (mkS y) t') { s with heap := h', toks := k })
    (hsb : subscripted slice false (.str (mkS a) t) (.ref s.heap.objs.size) = operate [.ref s.heap.objs.size, .str (mkS a) t] (getItem (.str (mkS a) t) (.ref s.heap.objs.size)))
    (ht : ∀ r, letTemporaryGo value (.str (mkS a) t) r = pure ()) :
    wpAny (model prog w) A (subscriptTail value slice (.str (mkS a) t) (.ref s.heap.objs.size)) Q E { s with heap := s.heap.push { cls := .type "slice", data := .fields #[lv, hv, .none] } } := by
  rcases hl with ⟨rfl, rfl⟩ | ⟨i, ui, rfl, rfl⟩ <;> rcases hh with ⟨rfl, rfl, hn⟩ | ⟨j, uj, rfl, rfl⟩
  · exact absurd rfl hn
  · exact slice_strN_ns F N (fun h' t' k F N => by rw [e]; exact h h' t' k F N) hsb ht (szL hs)
  · exact slice_strN_sn F N (fun h' t' k F N => by rw [e]; exact h h' t' k F N) hsb ht (szL hs)
  · exact slice_strN_ss F N (fun h' t' k F N => by rw [e]; exact h h' t' k F N) hsb ht (szL hs)
theorem idx {i : Int} {c : Nat} (j : Nat) (hj : i = j) (e : a[j]? = some c) (hs : a.length ≤ 16777000)
    (h : ∀ t' k, Q (.str (mkS [c]) t') { s with toks := k })
    (hsb : subscripted slice false (.str (mkS a) t) (.int i u) = operate [.int i u, .str (mkS a) t] (getItem (.str (mkS a) t) (.int i u)))
    (ht : ∀ r, letTemporaryGo value (.str (mkS a) t) r = pure ()) :
    wpAny (model prog w) A (subscriptTail value slice (.str (mkS a) t) (.int i u)) Q E s := by
  subst hj
  have hj : j < a.length := (List.getElem?_eq_some_iff.mp e).1
  have hc : Txt.charAt (mkS a) (j : Int) = some c := by
    unfold Txt.charAt
    rw [StrLaws.seqIndex_nonneg (by omega) (by rw [mkS_len]; omega)]
    show (mkS a).cps[(j : Int).toNat]? = some c
    rw [Int.toNat_natCast, ← e]
    show a.toArray[j]? = _
    simp
  have hi : Txt.item (mkS a) (j : Int) = mkS [c] := by unfold Txt.item; rw [hc]; rfl
  refine tail_of_ItemOn (SB.item (by unfold fitsSsize; rw [Bool.not_eq_true', Bool.or_eq_false_iff, decide_eq_false_iff_not, decide_eq_false_iff_not]; omega) (by rw [hc]; rfl) ?_) hsb ht
  rw [hi]
  exact h _ _
theorem idxE {i : Int} (h0 : 0 ≤ i) (hlt : i < a.length) (hs : a.length ≤ 16777000)
    (hsb : subscripted slice false (.str (mkS a) t) (.int i u) = operate [.int i u, .str (mkS a) t] (getItem (.str (mkS a) t) (.int i u)))
    (ht : ∀ r, letTemporaryGo value (.str (mkS a) t) r = pure ())
    (h : ∀ c t' k, a[i.toNat]? = some c → Q (.str (mkS [c]) t') { s with toks := k }) :
    wpAny (model prog w) A (subscriptTail value slice (.str (mkS a) t) (.int i u)) Q E s := by
  have hj : i.toNat < a.length := by omega
  exact idx i.toNat (by omega) (List.getElem?_eq_getElem hj) hs (fun t' k => h _ t' k (List.getElem?_eq_getElem hj)) hsb ht
theorem mul {n : Int} (e : Txt.mul z n = mkS y) (hn : 0 ≤ n ∧ n ≤ 1000000) (hz : z.length = 1) (h : ∀ t' k, Q (.str (mkS y) t') { s with toks := k }) : wpAny (model prog w) A (binaryOp .Mult (.str z t) (.int n u)) Q E s :=
  SB.mul (mulOk_of 16 1048576 (by omega) (by omega) (by omega) (by decide) (by decide)) fun t' k => by rw [e]; exact h t' k
theorem rstrip (e : Txt.rstripChars (mkS a) z = mkS y) (hs : a.length ≤ 16777000) (h : ∀ t' k, Q (.str (mkS y) t') { s with toks := k }) : wpAny (model prog w) A (call (.builtin "str.rstrip") [.str (mkS a) t, .str z u]) Q E s :=
  KXw.rstripChars e (szL hs) h
theorem rfind {i : Int} (e : (Txt.rfind (mkS a) z : Int) = i) (h : ∀ t' k, Q (.int i t') { s with toks := k }) : wpAny (model prog w) A (call (.builtin "str.rfind") [.str (mkS a) t, .str z u]) Q E s := KXw.rfind e h
theorem starts (e : Txt.startswith (mkS a) z = b) (h : Q (.bool b) s) : wpAny (model prog w) A (call (.builtin "str.startswith") [.str (mkS a) t, .str z u]) Q E s := SC.startswith (by rw [e]; exact h)
theorem ends (e : Txt.endswith (mkS a) z = b) (h : Q (.bool b) s) : wpAny (model prog w) A (call (.builtin "str.endswith") [.str (mkS a) t, .str z u]) Q E s := SC.endswith (by rw [e]; exact h)
theorem add (hs : a.length + y.length ≤ 16777000) (h : ∀ t' k, Q (.str (mkS (a ++ y)) t') { s with toks := k }) : wpAny (model prog w) A (binaryOp .Add (.str (mkS a) t) (.str (mkS y) u)) Q E s :=
  KOpn.add (by rw [mkS_len, mkS_len]; omega) fun t' k _ => by rw [mkS_app]; exact h t' k
theorem addE (ez : z = mkS y) (hs : a.length + y.length ≤ 16777000) (h : ∀ t' k, Q (.str (mkS (a ++ y)) t') { s with toks := k }) : wpAny (model prog w) A (binaryOp .Add (.str (mkS a) t) (.str z u)) Q E s := by
  subst ez; exact add hs h
theorem addL (ez : z = mkS a) (hs : a.length + y.length ≤ 16777000) (h : ∀ t' k, Q (.str (mkS (a ++ y)) t') { s with toks := k }) : wpAny (model prog w) A (binaryOp .Add (.str z t) (.str (mkS y) u)) Q E s := by
  subst ez; exact add hs h
theorem iaddE (hs : a.length + y.length ≤ 16777000) (h : ∀ t' k, Q (.str (mkS (a ++ y)) t') { s with toks := k }) : wpAny (model prog w) A (inplaceOp .Add (.str (mkS a) t) (.str (mkS y) u)) Q E s :=
  iadd (by rw [mkS_len, mkS_len]; omega) fun t' k => by rw [mkS_app]; exact h t' k
theorem split {ys : List (List Nat)} (e : Txt.split (mkS a) z = ys.map mkS) (hz : z.length = 1) (hs : a.length ≤ 16777000) (F : Fr h₀ L s.heap m) (N : News h₀ L s.heap news)
    (h : ∀ S vs h' k, StrsAre vs (ys.map mkS) → Fr h₀ L h' m → News h₀ L h' ((S, W.listOf vs.toArray 0) :: news) → (∀ p ∈ news, p.1 < S) → Q (.ref S) { s with heap := h', toks := k }) :
    wpAny (model prog w) A (call (.builtin "str.split") [.str (mkS a) t, .str z u]) Q E s := by
  refine splitN1 F N (by rw [hz]; rfl) (fun l h' k el F' N' => ?_) (by rw [mkS_len, sizeLine_eq]; omega)
  refine h _ (strValues l) h' k ?_ F' N' fun p hp => Heap.lt_size (N p hp).1
  rw [← e, ← el]
  clear el N' h
  induction l with
  | nil => exact .nil
  | cons p r ih => exact .cons _ _ ih
theorem replace {v : Tok} {x : Str} (hu : u ≠ 0 ∧ v ≠ 0) (huv : u ≠ v) (hyz : (z == x) = false) (hs : a.length ≤ 100000) (hx : x.length ≤ 14) (e : Txt.replace (mkS a) z x = mkS y) (h : ∀ t' k, Q (.str (mkS y) t') { s with toks := k }) :
    wpAny (model prog w) A (call (.builtin "str.replace") [.str (mkS a) t, .str z u, .str x v]) Q E s :=
  SC.replaceW hu.1 hu.2 huv hyz (by rw [mkS_len]; omega) hx fun t' k => by rw [e]; exact h t' k
end
end EL

end
section
set_option maxRecDepth 100000
/-! a for loop over a list or a tuple of the ledger, by a word of one's own -/
section
variable {prog : Program} {w : World} {A : Around} {E : Value → Shared → Prop} {h₀ : Heap} {env : Env} {target : Expr} {body : List Stmt} {Q : Flow → Shared → Prop}
/-- a turn's end -/
noncomputable def TurnEnd (h₀ : Heap) (L : Addr) (s : Shared) (J : (Str → Option Value) → List (Addr × Obj) → Prop) (Q : Flow → Shared → Prop) (I : Addr) (o : Obj) (f : Flow) (s₃ : Shared) : Prop :=
  match f with
  | .ret v => Q (.ret v) s₃
  | .brk => Q .next s₃
  | _ => ∃ h' tk m' news', s₃ = { s with heap := h', toks := tk } ∧ Fr h₀ L h' m' ∧ News h₀ L h' ((I, o) :: news') ∧ (∀ p ∈ news', p.1 ≠ I) ∧ J m' news'
theorem seqRest {s : Shared} {ax I : Addr} {lo : Obj} {X : String} (J : List Value → (Str → Option Value) → List (Addr × Obj) → Prop)
    (hk : ∀ r m news, J r m news → (ax, lo) ∈ news ∧ ∀ p ∈ news, p.1 ≠ I)
    (step : ∀ a r m news h tk o, J (a :: r) m news → Fr h₀ env.locals h m → News h₀ env.locals h ((I, o) :: news) →
      wpAny (model prog w) A (assign target env a) (fun _ s₂ => wpAny (model prog w) A (execs body env) (TurnEnd h₀ env.locals s (J r) Q I o) E s₂) E { s with heap := h, toks := tk })
    (fin : ∀ h tk m news, J [] m news → Fr h₀ env.locals h m → News h₀ env.locals h news → Q .next { s with heap := h, toks := tk }) :
    ∀ (vs : List Value) (m : Str → Option Value) (news : List (Addr × Obj)), J vs m news → ItemsRest prog w A E h₀ env target body Q s [(I, X)] [(ax, lo)] (vs.map .val) m news
  | [], m, news, hJ => ItemsRest.zero fun h tk F N => fin h tk m news hJ F N
  | a :: r, m, news, hJ => ItemsRest.val fun h tk F => AllObj.cons fun o _ => AllObj.nil fun N => by
    refine wpAny_mono (step a r m news h tk o hJ F N) (fun _ s₂ h₂ => wpAny_mono h₂ (fun f s₃ h₃ => ?_) fun _ _ e => e) fun _ _ e => e
    have fin' : (∃ h' tk' m' news', s₃ = { s with heap := h', toks := tk' } ∧ Fr h₀ env.locals h' m' ∧ News h₀ env.locals h' ((I, o) :: news') ∧ (∀ p ∈ news', p.1 ≠ I) ∧ J r m' news') →
        UnrEndW h₀ env.locals { s with heap := h, toks := tk } [(I, o)] (fun m' n' => SubL [(ax, lo)] n' ∧ ItemsRest prog w A E h₀ env target body Q s [(I, X)] [(ax, lo)] (r.map .val) m' n') s₃ := by
      rintro ⟨h', tk', m', news', e, F', N', ho, hJ'⟩
      refine ⟨h', tk', m', news', e, F', N', fun p hp q hq => ?_, ⟨(hk _ _ _ hJ').1, trivial⟩, seqRest J hk step fin r m' news' hJ'⟩
      rw [List.mem_singleton.mp hq]
      exact ho p hp
    cases f with
    | ret v => exact h₃
    | brk => exact h₃
    | cont => exact fin' h₃
    | next => exact fin' h₃
theorem forList {s : Shared} {ax : Addr} {lo : Obj} {vs : List Value} {n : Nat} {m₀ : Str → Option Value} {news : List (Addr × Obj)} (J : List Value → (Str → Option Value) → List (Addr × Obj) → Prop)
    (hh : A.handled = none) (F : Fr h₀ env.locals s.heap m₀) (N : News h₀ env.locals s.heap news) (hm : (ax, lo) ∈ news) (hc : lo.cls = .type "list") (hd : lo.data = .seq vs.toArray n)
    (hk : ∀ r m news, J r m news → (ax, lo) ∈ news) (h0 : J vs m₀ news)
    (step : ∀ I a r m news h tk o, J (a :: r) m news → (∀ p ∈ news, p.1 ≠ I) → Fr h₀ env.locals h m → News h₀ env.locals h ((I, o) :: news) →
      wpAny (model prog w) A (assign target env a) (fun _ s₂ => wpAny (model prog w) A (execs body env) (TurnEnd h₀ env.locals s (J r) Q I o) E s₂) E { s with heap := h, toks := tk })
    (fin : ∀ h tk m news, J [] m news → Fr h₀ env.locals h m → News h₀ env.locals h news → Q .next { s with heap := h, toks := tk }) :
    wpAny (model prog w) A (pyIter (.ref ax)) (fun it s₂ => TurnsAt prog w A h₀ env target body Q E it s₂) E s :=
  iter_listTurns (lo := lo) (vs := vs) hh F N hm hc hd fun I hI => seqRest (fun r m news => J r m news ∧ ∀ p ∈ news, p.1 ≠ I) (fun r m news h => ⟨hk _ _ _ h.1, h.2⟩)
    (fun a r m news h tk o hJ F N => wpAny_mono (step I a r m news h tk o hJ.1 hJ.2 F N) (fun _ s₂ h₂ => wpAny_mono h₂ (fun f s₃ h₃ => by
      cases f with
      | ret v => exact h₃
      | brk => exact h₃
      | cont => obtain ⟨h', tk', m', news', e, F', N', ho, hJ'⟩ := h₃; exact ⟨h', tk', m', news', e, F', N', ho, hJ', ho⟩
      | next => obtain ⟨h', tk', m', news', e, F', N', ho, hJ'⟩ := h₃; exact ⟨h', tk', m', news', e, F', N', ho, hJ', ho⟩) fun _ _ e => e) fun _ _ e => e)
    (fun h tk m news hJ F N => fin h tk m news hJ.1 F N) vs m₀ news ⟨h0, fun p hp => Nat.ne_of_lt (hI p hp)⟩
theorem forTup {s : Shared} {ax : Addr} {lo : Obj} {vs : List Value} {n : Nat} {m₀ : Str → Option Value} {news : List (Addr × Obj)} (J : List Value → (Str → Option Value) → List (Addr × Obj) → Prop)
    (hh : A.handled = none) (F : Fr h₀ env.locals s.heap m₀) (N : News h₀ env.locals s.heap news) (hm : (ax, lo) ∈ news) (hc : lo.cls = .type "tuple") (hd : lo.data = .seq vs.toArray n)
    (hk : ∀ r m news, J r m news → (ax, lo) ∈ news) (h0 : J vs m₀ news)
    (step : ∀ I a r m news h tk o, J (a :: r) m news → (∀ p ∈ news, p.1 ≠ I) → Fr h₀ env.locals h m → News h₀ env.locals h ((I, o) :: news) →
      wpAny (model prog w) A (assign target env a) (fun _ s₂ => wpAny (model prog w) A (execs body env) (TurnEnd h₀ env.locals s (J r) Q I o) E s₂) E { s with heap := h, toks := tk })
    (fin : ∀ h tk m news, J [] m news → Fr h₀ env.locals h m → News h₀ env.locals h news → Q .next { s with heap := h, toks := tk }) :
    wpAny (model prog w) A (pyIter (.ref ax)) (fun it s₂ => TurnsAt prog w A h₀ env target body Q E it s₂) E s :=
  iter_tupTurns (lo := lo) (vs := vs) hh F N hm hc hd fun I hI => seqRest (fun r m news => J r m news ∧ ∀ p ∈ news, p.1 ≠ I) (fun r m news h => ⟨hk _ _ _ h.1, h.2⟩)
    (fun a r m news h tk o hJ F N => wpAny_mono (step I a r m news h tk o hJ.1 hJ.2 F N) (fun _ s₂ h₂ => wpAny_mono h₂ (fun f s₃ h₃ => by
      cases f with
      | ret v => exact h₃
      | brk => exact h₃
      | cont => obtain ⟨h', tk', m', news', e, F', N', ho, hJ'⟩ := h₃; exact ⟨h', tk', m', news', e, F', N', ho, hJ', ho⟩
      | next => obtain ⟨h', tk', m', news', e, F', N', ho, hJ'⟩ := h₃; exact ⟨h', tk', m', news', e, F', N', ho, hJ', ho⟩) fun _ _ e => e) fun _ _ e => e)
    (fun h tk m news hJ F N => fin h tk m news hJ.1 F N) vs m₀ news ⟨h0, fun p hp => Nat.ne_of_lt (hI p hp)⟩
end
/-- a mark: the walk stops here -/
noncomputable def Halt (P : Prop) : Prop := P
theorem Halt.out {P : Prop} (h : Halt P) : P := h
theorem haltI {P : Prop} (h : P) : Halt P := h
theorem sign_eq {c d : Nat} : (mkS [c] == mkS [d]) = (c == d) := by
  rw [Bool.eq_iff_iff, beq_iff_eq, beq_iff_eq]
  exact ⟨fun h => (List.cons.inj (mkS_inj h)).1, fun h => by rw [h]⟩
theorem joinL_len : ∀ (ys : List (List Nat)), (∀ c ∈ ys, c.length ≤ 2000) → (joinL ys).length ≤ 2001 * ys.length
  | [], _ => Nat.le_refl 0
  | [a], h => by have := h a (.head _); simp [joinL]; omega
  | a :: b :: r, h => by
    have h1 := joinL_len (b :: r) fun x hx => h x (.tail _ hx)
    have h2 := h a (.head _)
    simp only [joinL, List.length_append, List.length_cons] at h1 ⊢
    omega
theorem normS_sub {acc : List (List Nat)} {c x : List Nat} (h : x ∈ normS acc c) : x ∈ acc ∨ x = c := by
  unfold normS at h
  split at h
  · exact .inl h
  · split at h
    · rcases List.mem_append.mp h with h | h
      · exact .inl h
      · exact .inr (List.mem_singleton.mp h)
    · exact .inl (List.dropLast_subset _ h)
theorem itT {b : Bool} {P Q : Prop} (h : b = true) (p : P) : (if b = true then P else Q) := by rw [if_pos h]; exact p
theorem itF {b : Bool} {P Q : Prop} (h : b = false) (q : Q) : (if b = true then P else Q) := by rw [if_neg (ff h)]; exact q
theorem lt_ne_all {d : Addr} : ∀ {l : List (Addr × Obj)}, AllLt d l → ∀ p ∈ l, p.1 ≠ d
  | [], _, _, h => by cases h
  | a :: l, h, p, hp => by
    rcases List.mem_cons.mp hp with rfl | hp
    · exact Nat.ne_of_lt h.1
    · exact lt_ne_all h.2 p hp
theorem mapPut2 {m : Str → Option Value} {k : Str} {v : Value} (h : m k = some v) : m = fun y => if y = k then some v else m y := by
  funext y
  by_cases e : y = k
  · rw [if_pos e, e, h]
  · rw [if_neg e]
theorem strsAre_len2 {vs : List Value} {xs : List Str} (h : StrsAre vs xs) : vs.length = xs.length := by
  induction h with
  | nil => rfl
  | cons _ _ _ ih => simp [ih]
theorem strsAre_snoc2 {vs : List Value} {xs : List Str} {x : Str} {t : Tok} (h : StrsAre vs xs) : StrsAre (vs ++ [.str x t]) (xs ++ [x]) := by
  induction h with
  | nil => exact .cons _ _ .nil
  | cons _ _ _ ih => exact .cons _ _ ih
namespace EL
section
variable {prog : Program} {w : World} {A : Around} {E : Value → Shared → Prop} {s : Shared} {value slice : PySem.Expr} {S L : Addr} {h₀ : Heap} {m : Str → Option Value} {vs : List Value} {x : Value} {c : Nat} {p0 : Addr × Obj} {post : List (Addr × Obj)}
theorem app {Q : Value → Shared → Prop} (F : Fr h₀ L s.heap m) (N : News h₀ L s.heap (p0 :: (S, W.listOf vs.toArray c) :: post)) (h1 : p0.1 ≠ S) (h2 : ∀ p ∈ post, p.1 ≠ S) (hl : vs.length ≤ 1000000)
    (h : ∀ h', Fr h₀ L h' m → News h₀ L h' (p0 :: (S, W.listOf (vs ++ [x]).toArray (c + 1)) :: post) → Q .none { s with heap := h' }) : wpAny (model prog w) A (call (.builtin "list.append") [.ref S, x]) Q E s := by
  refine append_K F N (.tail h1 (.head h2)) (fun h' F' N' => h h' F' ?_) (by rw [sizeLine_eq, List.size_toArray]; omega)
  rw [List.push_toArray] at N'
  exact N'
theorem app0 {Q : Value → Shared → Prop} (F : Fr h₀ L s.heap m) (N : News h₀ L s.heap ((S, W.listOf vs.toArray c) :: post)) (h2 : ∀ p ∈ post, p.1 ≠ S) (hl : vs.length ≤ 1000000)
    (h : ∀ h', Fr h₀ L h' m → News h₀ L h' ((S, W.listOf (vs ++ [x]).toArray (c + 1)) :: post) → Q .none { s with heap := h' }) : wpAny (model prog w) A (call (.builtin "list.append") [.ref S, x]) Q E s := by
  refine append_K F N (.head h2) (fun h' F' N' => h h' F' ?_) (by rw [sizeLine_eq, List.size_toArray]; omega)
  rw [List.push_toArray] at N'
  exact N'
theorem pop {Q : Value → Shared → Prop} (F : Fr h₀ L s.heap m) (N : News h₀ L s.heap (p0 :: (S, W.listOf (vs ++ [x]).toArray c) :: post)) (h1 : p0.1 ≠ S) (h2 : ∀ p ∈ post, p.1 ≠ S) (hl : vs.length ≤ 1000000)
    (h : ∀ h' c', Fr h₀ L h' m → News h₀ L h' (p0 :: (S, W.listOf vs.toArray c') :: post) → Q x { s with heap := h' }) : wpAny (model prog w) A (call (.builtin "list.pop") [.ref S]) Q E s := by
  have z := N _ (.tail _ (.head _))
  have hz : (vs ++ [x]).toArray.size = vs.length + 1 := by simp
  refine call_meets PySem.F.slot_list_pop ⟨_, z.1, rfl⟩ PySem.F.entry_list_pop (PySem.F.args_list_pop_1 _) (PySem.MeetsSeq.list_pop_last S (vs ++ [x]).toArray c x (by rw [hz]; simp) (by rw [sizeLine_eq, hz]; omega)) ⟨z.1, ?_⟩
  have e : ((vs ++ [x]).toArray.eraseIdxIfInBounds ((vs ++ [x]).toArray.size - 1)) = vs.toArray := by
    rw [hz, Nat.add_sub_cancel]
    apply Array.ext'
    simp [Array.eraseIdxIfInBounds, List.eraseIdx_append_of_length_le (Nat.le_refl vs.length)]
  have this := IsL.update (h := s.heap) z.1 (fun xs => xs.eraseIdxIfInBounds ((vs ++ [x]).toArray.size - 1))
  rw [e] at this
  exact h _ _ (F.change (Heap.SameBut.update ..) z.2.1 z.2.2) (news_set (pre := [p0]) N (fun p hp => by rw [List.mem_singleton.mp hp]; exact h1) h2 (Heap.SameBut.update ..) this)
theorem joinS {o : Obj} {news : List (Addr × Obj)} {Q : Value → Shared → Prop} {n : Nat} {z : Str} {t : Tok} {y : List Nat} {ys : List (List Nat)} (N : News h₀ L s.heap news) (hm : (S, o) ∈ news) (ho : o = W.listOf vs.toArray n) (hi : StrsAre vs (ys.map mkS)) (hz : z.length = 1) (hl : ys.length ≤ 2001) (hc : ∀ c ∈ ys, c.length ≤ 2000)
    (e : Txt.join z (ys.map mkS) = mkS y) (h : ∀ t' k, Q (.str (mkS y) t') { s with toks := k }) : wpAny (model prog w) A (call (.builtin "str.join") [.str z t, .ref S]) Q E s := by
  subst ho
  refine join_mem N hm hi ?_ fun t' k => by rw [e]; exact h t' k
  have : ∀ (ys : List (List Nat)), (∀ c ∈ ys, c.length ≤ 2000) → ((ys.map mkS).map (·.length)).sum ≤ 2000 * ys.length := by
    intro ys
    induction ys with
    | nil => intro _; exact Nat.le_refl 0
    | cons c r ih =>
      intro hc
      have h1 := ih fun x hx => hc x (.tail _ hx)
      have h2 := hc c (.head _)
      simp only [List.map_cons, List.sum_cons, mkS_len, List.length_cons]
      omega
  have h1 := this ys hc
  rw [List.length_map, hz]
  omega
theorem truthyL {o : Obj} {news : List (Addr × Obj)} {Q : Bool → Shared → Prop} {n : Nat} {b : Bool} (N : News h₀ L s.heap news) (hm : (S, o) ∈ news) (ho : o = W.listOf vs.toArray n) (hl : vs.length ≤ 1000000) (e : (vs.length != 0) = b) (h : ∀ k, Q b { s with toks := k }) :
    wpAny (model prog w) A (PySem.truthy (.ref S)) Q E s := by
  subst ho
  refine wpAny_truthy_list (items := vs.toArray) ⟨_, (N _ hm).1, rfl, n, rfl⟩ (by rw [List.size_toArray]; omega) ?_
  have e' : (!vs.toArray.isEmpty) = (vs.length != 0) := by cases vs <;> simp
  rw [e', e]
  exact h _
theorem last {o : Obj} {news : List (Addr × Obj)} {Q : Value → Shared → Prop} {n : Nat} {u : Tok} (N : News h₀ L s.heap news) (hm : (S, o) ∈ news) (ho : o = W.listOf (vs ++ [x]).toArray n) (h : Q x s)
    (hs : subscripted slice false (.ref S) (.int (-1) u) = operate [.ref S, .int (-1) u] (getItem (.ref S) (.int (-1) u))) : wpAny (model prog w) A (subscriptTail value slice (.ref S) (.int (-1) u)) Q E s := by
  subst ho
  have hl : s.heap.IsList S (vs ++ [x]).toArray := ⟨_, (N _ hm).1, rfl, n, rfl⟩
  refine tail_any hl.typeIs slot_list_getitem.lookup (wpAny_getItem_list_neg hl (by decide) (by simp; omega) (by decide) ?_ h) hs
  have : ((-1 : Int) + ((vs ++ [x]).toArray.size : Int)).toNat = vs.length := by simp; omega
  rw [this]
  simp
end
end EL
theorem strsAre_unsnoc {vs : List Value} : ∀ {xs : List Str} {x : Str}, StrsAre vs (xs ++ [x]) → ∃ vs' t, vs = vs' ++ [.str x t] ∧ StrsAre vs' xs := by
  induction vs with
  | nil => intro xs x h; cases xs <;> cases h
  | cons v vs ih =>
    intro xs x h
    cases xs with
    | nil =>
      cases h with
      | cons _ t h' => cases h'; exact ⟨[], t, rfl, .nil⟩
    | cons y xs =>
      cases h with
      | cons _ t h' =>
        obtain ⟨vs', t', rfl, h''⟩ := ih h'
        exact ⟨.str y t :: vs', t', rfl, .cons _ _ h''⟩

end
section
set_option maxRecDepth 100000
/-! the paths: what join, dirname and the rows say -/
noncomputable def joinP (a b : List Nat) : List Nat := if (b.head? == some 47) = true then b else if (a.length != 0) = true then (if (a.getLast? == some 47) = true then a ++ b else a ++ ([47] ++ b)) else b
theorem head_free {a b : List Nat} (h : 47 ∉ a) (hn : a ≠ []) : (a ++ b).head? ≠ some 47 := by
  cases a with
  | nil => exact absurd rfl hn
  | cons c r =>
    intro e
    have : c = 47 := by simpa using e
    exact h (by rw [this]; exact .head _)
theorem joinL_last : ∀ {cs : List (List Nat)}, GoodL cs → cs ≠ [] → ∃ c r, joinL cs = r ++ [c] ∧ c ≠ 47
  | [], _, h => absurd rfl h
  | [a], h, _ => by
    have ha := h a (.head _)
    rcases List.eq_nil_or_concat a with rfl | ⟨r, c, rfl⟩
    · exact absurd rfl ha.1
    · refine ⟨c, r, by rw [joinL, List.concat_eq_append], fun e => ha.2.2.2 (by rw [e]; simp)⟩
  | a :: b :: r, h, _ => by
    obtain ⟨c, r', e, hc⟩ := joinL_last (cs := b :: r) (fun x hx => h x (.tail _ hx)) (by simp)
    exact ⟨c, a ++ 47 :: r', by rw [joinL, e]; simp, hc⟩
theorem last_path {stand : List (List Nat)} (h : GoodL stand) : ((pathL stand).getLast? == some 47) = decide (stand = []) := by
  by_cases e : stand = []
  · subst e; rfl
  · obtain ⟨c, r, e1, hc⟩ := joinL_last h e
    unfold pathL
    rw [e1, ← List.cons_append, List.getLast?_append]
    simp [e, hc]
theorem joinP_whole {stand : List (List Nat)} (h : GoodL stand) (n : Int) : joinP (pathL stand) (wordL n) = 47 :: wholeL stand n := by
  unfold joinP wordL wholeL
  by_cases ha : absL n = true
  · rw [if_pos ha, if_pos ha, if_pos (by rfl)]
    rfl
  · have hh := head_free (nameL_free n (Int.fmod (Int.fdiv n 8) 7).toNat) (nameL_ne' n (Int.fmod (Int.fdiv n 8) 7).toNat) (b := midL n ++ nm2 n)
    rw [if_neg ha, if_neg ha, List.nil_append, if_neg (by
      rw [List.append_assoc, beq_iff_eq]; exact hh), if_pos (by rfl), last_path h]
    by_cases e : stand = []
    · subst e
      rfl
    · rw [if_neg (by simpa using e), if_neg e]
      simp [pathL]
theorem whole_ok {stand : List (List Nat)} (h : GoodL stand) (n : Int) : wholeL stand n ≠ [] ∧ (wholeL stand n).head? ≠ some 47 := by
  have hh := head_free (nameL_free n (Int.fmod (Int.fdiv n 8) 7).toNat) (nameL_ne' n (Int.fmod (Int.fdiv n 8) 7).toNat) (b := midL n ++ nm2 n)
  have hne : nm1 n ≠ [] := nameL_ne' n _
  unfold wholeL
  by_cases ha : absL n = true
  · rw [if_pos ha, List.nil_append, List.append_assoc]
    exact ⟨by simp [hne], hh⟩
  · rw [if_neg ha]
    by_cases e : stand = []
    · rw [if_pos e, List.nil_append, List.append_assoc]
      exact ⟨by simp [hne], hh⟩
    · rw [if_neg e]
      cases stand with
      | nil => exact absurd rfl e
      | cons a r =>
        have ha := h a (.head _)
        have : ∃ x, joinL (a :: r) = a ++ x := by cases r with | nil => exact ⟨[], by simp [joinL]⟩ | cons b r => exact ⟨_, rfl⟩
        obtain ⟨x, hx⟩ := this
        rw [hx, List.append_assoc, List.append_assoc]
        exact ⟨by simp [ha.1], head_free ha.2.2.2 ha.1⟩
theorem joinL_snoc : ∀ {cs : List (List Nat)} {y : List Nat}, cs ≠ [] → joinL (cs ++ [y]) = joinL cs ++ 47 :: y
  | [], _, h => absurd rfl h
  | [a], _, _ => rfl
  | a :: b :: r, y, _ => by
    have := joinL_snoc (cs := b :: r) (y := y) (by simp)
    show a ++ 47 :: joinL ((b :: r) ++ [y]) = _
    rw [this, joinL]
    simp
theorem dir_parts {led : List (List Nat)} (h : GoodL led) : ∃ a b, pathL led = a ++ 47 :: b ∧ 47 ∉ b ∧ (a = [] ∨ a.getLast? ≠ some 47) ∧ (if a = [] then [47] else a) = pathL led.dropLast := by
  rcases List.eq_nil_or_concat led with rfl | ⟨cs, y, rfl⟩
  · exact ⟨[], [], rfl, by simp, .inl rfl, rfl⟩
  · rw [List.concat_eq_append] at h ⊢
    rw [List.dropLast_concat]
    have hy := h y (by simp)
    have hcs : GoodL cs := fun x hx => h x (by simp [hx])
    by_cases e : cs = []
    · subst e
      exact ⟨[], y, rfl, hy.2.2.2, .inl rfl, rfl⟩
    · refine ⟨pathL cs, y, by unfold pathL; rw [joinL_snoc e]; rfl, hy.2.2.2, .inr ?_, if_neg (by simp [pathL])⟩
      have := last_path hcs
      rw [decide_eq_false e] at this
      simpa using this
theorem any_path (rows : List (List (List Nat))) (led : List (List Nat)) (hr : ∀ x ∈ rows, GoodL x) (hl : GoodL led) : ((rows.map fun r => mkS (pathL r)).any (· == mkS (pathL led))) = rows.contains led := by
  rw [← contains_path hr hl, Bool.eq_iff_iff, List.any_eq_true, List.contains_iff_mem, List.mem_map]
  constructor
  · rintro ⟨x, hx, e⟩
    obtain ⟨r, hr', rfl⟩ := List.mem_map.mp hx
    exact ⟨r, hr', mkS_inj (eq_of_beq e)⟩
  · rintro ⟨r, hr', e⟩
    exact ⟨_, List.mem_map.mpr ⟨r, hr', rfl⟩, by rw [e]; exact beq_self_eq_true _⟩
theorem cmd_mk (n : Int) : (mkS (cmdL n) == Str.ofString "mk") = oddL n := by
  rw [ofs "mk" [109, 107]]
  unfold cmdL
  cases oddL n <;> decide +kernel
namespace EL
section
variable {prog : Program} {w : World} {A : Around} {E : Value → Shared → Prop} {s : Shared} {S L : Addr} {h₀ : Heap} {vs : List Value} {c : Nat} {news : List (Addr × Obj)} {k : Str} {ys : List Str} {t : Tok} {b : Bool} {Q : Value → Shared → Prop}
theorem inL (N : News h₀ L s.heap news) (hm : (S, W.listOf vs.toArray c) ∈ news) (hi : StrsAre vs ys) (e : ys.any (· == k) = b) (h : Q (.bool b) s) : wpAny (model prog w) A (compareOp .In (.str k t) (.ref S)) Q E s :=
  in_list_strs ⟨_, (N _ hm).1, rfl, c, rfl⟩ hi (by rw [e]; exact h)
theorem notinL (N : News h₀ L s.heap news) (hm : (S, W.listOf vs.toArray c) ∈ news) (hi : StrsAre vs ys) (e : ys.any (· == k) = b) (h : Q (.bool (!b)) s) : wpAny (model prog w) A (compareOp .NotIn (.str k t) (.ref S)) Q E s :=
  notin_list_strs ⟨_, (N _ hm).1, rfl, c, rfl⟩ hi (by rw [e]; exact h)
end
end EL

end
section
set_option maxRecDepth 100000
/-! lists of texts: cut, joined -/
theorem nameFr {h₀ h : Heap} {L : Addr} {m : Str → Option Value} (F : Fr h₀ L h m) : ∃ g l m', g = h₀ ∧ l = L ∧ m' = m ∧ Fr g l h m' := ⟨_, _, _, rfl, rfl, rfl, F⟩
theorem strsAre_app : ∀ {vs ws : List Value} {xs ys : List Str}, StrsAre vs xs → StrsAre ws ys → StrsAre (vs ++ ws) (xs ++ ys) := by
  intro vs ws xs ys h g
  induction h with
  | nil => exact g
  | cons _ _ _ ih => exact .cons _ _ ih
theorem strsAre_drop {vs : List Value} {xs : List (List Nat)} (h : StrsAre vs (xs.map mkS)) : StrsAre vs.dropLast (xs.dropLast.map mkS) := by
  rcases List.eq_nil_or_concat xs with rfl | ⟨ys, y, rfl⟩
  · cases h; exact .nil
  · rw [List.concat_eq_append, List.map_append] at h
    obtain ⟨vs', t, rfl, h'⟩ := strsAre_unsnoc h
    rw [List.concat_eq_append, List.dropLast_concat, List.dropLast_concat]
    exact h'
namespace EL
section
variable {prog : Program} {w : World} {A : Around} {E : Value → Shared → Prop} {s : Shared} {value slice : PySem.Expr} {S T L : Addr} {h₀ : Heap} {m : Str → Option Value} {vs ws : List Value} {c d : Nat} {news : List (Addr × Obj)} {Q : Value → Shared → Prop} {u : Tok}
theorem initL (F : Fr h₀ L s.heap m) (N : News h₀ L s.heap news) (hm : (S, W.listOf vs.toArray c) ∈ news) (hl : vs.length ≤ 1000000)
    (h : ∀ R h', (∀ p ∈ news, p.1 < R) → Fr h₀ L h' m → News h₀ L h' ((R, W.listOf vs.dropLast.toArray 0) :: news) → Q (.ref R) { s with heap := h' })
    (hs : subscripted slice false (.ref S) (.ref s.heap.objs.size) = operate [.ref s.heap.objs.size, .ref S] (getItem (.ref S) (.ref s.heap.objs.size)))
    (ht : ∀ r, letTemporaryGo value (.ref S) r = pure ()) :
    wpAny (model prog w) A (subscriptTail value slice (.ref S) (.ref s.heap.objs.size)) Q E { s with heap := s.heap.push { cls := .type "slice", data := .fields #[.none, .int (-1) u, .none] } } := by
  refine slice_list F N ⟨_, (N _ hm).1, rfl, c, rfl⟩ .none (.int (-1) u) (fun h' F' N' => h _ h' (fun p hp => Nat.lt_succ_of_lt (Heap.lt_size (N p hp).1)) F' ?_) hs ht (by rw [sizeLine_eq, List.size_toArray]; omega)
  have e := slicePick_butLast vs.toArray 1 (Nat.le_refl 1)
  rw [show ((-((1 : Nat) : Int)) : Int) = -1 from rfl] at e
  rw [e, show vs.toArray.size - 1 = vs.length - 1 by simp, show vs.toArray.toList = vs from rfl, ← List.dropLast_eq_take] at N'
  exact N'
theorem catL (F : Fr h₀ L s.heap m) (N : News h₀ L s.heap news) (hm : (S, W.listOf vs.toArray c) ∈ news) (hm2 : (T, W.listOf ws.toArray d) ∈ news) (hl : vs.length + ws.length ≤ 1000000)
    (h : ∀ R h', (∀ p ∈ news, p.1 < R) → Fr h₀ L h' m → News h₀ L h' ((R, W.listOf (vs ++ ws).toArray 0) :: news) → Q (.ref R) { s with heap := h' }) :
    wpAny (model prog w) A (binaryOp .Add (.ref S) (.ref T)) Q E s := by
  have N1 := N.push F { cls := .type "list", data := .seq (vs.toArray ++ ws.toArray) }
  have e : vs.toArray ++ ws.toArray = (vs ++ ws).toArray := by simp
  refine PySem.P.add_list (N _ hm).1 (N _ hm2).1 (h _ _ (fun p hp => Heap.lt_size (N p hp).1) (F.push _) ?_) (by rw [sizeLine_eq, List.size_toArray, List.size_toArray]; omega)
  have e2 : ({ cls := .type "list", data := .seq (vs.toArray ++ ws.toArray) } : Obj) = W.listOf (vs ++ ws).toArray 0 := by rw [e]
  intro p hp
  rcases List.mem_cons.mp hp with rfl | hp
  · rw [← e2]; exact N1 _ (.head _)
  · exact N1 _ (.tail _ hp)
end
end EL

end
section
set_option maxRecDepth 100000
/-! a comprehension and a for over a range, by a word of one's own -/
section
variable {prog : Program} {w : World} {A : Around} {E : Value → Shared → Prop} {s : Shared} {h₀ : Heap} {L : Addr} {m : Str → Option Value} {env : Env}
theorem compInv {elt : Expr} {x : Str} {scope : Scope} {cl : List (Str × Addr)} {S : List (Addr × Obj) → Prop} {P : Nat → Value → Prop} {Fin : List Value → List (Addr × Obj) → Prop} (J : Nat → List Value → List (Addr × Obj) → Prop) (n : Nat)
    (step : ∀ i ys news v I oI C oC D m₂ h tk (E' : Value → Shared → Prop), i < n → J i ys news → P i v → LCg.NsObj oC m₂ → m₂ x = some v → Fr h₀ L h m → News h₀ L h ((I, oI) :: (C, oC) :: (D, LCg.lst ys) :: news) → LCg.Off3 I C D news →
      wpAny (model prog w) A (eval elt (compEnvC scope cl C env)) (LCg.CompEnd h₀ L m { s with heap := h, toks := tk } I oI C oC D (LCg.lst ys) S (fun y news' => J (i + 1) (ys ++ [y]) news')) E' { s with heap := h, toks := tk })
    (fin : ∀ ys news, J n ys news → Fin ys news) : ∀ (k i : Nat) (ys : List Value) (news : List (Addr × Obj)), k + i = n → J i ys news → LCg.CompRest prog w A h₀ L m env elt x scope cl s S P Fin k i ys news
  | 0, i, ys, news, e, hJ => LCg.CompRest.zero (fin ys news (by rw [← e, Nat.zero_add]; exact hJ))
  | k + 1, i, ys, news, e, hJ => LCg.CompRest.succ fun v I oI C oC D m₂ h tk E' hP hC hx F N off ne => by
    refine wpAny_mono (step i ys news v I oI C oC D m₂ h tk E' (by omega) hJ hP hC hx F N off) (fun y s₂ h₂ => ?_) fun _ _ e => e
    obtain ⟨h', tk', news', e', F', N', o', S', J'⟩ := h₂
    exact ⟨h', tk', news', e', F', N', o', S', compInv J n step fin k (i + 1) (ys ++ [y]) news' (by omega) J'⟩
end
section
variable {prog : Program} {w : World} {A : Around} {E : Value → Shared → Prop} {h₀ : Heap} {env : Env} {x : Str} {px : Pos} {body : List Stmt} {Q : Flow → Shared → Prop}
theorem forRange {s : Shared} {r : Addr} {b : Int} {t u v : Tok} {n : Nat} {m₀ : Str → Option Value} {news : List (Addr × Obj)} (J : Nat → (Str → Option Value) → List (Addr × Obj) → Prop)
    (hh : A.handled = none) (hr : IsRange s.heap r 0 b 1 t u v) (hsm : Builtin.Range.small 0 b 1 = true) (hn : Builtin.Range.rangeSize 0 b 1 = (n : Int)) (F : Fr h₀ env.locals s.heap m₀) (N : News h₀ env.locals s.heap news) (h0 : J 0 m₀ news)
    (step : ∀ I i t m news h tk o, i < n → J i m news → (∀ p ∈ news, p.1 ≠ I) → Fr h₀ env.locals h m → News h₀ env.locals h ((I, o) :: news) →
      wpAny (model prog w) A (assign (.Name x px) env (.int (i : Int) t)) (fun _ s₂ => wpAny (model prog w) A (execs body env) (TurnEnd h₀ env.locals s (J (i + 1)) Q I o) E s₂) E { s with heap := h, toks := tk })
    (fin : ∀ h tk m news, J n m news → Fr h₀ env.locals h m → News h₀ env.locals h news → Q .next { s with heap := h, toks := tk }) :
    wpAny (model prog w) A (pyIter (.ref r)) (fun it s₂ => TurnsAt prog w A h₀ env (.Name x px) body Q E it s₂) E s := by
  refine wpAny_pyIter_range hr hsm ?_
  refine ⟨s.heap.objs.size, [s.heap.objs.size], [s.heap.objs.size], n, fun i v _ => ∃ t, v = .int (0 + (i : Int)) t, fun i v h => (∃ t, v = .int (0 + (i : Int)) t) ∧ IsRangeIter h s.heap.objs.size ((0 : Int) + ((i + 1 : Nat) : Int) * 1) ((n : Int) - ((i + 1 : Nat) : Int)) 1, fun i h => IsRangeIter h s.heap.objs.size ((0 : Int) + (i : Nat) * 1) ((n : Int) - (i : Nat)) 1, m₀, news, J, rfl,
    KTurns.ofWalks (LCg.range_walks hh 0 n) (fun i v s Q E st q => wpAny_pure q), ?_, ?_, ?_, ?_, F.push _, fun p hp => ⟨Heap.get?_push_of_some _ (N p hp).1, (N p hp).2⟩, h0, ?_, ?_⟩
  · intro hm
    exact absurd F.ns.lt ((List.mem_singleton.mp hm) ▸ Nat.lt_irrefl _)
  · intro b hb
    rw [List.mem_singleton.mp hb]
    exact next_is_new F
  · intro p hp hI
    exact absurd (Heap.lt_size (N p hp).1) ((List.mem_singleton.mp hI) ▸ Nat.lt_irrefl _)
  · show IsRangeIter _ _ _ _ _
    rw [hn]
    simpa using Heap.get?_push_size _ rfl
  · intro i vv m₁ news₁ h₁ tk₁ own hi hP hJ hoff hown hget hall hst F₁ N₁
    obtain ⟨t, rfl⟩ := hP
    rw [Int.zero_add]
    obtain ⟨oI, hst'⟩ : ∃ oI, h₁.get? s.heap.objs.size = some oI := ⟨_, hst⟩
    have hmem := hall s.heap.objs.size (List.mem_singleton.mpr rfl) (next_is_new F) _ hst'
    have hI : ∀ p ∈ news₁, p.1 ≠ s.heap.objs.size := fun p hp e => hoff p hp (by rw [e]; exact List.mem_singleton.mpr rfl)
    have ownE : ∀ p ∈ own, ∀ (l : List (Addr × Obj)), p ∈ (s.heap.objs.size, oI) :: l := fun p hp l => by
      have e1 : p.1 = s.heap.objs.size := List.mem_singleton.mp (hown p hp)
      have e2 := hget p hp
      rw [e1, hst'] at e2
      have : p = (s.heap.objs.size, oI) := Prod.ext e1 (Option.some.inj e2).symm
      rw [this]
      exact .head _
    have N₂ : News h₀ env.locals h₁ ((s.heap.objs.size, oI) :: news₁) := fun p hp => by
      rcases List.mem_cons.mp hp with rfl | hp
      · exact N₁ _ (List.mem_append_left _ hmem)
      · exact N₁ _ (List.mem_append_right _ hp)
    refine wpAny_mono (step s.heap.objs.size i t m₁ news₁ h₁ tk₁ oI hi hJ hI F₁ N₂) (fun _ s₂ h₂ => wpAny_mono h₂ (fun f s₃ h₃ => ?_) fun _ _ e => e) fun _ _ e => e
    have fin' : (∃ h' tk' m' news', s₃ = { s with heap := h', toks := tk' } ∧ Fr h₀ env.locals h' m' ∧ News h₀ env.locals h' ((s.heap.objs.size, oI) :: news') ∧ (∀ p ∈ news', p.1 ≠ s.heap.objs.size) ∧ J (i + 1) m' news') →
        LoopStepU h₀ env.locals [s.heap.objs.size] own (J (i + 1)) { s with heap := h₁, toks := tk₁ } .next s₃ := by
      rintro ⟨h', tk', m', news', e, F', N', ho, hJ'⟩
      refine ⟨rfl, h', tk', m', news', e, F', fun p hp => ?_, fun p hp hm => ho p hp (List.mem_singleton.mp hm), hJ'⟩
      rcases List.mem_append.mp hp with hp | hp
      · exact N' p (ownE p hp news')
      · exact N' p (.tail _ hp)
    cases f with
    | ret v => exact h₃
    | brk => exact h₃
    | cont => exact fin' h₃
    | next => exact fin' h₃
  · intro h tk m' news' F' N' _ hJ
    exact fin h tk m' news' hJ F' N'
end

end
section
set_option maxRecDepth 100000
section
variable {prog : Program} {w : World} {A : Around} {E : Value → Shared → Prop} {s : Shared}
theorem sub_str_self : isSubtype (.type "str") (.type "str") = pure true := by with_unfolding_all rfl
theorem issub_nested_str {k : Value} {dep : Int} {tk : Tok} {Q : PySem.Fin → Shared → Prop} (hk : k = .int dep tk)
    (hq : Q (.done (.ret (.bool true))) s) :
    wpAny (model prog w) A (Builtin.«issubclass.nested» ⟨[.type "str", .type "str", k], []⟩) Q E s := by
  subst hk
  have hself := sub_str_self
  have hm : typeOf (.type "str") = pure (.type "type") := by with_unfolding_all rfl
  repeat (any_goals (first | assumption | (rw [hself]) | (rw [hm]) | wp_step))
theorem kind_issub_nested : builtinKind "issubclass.nested" = none := by decide +kernel
theorem plain_issub_nested : plainId "issubclass.nested" = true := by decide +kernel
theorem args_issub_nested_3 (a b c : Value) : argsOk "issubclass.nested" ⟨[a, b, c], []⟩ := by unfold argsOk; kernel_rfl
theorem issub_nested_tuple {tp : Addr} {tk : Tok} {Q : PySem.Fin → Shared → Prop} (htp : s.heap.get? tp = some { cls := .type "tuple", data := .seq #[.type "str", .type "bytes"] })
    (hq : ∀ tk', Q (.done (.ret (.bool true))) { s with toks := tk' }) : wpAny (model prog w) A (Builtin.«issubclass.nested» ⟨[.type "str", .ref tp, .int 0 tk], []⟩) Q E s := by
  obtain ⟨h, g, d, t, os⟩ := s
  have hT2 : (⟨h, g, d, t, os⟩ : Shared).TypeIs (.ref tp) "tuple" := ⟨_, htp, rfl⟩
  generalize hA : (#[.type "str", .type "bytes"] : Array Value) = arr at htp
  have f1 := PySem.F.isi_sub_tuple
  repeat (any_goals (first | assumption | wp_step))
  refine wpAny_arrayLoop ?_
  subst hA
  simp only [Option.getD_some, List.toList_toArray]
  rw [List.forIn_cons]
  refine wpAny_bind (wpAny_bind (call_function_meets (S := fun _ R s => R (.ok (.ret (.bool true))) s) kind_issub_nested plain_issub_nested PySem.F.entry_issubclass_nested (args_issub_nested_3 _ _ _) (fun _ _ _ _ _ hs => issub_nested_str rfl hs) ?_))
  show wpAny _ _ (truthy (.bool true) >>= _) _ _ _
  refine wpAny_bind (m := truthy (.bool true)) (wpAny_pure ?_)
  refine wpAny_bind (wpAny_pure (wpAny_pure (wpAny_pure ?_)))
  exact wpAny_pure (hq t)
theorem issub_str {tp L : Addr} {h₀ : Heap} {news : List (Addr × Obj)} {Q : Value → Shared → Prop} (N : News h₀ L s.heap ((tp, { cls := .type "tuple", data := .seq #[.type "str", .type "bytes"] }) :: news))
    (hq : ∀ tk', Q (.bool true) { s with toks := tk' }) : wpAny (model prog w) A (call (.builtin "issubclass") [.type "str", .ref tp]) Q E s :=
  call_issubclass (S := fun _ R s => s.heap.get? tp = some { cls := .type "tuple", data := .seq #[.type "str", .type "bytes"] } ∧ ∀ tk', R (.ok (.ret (.bool true))) { s with toks := tk' })
    (fun _ _ _ _ _ hs => issubclass_outer (issub_nested_tuple hs.1 hs.2)) ⟨(N _ (.head _)).1, hq⟩
end

end
section
set_option maxRecDepth 100000
set_option maxHeartbeats 8000000
theorem fspath_call (w : World) (x : Str) (t : Tok) (news : List (Addr × Obj)) : Call w 112 [.str x t] news 3 20 fun K => ∀ t, K (.str x t) news := by
  w_top off
  k_with_none
  k_with "mine enter" => (refine' code_def ?k1 ?k2 ?k3 ?k4 ?k5 ?kA ?kF ?kK ?k6 ?k7 ?k8 ?k9 ?kB ?_ ?c2 ?c3 ?c4 ?c5; (case kA => exact rfl); (case kF => exact rfl); (case kK => first | exact rfl | assumption); (case k1 => k_asm); (case k2 => k_asm); (case k3 => k_asm); (case k4 => k_asm); (case k5 => k_asm); (case k6 => k_is); (case k7 => k_is); (case k8 => ktr_room); (case k9 => first | exact BindsTo.of_eq rfl | exact binds_K (by k_in) rfl (by k_is) rfl rfl rfl); (case c5 => decide); (case kB => exact locs rfl); (case c2 => exact rfl); (case c3 => exact rfl); (case c4 => exact rfl); k_whole; intro g' L' h' FG' F' N' B' X' T'; (try dsimp only); (try k_lift B'); (try k_fold))
  k_with "call builtin:len" => (k_here; (with_reducible show wpAny _ _ (call (Value.builtin "len") [Value.str (Str.mk (List.toArray _)) _]) _ _ _); k_dflt (refine' len_mk ?k1 ?_; (case k1 => omega)); intro t9 k9)
  k_with "call builtin:issubclass" => (k_here; k_dflt (refine' issub_str ?k1 ?_; (case k1 => k_asm)); intro k9)
  intro mean mg mb dp un gd cn cs a ccd cl outer A₀ base h₀ L m s Q E B F X N T hk hd hu hret
  refine wpAny_call ?_
  k_dflt walk_at "mine enter"
  k_steps
  all_goals exact hret _ _ _ (by k_asm) (skip1 (by k_asm))
theorem sep_call (w : World) (x : Str) (t : Tok) (news : List (Addr × Obj)) : Call w 126 [.str x t] news 3 20 fun K => ∀ t, K (.str (Str.ofString "/") t) news := by
  w_top off
  k_with_none
  k_with "mine enter" => (refine' code_def ?k1 ?k2 ?k3 ?k4 ?k5 ?kA ?kF ?kK ?k6 ?k7 ?k8 ?k9 ?kB ?_ ?c2 ?c3 ?c4 ?c5; (case kA => exact rfl); (case kF => exact rfl); (case kK => first | exact rfl | assumption); (case k1 => k_asm); (case k2 => k_asm); (case k3 => k_asm); (case k4 => k_asm); (case k5 => k_asm); (case k6 => k_is); (case k7 => k_is); (case k8 => ktr_room); (case k9 => first | exact BindsTo.of_eq rfl | exact binds_K (by k_in) rfl (by k_is) rfl rfl rfl); (case c5 => decide); (case kB => exact locs rfl); (case c2 => exact rfl); (case c3 => exact rfl); (case c4 => exact rfl); k_whole; intro g' L' h' FG' F' N' B' X' T'; (try dsimp only); (try k_lift B'); (try k_fold))
  k_with "call builtin:len" => (k_here; (with_reducible show wpAny _ _ (call (Value.builtin "len") [Value.str (Str.mk (List.toArray _)) _]) _ _ _); k_dflt (refine' len_mk ?k1 ?_; (case k1 => omega)); intro t9 k9)
  k_with "call builtin:issubclass" => (k_here; k_dflt (refine' issub_str ?k1 ?_; (case k1 => k_asm)); intro k9)
  intro mean mg mb dp un gd cn cs a ccd cl outer A₀ base h₀ L m s Q E B F X N T hk hd hu hret
  refine wpAny_call ?_
  k_dflt walk_at "mine enter"
  k_steps
  all_goals exact hret _ _ _ (by k_asm) (by k_asm)


end
section
set_option maxRecDepth 100000
set_option maxHeartbeats 8000000
theorem splitroot_call (w : World) (l : List Nat) (t : Tok) (news : List (Addr × Obj)) (hl : l.length ≤ 100000) (h1 : l ≠ []) (h2 : l.head? ≠ some 47) : Call w 140 [.str (mkS (47 :: l)) t] news 6 60 fun K => ∀ a t1 t2 t3, K (.ref a) ((a, { cls := .type "tuple", data := .seq #[.str (Str.ofString "") t1, .str (Str.ofString "/") t2, .str (mkS l) t3] }) :: news) := by
  w_top off
  k_with_none
  k_with "mine enter" => (refine' code_def ?k1 ?k2 ?k3 ?k4 ?k5 ?kA ?kF ?kK ?k6 ?k7 ?k8 ?k9 ?kB ?_ ?c2 ?c3 ?c4 ?c5; (case kA => exact rfl); (case kF => exact rfl); (case kK => first | exact rfl | assumption); (case k1 => k_asm); (case k2 => k_asm); (case k3 => k_asm); (case k4 => k_asm); (case k5 => k_asm); (case k6 => k_is); (case k7 => k_is); (case k8 => ktr_room); (case k9 => first | exact BindsTo.of_eq rfl | exact binds_K (by k_in) rfl (by k_is) rfl rfl rfl); (case c5 => decide); (case kB => exact locs rfl); (case c2 => exact rfl); (case c3 => exact rfl); (case c4 => exact rfl); k_whole; intro g' L' h' FG' F' N' B' X' T'; (try dsimp only); (try k_lift B'); (try k_fold))
  k_with "call builtin:len" => (k_here; (with_reducible show wpAny _ _ (call (Value.builtin "len") [Value.str (Str.mk (List.toArray _)) _]) _ _ _); k_dflt (refine' len_mk ?k1 ?_; (case k1 => first | omega | (simp only [List.length_append, List.length_cons, List.length_nil]; omega))); intro t9 k9)
  k_with "subscriptTail Name Slice str ref" => (k_here; (with_reducible show wpAny _ _ (subscriptTail _ (Expr.Slice _ _ none _) (Value.str (Str.mk _) _) (Value.ref _)) _ _ _); (with_reducible rename Fr _ _ _ _ => F'); (with_reducible rename News _ _ _ _ => N'); (refine' EL.sl (s := ⟨_, _, _, _, _⟩) ?e ?hl ?hh ?hs F' N' ?_ ?k6 ?k7; (case hl => first | exact .inl ⟨rfl, rfl⟩ | exact .inr ⟨_, _, rfl, rfl⟩); (case hh => first | exact .inl ⟨rfl, rfl, by simp⟩ | exact .inr ⟨_, _, rfl, rfl⟩); (case e => with_reducible assumption); (case hs => walk_at "tx len"); (case k6 => with_unfolding_all rfl); (case k7 => (intro _; with_unfolding_all rfl))); intro _ _ _ _ _)
  k_with "tx len" => (first | omega | (simp only [List.length_append, List.length_cons, List.length_nil]; omega))
  k_with "truthy str" => (k_here; (with_reducible refine' EL.truthy ?e ?hs ?_); (case e => first | with_reducible assumption | with_reducible exact rfl); (case hs => walk_at "tx len"); intro _)
  k_with "call builtin:str.startswith" => (k_here; (refine' EL.starts ?e ?_; (case e => with_reducible assumption)))
  k_with "call builtin:str.endswith" => (k_here; (refine' EL.ends ?e ?_; (case e => with_reducible assumption)))
  k_with "binaryOp Mult str int" => (k_here; (refine' EL.mul ?e ?hn ?hz ?_; (case e => with_reducible assumption); (case hn => walk_at "tx len"); (case hz => decide +kernel)); intro _ _)
  k_with "ite" => (first | (with_reducible refine itT (by with_reducible assumption) ?_) | (with_reducible refine itF (by with_reducible assumption) ?_))
  k_with "binaryOp Add str str" => (k_here; (first | (with_reducible refine' EL.add ?hs ?_; (case hs => walk_at "tx len")) | (with_reducible refine' EL.addL ?ez ?hs ?_; (case ez => with_reducible assumption); (case hs => walk_at "tx len")) | (with_reducible refine' EL.addE ?ez ?hs ?_; (case ez => with_reducible assumption); (case hs => walk_at "tx len"))); intro _ _)
  k_with "inplaceOp Add str str" => (k_here; (with_reducible refine' EL.iaddE ?hs ?_); (case hs => walk_at "tx len"); intro _ _)
  k_with "call ref" => (k_here; k_dflt (first | refine' callUse (fspath_call _ _ _ _) ?k1 ?k2 ?k3 ?k4 ?k5 ?kK ?kd ?ku ?_ | refine' callUse (sep_call _ _ _ _) ?k1 ?k2 ?k3 ?k4 ?k5 ?kK ?kd ?ku ?_); (case k4 => k_asm); (case k1 => k_asm); (case k2 => k_asm); (case k3 => k_asm); (case k5 => k_asm); (case kK => first | exact rfl | assumption); (case kd => ktr_room); (case ku => ktr_units); intro t9 h9 tk9 F9 N9; (try dsimp only); (try k_sweep); (try k_fold))
  have e1 : Txt.slice (mkS (47 :: l)) none (some 1) = mkS [47] := sl_ns (47 :: l) 1
  have e2 : Txt.slice (mkS (47 :: l)) (some 1) (some 2) = mkS (l.take 1) := sl_ss (47 :: l) (i := 1) (j := 2) (by decide)
  have e3 : Txt.slice (mkS (47 :: l)) (some 1) none = mkS l := sl_sn (47 :: l) 1
  have c1 : (mkS [47] != Str.ofString "/") = false := by rw [ofs "/" [47]]; decide +kernel
  have c2 : (mkS (l.take 1) != Str.ofString "/") = true := by
    rw [ofs "/" [47]]
    cases l with
    | nil => exact absurd rfl h1
    | cons c r =>
      have hc : c ≠ 47 := fun e => h2 (by rw [e]; rfl)
      simp [hc]
  intro mean mg mb dp un gd cn cs a ccd cl outer A₀ base h₀ L m s Q E B F X N T hk hd hu hret
  refine wpAny_call ?_
  k_dflt walk_at "mine enter"
  k_steps
  exact hret _ _ _ _ _ _ (by k_asm) (by k_asm)


end
section
set_option maxRecDepth 100000
set_option maxHeartbeats 8000000
theorem rep_foldl : ∀ (n : Nat) (acc : List Nat), ((List.replicate n (#[47] : Array Nat)).foldl (· ++ ·) acc.toArray) = (acc ++ List.replicate n 47).toArray
  | 0, acc => by simp
  | n + 1, acc => by
    rw [List.replicate_succ, List.foldl_cons]
    have := rep_foldl n (acc ++ [47])
    rw [show acc.toArray ++ #[47] = (acc ++ [47]).toArray by simp, this, List.append_assoc]
    rfl
theorem mul_slash (n : Nat) (h : 1 ≤ n) : Txt.mul (Str.ofString "/") (n : Int) = mkS (List.replicate n 47) := by
  rw [ofs "/" [47]]
  unfold Txt.mul
  rw [if_neg (by omega)]
  by_cases h1 : n = 1
  · subst h1; rfl
  · rw [if_neg (by rw [mkS_len]; simp; omega)]
    apply eq_mkS
    have := rep_foldl n []
    rw [List.nil_append] at this
    show ((List.replicate (n : Int).toNat (#[47] : Array Nat)).foldl (· ++ ·) #[]).toList = _
    rw [Int.toNat_natCast, show (#[] : Array Nat) = ([] : List Nat).toArray from rfl, this]
theorem dirname_call (w : World) (a₁ b : List Nat) (t : Tok) (news : List (Addr × Obj)) (hl : a₁.length + b.length ≤ 100000) (hb : 47 ∉ b) (ha : a₁ = [] ∨ a₁.getLast? ≠ some 47) : Call w 147 [.str (mkS (a₁ ++ 47 :: b)) t] news 6 60 fun K => ∀ t1, K (.str (mkS (if a₁ = [] then [47] else a₁)) t1) news := by
  w_top off
  k_with_none
  k_with "mine enter" => (refine' code_def ?k1 ?k2 ?k3 ?k4 ?k5 ?kA ?kF ?kK ?k6 ?k7 ?k8 ?k9 ?kB ?_ ?c2 ?c3 ?c4 ?c5; (case kA => exact rfl); (case kF => exact rfl); (case kK => first | exact rfl | assumption); (case k1 => k_asm); (case k2 => k_asm); (case k3 => k_asm); (case k4 => k_asm); (case k5 => k_asm); (case k6 => k_is); (case k7 => k_is); (case k8 => ktr_room); (case k9 => first | exact BindsTo.of_eq rfl | exact binds_K (by k_in) rfl (by k_is) rfl rfl rfl); (case c5 => decide); (case kB => exact locs rfl); (case c2 => exact rfl); (case c3 => exact rfl); (case c4 => exact rfl); k_whole; intro g' L' h' FG' F' N' B' X' T'; (try dsimp only); (try k_lift B'); (try k_fold))
  k_with "call builtin:len" => (k_here; (with_reducible show wpAny _ _ (call (Value.builtin "len") [Value.str (Str.mk (List.toArray _)) _]) _ _ _); k_dflt (refine' len_mk ?k1 ?_; (case k1 => first | omega | (simp only [List.length_append, List.length_cons, List.length_nil]; omega))); intro t9 k9)
  k_with "subscriptTail Name Slice str ref" => (k_here; (with_reducible show wpAny _ _ (subscriptTail _ (Expr.Slice _ _ none _) (Value.str (Str.mk _) _) (Value.ref _)) _ _ _); (with_reducible rename Fr _ _ _ _ => F'); (with_reducible rename News _ _ _ _ => N'); (refine' EL.sl (s := ⟨_, _, _, _, _⟩) ?e ?hl ?hh ?hs F' N' ?_ ?k6 ?k7; (case hl => first | exact .inl ⟨rfl, rfl⟩ | exact .inr ⟨_, _, rfl, rfl⟩); (case hh => first | exact .inl ⟨rfl, rfl, by simp⟩ | exact .inr ⟨_, _, rfl, rfl⟩); (case e => with_reducible assumption); (case hs => walk_at "tx len"); (case k6 => with_unfolding_all rfl); (case k7 => (intro _; with_unfolding_all rfl))); intro _ _ _ _ _)
  k_with "tx len" => (first | omega | (simp only [List.length_append, List.length_cons, List.length_nil]; omega))
  k_with "truthy str" => (k_here; (with_reducible refine' EL.truthy ?e ?hs ?_); (case e => first | with_reducible assumption | with_reducible exact rfl); (case hs => walk_at "tx len"); intro _)
  k_with "call builtin:str.startswith" => (k_here; (refine' EL.starts ?e ?_; (case e => with_reducible assumption)))
  k_with "call builtin:str.endswith" => (k_here; (refine' EL.ends ?e ?_; (case e => with_reducible assumption)))
  k_with "binaryOp Mult str int" => (k_here; (refine' EL.mul ?e ?hn ?hz ?_; (case e => with_reducible assumption); (case hn => walk_at "tx len"); (case hz => decide +kernel)); intro _ _)
  k_with "ite" => (first | (with_reducible refine itT (by with_reducible assumption) ?_) | (with_reducible refine itF (by with_reducible assumption) ?_))
  k_with "binaryOp Add str str" => (k_here; (first | (with_reducible refine' EL.add ?hs ?_; (case hs => walk_at "tx len")) | (with_reducible refine' EL.addL ?ez ?hs ?_; (case ez => with_reducible assumption); (case hs => walk_at "tx len")) | (with_reducible refine' EL.addE ?ez ?hs ?_; (case ez => with_reducible assumption); (case hs => walk_at "tx len"))); intro _ _)
  k_with "inplaceOp Add str str" => (k_here; (with_reducible refine' EL.iaddE ?hs ?_); (case hs => walk_at "tx len"); intro _ _)
  k_with "call ref" => (k_here; k_dflt (first | refine' callUse (fspath_call _ _ _ _) ?k1 ?k2 ?k3 ?k4 ?k5 ?kK ?kd ?ku ?_ | refine' callUse (sep_call _ _ _ _) ?k1 ?k2 ?k3 ?k4 ?k5 ?kK ?kd ?ku ?_); (case k4 => k_asm); (case k1 => k_asm); (case k2 => k_asm); (case k3 => k_asm); (case k5 => k_asm); (case kK => first | exact rfl | assumption); (case kd => ktr_room); (case ku => ktr_units); intro t9 h9 tk9 F9 N9; (try dsimp only); (try k_sweep); (try k_fold))
  have e2 : Txt.slice (mkS (a₁ ++ 47 :: b)) none (some (Txt.rfind (mkS (a₁ ++ 47 :: b)) (Str.ofString "/") + 1)) = mkS (a₁ ++ [47]) := by
    rw [show Txt.rfind (mkS (a₁ ++ 47 :: b)) (Str.ofString "/") = (a₁.length : Int) by rw [ofs "/" [47]]; exact txt_rfind hb]
    rw [show ((a₁.length : Int) + 1) = ((a₁.length + 1 : Nat) : Int) from rfl, sl_ns, show a₁ ++ 47 :: b = (a₁ ++ [47]) ++ b by simp, show a₁.length + 1 = (a₁ ++ [47]).length by simp, List.take_left]
  have e3 : ((a₁ ++ [47]).length != 0) = true := by simp
  have e4 : Txt.mul (Str.ofString "/") ((a₁ ++ [47]).length : Int) = mkS (List.replicate (a₁ ++ [47]).length 47) := mul_slash _ (by simp)
  have e5 : (mkS (a₁ ++ [47]) != mkS (List.replicate (a₁ ++ [47]).length 47)) = !(decide (a₁ = [])) := by
    rcases ha with rfl | ha
    · decide +kernel
    · by_cases h0 : a₁ = []
      · subst h0; decide +kernel
      · rw [show (!(decide (a₁ = []))) = true by simp [h0], bne_iff_ne]
        intro e
        have e := mkS_inj e
        apply ha
        rcases List.eq_nil_or_concat a₁ with rfl | ⟨r, d, rfl⟩
        · exact absurd rfl h0
        · have : d ∈ List.replicate ((r.concat d) ++ [47]).length 47 := by rw [← e]; simp
          rw [List.eq_of_mem_replicate this]
          simp
  have e5t : (mkS (a₁ ++ [47]) != mkS (List.replicate (a₁ ++ [47]).length 47)) = true → a₁ ≠ [] := fun h h0 => by rw [e5] at h; simp [h0] at h
  have e5f : (mkS (a₁ ++ [47]) != mkS (List.replicate (a₁ ++ [47]).length 47)) = false → a₁ = [] := fun h => by rw [e5] at h; simpa using h
  have e6 : a₁ ≠ [] → Txt.rstripChars (mkS (a₁ ++ [47])) (Str.ofString "/") = mkS a₁ := fun h0 => by
    rw [ofs "/" [47]]; exact txt_rstrip (ha.resolve_left h0)
  clear e5
  intro mean mg mb dp un gd cn cs a ccd cl outer A₀ base h₀ L m s Q E B F X N T hk hd hu hret
  refine wpAny_call ?_
  k_dflt walk_at "mine enter"
  k_steps
  · have h0 : a₁ ≠ [] := e5t (by with_reducible assumption)
    rw [if_neg h0] at hret
    refine' EL.rstrip (e6 h0) ?hs ?_
    case hs => walk_at "tx len"
    intro _ _
    k_steps
    exact hret _ _ _ (by k_asm) (by k_asm)
  · have h0 : a₁ = [] := e5f (by with_reducible assumption)
    rw [if_pos h0] at hret
    subst h0
    exact hret _ _ _ (by k_asm) (by k_asm)


end
section
set_option maxRecDepth 100000
set_option maxHeartbeats 8000000
theorem join_call (w : World) (a b : List Nat) (t u : Tok) (news : List (Addr × Obj)) (ha : a.length ≤ 100000) (hb : b.length ≤ 100000) : Call w 133 [.str (mkS a) t, .str (mkS b) u] news 6 60 fun K => ∀ t1, K (.str (mkS (joinP a b)) t1) news := by
  w_top off
  k_with_none
  k_with "mine enter" => (refine' code_def ?k1 ?k2 ?k3 ?k4 ?k5 ?kA ?kF ?kK ?k6 ?k7 ?k8 ?k9 ?kB ?_ ?c2 ?c3 ?c4 ?c5; (case kA => exact rfl); (case kF => exact rfl); (case kK => first | exact rfl | assumption); (case k1 => k_asm); (case k2 => k_asm); (case k3 => k_asm); (case k4 => k_asm); (case k5 => k_asm); (case k6 => k_is); (case k7 => k_is); (case k8 => ktr_room); (case k9 => first | exact BindsTo.of_eq rfl | exact binds_K (by k_in) rfl (by k_is) rfl rfl rfl); (case c5 => decide); (case kB => exact locs rfl); (case c2 => exact rfl); (case c3 => exact rfl); (case c4 => exact rfl); k_whole; intro g' L' h' FG' F' N' B' X' T'; (try dsimp only); (try k_lift B'); (try k_fold))
  k_with "call builtin:len" => (k_here; (with_reducible show wpAny _ _ (call (Value.builtin "len") [Value.str (Str.mk (List.toArray _)) _]) _ _ _); k_dflt (refine' len_mk ?k1 ?_; (case k1 => first | omega | (simp only [List.length_append, List.length_cons, List.length_nil]; omega))); intro t9 k9)
  k_with "subscriptTail Name Slice str ref" => (k_here; (with_reducible show wpAny _ _ (subscriptTail _ (Expr.Slice _ _ none _) (Value.str (Str.mk _) _) (Value.ref _)) _ _ _); (with_reducible rename Fr _ _ _ _ => F'); (with_reducible rename News _ _ _ _ => N'); (refine' EL.sl (s := ⟨_, _, _, _, _⟩) ?e ?hl ?hh ?hs F' N' ?_ ?k6 ?k7; (case hl => first | exact .inl ⟨rfl, rfl⟩ | exact .inr ⟨_, _, rfl, rfl⟩); (case hh => first | exact .inl ⟨rfl, rfl, by simp⟩ | exact .inr ⟨_, _, rfl, rfl⟩); (case e => with_reducible assumption); (case hs => walk_at "tx len"); (case k6 => with_unfolding_all rfl); (case k7 => (intro _; with_unfolding_all rfl))); intro _ _ _ _ _)
  k_with "tx len" => (first | omega | (simp only [List.length_append, List.length_cons, List.length_nil]; omega))
  k_with "truthy str" => (k_here; (with_reducible refine' EL.truthy ?e ?hs ?_); (case e => first | with_reducible assumption | with_reducible exact rfl); (case hs => walk_at "tx len"); intro _)
  k_with "call builtin:str.startswith" => (k_here; (refine' EL.starts ?e ?_; (case e => with_reducible assumption)))
  k_with "call builtin:str.endswith" => (k_here; (refine' EL.ends ?e ?_; (case e => with_reducible assumption)))
  k_with "binaryOp Mult str int" => (k_here; (refine' EL.mul ?e ?hn ?hz ?_; (case e => with_reducible assumption); (case hn => walk_at "tx len"); (case hz => decide +kernel)); intro _ _)
  k_with "ite" => (first | (with_reducible refine itT (by with_reducible assumption) ?_) | (with_reducible refine itF (by with_reducible assumption) ?_))
  k_with "binaryOp Add str str" => (k_here; (first | (with_reducible refine' EL.add ?hs ?_; (case hs => walk_at "tx len")) | (with_reducible refine' EL.addL ?ez ?hs ?_; (case ez => with_reducible assumption); (case hs => walk_at "tx len")) | (with_reducible refine' EL.addE ?ez ?hs ?_; (case ez => with_reducible assumption); (case hs => walk_at "tx len"))); intro _ _)
  k_with "inplaceOp Add str str" => (k_here; (with_reducible refine' EL.iaddE ?hs ?_); (case hs => walk_at "tx len"); intro _ _)
  k_with "call ref" => (k_here; k_dflt (first | refine' callUse (fspath_call _ _ _ _) ?k1 ?k2 ?k3 ?k4 ?k5 ?kK ?kd ?ku ?_ | refine' callUse (sep_call _ _ _ _) ?k1 ?k2 ?k3 ?k4 ?k5 ?kK ?kd ?ku ?_); (case k4 => k_asm); (case k1 => k_asm); (case k2 => k_asm); (case k3 => k_asm); (case k5 => k_asm); (case kK => first | exact rfl | assumption); (case kd => ktr_room); (case ku => ktr_units); intro t9 h9 tk9 F9 N9; (try dsimp only); (try k_sweep); (try k_fold))
  have e1 : Txt.startswith (mkS b) (Str.ofString "/") = (b.head? == some 47) := by rw [ofs "/" [47]]; exact txt_starts b 47
  have es : Str.ofString "/" = mkS [47] := ofs "/" [47]
  have e2 : Txt.endswith (mkS a) (Str.ofString "/") = (a.getLast? == some 47) := by rw [ofs "/" [47]]; exact txt_ends a 47
  intro mean mg mb dp un gd cn cs a9 ccd cl outer A₀ base h₀ L m s Q E B F X N T hk hd hu hret
  refine wpAny_call ?_
  k_dflt (refine' kp_rest ?k1 ?k2 ?k3 ?k4 ?k5 ?kA ?kF ?kK ?k6 ?k7 ?k8 ?kV ?kP ?kG ?kB ?_ ?c2 ?c3 ?c4 ?c5; (case kA => exact rfl); (case kF => exact rfl); (case kK => first | exact rfl | assumption); (case k1 => k_asm); (case k2 => k_asm); (case k3 => k_asm); (case k4 => k_asm); (case k5 => k_asm); (case k6 => k_is); (case k7 => k_is); (case k8 => ktr_room); (case kV => kl_lit); (case kP => exact rfl); (case kG => exact fun _ => rfl); (case kB => exact fun _ => locs rfl); (case c5 => decide); (case c2 => exact rfl); (case c3 => exact rfl); (case c4 => exact rfl); k_whole; intro D' g' L' h' l1 FG' F' N' B' X' T'; (try k_lt l1); (try dsimp only); (try k_lift B'); (try k_fold))
  k_steps
  (rename Fr _ _ _ _ => lF')
  (with_unfolding_all refine' For_turns lF' ?_)
  k_steps
  (rename Fr _ _ _ _ => fF)
  (rename News _ _ _ _ => nN)
  obtain ⟨m9, em9, fF⟩ : ∃ m', m' = _ ∧ Fr _ _ _ m' := ⟨_, rfl, fF⟩
  obtain ⟨n9, en9, nN⟩ : ∃ n', n' = _ ∧ News _ _ _ n' := ⟨_, rfl, nN⟩
  refine' forTup (lo := { cls := .type "tuple", data := .seq #[.str (mkS b) u] }) (vs := [.str (mkS b) u]) (fun r m n => n = n9 ∧ (r = [.str (mkS b) u] ∧ m = m9 ∨ r = [] ∧ ∃ t, m (Str.ofString "path") = some (.str (mkS (joinP a b)) t))) rfl fF nN (en9 ▸ .head _) rfl rfl ?hk ⟨rfl, .inl ⟨rfl, rfl⟩⟩ ?step ?fin
  case hk => exact fun _ _ _ h => by rw [h.1, en9]; exact .head _
  case fin =>
    rintro h tk m n ⟨rfl, ⟨h, _⟩ | ⟨_, t, ht⟩⟩ F9 N9
    · cases h
    · rw [mapPut2 ht] at F9
      subst en9
      k_steps
      exact hret _ _ _ (by k_asm) (skip1 (by k_asm))
  case step =>
    rintro I v r m n h tk o ⟨rfl, ⟨hr, rfl⟩ | ⟨hr, _⟩⟩ hI F9 N9
    · obtain ⟨rfl, rfl⟩ := List.cons.inj hr
      subst em9 en9
      k_steps
      all_goals refine ⟨_, _, _, _, rfl, by k_asm, by k_asm, hI, rfl, .inr ⟨by first | rfl | trivial, _, (if_pos rfl).trans (congrArg (fun z => some (Value.str (mkS z) _)) ?_)⟩⟩
      all_goals unfold joinP
      · exact (if_pos (by with_reducible assumption)).symm
      · exact ((if_neg (ff (by with_reducible assumption))).trans ((if_pos (by with_reducible assumption)).trans (if_pos (by with_reducible assumption)))).symm
      · exact ((if_neg (ff (by with_reducible assumption))).trans ((if_pos (by with_reducible assumption)).trans (if_neg (ff (by with_reducible assumption))))).symm
      · exact ((if_neg (ff (by with_reducible assumption))).trans (if_neg (ff (by with_reducible assumption)))).symm
    · cases hr


end
section
set_option maxRecDepth 100000
set_option maxHeartbeats 8000000
theorem drop_at {resp : List Nat} {i c : Nat} {k : Int} (hk : k = (i : Int)) (h : resp[k.toNat]? = some c) : resp.drop i = c :: resp.drop (i + 1) := by
  subst hk
  rw [Int.toNat_natCast] at h
  obtain ⟨hl, he⟩ := List.getElem?_eq_some_iff.mp h
  rw [List.drop_eq_getElem_cons hl, he]
section
variable {resp l d : List Nat} {i c c' : Nat} (hun : d ++ unquoteL (resp.drop i) = unquoteL l)
include hun
theorem un_end (h : ¬ (i : Int) < (resp.length : Int)) : d = unquoteL l := by
  rw [List.drop_of_length_le (by omega)] at hun
  rw [← hun]
  show d = d ++ []
  rw [List.append_nil]
theorem un_brk1 (hc : resp[(i : Int).toNat]? = some c) (he : (mkS [c] == Str.ofString "\"") = true) (h : (resp.length : Int) ≤ (i : Int) + 1) : d = unquoteL l := by
  rw [ofs "\"" [34], sign_eq, beq_iff_eq] at he
  subst he
  rw [drop_at rfl hc, List.drop_of_length_le (by omega)] at hun
  rw [← hun]
  show d = d ++ []
  rw [List.append_nil]
theorem un_brk2 (hc : resp[(i : Int).toNat]? = some c) (he : (mkS [c] == Str.ofString "\"") = true) (hc' : resp[((i : Int) + 1).toNat]? = some c') (he' : (mkS [c'] != Str.ofString "\"") = true) : d = unquoteL l := by
  rw [ofs "\"" [34], sign_eq, beq_iff_eq] at he
  rw [ofs "\"" [34], bne, sign_eq, Bool.not_eq_true', beq_eq_false_iff_ne] at he'
  subst he
  rw [drop_at rfl hc, drop_at (i := i + 1) rfl hc'] at hun
  rw [← hun]
  have : unquoteL (34 :: c' :: resp.drop (i + 1 + 1)) = [] := by
    unfold unquoteL
    rw [if_pos rfl]
    split
    · rename_i e; exact absurd (List.cons.inj e).1 he'
    · rfl
  rw [this, List.append_nil]
theorem un_two (hc : resp[(i : Int).toNat]? = some c) (he : (mkS [c] == Str.ofString "\"") = true) (hc' : resp[((i : Int) + 1).toNat]? = some c') (he' : (mkS [c'] != Str.ofString "\"") = false) : (d ++ [c]) ++ unquoteL (resp.drop (i + 2)) = unquoteL l := by
  rw [ofs "\"" [34], sign_eq, beq_iff_eq] at he
  rw [ofs "\"" [34], bne, sign_eq, Bool.not_eq_false', beq_iff_eq] at he'
  subst he he'
  rw [drop_at rfl hc, drop_at (i := i + 1) rfl hc'] at hun
  rw [← hun, List.append_assoc]
  rfl
theorem un_one (hc : resp[(i : Int).toNat]? = some c) (he : (mkS [c] == Str.ofString "\"") = false) : (d ++ [c]) ++ unquoteL (resp.drop (i + 1)) = unquoteL l := by
  rw [ofs "\"" [34], sign_eq, beq_eq_false_iff_ne] at he
  rw [drop_at rfl hc] at hun
  rw [← hun, List.append_assoc]
  congr 1
  show c :: unquoteL (resp.drop (i + 1)) = unquoteL (c :: resp.drop (i + 1))
  conv => rhs; unfold unquoteL
  rw [if_neg he]
end
inductive PqS (l resp : List Nat) (news : List (Addr × Obj)) (n : Nat) (m : Str → Option Value) (nw : List (Addr × Obj)) : Prop
  | mk (i : Nat) (d : List Nat) (ti td tn tr : Tok) (a0 : n = resp.length - i) (a1 : i ≤ resp.length) (a2 : d.length ≤ i) (a3 : d ++ unquoteL (resp.drop i) = unquoteL l) (a4 : m (Str.ofString "resp") = some (.str (mkS resp) tr)) (a5 : m (Str.ofString "i") = some (.int (i : Nat) ti))
    (a6 : m (Str.ofString "n") = some (.int resp.length tn)) (a7 : m (Str.ofString "dirname") = some (.str (mkS d) td)) (a8 : nw = news) : PqS l resp news n m nw
theorem parse_call (w : World) (resp l : List Nat) (t : Tok) (news : List (Addr × Obj)) (hl : resp.length ≤ 100000) (hresp : resp = [50, 53, 55, 32, 34] ++ l) : Call w 186 [.str (mkS resp) t] news 6 60 fun K => ∀ t1, K (.str (mkS (unquoteL l)) t1) news := by
  w_top off
  k_with_none
  k_with "mine enter" => (refine' code_def ?k1 ?k2 ?k3 ?k4 ?k5 ?kA ?kF ?kK ?k6 ?k7 ?k8 ?k9 ?kB ?_ ?c2 ?c3 ?c4 ?c5; (case kA => exact rfl); (case kF => exact rfl); (case kK => first | exact rfl | assumption); (case k1 => k_asm); (case k2 => k_asm); (case k3 => k_asm); (case k4 => k_asm); (case k5 => k_asm); (case k6 => k_is); (case k7 => k_is); (case k8 => ktr_room); (case k9 => first | exact BindsTo.of_eq rfl | exact binds_K (by k_in) rfl (by k_is) rfl rfl rfl); (case c5 => decide); (case kB => exact locs rfl); (case c2 => exact rfl); (case c3 => exact rfl); (case c4 => exact rfl); k_whole; intro g' L' h' FG' F' N' B' X' T'; (try dsimp only); (try k_lift B'); (try k_fold))
  k_with "call builtin:len" => (k_here; (with_reducible show wpAny _ _ (call (Value.builtin "len") [Value.str (Str.mk (List.toArray _)) _]) _ _ _); k_dflt (refine' len_mk ?k1 ?_; (case k1 => first | omega | (simp only [List.length_append, List.length_cons, List.length_nil]; omega))); intro t9 k9)
  k_with "subscriptTail Name Slice str ref" => (k_here; (with_reducible show wpAny _ _ (subscriptTail _ (Expr.Slice _ _ none _) (Value.str (Str.mk _) _) (Value.ref _)) _ _ _); (with_reducible rename Fr _ _ _ _ => F'); (with_reducible rename News _ _ _ _ => N'); (refine' EL.sl (s := ⟨_, _, _, _, _⟩) ?e ?hl ?hh ?hs F' N' ?_ ?k6 ?k7; (case hl => first | exact .inl ⟨rfl, rfl⟩ | exact .inr ⟨_, _, rfl, rfl⟩); (case hh => first | exact .inl ⟨rfl, rfl, by simp⟩ | exact .inr ⟨_, _, rfl, rfl⟩); (case e => with_reducible assumption); (case hs => walk_at "tx len"); (case k6 => with_unfolding_all rfl); (case k7 => (intro _; with_unfolding_all rfl))); intro _ _ _ _ _)
  k_with "tx len" => (first | omega | (simp only [List.length_append, List.length_cons, List.length_nil]; omega))
  k_with "truthy str" => (k_here; (with_reducible refine' EL.truthy ?e ?hs ?_); (case e => first | with_reducible assumption | with_reducible exact rfl); (case hs => walk_at "tx len"); intro _)
  k_with "call builtin:str.startswith" => (k_here; (refine' EL.starts ?e ?_; (case e => with_reducible assumption)))
  k_with "call builtin:str.endswith" => (k_here; (refine' EL.ends ?e ?_; (case e => with_reducible assumption)))
  k_with "binaryOp Mult str int" => (k_here; (refine' EL.mul ?e ?hn ?hz ?_; (case e => with_reducible assumption); (case hn => walk_at "tx len"); (case hz => decide +kernel)); intro _ _)
  k_with "ite" => (first | (with_reducible refine itT (by with_reducible assumption) ?_) | (with_reducible refine itF (by with_reducible assumption) ?_))
  k_with "binaryOp Add str str" => (k_here; (first | (with_reducible refine' EL.add ?hs ?_; (case hs => walk_at "tx len")) | (with_reducible refine' EL.addL ?ez ?hs ?_; (case ez => with_reducible assumption); (case hs => walk_at "tx len")) | (with_reducible refine' EL.addE ?ez ?hs ?_; (case ez => with_reducible assumption); (case hs => walk_at "tx len"))); intro _ _)
  k_with "inplaceOp Add str str" => (k_here; (with_reducible refine' EL.iaddE ?hs ?_); (case hs => walk_at "tx len"); intro _ _)
  k_with "subscriptTail Name Name str int" => (k_here; (with_reducible refine' EL.idxE ?h0 ?h1 ?hs ?k6 ?k7 ?_); (case h0 => omega); (case h1 => omega); (case hs => omega); (case k6 => with_unfolding_all rfl); (case k7 => (intro _; with_unfolding_all rfl)); intro c9 t9 k9 hc9)
  k_with "exec While Compare cons nil" => refine Halt.out ?_
  have e1 : Txt.slice (mkS resp) none (some 3) = mkS [50, 53, 55] := by rw [hresp]; exact sl_ns _ 3
  have e2 : Txt.slice (mkS resp) (some 3) (some 5) = mkS [32, 34] := by rw [hresp]; exact sl_ss _ (i := 3) (j := 5) (by decide)
  have c1 : (mkS [50, 53, 55] != Str.ofString "257") = false := by rw [ofs "257" [50, 53, 55]]; decide +kernel
  have c2 : (mkS [32, 34] != Str.ofString " \"") = false := by rw [ofs " \"" [32, 34]]; decide +kernel
  have ez : Str.ofString "" = mkS [] := ofs "" []
  have hdrop : resp.drop 5 = l := by rw [hresp]; rfl
  intro mean mg mb dp un gd cn cs a ccd cl outer A₀ base h₀ L m s Q E B F X N T hk hd hu hret
  refine wpAny_call ?_
  k_dflt walk_at "mine enter"
  k_steps
  (rename Fr _ _ _ _ => fF)
  (rename News _ _ _ _ => nN)
  refine While_inv2 (PqS l resp news) fF nN ⟨5, [], _, _, _, _, rfl, by rw [hresp]; simp, by simp, by rw [hdrop]; rfl, rfl, rfl, rfl, by rw [← ez]; rfl, rfl⟩ ?turn
  clear fF nN
  rintro n m nw h₁ tk₁ F9 N9 ⟨i, d, ti, td, tn, tr, hn, hi, hd, hun, m1, m2, m3, m4, rfl⟩
  rw [mapPut2 m1, mapPut2 m3, mapPut2 m2, mapPut2 m4] at F9
  k_steps
  · dsimp only [WhileStep2]
    k_steps
    rw [un_brk1 hun (by assumption) (by assumption) (by assumption)]
    exact hret _ _ _ (by k_asm) (by k_asm)
  · dsimp only [WhileStep2]
    k_steps
    rw [un_brk2 hun (by assumption) (by assumption) (by assumption) (by assumption)]
    exact hret _ _ _ (by k_asm) (by k_asm)
  · have hu := un_two hun (by assumption) (by assumption) (by assumption) (by assumption)
    exact ⟨_, _, _, _, resp.length - (i + 2), rfl, by k_asm, by k_asm, by omega, i + 2, _, _, _, _, _, rfl, by omega, by simp; omega, hu, rfl, rfl, rfl, rfl, rfl⟩
  · have hu := un_one hun (by assumption) (by assumption)
    exact ⟨_, _, _, _, resp.length - (i + 1), rfl, by k_asm, by k_asm, by omega, i + 1, _, _, _, _, _, rfl, by omega, by simp; omega, hu, rfl, rfl, rfl, rfl, rfl⟩
  · rw [un_end hun (by assumption)]
    exact hret _ _ _ (by k_asm) (by k_asm)


end
section
set_option maxRecDepth 100000
set_option maxHeartbeats 8000000
theorem splitL_len : ∀ l : List Nat, (splitL l).length ≤ l.length + 1 ∧ ∀ c ∈ splitL l, c.length ≤ l.length
  | [] => ⟨Nat.le_refl 1, fun c hc => by rw [List.mem_singleton.mp hc]; exact Nat.le_refl 0⟩
  | d :: r => by
    obtain ⟨i1, i2⟩ := splitL_len r
    unfold splitL
    split
    · refine ⟨by simp; omega, fun c hc => ?_⟩
      rcases List.mem_cons.mp hc with rfl | hc
      · exact Nat.zero_le _
      · exact Nat.le_succ_of_le (i2 c hc)
    · cases hs : splitL r with
      | nil => exact absurd hs (splitL_ne r)
      | cons p q =>
        rw [hs] at i1 i2
        refine ⟨by simp at i1 ⊢; omega, fun c hc => ?_⟩
        rcases List.mem_cons.mp hc with rfl | hc
        · have := i2 p (.head _); simp; omega
        · exact Nat.le_succ_of_le (i2 c (.tail _ hc))
structure NpJ (L0 : List (List Nat)) (nc : Addr) (post : List (Addr × Obj)) (r : List Value) (m : Str → Option Value) (n : List (Addr × Obj)) (rest acc : List (List Nat)) (vs : List Value) (c : Nat) (t1 t2 t3 t4 : Tok) : Prop where
  hr : StrsAre r (rest.map mkS)
  hfold : rest.foldl normS acc = normC L0
  hno : [46, 46] ∉ acc
  hlen : acc.length + rest.length ≤ 2001
  hc : ∀ c ∈ rest, c.length ≤ 2000
  hca : ∀ c ∈ acc, c.length ≤ 2000
  hv : StrsAre vs (acc.map mkS)
  m1 : m (Str.ofString "sep") = some (.str (Str.ofString "/") t1)
  m2 : m (Str.ofString "dot") = some (.str (Str.ofString ".") t2)
  m3 : m (Str.ofString "dotdot") = some (.str (Str.ofString "..") t3)
  m4 : m (Str.ofString "initial_slashes") = some (.str (Str.ofString "/") t4)
  m5 : m (Str.ofString "new_comps") = some (.ref nc)
  hn : n = (nc, W.listOf vs.toArray c) :: post
  ho : ∀ p ∈ post, p.1 ≠ nc
inductive NpS (L0 : List (List Nat)) (nc : Addr) (post : List (Addr × Obj)) (r : List Value) (m : Str → Option Value) (n : List (Addr × Obj)) : Prop
  | mk (rest acc : List (List Nat)) (vs : List Value) (c : Nat) (t1 t2 t3 t4 : Tok) (j : NpJ L0 nc post r m n rest acc vs c t1 t2 t3 t4) : NpS L0 nc post r m n
theorem offHd {I a : Addr} {o : Obj} {post : List (Addr × Obj)} (h : ∀ p ∈ (a, o) :: post, p.1 ≠ I) (o' : Obj) : ∀ p ∈ (a, o') :: post, p.1 ≠ I := fun p hp => by
  rcases List.mem_cons.mp hp with rfl | hp
  · exact h (a, o) (.head _)
  · exact h _ (.tail _ hp)
theorem np_next {L0 : List (List Nat)} {nc : Addr} {post : List (Addr × Obj)} {r : List Value} {m : Str → Option Value} {n : List (Addr × Obj)} {c1 : List Nat} {rest acc acc' : List (List Nat)} {vs : List Value} {c : Nat} {t1 t2 t3 t4 : Tok}
    (hr : StrsAre r (rest.map mkS)) (hfold : (c1 :: rest).foldl normS acc = normC L0) (e : normS acc c1 = acc') (hca : ∀ c ∈ acc, c.length ≤ 2000) (hno : [46, 46] ∉ acc') (hlen : acc'.length + rest.length ≤ 2001) (hc : ∀ c ∈ c1 :: rest, c.length ≤ 2000) (hv : StrsAre vs (acc'.map mkS))
    (m1 : m (Str.ofString "sep") = some (.str (Str.ofString "/") t1)) (m2 : m (Str.ofString "dot") = some (.str (Str.ofString ".") t2)) (m3 : m (Str.ofString "dotdot") = some (.str (Str.ofString "..") t3)) (m4 : m (Str.ofString "initial_slashes") = some (.str (Str.ofString "/") t4))
    (m5 : m (Str.ofString "new_comps") = some (.ref nc)) (hn : n = (nc, W.listOf vs.toArray c) :: post) (ho : ∀ p ∈ post, p.1 ≠ nc) : NpJ L0 nc post r m n rest acc' vs c t1 t2 t3 t4 :=
  ⟨hr, by rw [← hfold, List.foldl_cons, e], hno, hlen, fun x hx => hc x (.tail _ hx), fun x hx => by rw [← e] at hx; rcases normS_sub hx with h | rfl; exact hca x h; exact hc x (.head _), hv, m1, m2, m3, m4, m5, hn, ho⟩
theorem np_dot {acc : List (List Nat)} {c : List Nat} (h : (mkS c == Str.ofString ".") = true) : normS acc c = acc := by
  rw [ofs "." [46], beq_iff_eq] at h
  have := mkS_inj h
  subst this
  simp [normS]
theorem np_nil {acc : List (List Nat)} {c : List Nat} (h : (c.length != 0) = false) : normS acc c = acc := by
  have : c = [] := by simpa using h
  subst this
  simp [normS]
theorem np_add {acc : List (List Nat)} {c : List Nat} (h1 : (c.length != 0) = true) (h2 : (mkS c == Str.ofString ".") = false) (h3 : (mkS c != Str.ofString "..") = true) : normS acc c = acc ++ [c] ∧ [46, 46] ≠ c := by
  rw [ofs "." [46], beq_eq_false_iff_ne] at h2
  rw [ofs ".." [46, 46], bne_iff_ne] at h3
  have a1 : c ≠ [] := by simpa using h1
  have a2 : c ≠ [46] := fun e => h2 (by rw [e])
  have a3 : c ≠ [46, 46] := fun e => h3 (by rw [e])
  refine ⟨?_, a3.symm⟩
  unfold normS
  rw [if_neg (fun q => q.elim a1 a2), if_pos (.inl a3)]
theorem np_pop {acc : List (List Nat)} {c : List Nat} (h : (mkS c != Str.ofString "..") = false) (hno : [46, 46] ∉ acc) : normS acc c = acc.dropLast := by
  rw [ofs ".." [46, 46], bne, Bool.not_eq_false', beq_iff_eq] at h
  have := mkS_inj h
  subst this
  unfold normS
  rw [if_neg (by simp), if_neg]
  rintro (h | ⟨_, h⟩)
  · exact h rfl
  · exact hno (List.mem_of_getLast? h)
theorem normpath_call (w : World) (l : List Nat) (t : Tok) (news : List (Addr × Obj)) (hl : l.length ≤ 2000) (h1 : l ≠ []) (h2 : l.head? ≠ some 47) : Call w 154 [.str (mkS (47 :: l)) t] news 12 120 fun K => ∀ t1, K (.str (mkS (47 :: joinL (normC (splitL l)))) t1) news := by
  w_top off
  k_with_none
  k_with "mine enter" => (refine' code_def ?k1 ?k2 ?k3 ?k4 ?k5 ?kA ?kF ?kK ?k6 ?k7 ?k8 ?k9 ?kB ?_ ?c2 ?c3 ?c4 ?c5; (case kA => exact rfl); (case kF => exact rfl); (case kK => first | exact rfl | assumption); (case k1 => k_asm); (case k2 => k_asm); (case k3 => k_asm); (case k4 => k_asm); (case k5 => k_asm); (case k6 => k_is); (case k7 => k_is); (case k8 => ktr_room); (case k9 => first | exact BindsTo.of_eq rfl | exact binds_K (by k_in) rfl (by k_is) rfl rfl rfl); (case c5 => decide); (case kB => exact locs rfl); (case c2 => exact rfl); (case c3 => exact rfl); (case c4 => exact rfl); k_whole; intro g' L' h' FG' F' N' B' X' T'; (try dsimp only); (try k_lift B'); (try k_fold))
  k_with "call builtin:len" => (k_here; (with_reducible show wpAny _ _ (call (Value.builtin "len") [Value.str (Str.mk (List.toArray _)) _]) _ _ _); k_dflt (refine' len_mk ?k1 ?_; (case k1 => first | omega | (simp only [List.length_append, List.length_cons, List.length_nil]; omega))); intro t9 k9)
  k_with "subscriptTail Name Slice str ref" => (k_here; (with_reducible show wpAny _ _ (subscriptTail _ (Expr.Slice _ _ none _) (Value.str (Str.mk _) _) (Value.ref _)) _ _ _); (with_reducible rename Fr _ _ _ _ => F'); (with_reducible rename News _ _ _ _ => N'); (refine' EL.sl (s := ⟨_, _, _, _, _⟩) ?e ?hl ?hh ?hs F' N' ?_ ?k6 ?k7; (case hl => first | exact .inl ⟨rfl, rfl⟩ | exact .inr ⟨_, _, rfl, rfl⟩); (case hh => first | exact .inl ⟨rfl, rfl, by simp⟩ | exact .inr ⟨_, _, rfl, rfl⟩); (case e => with_reducible assumption); (case hs => walk_at "tx len"); (case k6 => with_unfolding_all rfl); (case k7 => (intro _; with_unfolding_all rfl))); intro _ _ _ _ _)
  k_with "tx len" => (first | omega | (simp only [List.length_append, List.length_cons, List.length_nil]; omega))
  k_with "truthy str" => (k_here; (with_reducible refine' EL.truthy ?e ?hs ?_); (case e => first | with_reducible assumption | with_reducible exact rfl); (case hs => walk_at "tx len"); intro _)
  k_with "call builtin:str.startswith" => (k_here; (refine' EL.starts ?e ?_; (case e => with_reducible assumption)))
  k_with "call builtin:str.endswith" => (k_here; (refine' EL.ends ?e ?_; (case e => with_reducible assumption)))
  k_with "binaryOp Mult str int" => (k_here; (refine' EL.mul ?e ?hn ?hz ?_; (case e => with_reducible assumption); (case hn => walk_at "tx len"); (case hz => decide +kernel)); intro _ _)
  k_with "ite" => (first | (with_reducible refine itT (by with_reducible assumption) ?_) | (with_reducible refine itF (by with_reducible assumption) ?_))
  k_with "binaryOp Add str str" => (k_here; (first | (with_reducible refine' EL.add ?hs ?_; (case hs => walk_at "tx len")) | (with_reducible refine' EL.addL ?ez ?hs ?_; (case ez => with_reducible assumption); (case hs => walk_at "tx len")) | (with_reducible refine' EL.addE ?ez ?hs ?_; (case ez => with_reducible assumption); (case hs => walk_at "tx len"))); intro _ _)
  k_with "inplaceOp Add str str" => (k_here; (with_reducible refine' EL.iaddE ?hs ?_); (case hs => walk_at "tx len"); intro _ _)
  k_with "call ref" => (k_here; k_dflt (first | refine' callUse (fspath_call _ _ _ _) ?k1 ?k2 ?k3 ?k4 ?k5 ?kK ?kd ?ku ?_ | refine' callUse (sep_call _ _ _ _) ?k1 ?k2 ?k3 ?k4 ?k5 ?kK ?kd ?ku ?_); (case k4 => k_asm); (case k1 => k_asm); (case k2 => k_asm); (case k3 => k_asm); (case k5 => k_asm); (case kK => first | exact rfl | assumption); (case kd => ktr_room); (case ku => ktr_units); intro t9 h9 tk9 F9 N9; (try dsimp only); (try k_sweep); (try k_fold))
  k_with "call ref" => (k_here; k_dflt (refine' callUse (splitroot_call _ _ _ _ ?q1 ?q2 ?q3) ?k1 ?k2 ?k3 ?k4 ?k5 ?kK ?kd ?ku ?_; (case k4 => k_asm); (case q1 => omega); (case q2 => assumption); (case q3 => assumption); (case k1 => k_asm); (case k2 => k_asm); (case k3 => k_asm); (case k5 => k_asm); (case kK => first | exact rfl | assumption); (case kd => ktr_room); (case ku => ktr_units)); intro x9 t1 t2 t3 h9 tk9 F9 N9; (try dsimp only); (try k_sweep); (try k_fold))
  k_with "call builtin:str.split" => (k_here; (refine' EL.split ?e ?hz ?hs ?F ?N ?_; (case e => with_reducible assumption); (case hz => decide +kernel); (case hs => walk_at "tx len"); (case F => k_asm); (case N => k_asm)); intro S9 vs9 h9 k9 hS9 F9 N9 lo9; (try k_lt lo9); (try k_sweep))
  k_with "truthy ref" => refine Halt.out ?_
  k_with "exec For Name Name cons nil" => refine Halt.out ?_
  k_with "subscriptTail" => ((with_reducible show wpAny _ _ (subscriptTail _ _ (Value.ref _) _) _ _ _); refine Halt.out ?_)
  k_with "subscriptTail Name UnaryOp ref int" => refine Halt.out ?_
  k_with "call builtin:list.pop" => refine Halt.out ?_
  k_with "call builtin:str.join" => refine Halt.out ?_
  k_with "pyIter ref" => refine Halt.out ?_
  have e1 : ((47 :: l).length != 0) = true := rfl
  have e2 : Txt.split (mkS l) (Str.ofString "/") = (splitL l).map mkS := by rw [ofs "/" [47]]; exact txt_split l
  intro mean mg mb dp un gd cn cs a ccd cl outer A₀ base h₀ L m s Q E B F X N T hk hd hu hret
  refine wpAny_call ?_
  k_dflt walk_at "mine enter"
  k_steps
  (try unfold Halt)
  (rename Fr _ _ _ _ => lF')
  (with_unfolding_all refine' For_turns lF' ?_)
  k_steps
  (try unfold Halt)
  (rename Fr _ _ _ _ => fF)
  (rename News _ _ _ _ => nN)
  (rename StrsAre _ _ => sA)
  obtain ⟨sl1, sl2⟩ := splitL_len l
  refine' forList (lo := W.listOf _ 0) (vs := _) (fun r m n => NpS (splitL l) _ _ r m n) rfl fF nN (.tail _ (.head _)) rfl rfl ?hk ⟨splitL l, [], [], 0, _, _, _, _, ⟨sA, rfl, by simp, by simp; omega, fun c hc => Nat.le_trans (sl2 c hc) hl, fun _ h => (by cases h), .nil, rfl, rfl, rfl, rfl, rfl, rfl, ?ho⟩⟩ ?step ?fin
  case ho => exact lt_ne_all (by assumption)
  case hk =>
    rintro r m n ⟨rest, acc, vs, c, t1, t2, t3, t4, J⟩
    rw [J.hn]
    exact .tail _ (.head _)
  case step =>
    rintro I v r m n h tk o ⟨rest, acc, vs, c, t1, t2, t3, t4, J⟩ hI F9 N9
    obtain ⟨hr, hfold, hno, hlen, hc, hca, hv, m1, m2, m3, m4, m5, hn, ho⟩ := J
    cases rest with
    | nil => cases hr
    | cons c1 rest =>
      obtain ⟨u1, rfl, hr2⟩ : ∃ u, v = .str (mkS c1) u ∧ StrsAre r (rest.map mkS) := by cases hr with | cons _ _ h => exact ⟨_, rfl, h⟩
      have hc1 := hc c1 (.head _)
      rw [mapPut2 m4, mapPut2 m1, mapPut2 m5, mapPut2 m3, mapPut2 m2] at F9
      rw [hn] at N9
      have hvl : vs.length = acc.length := by have := strsAre_len2 hv; rwa [List.length_map] at this
      have hl1 : vs.length ≤ 1000000 := by simp at hlen; omega
      have hIn : I ≠ _ := fun e => hI (_, _) (by rw [hn]; exact .head _) e.symm
      have hI2 : ∀ o', ∀ p ∈ (_, o') :: _, p.1 ≠ I := fun o' => offHd (by rw [← hn]; exact hI) o'
      k_steps
      · exact ⟨_, _, _, _, rfl, by k_asm, by k_asm, hI2 _, _, _, _, _, _, _, _, _, np_next hr2 hfold (np_dot (by assumption)) hca hno (by simp at hlen ⊢; omega) hc hv rfl rfl rfl rfl rfl rfl ho⟩
      · (rename News _ _ _ _ => nN)
        rw [List.push_toArray] at nN
        obtain ⟨q1, q2⟩ := np_add (acc := acc) (by assumption) (by assumption) (by assumption)
        refine ⟨_, _, _, _, rfl, by k_asm, nN, hI2 _, _, _, _, _, _, _, _, _, np_next hr2 hfold q1 hca (by simpa using ⟨hno, q2⟩) (by simp at hlen ⊢; omega) hc ?_ rfl rfl rfl rfl rfl rfl ho⟩
        rw [List.map_append]
        exact strsAre_snoc2 hv
      · unfold Halt
        have q0 := np_pop (acc := acc) (by assumption) hno
        (rename Fr _ _ _ _ => fF)
        (rename News _ _ _ _ => nN)
        rcases List.eq_nil_or_concat acc with rfl | ⟨acc, d, rfl⟩
        · cases hv
          refine' EL.truthyL nN (.tail _ (.head _)) rfl (Nat.zero_le _) rfl ?_
          intro k
          k_steps
          unfold Halt
          refine' EL.truthyL nN (.tail _ (.head _)) rfl (Nat.zero_le _) rfl ?_
          intro k
          k_steps
          exact ⟨_, _, _, _, rfl, by k_asm, by k_asm, hI2 _, _, _, _, _, _, _, _, _, np_next hr2 hfold q0 hca hno (by simp at hlen ⊢; omega) hc .nil rfl rfl rfl rfl rfl rfl ho⟩
        · rw [List.concat_eq_append, List.map_append] at hv
          rw [List.concat_eq_append, List.dropLast_concat] at q0
          rw [List.concat_eq_append] at hfold hca
          obtain ⟨vs', t9, rfl, hv'⟩ := strsAre_unsnoc hv
          have hd : (mkS d == Str.ofString "..") = false := by
            rw [ofs ".." [46, 46], beq_eq_false_iff_ne]
            intro e
            exact hno (by rw [List.concat_eq_append, mkS_inj e]; simp)
          refine' EL.truthyL nN (.tail _ (.head _)) rfl hl1 (b := true) (by simp) ?_
          intro k
          k_steps
          unfold Halt
          refine' EL.last nN (.tail _ (.head _)) rfl ?_ ?hsb
          case hsb => with_unfolding_all rfl
          k_steps
          unfold Halt
          refine' EL.truthyL nN (.tail _ (.head _)) rfl hl1 (b := true) (by simp) ?_
          intro k
          k_steps
          unfold Halt
          refine' EL.pop (p0 := (I, o)) fF nN hIn ho (by simp at hl1; omega) ?_
          intro h' c' F' N'
          k_steps
          exact ⟨_, _, _, _, rfl, by k_asm, by k_asm, hI2 _, _, _, _, _, _, _, _, _, np_next hr2 hfold q0 hca (by simp at hno; exact hno.1) (by simp at hlen ⊢; omega) hc hv' rfl rfl rfl rfl rfl rfl ho⟩
      · exact ⟨_, _, _, _, rfl, by k_asm, by k_asm, hI2 _, _, _, _, _, _, _, _, _, np_next hr2 hfold (np_nil (by assumption)) hca hno (by simp at hlen ⊢; omega) hc hv rfl rfl rfl rfl rfl rfl ho⟩
  case fin =>
    rintro h tk m n ⟨rest, acc, vs, c, t1, t2, t3, t4, J⟩ F9 N9
    obtain ⟨hr, hfold, hno, hlen, hc, hca, hv, m1, m2, m3, m4, m5, hn, ho⟩ := J
    cases rest with
    | cons _ _ => cases hr
    | nil =>
      have hf : acc = normC (splitL l) := hfold
      have es : Str.ofString "/" = mkS [47] := ofs "/" [47]
      have ej : Txt.join (Str.ofString "/") (acc.map mkS) = mkS (joinL acc) := by rw [es]; exact txt_join acc
      have hjl := joinL_len acc hca
      have hal : acc.length ≤ 2001 := by simpa using hlen
      have hjl2 : (joinL acc).length ≤ 4100000 := by omega
      have en : (([47] ++ joinL acc).length != 0) = true := by simp
      rw [mapPut2 m4, mapPut2 m1, mapPut2 m5, mapPut2 m3, mapPut2 m2] at F9
      rw [hn] at N9
      k_steps
      unfold Halt
      (rename News _ _ _ _ => nN)
      refine' EL.joinS nN (.head _) rfl hv (by decide +kernel) hal hca ej ?_
      intro t' k
      k_steps
      have h9 := hret
      rw [← hf] at h9
      exact h9 _ _ _ (by k_asm) (skip1 (skip1 (skip1 (by k_asm))))


end
section
set_option maxRecDepth 100000
set_option maxHeartbeats 8000000
theorem told_bad (w : World) (resp : List Nat) (t : Tok) (news : List (Addr × Obj)) (hl : resp.length ≤ 100000) (hresp : resp.take 3 = [53, 53, 48])
    {mean : ExcName → Option Value} {mg mb : Str → Option Value} {dp un : Nat} {gd : Option (List Code)} {cn : Str} {cs : Scope} {a : Addr} {ccd : Value} {A₀ : Around} {h₀ : Heap} {L : Addr} {m : Str → Option Value} {s : Shared} {Q E : Value → Shared → Prop}
    (B : Below A₀ h₀ [] h₀) (F : Fr h₀ L s.heap m) (X : (Mine.hd.heap_39 w.params).In h₀) (N : News h₀ L s.heap news) (T : Top Mine.hd.view_39 loo mean mg mb h₀) (hk : cs.kind = .function) (hd : dp + 60 < recursionLimit) (hu : un + 600 < cLine)
    (q : ∀ h' tk', Fr h₀ L h' m → News h₀ L h' news → Q .none { s with heap := h', toks := tk' }) :
    wpAny (model pw w) (ktrTop dp un gd cn cs L a ccd [] []) (call (.ref 916) [.str (mkS resp) t]) Q E s := by
  w_top off
  k_with_none
  k_with "mine enter" => (refine' code_def ?k1 ?k2 ?k3 ?k4 ?k5 ?kA ?kF ?kK ?k6 ?k7 ?k8 ?k9 ?kB ?_ ?c2 ?c3 ?c4 ?c5; (case kA => exact rfl); (case kF => exact rfl); (case kK => first | exact rfl | assumption); (case k1 => k_asm); (case k2 => k_asm); (case k3 => k_asm); (case k4 => k_asm); (case k5 => k_asm); (case k6 => k_is); (case k7 => k_is); (case k8 => ktr_room); (case k9 => first | exact BindsTo.of_eq rfl | exact binds_K (by k_in) rfl (by k_is) rfl rfl rfl); (case c5 => decide); (case kB => exact locs rfl); (case c2 => exact rfl); (case c3 => exact rfl); (case c4 => exact rfl); k_whole; intro g' L' h' FG' F' N' B' X' T'; (try dsimp only); (try k_lift B'); (try k_fold))
  k_with "call builtin:len" => (k_here; (with_reducible show wpAny _ _ (call (Value.builtin "len") [Value.str (Str.mk (List.toArray _)) _]) _ _ _); k_dflt (refine' len_mk ?k1 ?_; (case k1 => first | omega | (simp only [List.length_append, List.length_cons, List.length_nil]; omega))); intro t9 k9)
  k_with "subscriptTail Name Slice str ref" => (k_here; (with_reducible show wpAny _ _ (subscriptTail _ (Expr.Slice _ _ none _) (Value.str (Str.mk _) _) (Value.ref _)) _ _ _); (with_reducible rename Fr _ _ _ _ => F'); (with_reducible rename News _ _ _ _ => N'); (refine' EL.sl (s := ⟨_, _, _, _, _⟩) ?e ?hl ?hh ?hs F' N' ?_ ?k6 ?k7; (case hl => first | exact .inl ⟨rfl, rfl⟩ | exact .inr ⟨_, _, rfl, rfl⟩); (case hh => first | exact .inl ⟨rfl, rfl, by simp⟩ | exact .inr ⟨_, _, rfl, rfl⟩); (case e => with_reducible assumption); (case hs => walk_at "tx len"); (case k6 => with_unfolding_all rfl); (case k7 => (intro _; with_unfolding_all rfl))); intro _ _ _ _ _)
  k_with "tx len" => (first | omega | (simp only [List.length_append, List.length_cons, List.length_nil]; omega))
  k_with "truthy str" => (k_here; (with_reducible refine' EL.truthy ?e ?hs ?_); (case e => first | with_reducible assumption | with_reducible exact rfl); (case hs => walk_at "tx len"); intro _)
  k_with "call builtin:str.startswith" => (k_here; (refine' EL.starts ?e ?_; (case e => with_reducible assumption)))
  k_with "call builtin:str.endswith" => (k_here; (refine' EL.ends ?e ?_; (case e => with_reducible assumption)))
  k_with "binaryOp Mult str int" => (k_here; (refine' EL.mul ?e ?hn ?hz ?_; (case e => with_reducible assumption); (case hn => walk_at "tx len"); (case hz => decide +kernel)); intro _ _)
  k_with "ite" => (first | (with_reducible refine itT (by with_reducible assumption) ?_) | (with_reducible refine itF (by with_reducible assumption) ?_))
  k_with "binaryOp Add str str" => (k_here; (first | (with_reducible refine' EL.add ?hs ?_; (case hs => walk_at "tx len")) | (with_reducible refine' EL.addL ?ez ?hs ?_; (case ez => with_reducible assumption); (case hs => walk_at "tx len")) | (with_reducible refine' EL.addE ?ez ?hs ?_; (case ez => with_reducible assumption); (case hs => walk_at "tx len"))); intro _ _)
  k_with "inplaceOp Add str str" => (k_here; (with_reducible refine' EL.iaddE ?hs ?_); (case hs => walk_at "tx len"); intro _ _)
  k_with "mine split" => (refine' code_defS0 ?k1 ?k2 ?k3 ?k4 ?k5 ?kA ?k6 ?k7 ?k8 ?k9 ?kB ?_ ?cK ?c2 ?c3 ?c4 ?c5; (case kA => exact rfl); (case k2 => k_asm); (case k1 => k_asm); (case k3 => k_asm); (case k4 => k_asm); (case k5 => k_asm); (case k6 => k_is); (case k7 => k_is); (case k8 => ktr_room); (case k9 => first | exact binds_K (by k_in) rfl (by k_is) rfl rfl rfl | exact BindsTo.of_eq rfl); (case kB => exact locs rfl); (case cK => first | exact rfl | assumption); (case c2 => exact rfl); (case c3 => exact rfl); (case c4 => exact rfl); (case c5 => decide); k_whole; intro g' L' h' FG' F' N' B' X' T' D'; (try dsimp only); (try k_lift B'); (try k_fold))
  k_with "mine S" => (refine' code_defS ?k1 ?k2 ?k3 ?k4 ?k5 ?XB ?TB ?D ?T0 ?kA ?k6 ?k7 ?k8 ?k9 ?kB ?_ ?cK ?c2 ?c3 ?c4 ?c5; (case kA => exact rfl); (case k2 => k_asm); (case k1 => k_asm); (case XB => assumption); (case TB => assumption); (case D => assumption); (case T0 => first | assumption | exact KtsTurn.refl); (case k3 => k_asm); (case k4 => k_asm); (case k5 => k_asm); (case k6 => k_is); (case k7 => k_is); (case k8 => ktr_room); (case k9 => first | exact binds_K (by k_in) rfl (by k_is) rfl rfl rfl | exact BindsTo.of_eq rfl); (case kB => exact locs rfl); (case cK => first | exact rfl | assumption); (case c2 => exact rfl); (case c3 => exact rfl); (case c4 => exact rfl); (case c5 => decide); k_whole; intro g' L' h' FG' F' N' B' X' T' D'; (try dsimp only); (try k_lift B'); (try k_fold))
  k_with "call ref" => (k_here; (with_reducible show wpAny _ _ (call (Value.ref 186) _) _ _ _); refine wpAny_call ?_; k_dflt walk_at "mine S")
  have e1 : Txt.slice (mkS resp) none (some 3) = mkS [53, 53, 48] := by rw [← hresp]; exact sl_ns _ 3
  have c1 : (mkS [53, 53, 48] != Str.ofString "257") = true := by rw [ofs "257" [50, 53, 55]]; decide +kernel
  refine wpAny_call ?_
  k_dflt walk_at "mine split"
  k_steps
  exact q _ _ (by k_asm) (by k_asm)
theorem told_ok (w : World) (resp l : List Nat) (t : Tok) (news : List (Addr × Obj)) (hl : resp.length ≤ 100000) (hresp : resp = [50, 53, 55, 32, 34] ++ l) : Call w 916 [.str (mkS resp) t] news 12 120 fun K => ∀ t1, K (.str (mkS (unquoteL l)) t1) news := by
  w_top off
  k_with_none
  k_with "mine enter" => (refine' code_def ?k1 ?k2 ?k3 ?k4 ?k5 ?kA ?kF ?kK ?k6 ?k7 ?k8 ?k9 ?kB ?_ ?c2 ?c3 ?c4 ?c5; (case kA => exact rfl); (case kF => exact rfl); (case kK => first | exact rfl | assumption); (case k1 => k_asm); (case k2 => k_asm); (case k3 => k_asm); (case k4 => k_asm); (case k5 => k_asm); (case k6 => k_is); (case k7 => k_is); (case k8 => ktr_room); (case k9 => first | exact BindsTo.of_eq rfl | exact binds_K (by k_in) rfl (by k_is) rfl rfl rfl); (case c5 => decide); (case kB => exact locs rfl); (case c2 => exact rfl); (case c3 => exact rfl); (case c4 => exact rfl); k_whole; intro g' L' h' FG' F' N' B' X' T'; (try dsimp only); (try k_lift B'); (try k_fold))
  k_with "call builtin:len" => (k_here; (with_reducible show wpAny _ _ (call (Value.builtin "len") [Value.str (Str.mk (List.toArray _)) _]) _ _ _); k_dflt (refine' len_mk ?k1 ?_; (case k1 => first | omega | (simp only [List.length_append, List.length_cons, List.length_nil]; omega))); intro t9 k9)
  k_with "subscriptTail Name Slice str ref" => (k_here; (with_reducible show wpAny _ _ (subscriptTail _ (Expr.Slice _ _ none _) (Value.str (Str.mk _) _) (Value.ref _)) _ _ _); (with_reducible rename Fr _ _ _ _ => F'); (with_reducible rename News _ _ _ _ => N'); (refine' EL.sl (s := ⟨_, _, _, _, _⟩) ?e ?hl ?hh ?hs F' N' ?_ ?k6 ?k7; (case hl => first | exact .inl ⟨rfl, rfl⟩ | exact .inr ⟨_, _, rfl, rfl⟩); (case hh => first | exact .inl ⟨rfl, rfl, by simp⟩ | exact .inr ⟨_, _, rfl, rfl⟩); (case e => with_reducible assumption); (case hs => walk_at "tx len"); (case k6 => with_unfolding_all rfl); (case k7 => (intro _; with_unfolding_all rfl))); intro _ _ _ _ _)
  k_with "tx len" => (first | omega | (simp only [List.length_append, List.length_cons, List.length_nil]; omega))
  k_with "truthy str" => (k_here; (with_reducible refine' EL.truthy ?e ?hs ?_); (case e => first | with_reducible assumption | with_reducible exact rfl); (case hs => walk_at "tx len"); intro _)
  k_with "call builtin:str.startswith" => (k_here; (refine' EL.starts ?e ?_; (case e => with_reducible assumption)))
  k_with "call builtin:str.endswith" => (k_here; (refine' EL.ends ?e ?_; (case e => with_reducible assumption)))
  k_with "binaryOp Mult str int" => (k_here; (refine' EL.mul ?e ?hn ?hz ?_; (case e => with_reducible assumption); (case hn => walk_at "tx len"); (case hz => decide +kernel)); intro _ _)
  k_with "ite" => (first | (with_reducible refine itT (by with_reducible assumption) ?_) | (with_reducible refine itF (by with_reducible assumption) ?_))
  k_with "binaryOp Add str str" => (k_here; (first | (with_reducible refine' EL.add ?hs ?_; (case hs => walk_at "tx len")) | (with_reducible refine' EL.addL ?ez ?hs ?_; (case ez => with_reducible assumption); (case hs => walk_at "tx len")) | (with_reducible refine' EL.addE ?ez ?hs ?_; (case ez => with_reducible assumption); (case hs => walk_at "tx len"))); intro _ _)
  k_with "inplaceOp Add str str" => (k_here; (with_reducible refine' EL.iaddE ?hs ?_); (case hs => walk_at "tx len"); intro _ _)
  k_with "mine split" => (refine' code_defS0 ?k1 ?k2 ?k3 ?k4 ?k5 ?kA ?k6 ?k7 ?k8 ?k9 ?kB ?_ ?cK ?c2 ?c3 ?c4 ?c5; (case kA => exact rfl); (case k2 => k_asm); (case k1 => k_asm); (case k3 => k_asm); (case k4 => k_asm); (case k5 => k_asm); (case k6 => k_is); (case k7 => k_is); (case k8 => ktr_room); (case k9 => first | exact binds_K (by k_in) rfl (by k_is) rfl rfl rfl | exact BindsTo.of_eq rfl); (case kB => exact locs rfl); (case cK => first | exact rfl | assumption); (case c2 => exact rfl); (case c3 => exact rfl); (case c4 => exact rfl); (case c5 => decide); k_whole; intro g' L' h' FG' F' N' B' X' T' D'; (try dsimp only); (try k_lift B'); (try k_fold))
  k_with "mine S" => (refine' code_defS ?k1 ?k2 ?k3 ?k4 ?k5 ?XB ?TB ?D ?T0 ?kA ?k6 ?k7 ?k8 ?k9 ?kB ?_ ?cK ?c2 ?c3 ?c4 ?c5; (case kA => exact rfl); (case k2 => k_asm); (case k1 => k_asm); (case XB => assumption); (case TB => assumption); (case D => assumption); (case T0 => first | assumption | exact KtsTurn.refl); (case k3 => k_asm); (case k4 => k_asm); (case k5 => k_asm); (case k6 => k_is); (case k7 => k_is); (case k8 => ktr_room); (case k9 => first | exact binds_K (by k_in) rfl (by k_is) rfl rfl rfl | exact BindsTo.of_eq rfl); (case kB => exact locs rfl); (case cK => first | exact rfl | assumption); (case c2 => exact rfl); (case c3 => exact rfl); (case c4 => exact rfl); (case c5 => decide); k_whole; intro g' L' h' FG' F' N' B' X' T' D'; (try dsimp only); (try k_lift B'); (try k_fold))
  k_with "call ref" => (k_here; (with_reducible show wpAny _ _ (call (Value.ref 186) _) _ _ _); refine wpAny_call ?_; k_dflt walk_at "mine S")
  k_with "call ref" => (k_here; (with_reducible show wpAny _ _ (call (Value.ref 186) _) _ _ _); k_dflt (refine' callUse (parse_call _ _ _ _ _ ?q1 ?q2) ?k1 ?k2 ?k3 ?k4 ?k5 ?kK ?kd ?ku ?_; (case k4 => k_asm); (case q1 => assumption); (case q2 => assumption); (case k1 => k_asm); (case k2 => k_asm); (case k3 => k_asm); (case k5 => k_asm); (case kK => first | exact rfl | assumption); (case kd => ktr_room); (case ku => ktr_units)); intro t9 h9 tk9 F9 N9; (try dsimp only); (try k_sweep); (try k_fold))
  intro mean mg mb dp un gd cn cs a ccd cl outer A₀ base h₀ L m s Q E B F X N T hk hd hu hret
  refine wpAny_call ?_
  k_dflt walk_at "mine enter"
  k_steps
  exact hret _ _ _ (by k_asm) (by k_asm)


end
section
set_option maxRecDepth 100000
set_option maxHeartbeats 8000000
theorem join_to (w : World) {a b c : List Nat} (t u : Tok) (news : List (Addr × Obj)) (ha : a.length ≤ 100000) (hb : b.length ≤ 100000) (e : joinP a b = c) : Call w 133 [.str (mkS a) t, .str (mkS b) u] news 6 60 fun K => ∀ t1, K (.str (mkS c) t1) news := by
  subst e; exact join_call w a b t u news ha hb
theorem norm_to (w : World) {l y : List Nat} (t : Tok) (news : List (Addr × Obj)) (hl : l.length ≤ 2000) (h1 : l ≠ []) (h2 : l.head? ≠ some 47) (e : 47 :: joinL (normC (splitL l)) = y) : Call w 154 [.str (mkS (47 :: l)) t] news 12 120 fun K => ∀ t1, K (.str (mkS y) t1) news := by
  subst e; exact normpath_call w l t news hl h1 h2
theorem dir_to (w : World) {x y : List Nat} (t : Tok) (news : List (Addr × Obj)) (h : ∃ a b, x = a ++ 47 :: b ∧ 47 ∉ b ∧ (a = [] ∨ a.getLast? ≠ some 47) ∧ (if a = [] then [47] else a) = y ∧ x.length ≤ 100000) : Call w 147 [.str (mkS x) t] news 6 60 fun K => ∀ t1, K (.str (mkS y) t1) news := by
  obtain ⟨a, b, rfl, h1, h2, rfl, h3⟩ := h
  exact dirname_call w a b t news (by simp at h3; omega) h1 h2
section
variable {rows : List (List (List Nat))} {led : List (List Nat)} {o b : Bool}
theorem fit_a (ho : o = true) (h : rows.contains led = true) : fitsL rows led o = false := by subst ho; unfold fitsL; rw [if_pos rfl, h]; rfl
theorem fit_b (ho : o = true) (h : rows.contains led = false) (h2 : rows.contains led.dropLast = true) : fitsL rows led o = true := by subst ho; unfold fitsL; rw [if_pos rfl, h, h2]; rfl
theorem fit_c (ho : o = true) (h2 : rows.contains led.dropLast = false) : fitsL rows led o = false := by subst ho; unfold fitsL; rw [if_pos rfl, h2, Bool.and_false]
theorem fit_d (ho : o = false) (h : rows.contains led = b) : fitsL rows led o = b := by subst ho; unfold fitsL; rw [if_neg Bool.false_ne_true, h]
end
theorem quoteL_len : ∀ l : List Nat, (quoteL l).length ≤ 2 * l.length
  | [] => Nat.le_refl 0
  | c :: r => by
    have := quoteL_len r
    unfold quoteL
    split <;> simp <;> omega
noncomputable def r257 (led : List (List Nat)) (n : Int) : List Nat := [50, 53, 55, 32, 34] ++ quoteL (pathL led) ++ [34, 32] ++ cmdL n
theorem reply_call (w : World) (W₁ : Addr) (rows : List (List (List Nat))) (stand : List (List Nat)) (n : Int) (vs : List Value) (c : Nat) (t1 t2 t3 : Tok) (rest : List (Addr × Obj)) (hro : ∀ r ∈ rows, GoodL r) (hst : GoodL stand) (hv : StrsAre vs (rows.map fun r => mkS (pathL r))) (hvl : vs.length ≤ 1000000) (hoff : ∀ p ∈ rest, p.1 ≠ W₁)
    (hb1 : (wholeL stand n).length ≤ 2000) (hb2 : (pathL (ledL stand n)).length ≤ 2000) (hb3 : (pathL stand).length ≤ 2000) :
    Call w 909 [.ref W₁, .str (mkS (pathL stand)) t1, .str (mkS (cmdL n)) t2, .str (mkS (wordL n)) t3] ((W₁, W.listOf vs.toArray c) :: rest) 20 200
    fun K => (fitsL rows (ledL stand n) (oddL n) = false → ∀ resp t, resp.take 3 = [53, 53, 48] → resp.length ≤ 100 → K (.str (mkS resp) t) ((W₁, W.listOf vs.toArray c) :: rest)) ∧
      (fitsL rows (ledL stand n) (oddL n) = true → oddL n = true → ∀ t t' c', K (.str (mkS (r257 (ledL stand n) n)) t) ((W₁, W.listOf (vs ++ [Value.str (mkS (pathL (ledL stand n))) t']).toArray c') :: rest)) ∧
      (fitsL rows (ledL stand n) (oddL n) = true → oddL n = false → ∀ t, K (.str (mkS (r257 (ledL stand n) n)) t) ((W₁, W.listOf vs.toArray c) :: rest)) := by
  w_top off
  k_with_none
  k_with "mine enter" => (refine' code_def ?k1 ?k2 ?k3 ?k4 ?k5 ?kA ?kF ?kK ?k6 ?k7 ?k8 ?k9 ?kB ?_ ?c2 ?c3 ?c4 ?c5; (case kA => exact rfl); (case kF => exact rfl); (case kK => first | exact rfl | assumption); (case k1 => k_asm); (case k2 => k_asm); (case k3 => k_asm); (case k4 => k_asm); (case k5 => k_asm); (case k6 => k_is); (case k7 => k_is); (case k8 => ktr_room); (case k9 => first | exact BindsTo.of_eq rfl | exact binds_K (by k_in) rfl (by k_is) rfl rfl rfl); (case c5 => decide); (case kB => exact locs rfl); (case c2 => exact rfl); (case c3 => exact rfl); (case c4 => exact rfl); k_whole; intro g' L' h' FG' F' N' B' X' T'; (try dsimp only); (try k_lift B'); (try k_fold))
  k_with "call builtin:len" => (k_here; (with_reducible show wpAny _ _ (call (Value.builtin "len") [Value.str (Str.mk (List.toArray _)) _]) _ _ _); k_dflt (refine' len_mk ?k1 ?_; (case k1 => first | omega | (simp only [List.length_append, List.length_cons, List.length_nil]; omega))); intro t9 k9)
  k_with "subscriptTail Name Slice str ref" => (k_here; (with_reducible show wpAny _ _ (subscriptTail _ (Expr.Slice _ _ none _) (Value.str (Str.mk _) _) (Value.ref _)) _ _ _); (with_reducible rename Fr _ _ _ _ => F'); (with_reducible rename News _ _ _ _ => N'); (refine' EL.sl (s := ⟨_, _, _, _, _⟩) ?e ?hl ?hh ?hs F' N' ?_ ?k6 ?k7; (case hl => first | exact .inl ⟨rfl, rfl⟩ | exact .inr ⟨_, _, rfl, rfl⟩); (case hh => first | exact .inl ⟨rfl, rfl, by simp⟩ | exact .inr ⟨_, _, rfl, rfl⟩); (case e => with_reducible assumption); (case hs => walk_at "tx len"); (case k6 => with_unfolding_all rfl); (case k7 => (intro _; with_unfolding_all rfl))); intro _ _ _ _ _)
  k_with "tx len" => (first | omega | (simp only [List.length_append, List.length_cons, List.length_nil]; omega))
  k_with "truthy str" => (k_here; (with_reducible refine' EL.truthy ?e ?hs ?_); (case e => first | with_reducible assumption | with_reducible exact rfl); (case hs => walk_at "tx len"); intro _)
  k_with "call builtin:str.startswith" => (k_here; (refine' EL.starts ?e ?_; (case e => with_reducible assumption)))
  k_with "call builtin:str.endswith" => (k_here; (refine' EL.ends ?e ?_; (case e => with_reducible assumption)))
  k_with "binaryOp Mult str int" => (k_here; (refine' EL.mul ?e ?hn ?hz ?_; (case e => with_reducible assumption); (case hn => walk_at "tx len"); (case hz => decide +kernel)); intro _ _)
  k_with "ite" => (first | (with_reducible refine itT (by with_reducible assumption) ?_) | (with_reducible refine itF (by with_reducible assumption) ?_))
  k_with "binaryOp Add str str" => (k_here; (first | (with_reducible refine' EL.add ?hs ?_; (case hs => walk_at "tx len")) | (with_reducible refine' EL.addL ?ez ?hs ?_; (case ez => with_reducible assumption); (case hs => walk_at "tx len")) | (with_reducible refine' EL.addE ?ez ?hs ?_; (case ez => with_reducible assumption); (case hs => walk_at "tx len"))); intro _ _)
  k_with "inplaceOp Add str str" => (k_here; (with_reducible refine' EL.iaddE ?hs ?_); (case hs => walk_at "tx len"); intro _ _)
  k_with "call ref" => (k_here; k_dflt (first | refine' callUse (fspath_call _ _ _ _) ?k1 ?k2 ?k3 ?k4 ?k5 ?kK ?kd ?ku ?_ | refine' callUse (sep_call _ _ _ _) ?k1 ?k2 ?k3 ?k4 ?k5 ?kK ?kd ?ku ?_); (case k4 => k_asm); (case k1 => k_asm); (case k2 => k_asm); (case k3 => k_asm); (case k5 => k_asm); (case kK => first | exact rfl | assumption); (case kd => ktr_room); (case ku => ktr_units); intro t9 h9 tk9 F9 N9; (try dsimp only); (try k_sweep); (try k_fold))
  k_with "call ref" => (k_here; (with_reducible show wpAny _ _ (call (Value.ref 133) _) _ _ _); k_dflt (refine' callUse (join_to _ _ _ _ ?q1 ?q2 ?q3) ?k1 ?k2 ?k3 ?k4 ?k5 ?kK ?kd ?ku ?_; (case k4 => k_asm); (case q3 => with_reducible assumption); (case q1 => omega); (case q2 => omega); (case k1 => k_asm); (case k2 => k_asm); (case k3 => k_asm); (case k5 => k_asm); (case kK => first | exact rfl | assumption); (case kd => ktr_room); (case ku => ktr_units)); intro t9 h9 tk9 F9 N9; (try dsimp only); (try k_sweep); (try k_fold))
  k_with "call ref" => (k_here; (with_reducible show wpAny _ _ (call (Value.ref 154) _) _ _ _); k_dflt (refine' callUse (norm_to _ _ _ ?q1 ?q2 ?q3 ?q4) ?k1 ?k2 ?k3 ?k4 ?k5 ?kK ?kd ?ku ?_; (case k4 => k_asm); (case q4 => with_reducible assumption); (case q1 => omega); (case q2 => assumption); (case q3 => assumption); (case k1 => k_asm); (case k2 => k_asm); (case k3 => k_asm); (case k5 => k_asm); (case kK => first | exact rfl | assumption); (case kd => ktr_room); (case ku => ktr_units)); intro t9 h9 tk9 F9 N9; (try dsimp only); (try k_sweep); (try k_fold))
  k_with "call ref" => (k_here; (with_reducible show wpAny _ _ (call (Value.ref 147) _) _ _ _); k_dflt (refine' callUse (dir_to _ _ _ ?q1) ?k1 ?k2 ?k3 ?k4 ?k5 ?kK ?kd ?ku ?_; (case k4 => k_asm); (case q1 => with_reducible assumption); (case k1 => k_asm); (case k2 => k_asm); (case k3 => k_asm); (case k5 => k_asm); (case kK => first | exact rfl | assumption); (case kd => ktr_room); (case ku => ktr_units)); intro t9 h9 tk9 F9 N9; (try dsimp only); (try k_sweep); (try k_fold))
  k_with "call builtin:list.append" => refine Halt.out ?_
  k_with "call builtin:str.replace" => refine Halt.out ?_
  k_with "compareOp NotIn str ref" => (k_here; (with_reducible refine' EL.notinL ?N ?hm ?hi ?e ?_); (case N => k_asm); (case hm => k_mem); (case hi => with_reducible assumption); (case e => with_reducible assumption))
  k_with "compareOp In str ref" => (k_here; (with_reducible refine' EL.inL ?N ?hm ?hi ?e ?_); (case N => k_asm); (case hm => k_mem); (case hi => with_reducible assumption); (case e => with_reducible assumption))
  have hj := joinP_whole hst n
  obtain ⟨hw1, hw2⟩ := whole_ok hst n
  have hn : 47 :: joinL (normC (splitL (wholeL stand n))) = pathL (ledL stand n) := by rw [norm_whole hst n]; rfl
  have hgl : GoodL (ledL stand n) := ledL_good hst n
  have i1 := any_path rows _ hro hgl
  have i2 := any_path rows _ hro (goodL_drop hgl)
  have hdp : ∃ a b, pathL (ledL stand n) = a ++ 47 :: b ∧ 47 ∉ b ∧ (a = [] ∨ a.getLast? ≠ some 47) ∧ (if a = [] then [47] else a) = pathL (ledL stand n).dropLast ∧ (pathL (ledL stand n)).length ≤ 100000 := by
    obtain ⟨a, b, h1, h2, h3, h4⟩ := dir_parts hgl
    exact ⟨a, b, h1, h2, h3, h4, by omega⟩
  have hwl := wordL_len n
  have hcl := cmdL_len n
  have f0 := cmd_mk n
  have es1 : Str.ofString "550 \"" = mkS [53, 53, 48, 32, 34] := ofs "550 \"" [53, 53, 48, 32, 34]
  have es2 : Str.ofString "\"" = mkS [34] := ofs "\"" [34]
  have es3 : Str.ofString "257 \"" = mkS [50, 53, 55, 32, 34] := ofs "257 \"" [50, 53, 55, 32, 34]
  have es4 : Str.ofString "\" " = mkS [34, 32] := ofs "\" " [34, 32]
  have er : Txt.replace (mkS (pathL (ledL stand n))) (Str.ofString "\"") (Str.ofString "\"\"") = mkS (quoteL (pathL (ledL stand n))) := by rw [es2, ofs "\"\"" [34, 34]]; exact txt_replace _
  have eqq : (Str.ofString "\"" == Str.ofString "\"\"") = false := by decide +kernel
  clear hgl hro hst
  intro mean mg mb dp un gd cn cs a ccd cl outer A₀ base h₀ L m s Q E B F X N T hk hd hu hret
  refine wpAny_call ?_
  k_dflt walk_at "mine enter"
  k_steps
  · have hf : fitsL rows (ledL stand n) (oddL n) = false := fit_a (f0.symm.trans (by with_reducible assumption)) (i1.symm.trans (by with_reducible assumption))
    exact hret.1 hf _ _ rfl (by simp; omega) _ _ (by k_asm) (by k_asm)
  · have ho : oddL n = true := f0.symm.trans (by with_reducible assumption)
    have hf : fitsL rows (ledL stand n) (oddL n) = true := fit_b ho (i1.symm.trans (by with_reducible assumption)) (i2.symm.trans (by with_reducible assumption))
    unfold Halt
    (rename Fr _ _ _ _ => fF)
    (rename News _ _ _ _ => nN)
    refine' EL.app0 fF nN hoff hvl ?_
    intro h' F' N'
    k_steps
    unfold Halt
    refine' EL.replace ?hu ?hv eqq (by omega) (by decide +kernel) er ?_
    case hu => exact ⟨neN (by omega), neN (by omega)⟩
    case hv => exact neN (by omega)
    intro t' k
    have hql := quoteL_len (pathL (ledL stand n))
    k_steps
    exact hret.2.1 hf ho _ _ _ _ _ (by k_asm) (by k_asm)
  · have ho : oddL n = true := f0.symm.trans (by with_reducible assumption)
    have hf : fitsL rows (ledL stand n) (oddL n) = false := fit_c ho (i2.symm.trans (by with_reducible assumption))
    exact hret.1 hf _ _ rfl (by simp; omega) _ _ (by k_asm) (by k_asm)
  · have ho : oddL n = false := f0.symm.trans (by with_reducible assumption)
    have hf : fitsL rows (ledL stand n) (oddL n) = true := fit_d ho (i1.symm.trans (by with_reducible assumption))
    unfold Halt
    refine' EL.replace ?hu ?hv eqq (by omega) (by decide +kernel) er ?_
    case hu => exact ⟨neN (by omega), neN (by omega)⟩
    case hv => exact neN (by omega)
    intro t' k
    have hql := quoteL_len (pathL (ledL stand n))
    k_steps
    exact hret.2.2 hf ho _ _ _ (by k_asm) (by k_asm)
  · have ho : oddL n = false := f0.symm.trans (by with_reducible assumption)
    have hf : fitsL rows (ledL stand n) (oddL n) = false := fit_d ho (i1.symm.trans (by with_reducible assumption))
    exact hret.1 hf _ _ rfl (by simp; omega) _ _ (by k_asm) (by k_asm)


end
section
set_option maxRecDepth 100000
set_option maxHeartbeats 8000000
theorem abs_t {n : Int} (h : (n.fdiv 2).fmod 4 = 0) : absL n = true := by unfold absL; rw [beq_iff_eq]; exact h
theorem abs_f {n : Int} (h : (n.fdiv 2).fmod 4 ≠ 0) : ¬ absL n = true := by unfold absL; rw [beq_iff_eq]; exact h
structure LdJ (L0 : List (List Nat)) (l9 : Addr) (lo : Obj) (base news : List (Addr × Obj)) (r : List Value) (m : Str → Option Value) (nw : List (Addr × Obj)) (rest acc : List (List Nat)) (R : Addr) (vs : List Value) (c : Nat) (extra : List (Addr × Obj)) : Prop where
  hr : StrsAre r (rest.map mkS)
  hfold : rest.foldl ledS acc = L0
  hlen : acc.length + rest.length ≤ 1002
  hm : m (Str.ofString "led") = some (.ref R)
  hv : StrsAre vs (acc.map mkS)
  hR : (R, W.listOf vs.toArray c) ∈ extra ++ base
  hn : nw = extra ++ news
  ho : ∀ p ∈ extra, ∀ q ∈ news, q.1 < p.1
  hl : (l9, lo) ∈ nw
inductive LdS (L0 : List (List Nat)) (l9 : Addr) (lo : Obj) (base news : List (Addr × Obj)) (r : List Value) (m : Str → Option Value) (nw : List (Addr × Obj)) : Prop
  | mk (rest acc : List (List Nat)) (R : Addr) (vs : List Value) (c : Nat) (extra : List (Addr × Obj)) (j : LdJ L0 l9 lo base news r m nw rest acc R vs c extra) : LdS L0 l9 lo base news r m nw
theorem led_dd {acc : List (List Nat)} {c : List Nat} (h : (mkS c == Str.ofString "..") = true) : ledS acc c = acc.dropLast := by
  rw [ofs ".." [46, 46], beq_iff_eq] at h
  have := mkS_inj h
  subst this
  rfl
theorem led_d {acc : List (List Nat)} {c : List Nat} (h : (mkS c != Str.ofString ".") = false) : ledS acc c = acc := by
  rw [ofs "." [46], bne, Bool.not_eq_false', beq_iff_eq] at h
  have := mkS_inj h
  subst this
  simp [ledS]
theorem led_n {acc : List (List Nat)} {c : List Nat} (h1 : (mkS c == Str.ofString "..") = false) (h : (mkS c != Str.ofString ".") = true) : ledS acc c = acc ++ [c] := by
  rw [ofs "." [46], bne_iff_ne] at h
  rw [ofs ".." [46, 46], beq_eq_false_iff_ne] at h1
  unfold ledS
  rw [if_neg (fun e => h1 (by rw [e])), if_pos (fun e => h (by rw [e]))]
theorem ledS_len {acc : List (List Nat)} {c : List Nat} : (ledS acc c).length ≤ acc.length + 1 := by
  unfold ledS
  split
  · simp; omega
  · split <;> simp
theorem swap12 {h₀ h : Heap} {L : Addr} {a b : Addr × Obj} {news : List (Addr × Obj)} (N : News h₀ L h (a :: b :: news)) : News h₀ L h (b :: a :: news) := fun p hp => N p (by
  simp only [List.mem_cons] at hp ⊢
  rcases hp with h | h | h <;> simp [h])
theorem led_call (w : World) (S : Addr) (stand : List (List Nat)) (n : Int) (tn : Tok) (vs : List Value) (c : Nat) (news : List (Addr × Obj)) (bas : List (Addr × Obj)) (hbs : ∀ p ∈ bas, p ∈ news) (hm : (S, W.listOf vs.toArray c) ∈ bas) (hv : StrsAre vs (stand.map mkS)) (hl : stand.length ≤ 1000) :
    Call w 923 [.ref S, .int n tn] news 6 60
    fun K => ∀ R vs' c' extra, StrsAre vs' ((ledL stand n).map mkS) → (R, W.listOf vs'.toArray c') ∈ extra ++ bas → (∀ p ∈ extra, ∀ q ∈ news, q.1 < p.1) → K (.ref R) (extra ++ news) := by
  w_top off
  k_with_none
  k_with "mine enter" => (refine' code_def ?k1 ?k2 ?k3 ?k4 ?k5 ?kA ?kF ?kK ?k6 ?k7 ?k8 ?k9 ?kB ?_ ?c2 ?c3 ?c4 ?c5; (case kA => exact rfl); (case kF => exact rfl); (case kK => first | exact rfl | assumption); (case k1 => k_asm); (case k2 => k_asm); (case k3 => k_asm); (case k4 => k_asm); (case k5 => k_asm); (case k6 => k_is); (case k7 => k_is); (case k8 => ktr_room); (case k9 => first | exact BindsTo.of_eq rfl | exact binds_K (by k_in) rfl (by k_is) rfl rfl rfl); (case c5 => decide); (case kB => exact locs rfl); (case c2 => exact rfl); (case c3 => exact rfl); (case c4 => exact rfl); k_whole; intro g' L' h' FG' F' N' B' X' T'; (try dsimp only); (try k_lift B'); (try k_fold))
  k_with "call builtin:len" => (k_here; (with_reducible show wpAny _ _ (call (Value.builtin "len") [Value.str (Str.mk (List.toArray _)) _]) _ _ _); k_dflt (refine' len_mk ?k1 ?_; (case k1 => first | omega | (simp only [List.length_append, List.length_cons, List.length_nil]; omega))); intro t9 k9)
  k_with "subscriptTail Name Slice str ref" => (k_here; (with_reducible show wpAny _ _ (subscriptTail _ (Expr.Slice _ _ none _) (Value.str (Str.mk _) _) (Value.ref _)) _ _ _); (with_reducible rename Fr _ _ _ _ => F'); (with_reducible rename News _ _ _ _ => N'); (refine' EL.sl (s := ⟨_, _, _, _, _⟩) ?e ?hl ?hh ?hs F' N' ?_ ?k6 ?k7; (case hl => first | exact .inl ⟨rfl, rfl⟩ | exact .inr ⟨_, _, rfl, rfl⟩); (case hh => first | exact .inl ⟨rfl, rfl, by simp⟩ | exact .inr ⟨_, _, rfl, rfl⟩); (case e => with_reducible assumption); (case hs => walk_at "tx len"); (case k6 => with_unfolding_all rfl); (case k7 => (intro _; with_unfolding_all rfl))); intro _ _ _ _ _)
  k_with "tx len" => (first | omega | (simp only [List.length_append, List.length_cons, List.length_nil]; omega))
  k_with "truthy str" => (k_here; (with_reducible refine' EL.truthy ?e ?hs ?_); (case e => first | with_reducible assumption | with_reducible exact rfl); (case hs => walk_at "tx len"); intro _)
  k_with "call builtin:str.startswith" => (k_here; (refine' EL.starts ?e ?_; (case e => with_reducible assumption)))
  k_with "call builtin:str.endswith" => (k_here; (refine' EL.ends ?e ?_; (case e => with_reducible assumption)))
  k_with "binaryOp Mult str int" => (k_here; (refine' EL.mul ?e ?hn ?hz ?_; (case e => with_reducible assumption); (case hn => walk_at "tx len"); (case hz => decide +kernel)); intro _ _)
  k_with "ite" => (first | (with_reducible refine itT (by with_reducible assumption) ?_) | (with_reducible refine itF (by with_reducible assumption) ?_))
  k_with "binaryOp Add str str" => (k_here; (first | (with_reducible refine' EL.add ?hs ?_; (case hs => walk_at "tx len")) | (with_reducible refine' EL.addL ?ez ?hs ?_; (case ez => with_reducible assumption); (case hs => walk_at "tx len")) | (with_reducible refine' EL.addE ?ez ?hs ?_; (case ez => with_reducible assumption); (case hs => walk_at "tx len"))); intro _ _)
  k_with "inplaceOp Add str str" => (k_here; (with_reducible refine' EL.iaddE ?hs ?_); (case hs => walk_at "tx len"); intro _ _)
  k_with "call ref" => (k_here; k_dflt (first | refine' callUse (fspath_call _ _ _ _) ?k1 ?k2 ?k3 ?k4 ?k5 ?kK ?kd ?ku ?_ | refine' callUse (sep_call _ _ _ _) ?k1 ?k2 ?k3 ?k4 ?k5 ?kK ?kd ?ku ?_); (case k4 => k_asm); (case k1 => k_asm); (case k2 => k_asm); (case k3 => k_asm); (case k5 => k_asm); (case kK => first | exact rfl | assumption); (case kd => ktr_room); (case ku => ktr_units); intro t9 h9 tk9 F9 N9; (try dsimp only); (try k_sweep); (try k_fold))
  k_with "call ref" => (k_here; (with_reducible show wpAny _ _ (call (Value.ref 888) _) _ _ _); k_dflt (refine' callUse (names_call _ _ _ _) ?k1 ?k2 ?k3 ?k4 ?k5 ?kK ?kd ?ku ?_; (case k4 => k_asm); (case k1 => k_asm); (case k2 => k_asm); (case k3 => k_asm); (case k5 => k_asm); (case kK => first | exact rfl | assumption); (case kd => ktr_room); (case ku => ktr_units)); intro l9 u1 u2 lo9 h9 tk9 F9 N9; (try dsimp only); (try k_sweep); (try k_fold))
  k_with "eval IfExp" => refine Halt.out ?_
  k_with "exec For Name Call cons nil" => refine Halt.out ?_
  k_with "pyIter ref" => refine Halt.out ?_
  k_with "subscriptTail Name Slice ref ref" => refine Halt.out ?_
  k_with "binaryOp Add ref ref" => refine Halt.out ?_
  intro mean mg mb dp un gd cn cs a ccd cl outer A₀ base h₀ L m s Q E B F X N T hk hd hu hret
  refine wpAny_call ?_
  k_dflt walk_at "mine enter"
  k_steps
  unfold Halt
  (rename Fr _ _ _ _ => fF)
  (rename News _ _ _ _ => nN)
  obtain ⟨g9, L9, m9, eg, eL, em9, fF⟩ := nameFr fF
  subst eg eL
  refine wpAny_mono (Q := fun v s₂ => Halt (∃ R vs' c' h' tk' extra, v = .ref R ∧ s₂ = { s with heap := h', toks := tk' } ∧ Fr g9 L9 h' m9 ∧ News g9 L9 h' (extra ++ news) ∧ (R, W.listOf vs'.toArray c') ∈ extra ++ bas ∧ StrsAre vs' ((if absL n = true then [] else stand).map mkS) ∧ (∀ p ∈ extra, ∀ q ∈ news, q.1 < p.1))) ?ife ?rest (fun _ _ e => e)
  case ife =>
    subst em9
    refine IfExp_ ?_
    k_steps
    · unfold Halt
      have ha : absL n = true := abs_t (by with_reducible assumption)
      (rename News _ _ _ _ => nN)
      refine ⟨_, [], 0, _, _, [_], rfl, rfl, by k_asm, nN, .head _, by rw [if_pos ha]; exact .nil, fun p hp q hq => by rw [List.mem_singleton.mp hp]; exact (by assumption : ∀ p ∈ news, p.1 < _) q hq⟩
    · unfold Halt
      have ha : ¬ absL n = true := abs_f (by with_reducible assumption)
      exact ⟨_, vs, c, _, _, [], rfl, rfl, by k_asm, by k_asm, hm, by rw [if_neg ha]; exact hv, fun p hp => (by cases hp)⟩
  case rest =>
    subst em9
    rintro v s₂ ⟨R, vs1, c1, h', tk', extra, rfl, rfl, F1, N1, hm1, hv1, ho1⟩
    k_steps
    unfold Halt
    (rename Fr _ _ _ _ => lF')
    (with_unfolding_all refine' For_turns lF' ?_)
    k_steps
    unfold Halt
    (rename Fr _ _ _ _ => fF)
    (rename News _ _ _ _ => nN)
    obtain ⟨g8, L8, m8, eg, eL, em8, fF⟩ := nameFr fF
    subst eg eL
    refine' forList (lo := W.listOf #[.str (mkS (nm1 n)) _, .str (mkS (nm2 n)) _] 0) (vs := [.str (mkS (nm1 n)) _, .str (mkS (nm2 n)) _]) (fun r m nw => LdS (ledL stand n) _ (W.listOf #[.str (mkS (nm1 n)) _, .str (mkS (nm2 n)) _] 0) bas news r m nw) rfl fF nN (.head _) rfl rfl ?hk ⟨[nm1 n, nm2 n], _, R, vs1, c1, _ :: extra, ⟨.cons _ _ (.cons _ _ .nil), rfl, ?hlen, by subst em8; rfl, hv1, .tail _ hm1, rfl, ?ho, .head _⟩⟩ ?step ?fin
    case hk => exact fun _ _ _ ⟨_, _, _, _, _, _, J⟩ => J.hl
    case hlen => split <;> simp <;> omega
    case ho =>
      intro p hp q hq
      rcases List.mem_cons.mp hp with rfl | hp
      · exact (by assumption : ∀ p ∈ extra ++ news, p.1 < _) q (List.mem_append_right _ hq)
      · exact ho1 p hp q hq
    case fin =>
      rintro h tk m nw ⟨rest, acc, R, vs, c, extra, J⟩ F9 N9
      obtain ⟨hr, hfold, hlen, hm, hv, hR, hn, ho, hl9⟩ := J
      cases rest with
      | cons _ _ => cases hr
      | nil =>
        subst hfold hn
        rw [mapPut2 hm] at F9
        k_steps
        exact hret R vs c extra hv hR ho _ _ (by k_asm) (by k_asm)
    case step =>
      rintro I v r m nw h tk o ⟨rest, acc, R, vs, c, extra, J⟩ hI F9 N9
      obtain ⟨hr, hfold, hlen, hm, hv, hR, hn, ho, hl9⟩ := J
      cases rest with
      | nil => cases hr
      | cons c1 rest =>
        obtain ⟨u1, rfl, hr2⟩ : ∃ u, v = .str (mkS c1) u ∧ StrsAre r (rest.map mkS) := by cases hr with | cons _ _ h => exact ⟨_, rfl, h⟩
        have hvl : vs.length = acc.length := by have := strsAre_len2 hv; rwa [List.length_map] at this
        have hl1 : vs.length ≤ 1000000 := by simp at hlen; omega
        rw [mapPut2 hm] at F9
        have hR2 : (R, W.listOf vs.toArray c) ∈ nw := by
          rw [hn]
          rcases List.mem_append.mp hR with h | h
          · exact List.mem_append_left _ h
          · exact List.mem_append_right _ (hbs _ h)
        have fin : ∀ (acc' : List (List Nat)), ledS acc c1 = acc' → rest.foldl ledS acc' = ledL stand n ∧ acc'.length + rest.length ≤ 1002 := fun acc' e => ⟨by rw [← hfold, List.foldl_cons, e], by have := ledS_len (acc := acc) (c := c1); rw [e] at this; simp at hlen; omega⟩
        have new : ∀ {R' : Addr} {o' : Obj}, (∀ p ∈ (I, o) :: nw, p.1 < R') → (∀ p ∈ (R', o') :: nw, p.1 ≠ I) ∧ (∀ p ∈ (R', o') :: extra, ∀ q ∈ news, q.1 < p.1) := fun {R'} {o'} hlt => ⟨fun p hp => by
            rcases List.mem_cons.mp hp with rfl | hp
            · exact (Nat.ne_of_lt (hlt (I, o) (.head _))).symm
            · exact hI p hp, fun p hp q hq => by
            rcases List.mem_cons.mp hp with rfl | hp
            · exact hlt q (.tail _ (by rw [hn]; exact List.mem_append_right _ hq))
            · exact ho p hp q hq⟩
        k_steps
        · unfold Halt
          (rename Fr _ _ _ _ => fF)
          (rename News _ _ _ _ => nN)
          refine' EL.initL (s := ⟨_, _, _, _, _⟩) fF nN (.tail _ hR2) hl1 ?_ ?k6 ?k7
          case k6 => with_unfolding_all rfl
          case k7 => (intro _; with_unfolding_all rfl)
          intro R' h' hlt F' N'
          k_steps
          obtain ⟨f1, f2⟩ := fin acc.dropLast (led_dd (by with_reducible assumption))
          obtain ⟨n1, n2⟩ := new hlt
          exact ⟨_, _, _, (R', _) :: nw, rfl, by k_asm, swap12 (by k_asm), n1, rest, acc.dropLast, R', _, 0, (R', _) :: extra, ⟨hr2, f1, f2, rfl, strsAre_drop hv, .head _, by rw [hn]; rfl, n2, .tail _ hl9⟩⟩
        · unfold Halt
          (rename Fr _ _ _ _ => fF)
          (rename News _ _ _ _ => nN)
          refine' EL.catL (d := 0) (ws := [_]) fF nN (.tail _ (.tail _ hR2)) (.head _) (by simp at hlen ⊢; omega) ?_
          intro R' h' hlt F' N'
          k_steps
          obtain ⟨f1, f2⟩ := fin (acc ++ [c1]) (led_n (by with_reducible assumption) (by with_reducible assumption))
          obtain ⟨n1, n2⟩ := new (fun p hp => hlt p (.tail _ hp))
          exact ⟨_, _, _, (R', _) :: nw, rfl, by k_asm, swap12 (skip2 (by k_asm)), n1, rest, acc ++ [c1], R', _, 0, (R', _) :: extra, ⟨hr2, f1, f2, rfl, by rw [List.map_append]; exact strsAre_app hv (.cons _ _ .nil), .head _, by rw [hn]; rfl, n2, .tail _ hl9⟩⟩
        · obtain ⟨f1, f2⟩ := fin acc (led_d (by with_reducible assumption))
          exact ⟨_, _, _, nw, rfl, by k_asm, by k_asm, hI, rest, acc, R, vs, c, extra, ⟨hr2, f1, f2, rfl, hv, hR, hn, ho, hl9⟩⟩


end
section
open PySem.SeqAt
set_option maxRecDepth 100000
/-! rows of names: lists of lists of texts -/
theorem strsAre_get {vs : List Value} {xs : List (List Nat)} (h : StrsAre vs (xs.map mkS)) : ∀ (j : Nat) (v : Value), vs[j]? = some v → ∃ x t, xs[j]? = some x ∧ v = .str (mkS x) t := by
  induction vs generalizing xs with
  | nil => intro j v e; cases e
  | cons a r ih =>
    cases xs with
    | nil => cases h
    | cons x xs =>
      cases h with
      | cons _ t h' =>
        intro j v e
        cases j with
        | zero => cases e; exact ⟨x, t, rfl, rfl⟩
        | succ j => exact ih h' j v e
theorem strsAre_at {vs : List Value} {xs : List (List Nat)} (h : StrsAre vs (xs.map mkS)) {j : Nat} {x : List Nat} (e : xs[j]? = some x) : ∃ t, vs[j]? = some (.str (mkS x) t) := by
  have hl := strsAre_len2 h
  rw [List.length_map] at hl
  have hj : j < vs.length := by rw [hl]; exact (List.getElem?_eq_some_iff.mp e).1
  obtain ⟨y, t, e1, e2⟩ := strsAre_get h j _ (List.getElem?_eq_getElem hj)
  rw [e] at e1
  cases e1
  exact ⟨t, by rw [List.getElem?_eq_getElem hj, e2]⟩
theorem strsAre_fun {vs : List Value} {xs ys : List (List Nat)} (h : StrsAre vs (xs.map mkS)) (g : StrsAre vs (ys.map mkS)) : xs = ys := by
  apply List.ext_getElem?
  intro j
  cases e : vs[j]? with
  | none =>
    have h1 := strsAre_len2 h
    have h2 := strsAre_len2 g
    rw [List.length_map] at h1 h2
    have hj := List.getElem?_eq_none_iff.mp e
    rw [List.getElem?_eq_none (by omega), List.getElem?_eq_none (by omega)]
  | some v =>
    obtain ⟨x, t, e1, rfl⟩ := strsAre_get h j v e
    obtain ⟨y, u, e2, e3⟩ := strsAre_get g j _ e
    rw [e1, e2]
    injection e3 with e3
    rw [mkS_inj e3]
section
variable {A : Around} {s : Shared}
theorem rc_lists {a b : Addr} {vs ws : List Value} {xs ys : List (List Nat)} (hl : s.heap.IsList a vs.toArray) (hb : s.heap.IsList b ws.toArray) (hv : StrsAre vs (xs.map mkS)) (hw : StrsAre ws (ys.map mkS)) (hu : A.units < cLine) : RcAt A s (.ref a) (.ref b) (xs == ys) := by
  have l1 := strsAre_len2 hv
  have l2 := strsAre_len2 hw
  rw [List.length_map] at l1 l2
  by_cases hlen : xs.length = ys.length
  · have h := RcAt.lists (e := fun j => decide (xs[j]? = ys[j]?)) hl hb (by simp; omega) hu (fun j h1 h2 => by
      obtain ⟨x, t, e1, e2⟩ := strsAre_get hv j _ (List.getElem?_eq_getElem (by simpa using h1))
      obtain ⟨y, u, e3, e4⟩ := strsAre_get hw j _ (List.getElem?_eq_getElem (by simpa using h2))
      have f1 : vs.toArray[j] = .str (mkS x) t := by simpa using e2
      have f2 : ws.toArray[j] = .str (mkS y) u := by simpa using e4
      rw [f1, f2]
      have e : decide (xs[j]? = ys[j]?) = (mkS x == mkS y) := by
        rw [e1, e3, Bool.eq_iff_iff, decide_eq_true_eq, beq_iff_eq]
        exact ⟨fun q => by rw [Option.some.inj q], fun q => by rw [mkS_inj q]⟩
      rw [e]
      exact (eqGives_str _ _ _ _).at _ _)
    have e : (List.range vs.toArray.size).all (fun j => decide (xs[j]? = ys[j]?)) = (xs == ys) := by
      rw [Bool.eq_iff_iff, List.all_eq_true, beq_iff_eq]
      constructor
      · intro q
        apply List.ext_getElem?
        intro j
        by_cases hj : j < vs.length
        · simpa using q j (by simpa using hj)
        · rw [List.getElem?_eq_none (by omega), List.getElem?_eq_none (by omega)]
      · rintro rfl j _
        simp
    rw [e] at h
    exact h
  · have h := RcAt.lists_lengths hl hb (by simp; omega) hu
    have e : (xs == ys) = false := by rw [beq_eq_false_iff_ne]; exact fun q => hlen (by rw [q])
    rw [e]
    exact h
theorem eq_lists {a b : Addr} {vs ws : List Value} {xs ys : List (List Nat)} (hl : s.heap.IsList a vs.toArray) (hb : s.heap.IsList b ws.toArray) (hv : StrsAre vs (xs.map mkS)) (hw : StrsAre ws (ys.map mkS)) (hu : A.units < cLine) : EqAt A s (.ref a) (.ref b) (xs == ys) := by
  by_cases hab : a = b
  · subst hab
    have : vs = ws := by
      obtain ⟨o, h1, _, n, h2⟩ := hl
      obtain ⟨o', h3, _, n', h4⟩ := hb
      rw [h1] at h3
      cases h3
      rw [h2] at h4
      injection h4 with h5
      simpa using h5
    subst this
    rw [strsAre_fun hv hw, beq_self_eq_true]
    exact EqAt.same _
  · exact EqAt.of_refs hab (rc_lists hl hb hv hw hu)
end
/-- references to lists of names, row by row -/
inductive RowsAre (news : List (Addr × Obj)) : List Value → List (List (List Nat)) → Prop
  | nil : RowsAre news [] []
  | cons {a : Addr} {vs : List Value} {c : Nat} {row : List (List Nat)} {rvs : List Value} {rows : List (List (List Nat))} : (a, W.listOf vs.toArray c) ∈ news → StrsAre vs (row.map mkS) → RowsAre news rvs rows → RowsAre news (.ref a :: rvs) (row :: rows)
theorem RowsAre.mono {n n' : List (Addr × Obj)} {rvs : List Value} {rows : List (List (List Nat))} (h : RowsAre n rvs rows) (hs : ∀ p ∈ n, p ∈ n') : RowsAre n' rvs rows := by
  induction h with
  | nil => exact .nil
  | cons h1 h2 _ ih => exact .cons (hs _ h1) h2 ih
theorem RowsAre.snoc {n : List (Addr × Obj)} {rvs : List Value} {rows : List (List (List Nat))} {a : Addr} {vs : List Value} {c : Nat} {row : List (List Nat)} (h : RowsAre n rvs rows) (h1 : (a, W.listOf vs.toArray c) ∈ n) (h2 : StrsAre vs (row.map mkS)) : RowsAre n (rvs ++ [.ref a]) (rows ++ [row]) := by
  induction h with
  | nil => exact .cons h1 h2 .nil
  | cons g1 g2 _ ih => exact .cons g1 g2 ih
theorem RowsAre.len {n : List (Addr × Obj)} {rvs : List Value} {rows : List (List (List Nat))} (h : RowsAre n rvs rows) : rvs.length = rows.length := by
  induction h with
  | nil => rfl
  | cons _ _ _ ih => simp [ih]
theorem RowsAre.at {n : List (Addr × Obj)} {rvs : List Value} {rows : List (List (List Nat))} (h : RowsAre n rvs rows) : ∀ (j : Nat) (v : Value), rvs[j]? = some v → ∃ a vs c row, v = .ref a ∧ rows[j]? = some row ∧ (a, W.listOf vs.toArray c) ∈ n ∧ StrsAre vs (row.map mkS) := by
  induction h with
  | nil => intro j v e; cases e
  | cons h1 h2 _ ih =>
    intro j v e
    cases j with
    | zero => cases e; exact ⟨_, _, _, _, rfl, rfl, h1, h2⟩
    | succ j => exact ih j v e
open Classical in
noncomputable def isRow (n : List (Addr × Obj)) (led : List (List Nat)) (v : Value) : Bool := decide (∃ a vs c, v = .ref a ∧ (a, W.listOf vs.toArray c) ∈ n ∧ StrsAre vs (led.map mkS))
section
variable {prog : Program} {w : World} {A : Around} {E : Value → Shared → Prop} {s : Shared} {L : Addr} {h₀ : Heap}
theorem isRow_eq {news : List (Addr × Obj)} {a : Addr} {vs : List Value} {c : Nat} {row led : List (List Nat)} (N : News h₀ L s.heap news) (h1 : (a, W.listOf vs.toArray c) ∈ news) (h2 : StrsAre vs (row.map mkS)) : isRow news led (.ref a) = (row == led) := by
  rw [Bool.eq_iff_iff, beq_iff_eq]
  unfold isRow
  classical
  rw [decide_eq_true_eq]
  constructor
  · rintro ⟨a', vs', c', e, h3, h4⟩
    injection e with e
    subst e
    have e1 := (N _ h1).1
    have e2 := (N _ h3).1
    rw [e1] at e2
    have e3 := congrArg Obj.data (Option.some.inj e2)
    injection e3 with e4
    have : vs = vs' := by simpa using e4
    subst this
    exact strsAre_fun h2 h4
  · rintro rfl
    exact ⟨a, vs, c, rfl, h1, h2⟩
theorem any_row {news : List (Addr × Obj)} {rvs : List Value} {rows : List (List (List Nat))} {led : List (List Nat)} (N : News h₀ L s.heap news) (h : RowsAre news rvs rows) : rvs.any (isRow news led) = rows.contains led := by
  induction h with
  | nil => rfl
  | @cons a vs c row rvs rows h1 h2 _ ih =>
    rw [List.any_cons, isRow_eq N h1 h2, ih, List.contains_cons]
    congr 1
    rw [Bool.eq_iff_iff, beq_iff_eq, beq_iff_eq]
    exact ⟨Eq.symm, Eq.symm⟩
namespace EL
variable {RW R : Addr} {rvs vs : List Value} {c d : Nat} {news : List (Addr × Obj)} {rows : List (List (List Nat))} {led : List (List Nat)} {b : Bool} {Q : Value → Shared → Prop}
theorem rowsEq (N : News h₀ L s.heap news) (hr : RowsAre news rvs rows) (hR : (R, W.listOf vs.toArray d) ∈ news) (hv : StrsAre vs (led.map mkS)) (hu : A.units < cLine) : ∀ y, y ∈ rvs.toArray → EqAt A s y (.ref R) (isRow news led y) := fun y hy => by
  have hy' : y ∈ rvs := by simpa using hy
  obtain ⟨j, hj⟩ := List.getElem?_of_mem hy'
  obtain ⟨a, vs', c', row, rfl, _, h1, h2⟩ := hr.at j y hj
  rw [isRow_eq N h1 h2]
  exact eq_lists ⟨_, (N _ h1).1, rfl, _, rfl⟩ ⟨_, (N _ hR).1, rfl, _, rfl⟩ h2 hv hu
theorem inRows (N : News h₀ L s.heap news) (hm : (RW, W.listOf rvs.toArray c) ∈ news) (hr : RowsAre news rvs rows) (hR : (R, W.listOf vs.toArray d) ∈ news) (hv : StrsAre vs (led.map mkS)) (hu : A.in1.units < cLine) (e : rows.contains led = b) (h : Q (.bool b) s) :
    wpAny (model prog w) A (compareOp .In (.ref R) (.ref RW)) Q E s :=
  in_listAt (isRow news led) ⟨_, (N _ hm).1, rfl, _, rfl⟩ (rowsEq N hr hR hv hu) (by
    rw [← Array.any_toList, show rvs.toArray.toList = rvs from rfl, any_row N hr, e]; exact h)
theorem notinRows (N : News h₀ L s.heap news) (hm : (RW, W.listOf rvs.toArray c) ∈ news) (hr : RowsAre news rvs rows) (hR : (R, W.listOf vs.toArray d) ∈ news) (hv : StrsAre vs (led.map mkS)) (hu : A.in1.units < cLine) (e : rows.contains led = b) (h : Q (.bool (!b)) s) :
    wpAny (model prog w) A (compareOp .NotIn (.ref R) (.ref RW)) Q E s :=
  notIn_listAt (isRow news led) ⟨_, (N _ hm).1, rfl, _, rfl⟩ (rowsEq N hr hR hv hu) (by
    rw [← Array.any_toList, show rvs.toArray.toList = rvs from rfl, any_row N hr, e]; exact h)
theorem eqL {R T : Addr} {ws : List Value} {xs ys : List (List Nat)} (N : News h₀ L s.heap news) (hm : (R, W.listOf vs.toArray c) ∈ news) (hm2 : (T, W.listOf ws.toArray d) ∈ news) (hv : StrsAre vs (xs.map mkS)) (hw : StrsAre ws (ys.map mkS)) (hu : A.units < cLine) (e : (xs == ys) = b) (h : Q (.bool b) s) :
    wpAny (model prog w) A (compareOp .Eq (.ref R) (.ref T)) Q E s :=
  cmp_ofEq (rc_lists ⟨_, (N _ hm).1, rfl, _, rfl⟩ ⟨_, (N _ hm2).1, rfl, _, rfl⟩ hv hw hu prog w E Q (by rw [e]; exact h))
theorem item {value slice : PySem.Expr} {S : Addr} {k : Int} {u : Tok} {x : Value} (N : News h₀ L s.heap news) (hm : (S, W.listOf vs.toArray c) ∈ news) (j : Nat) (hj : k = j) (hl : vs.length ≤ 1000000) (hx : vs[j]? = some x) (h : Q x s)
    (hs : subscripted slice false (.ref S) (.int k u) = operate [.ref S, .int k u] (getItem (.ref S) (.int k u))) : wpAny (model prog w) A (subscriptTail value slice (.ref S) (.int k u)) Q E s := by
  subst hj
  have hlt := (List.getElem?_eq_some_iff.mp hx).1
  have hl' : s.heap.IsList S vs.toArray := ⟨_, (N _ hm).1, rfl, _, rfl⟩
  exact tail_any hl'.typeIs slot_list_getitem.lookup (wpAny_getItem_list hl' (by omega) (by omega) (by rw [Int.toNat_natCast]; simpa using hx) h) hs
theorem len {S : Addr} (N : News h₀ L s.heap news) (hm : (S, W.listOf vs.toArray c) ∈ news) (hl : vs.length ≤ 1000000) (h : ∀ t k, Q (.int (vs.length : Int) t) { s with toks := k }) : wpAny (model prog w) A (call (.builtin "len") [.ref S]) Q E s := by
  refine len_list (items := vs.toArray) ⟨_, (N _ hm).1, rfl, _, rfl⟩ (by rw [List.size_toArray]; omega) ?_
  rw [List.size_toArray]
  exact h _ _
theorem takeL {value slice : PySem.Expr} {S : Addr} {u : Tok} {m : Str → Option Value} (k : Nat) (F : Fr h₀ L s.heap m) (N : News h₀ L s.heap news) (hl : s.heap.IsList S vs.toArray) (hlen : vs.length ≤ 1000000)
    (h : ∀ R h', (∀ p ∈ news, p.1 < R) → Fr h₀ L h' m → News h₀ L h' ((R, W.listOf (vs.take k).toArray 0) :: news) → Q (.ref R) { s with heap := h' })
    (hs : subscripted slice false (.ref S) (.ref s.heap.objs.size) = operate [.ref s.heap.objs.size, .ref S] (getItem (.ref S) (.ref s.heap.objs.size)))
    (ht : ∀ r, letTemporaryGo value (.ref S) r = pure ()) :
    wpAny (model prog w) A (subscriptTail value slice (.ref S) (.ref s.heap.objs.size)) Q E { s with heap := s.heap.push { cls := .type "slice", data := .fields #[.none, .int (k : Int) u, .none] } } := by
  refine slice_list F N hl .none (.int _ u) (fun h' F' N' => h _ h' (fun p hp => Nat.lt_succ_of_lt (Heap.lt_size (N p hp).1)) F' ?_) hs ht (by rw [sizeLine_eq, List.size_toArray]; omega)
  rw [slicePick_upto' vs.toArray k, show vs.toArray.toList = vs from rfl] at N'
  exact N'
end EL
end

end
section
set_option maxRecDepth 100000
/-! the law's own run, plain -/
noncomputable def stepL (x : List (List (List Nat)) × List (List Nat)) (n : Int) : List (List (List Nat)) × List (List Nat) :=
  if fitsL x.1 (ledL x.2 n) (oddL n) = true then (if oddL n = true then (x.1 ++ [ledL x.2 n], x.2) else (x.1, ledL x.2 n)) else x
noncomputable def runL (ns : List Int) : List (List (List Nat)) × List (List Nat) := ns.foldl stepL ([[]], [])
/-- small: few names, each short -/
noncomputable def Small (k : Nat) (cs : List (List Nat)) : Prop := cs.length ≤ k ∧ ∀ c ∈ cs, c.length ≤ 3
theorem nameL_len3 (n : Int) (i : Nat) : (nameL n i).length ≤ 3 := by unfold nameL; split <;> simp
theorem ledS_small {k : Nat} {cs : List (List Nat)} {c : List Nat} (h : Small k cs) (hc : c.length ≤ 3) : Small (k + 1) (ledS cs c) := by
  obtain ⟨h1, h2⟩ := h
  unfold ledS
  split
  · exact ⟨by simp; omega, fun x hx => h2 x (List.dropLast_subset _ hx)⟩
  · split
    · refine ⟨by simp; omega, fun x hx => ?_⟩
      rcases List.mem_append.mp hx with hx | hx
      · exact h2 x hx
      · rw [List.mem_singleton.mp hx]; exact hc
    · exact ⟨by omega, h2⟩
theorem ledL_small {k : Nat} {cs : List (List Nat)} (h : Small k cs) (n : Int) : Small (k + 2) (ledL cs n) := by
  unfold ledL
  have h0 : Small k (if absL n = true then [] else cs) := by
    split
    · exact ⟨Nat.zero_le _, fun _ h => by cases h⟩
    · exact h
  exact ledS_small (ledS_small h0 (nameL_len3 n _)) (nameL_len3 n _)
theorem small_mono {k k' : Nat} {cs : List (List Nat)} (h : Small k cs) (hk : k ≤ k') : Small k' cs := ⟨Nat.le_trans h.1 hk, h.2⟩
theorem joinL_small : ∀ {cs : List (List Nat)} {k : Nat}, Small k cs → (joinL cs).length ≤ 4 * k
  | [], _, _ => Nat.zero_le _
  | [a], k, h => by have h1 := h.1; have h2 := h.2 a (.head _); simp [joinL] at h1 ⊢; omega
  | a :: b :: r, k, h => by
    have h1 := h.1
    have h2 := h.2 a (.head _)
    have h3 := joinL_small (cs := b :: r) (k := k - 1) ⟨by simp at h1 ⊢; omega, fun c hc => h.2 c (.tail _ hc)⟩
    simp only [joinL, List.length_append, List.length_cons] at h1 h3 ⊢
    omega
structure RunOk (k : Nat) (x : List (List (List Nat)) × List (List Nat)) : Prop where
  g1 : ∀ r ∈ x.1, GoodL r
  g2 : GoodL x.2
  s1 : ∀ r ∈ x.1, Small (2 * k) r
  s2 : Small (2 * k) x.2
  l1 : x.1.length ≤ k + 1
theorem run_step {k : Nat} {x : List (List (List Nat)) × List (List Nat)} (h : RunOk k x) (n : Int) : RunOk (k + 1) (stepL x n) := by
  have up : ∀ {cs}, Small (2 * k) cs → Small (2 * (k + 1)) cs := fun h => small_mono h (by omega)
  unfold stepL
  split
  · split
    · refine ⟨fun r hr => ?_, h.g2, fun r hr => ?_, up h.s2, by have := h.l1; simp; omega⟩
      · rcases List.mem_append.mp hr with hr | hr
        · exact h.g1 r hr
        · rw [List.mem_singleton.mp hr]; exact ledL_good h.g2 n
      · rcases List.mem_append.mp hr with hr | hr
        · exact up (h.s1 r hr)
        · rw [List.mem_singleton.mp hr]; exact ledL_small h.s2 n
    · exact ⟨h.g1, ledL_good h.g2 n, fun r hr => up (h.s1 r hr), ledL_small h.s2 n, by have := h.l1; dsimp only; omega⟩
  · exact ⟨h.g1, h.g2, fun r hr => up (h.s1 r hr), up h.s2, by have := h.l1; omega⟩
theorem run_ok : ∀ (ns : List Int) (k : Nat) (x : List (List (List Nat)) × List (List Nat)), RunOk k x → RunOk (k + ns.length) (ns.foldl stepL x)
  | [], _, _, h => h
  | n :: r, k, x, h => by
    have := run_ok r (k + 1) (stepL x n) (run_step h n)
    rw [List.foldl_cons, List.length_cons, show k + (r.length + 1) = k + 1 + r.length by omega]
    exact this
theorem runL_ok (ns : List Int) : RunOk ns.length (runL ns) := by
  have := run_ok ns 0 ([[]], []) ⟨fun r hr => by rw [List.mem_singleton.mp hr]; exact goodL_nil, goodL_nil, fun r hr => by rw [List.mem_singleton.mp hr]; exact ⟨Nat.zero_le _, fun _ h => by cases h⟩, ⟨Nat.zero_le _, fun _ h => by cases h⟩, by simp⟩
  rwa [Nat.zero_add] at this
theorem runL_snoc {ns : List Int} {k : Nat} {n : Int} (h : ns[k]? = some n) : runL (ns.take (k + 1)) = stepL (runL (ns.take k)) n := by
  unfold runL
  rw [List.take_add_one, h, Option.toList_some, List.foldl_append]
  rfl
theorem wholeL_len {stand : List (List Nat)} {k : Nat} (h : Small k stand) (n : Int) : (wholeL stand n).length ≤ 4 * k + 10 := by
  have h1 := body_len n
  have h2 := joinL_small h
  unfold wholeL
  rw [List.length_append]
  split
  · rw [List.length_nil]; omega
  · split
    · rw [List.length_nil]; omega
    · rw [List.length_append, List.length_singleton]; omega
theorem pathL_len {stand : List (List Nat)} {k : Nat} (h : Small k stand) : (pathL stand).length ≤ 4 * k + 1 := by
  have h2 := joinL_small h
  unfold pathL
  simp
  exact h2
theorem tok_at : ∀ {ns : List Int} {k : Nat} {n : Int}, ns[k]? = some n → (tokL ns)[2 * k]? = some (cmdL n) ∧ (tokL ns)[2 * k + 1]? = some (wordL n)
  | [], _, _, h => by cases h
  | a :: r, 0, n, h => by cases h; exact ⟨rfl, rfl⟩
  | a :: r, k + 1, n, h => by
    have e : tokL (a :: r) = cmdL a :: wordL a :: tokL r := rfl
    have ih := tok_at (ns := r) (k := k) (n := n) h
    rw [e, show 2 * (k + 1) = 2 * k + 1 + 1 by omega]
    exact ih
theorem r257_eq (led : List (List Nat)) (n : Int) : r257 led n = [50, 53, 55, 32, 34] ++ (quoteL (pathL led) ++ 34 :: 32 :: cmdL n) := by unfold r257; simp
theorem un257 (led : List (List Nat)) (n : Int) : unquoteL (quoteL (pathL led) ++ 34 :: 32 :: cmdL n) = pathL led := unquote_quote _ _ fun d r' e => by
  injection e with e _
  rw [← e]; decide
theorem r257_len {led : List (List Nat)} {k : Nat} (h : (pathL led).length ≤ k) (n : Int) : (r257 led n).length ≤ 2 * k + 9 := by
  have h1 := quoteL_len (pathL led)
  have h2 := cmdL_len n
  unfold r257
  simp only [List.length_append, List.length_cons, List.length_nil]
  omega

end
section
set_option maxRecDepth 100000
set_option maxHeartbeats 8000000
noncomputable def HaltOn : Prop := True
theorem nameNums {h₀ h : Heap} {L NL : Addr} {a b c : Tok} {vs : List Value} {ns : List Int} {news : List (Addr × Obj)} (N : News h₀ L h ((NL, W.listOf ([Value.int 43 a, Value.int 33 b, Value.int 42 c] ++ vs).toArray 0) :: news)) (hI : IntsAre vs ns) :
    ∃ nvs, IntsAre nvs ([43, 33, 42] ++ ns) ∧ News h₀ L h [(NL, W.listOf nvs.toArray 0)] := ⟨_, .cons _ _ (.cons _ _ (.cons _ _ hI)), fun p hp => N p (by rw [List.mem_singleton.mp hp]; exact .head _)⟩
theorem spelledL_len2 (n : Int) : (spelledL n).length ≤ 43 := by rw [← upto_end]; exact upto_len n _
theorem join_line : ∀ ns : List Int, Txt.join (mkS [32]) ((ns.map spelledL).map mkS) = mkS (lineL ns) := by
  intro ns
  show Builtin.Str.glued _ _ = _
  rw [StrLaws.glued_eq_join]
  induction ns with
  | nil => rfl
  | cons n r ih =>
    cases r with
    | nil => rfl
    | cons m r =>
      show mkS (spelledL n) ++ mkS [32] ++ Str.join (mkS [32]) (((m :: r).map spelledL).map mkS) = _
      rw [ih, mkS_app, mkS_app]
      rfl
theorem lineL_len : ∀ ns : List Int, (lineL ns).length ≤ 44 * ns.length
  | [] => Nat.le_refl 0
  | [n] => by have := spelledL_len2 n; simp [lineL]; omega
  | n :: m :: r => by
    have h1 := lineL_len (m :: r)
    have h2 := spelledL_len2 n
    simp only [lineL, List.length_append, List.length_cons, List.length_nil] at h1 ⊢
    omega
theorem tokL_len : ∀ ns : List Int, (tokL ns).length = 2 * ns.length
  | [] => rfl
  | n :: r => by
    have := tokL_len r
    unfold tokL at this ⊢
    rw [List.flatMap_cons, List.length_append, this]
    simp
    omega
structure LwJ (ns9 : List Int) (nvs acc : List Value) (c : Nat) (W₁ RW S NL : Addr) (k : Nat) (m : Str → Option Value) (nw : List (Addr × Obj)) (wvs : List Value) (cw : Nat) (rvs : List Value) (cr : Nat) (svs : List Value) (cs : Nat) (Sr : Addr) (junk : List (Addr × Obj)) (tp : Tok) : Prop where
  m1 : m (Str.ofString "numbers") = some (.ref NL)
  m2 : m (Str.ofString "words") = some (.ref S)
  m3 : m (Str.ofString "world") = some (.ref W₁)
  m4 : m (Str.ofString "place") = some (.str (mkS (pathL (runL (ns9.take k)).2)) tp)
  m5 : m (Str.ofString "rows") = some (.ref RW)
  m6 : m (Str.ofString "stand") = some (.ref Sr)
  hn : nw = (W₁, W.listOf wvs.toArray cw) :: (RW, W.listOf rvs.toArray cr) :: junk
  hw : StrsAre wvs ((runL (ns9.take k)).1.map fun r => mkS (pathL r))
  hr : RowsAre junk rvs (runL (ns9.take k)).1
  hs : StrsAre svs ((runL (ns9.take k)).2.map mkS)
  hsm : (Sr, W.listOf svs.toArray cs) ∈ junk
  hNL : (NL, W.listOf nvs.toArray 0) ∈ junk
  hS : (S, W.listOf acc.toArray c) ∈ junk
  o1 : ∀ p ∈ junk, p.1 ≠ W₁ ∧ p.1 ≠ RW
  o2 : W₁ ≠ RW
inductive LwS (ns9 : List Int) (nvs acc : List Value) (c : Nat) (W₁ RW S NL : Addr) (k : Nat) (m : Str → Option Value) (nw : List (Addr × Obj)) : Prop
  | mk (wvs : List Value) (cw : Nat) (rvs : List Value) (cr : Nat) (svs : List Value) (cs : Nat) (Sr : Addr) (junk : List (Addr × Obj)) (tp : Tok) (j : LwJ ns9 nvs acc c W₁ RW S NL k m nw wvs cw rvs cr svs cs Sr junk tp) : LwS ns9 nvs acc c W₁ RW S NL k m nw
theorem mkPlace (ns9 : List Int) (es : Str.ofString "/" = mkS [47]) : Str.ofString "/" = mkS (pathL (runL (ns9.take 0)).2) := es
theorem mkWorld (ns9 : List Int) (es : Str.ofString "/" = mkS [47]) : (runL (ns9.take 0)).1.map (fun r => mkS (pathL r)) = [Str.ofString "/"] := by rw [es]; rfl
theorem nameLed {g h : Heap} {L s0 RW r0 W₁ : Addr} {o : Obj} {tw : Tok} {x : Str} {a b : Addr × Obj} (N : News g L h [(s0, W.listOf #[] 0), (RW, o), (r0, W.listOf #[] 0), (W₁, W.listOf #[.str x tw] 0), a, b]) (hne : W₁ ≠ RW) :
    ∃ s0' RW' r0' W₁' tw', s0' = s0 ∧ RW' = RW ∧ r0' = r0 ∧ W₁' = W₁ ∧ W₁' ≠ RW' ∧ News g L h [(W₁', W.listOf #[.str x tw'] 0), (RW', o), (s0', W.listOf #[] 0), (r0', W.listOf #[] 0), a, b] :=
  ⟨_, _, _, _, tw, rfl, rfl, rfl, rfl, hne, fun p hp => N p (by
    simp only [List.mem_cons] at hp ⊢
    rcases hp with h | h | h | h | h | h | h <;> simp [h])⟩
theorem range_ok : ∀ n : Nat, n ≤ 9 → Builtin.Range.small 0 (n : Int) 1 = true ∧ Builtin.Range.rangeSize 0 (n : Int) 1 = (n : Int) := by decide +kernel
theorem intsAre_at {vs : List Value} {ns : List Int} (h : IntsAre vs ns) : ∀ {j : Nat} {n : Int}, ns[j]? = some n → ∃ t, vs[j]? = some (.int n t) := by
  induction h with
  | nil => intro j n e; cases e
  | cons n t _ ih =>
    intro j n' e
    cases j with
    | zero => cases e; exact ⟨t, rfl⟩
    | succ j => exact ih e
noncomputable def ToldV (rows : List (List (List Nat))) (stand : List (List Nat)) (n : Int) (v : Value) : Prop := if fitsL rows (ledL stand n) (oddL n) = true then ∃ t, v = .str (mkS (pathL (ledL stand n))) t else v = .none
theorem offW {W₁ RW I : Addr} {o o' : Obj} {junk : List (Addr × Obj)} (h : I ≠ W₁) (o2 : W₁ ≠ RW) (o1 : ∀ p ∈ junk, p.1 ≠ W₁ ∧ p.1 ≠ RW) : ∀ p ∈ (I, o) :: (RW, o') :: junk, p.1 ≠ W₁ := fun p hp => by
  rcases List.mem_cons.mp hp with rfl | hp
  · exact h
  · rcases List.mem_cons.mp hp with rfl | hp
    · exact Ne.symm o2
    · exact (o1 p hp).1
theorem step_no {rows : List (List (List Nat))} {stand : List (List Nat)} {n : Int} (h : fitsL rows (ledL stand n) (oddL n) = false) : stepL (rows, stand) n = (rows, stand) := if_neg (ff h)
theorem step_odd {rows : List (List (List Nat))} {stand : List (List Nat)} {n : Int} (h : fitsL rows (ledL stand n) (oddL n) = true) (ho : oddL n = true) : stepL (rows, stand) n = (rows ++ [ledL stand n], stand) := (if_pos h).trans (if_pos ho)
theorem step_even {rows : List (List (List Nat))} {stand : List (List Nat)} {n : Int} (h : fitsL rows (ledL stand n) (oddL n) = true) (ho : oddL n = false) : stepL (rows, stand) n = (rows, ledL stand n) := (if_pos h).trans (if_neg (ff ho))
theorem led_perm {g h : Heap} {L : Addr} {a b c : Addr × Obj} {extra junk : List (Addr × Obj)} (N : News g L h (extra ++ (a :: b :: c :: junk))) : News g L h (b :: a :: c :: (extra ++ junk)) := fun p hp => N p (by
  simp only [List.mem_cons, List.mem_append] at hp ⊢
  rcases hp with h | h | h | h | h <;> simp [h])
theorem led_off {W₁ RW I : Addr} {o o1 o2 o3 o4 : Obj} {junk extra : List (Addr × Obj)} (hIo : ∀ p ∈ (W₁, o1) :: (RW, o2) :: junk, p.1 ≠ I) (hj : ∀ p ∈ junk, p.1 ≠ W₁ ∧ p.1 ≠ RW)
    (hlt : ∀ p ∈ extra, ∀ q ∈ (W₁, o3) :: (I, o) :: (RW, o4) :: junk, q.1 < p.1) : ∀ p ∈ extra ++ junk, (p.1 ≠ W₁ ∧ p.1 ≠ RW) ∧ p.1 ≠ I := fun p hp => by
  rcases List.mem_append.mp hp with hp | hp
  · exact ⟨⟨(Nat.ne_of_lt (hlt p hp (W₁, o3) (.head _))).symm, (Nat.ne_of_lt (hlt p hp (RW, o4) (.tail _ (.tail _ (.head _))))).symm⟩, (Nat.ne_of_lt (hlt p hp (I, o) (.tail _ (.head _)))).symm⟩
  · exact ⟨hj p hp, hIo p (.tail _ (.tail _ hp))⟩
theorem odd_t {n : Int} (h : n.fmod 2 = 1) : oddL n = true := by unfold oddL; rw [beq_iff_eq]; exact h
theorem odd_f {n : Int} (h : n.fmod 2 ≠ 1) : oddL n = false := by unfold oddL; rw [beq_eq_false_iff_ne]; exact h
theorem fit_f {rows : List (List (List Nat))} {led : List (List Nat)} {o : Bool} (ho : o = true) (h : rows.contains led = true) : fitsL rows led o = !rows.contains led := by rw [fit_a ho h, h]; rfl
theorem fit_e {rows : List (List (List Nat))} {led : List (List Nat)} {o : Bool} (ho : o = true) (h : rows.contains led = false) : fitsL rows led o = rows.contains led.dropLast := by subst ho; unfold fitsL; rw [if_pos rfl, h]; rfl
theorem offI {W₁ RW I : Addr} {o1 o2 : Obj} {junk : List (Addr × Obj)} (h1 : W₁ ≠ I) (h2 : RW ≠ I) (h : ∀ p ∈ junk, (p.1 ≠ W₁ ∧ p.1 ≠ RW) ∧ p.1 ≠ I) : ∀ p ∈ (W₁, o1) :: (RW, o2) :: junk, p.1 ≠ I := fun p hp => by
  rcases List.mem_cons.mp hp with rfl | hp
  · exact h1
  · rcases List.mem_cons.mp hp with rfl | hp
    · exact h2
    · exact (h p hp).2
theorem swap23 {h₀ h : Heap} {L : Addr} {a b c : Addr × Obj} {news : List (Addr × Obj)} (N : News h₀ L h (a :: b :: c :: news)) : News h₀ L h (a :: c :: b :: news) := fun p hp => N p (by
  simp only [List.mem_cons] at hp ⊢
  rcases hp with h | h | h | h <;> simp [h])
theorem offRW {W₁ RW I : Addr} {o1 : Obj} {junk : List (Addr × Obj)} (o2 : W₁ ≠ RW) (h : ∀ p ∈ junk, (p.1 ≠ W₁ ∧ p.1 ≠ RW) ∧ p.1 ≠ I) : ∀ p ∈ (W₁, o1) :: junk, p.1 ≠ RW := fun p hp => by
  rcases List.mem_cons.mp hp with rfl | hp
  · exact o2
  · exact (h p hp).1.2
theorem firstOnly {h₀ h : Heap} {L : Addr} {a : Addr × Obj} {news : List (Addr × Obj)} (N : News h₀ L h (a :: news)) : News h₀ L h [a] := fun p hp => N p (by rw [List.mem_singleton.mp hp]; exact .head _)
theorem intsAre_get {vs : List Value} {ns : List Int} (h : IntsAre vs ns) : ∀ (j : Nat) (v : Value), vs[j]? = some v → ∃ n t, v = .int n t ∧ ns[j]? = some n := by
  induction h with
  | nil => intro j v e; cases e
  | cons n t _ ih =>
    intro j v e
    cases j with
    | zero => cases e; exact ⟨n, t, rfl, rfl⟩
    | succ j => exact ih j v e
theorem law_ok : PySem.Challenge.rw_ik0087_01.Holds := hd (by
  w_top off
  k_with_none
  k_with "mine enter" => (refine' code_def ?k1 ?k2 ?k3 ?k4 ?k5 ?kA ?kF ?kK ?k6 ?k7 ?k8 ?k9 ?kB ?_ ?c2 ?c3 ?c4 ?c5; (case kA => exact rfl); (case kF => exact rfl); (case kK => first | exact rfl | assumption); (case k1 => k_asm); (case k2 => k_asm); (case k3 => k_asm); (case k4 => k_asm); (case k5 => k_asm); (case k6 => k_is); (case k7 => k_is); (case k8 => ktr_room); (case k9 => first | exact BindsTo.of_eq rfl | exact binds_K (by k_in) rfl (by k_is) rfl rfl rfl); (case c5 => decide); (case kB => exact locs rfl); (case c2 => exact rfl); (case c3 => exact rfl); (case c4 => exact rfl); k_whole; intro g' L' h' FG' F' N' B' X' T'; (try dsimp only); (try k_lift B'); (try k_fold))
  k_with "call builtin:len" => (k_here; (with_reducible show wpAny _ _ (call (Value.builtin "len") [Value.str (Str.mk (List.toArray _)) _]) _ _ _); k_dflt (refine' len_mk ?k1 ?_; (case k1 => first | omega | (simp only [List.length_append, List.length_cons, List.length_nil]; omega))); intro t9 k9)
  k_with "call ref" => refine Halt.out ?_
  k_with "binaryOp Add ref ref" => refine Halt.out ?_
  k_with "eval ListComp" => refine Halt.out ?_
  k_with "exec For Name Call cons nil" => refine Halt.out ?_
  k_with "subscriptTail Name Slice ref ref" => refine Halt.out ?_
  k_with "CompSrc" => refine Halt.out ?_
  k_with "CompEnd" => refine Halt.out ?_
  k_with "call builtin:str.join" => refine Halt.out ?_
  k_with "pyIter ref" => refine Halt.out ?_
  k_with "compareOp In ref ref" => refine Halt.out ?_
  k_with "compareOp NotIn ref ref" => refine Halt.out ?_
  k_with "compareOp Eq ref ref" => refine Halt.out ?_
  k_with "call builtin:list.append" => refine Halt.out ?_
  k_with "subscriptTail Name BinOp ref int" => refine Halt.out ?_
  k_with "subscriptTail Name Name ref int" => refine Halt.out ?_
  k_with "binaryOp Add str str" => refine Halt.out ?_
  k_with "ite" => (first | (with_reducible refine itT (by with_reducible assumption) ?_) | (with_reducible refine itF (by with_reducible assumption) ?_))
  k_with "execs cons" => ((with_reducible rename HaltOn => hM9); refine Halt.out ?_)
  k_with "execs cons Assign cons" => ((with_reducible rename HaltOn => hM9); refine Halt.out ?_)
  k_with "call builtin:len" => (k_here; (with_reducible show wpAny _ _ (call (Value.builtin "len") [Value.ref _]) _ _ _); (refine' EL.len ?N ?hm ?hl ?_; (case N => k_asm); (case hm => k_mem); (case hl => assumption)); intro _ _)
  k_go0
  (all_goals try k_fold)
  rename World => w
  rename Shared => s1
  rename IntsAre _ _ => hI
  obtain ⟨vs0, ns0, evs, ens, hI⟩ : ∃ vs ns, vs = _ ∧ ns = _ ∧ IntsAre vs ns := ⟨_, _, rfl, rfl, hI⟩
  subst evs ens
  have hI6 := hI.take 6
  have hvl : (vs0.take 6).length ≤ 6 := by rw [List.length_take]; omega
  have hM9 : HaltOn := trivial
  k_steps
  refine haltI ?_
  clear hM9
  refine wpAny_mono (Q := fun fl s₂ => Halt (∃ h' tk' m', fl = Flow.ret (.bool true) ∧ s₂ = { s1 with heap := h', toks := tk' } ∧ Fr s1.heap s1.heap.objs.size h' m')) (E := fun _ _ => False) ?body ?fin (fun _ _ h => h.elim)
  case fin =>
    rintro fl s₂ ⟨h', tk', m', rfl, rfl, F'⟩
    k_steps
  case body =>
    k_steps
    refine haltI ?_
    (rename Fr _ _ _ _ => fF)
    (rename News _ _ _ _ => nN)
    rename Heap.IsList _ _ _ => hL
    have hl0 : vs0.length ≤ 63 := by rw [hI.length]; omega
    refine' EL.takeL (s := ⟨_, _, _, _, _⟩) 6 fF nN (hL.at fun o e => fF.keep _ o e) (by omega) ?_ ?k6 ?k7
    case k6 => with_unfolding_all rfl
    case k7 => (intro _; with_unfolding_all rfl)
    intro SL h' hlt F' N'
    (try k_lt hlt)
    k_steps
    refine haltI ?_
    refine' EL.catL (vs := [_, _, _]) (c := 0) F' N' (.tail _ (.head _)) (.head _) (by simp; omega) ?_
    intro NL h' hlt2 F' N'
    (try k_lt hlt2)
    clear hlt hlt2
    obtain ⟨nvs, hnI, N'⟩ := nameNums N' hI6
    generalize hn9 : [43, 33, 42] ++ ns0.take 6 = ns9 at hnI
    have hn9l : 3 ≤ ns9.length ∧ ns9.length ≤ 9 := by
      have := congrArg List.length hn9
      simp at this
      omega
    have hnl : nvs.length = ns9.length := hnI.length
    have hne9 : ns9 ≠ [] := by intro e; rw [e] at hn9l; simp at hn9l
    clear hn9 hI6 hvl hI
    k_steps
    refine haltI ?_
    (rename Fr _ _ _ _ => fF)
    (rename News _ _ _ _ => nN)
    refine LCg.ListComp_U (F₀ := fF) (by rfl) (by decide) (by rfl) (by decide) (by rfl) ?_
    k_steps
    refine haltI ?_
    (rename Fr _ _ _ _ => fF)
    (rename News _ _ _ _ => nN)
    refine LCg.CompSrc.ledger (by rfl) fF nN (.head _) (by rw [sizeLine_eq, List.size_toArray]; omega) ?_
    intro g'
    refine compInv (fun i ys nw => nw = _ ∧ StrsAre ys (((ns9.take i).map spelledL).map mkS)) ns9.length ?cstep ?cfin _ 0 [] _ (by rw [List.size_toArray]; omega) ⟨rfl, .nil⟩
    case cstep =>
      rintro i ys nw v I oI C oC D m₂ h tk E' hi ⟨rfl, hys⟩ hP hC hx F9 N9 off
      obtain ⟨n, t, rfl, hn⟩ := intsAre_get hnI i v (by simpa using hP)
      k_steps
      refine haltI ?_
      k_dflt (refine' callUse (spelled_call w n t _) ?k1 ?k2 ?k3 ?k4 ?k5 ?kK ?kd ?ku ?_; (case k4 => k_asm); (case k1 => k_asm); (case k2 => k_asm); (case k3 => k_asm); (case k5 => k_asm); (case kK => first | exact rfl | assumption); (case kd => ktr_room); (case ku => ktr_units))
      intro t9 h9 tk9 F9 N9
      (try dsimp only)
      exact ⟨_, _, _, rfl, F9, N9, off, .inr ⟨_, .head _, rfl, _, rfl⟩, rfl, by rw [List.take_add_one, hn, List.map_append, List.map_append]; exact strsAre_app hys (.cons _ _ .nil)⟩
    case cfin =>
      rintro ys nw ⟨rfl, hys⟩
      rw [List.take_length] at hys
      unfold LCg.FinE
      intro D h tk F9 N9 off
      k_steps
      refine haltI ?_
      refine' EL.joinS N9 (.head _) rfl hys (by decide +kernel) (by rw [List.length_map]; omega) ?hc (y := lineL ns9) ?he ?_
      case hc =>
        intro c hc
        obtain ⟨n, _, rfl⟩ := List.mem_map.mp hc
        have := spelledL_len2 n
        omega
      case he => rw [ofs " " [32]]; exact join_line ns9
      intro t' k
      k_steps
      refine haltI ?_
      clear hys off
      k_dflt (refine' split_call w (lineL ns9) _ (tokL ns9) _ ?hb (lex_line ns9 hne9) ?hws ?k1 ?k2 ?k3 ?k4 ?k5 rfl ?kd ?ku ?_; (case k4 => exact skip1 (by k_asm)); (case k1 => k_asm); (case k2 => k_asm); (case k3 => k_asm); (case k5 => k_asm); (case kd => ktr_room); (case ku => ktr_units))
      case hb => have := lineL_len ns9; omega
      case hws => rw [tokL_len]; omega
      intro S acc c h8 tk8 hacc F8 N8
      have hal : acc.length = 2 * ns9.length := by have := strsAre_len2 hacc; rwa [List.length_map, tokL_len] at this
      have hal2 : acc.length ≤ 1000000 := by omega
      have hnl2 : nvs.length ≤ 1000000 := by omega
      k_steps
      · exfalso; omega
      refine haltI ?_
      have es : Str.ofString "/" = mkS [47] := ofs "/" [47]
      (rename Fr _ _ _ _ => lF')
      (with_unfolding_all refine' For_turns lF' ?_ ?hs9 ?hE9)
      case hs9 => (intro _; with_unfolding_all rfl)
      case hE9 => exact fun _ _ h => False.elim h
      k_steps
      refine haltI ?_
      (rename Fr _ _ _ _ => fF)
      (rename News _ _ _ _ => nN)
      (rename IsRange _ _ _ _ _ _ _ _ => hRg)
      obtain ⟨s0, RW, r0, W₁, tw, e1, e2, e3, e4, q1, nM⟩ := nameLed nN (by k_ne)
      clear nN
      subst e1 e2 e3 e4
      refine' forRange (n := ns9.length) (fun k m nw => LwS ns9 nvs acc c W₁ RW S NL k m nw) rfl hRg ?hsm ?hn fF nM ⟨[.str (Str.ofString "/") tw], 0, [.ref r0], 0, [], 0, s0, [(s0, W.listOf #[] 0), (r0, W.listOf #[] 0), (S, W.listOf acc.toArray c), (NL, W.listOf nvs.toArray 0)], _, ⟨rfl, rfl, rfl, by rw [← mkPlace ns9 es]; rfl, rfl, rfl, rfl, by rw [mkWorld ns9 es]; exact .cons _ _ .nil, .cons (c := 0) (.tail _ (.head _)) .nil .nil, .nil, .head _, .tail _ (.tail _ (.tail _ (.head _))), .tail _ (.tail _ (.head _)), ?o1, q1⟩⟩ ?step ?fin
      case hsm => exact (range_ok _ hn9l.2).1
      case hn => exact (range_ok _ hn9l.2).2
      case o1 =>
        intro p hp
        simp only [List.mem_cons, List.not_mem_nil, or_false] at hp
        rcases hp with rfl | rfl | rfl | rfl <;> exact ⟨by k_ne, by k_ne⟩
      case fin =>
        rintro h tk m nw ⟨wvs, cw, rvs, cr, svs, cs', Sr, junk, tp, J⟩ F9 N9
        obtain ⟨m1, m2, m3, m4, m5, m6, hn, hw, hr, hs, hsm, hNL, hS, o1, o2⟩ := J
        have rok := runL_ok (ns9.take ns9.length)
        rw [List.take_length] at hw hr rok
        rw [mapPut2 m5, mapPut2 m3] at F9
        rw [hn] at N9
        generalize runL ns9 = X at *
        obtain ⟨rows, stand⟩ := X
        obtain ⟨g1, g2, s1', s2', l1'⟩ := rok
        dsimp only at hw hr g1 g2 s1' s2' l1'
        clear hs hsm hNL hS m1 m2 m4 m6 o1 o2 hn
        have hw' : StrsAre wvs ((rows.map pathL).map mkS) := by rw [List.map_map]; exact hw
        have hrl := hr.len
        k_steps
        refine haltI ?_
        (rename Fr _ _ _ _ => fF)
        (rename News _ _ _ _ => nN)
        refine LCg.ListComp_U (F₀ := fF) (by rfl) (by decide) (by rfl) (by decide) (by rfl) ?_
        k_steps
        refine haltI ?_
        (rename Fr _ _ _ _ => fF)
        (rename News _ _ _ _ => nN)
        refine LCg.CompSrc.ledger (by rfl) fF nN (.tail _ (.head _)) (by rw [sizeLine_eq, List.size_toArray]; omega) ?_
        intro g'
        refine compInv (fun i ys nw => nw = _ ∧ StrsAre ys (((rows.take i).map pathL).map mkS)) rows.length ?cstep2 ?cfin2 _ 0 [] _ (by rw [List.size_toArray]; omega) ⟨rfl, .nil⟩
        case cstep2 =>
          rintro i ys nw v I oI C oC D m₂ h tk E' hi ⟨rfl, hys⟩ hP hC hx F9 N9 off
          obtain ⟨a, vs, d, row, rfl, hrow, h1, h2⟩ := hr.at i v (by simpa using hP)
          have sm := s1' row (List.mem_of_getElem? hrow)
          have jl := joinL_small sm
          have ej : Txt.join (Str.ofString "/") (row.map mkS) = mkS (joinL row) := by rw [es]; exact txt_join _
          k_steps
          refine haltI ?_
          refine' EL.joinS N9 (.tail _ (.tail _ (.tail _ (.tail _ (.tail _ h1))))) rfl h2 (by decide +kernel) (by have := sm.1; omega) (fun c hc => by have := sm.2 c hc; omega) ej ?_
          intro t5 k5
          k_steps
          refine haltI ?_
          refine' EL.addL es (by simp; omega) ?_
          intro t6 k6
          k_steps
          refine haltI ?_
          exact ⟨_, _, _, rfl, F9, N9, off, .inr ⟨_, .tail _ (.head _), rfl, _, rfl⟩, rfl, by rw [List.take_add_one, hrow, List.map_append, List.map_append]; exact strsAre_app hys (.cons _ _ .nil)⟩
        case cfin2 =>
          rintro ys nw ⟨rfl, hys⟩
          rw [List.take_length] at hys
          unfold LCg.FinE
          intro D h tk F9 N9 off
          k_steps
          refine haltI ?_
          refine' EL.eqL N9 (.tail _ (.head _)) (.head _) hw' hys ?hu (beq_self_eq_true _) ?_
          case hu => first | ktr_units | decide
          k_steps
          refine haltI ?_
          exact ⟨_, _, _, rfl, rfl, by assumption⟩
      case step =>
        rintro I k tk0 m nw h tk o hk ⟨wvs, cw, rvs, cr, svs, cs', Sr, junk, tp, J⟩ hIo F9 N9
        obtain ⟨m1, m2, m3, m4, m5, m6, hn, hw, hr, hs, hsm, hNL, hS, o1, o2⟩ := J
        obtain ⟨n, hnk⟩ : ∃ n, ns9[k]? = some n := ⟨_, List.getElem?_eq_getElem hk⟩
        have rok := runL_ok (ns9.take k)
        rw [List.length_take, Nat.min_eq_left (Nat.le_of_lt hk)] at rok
        have rstep := runL_snoc hnk
        generalize runL (ns9.take k) = X at *
        obtain ⟨rows, stand⟩ := X
        obtain ⟨g1, g2, s1', s2', l1'⟩ := rok
        dsimp only at m4 hw hr hs g1 g2 s1' s2' l1'
        obtain ⟨tok1, tok2⟩ := tok_at hnk
        obtain ⟨u1, hw1⟩ := strsAre_at hacc tok1
        obtain ⟨u2, hw2⟩ := strsAre_at hacc tok2
        obtain ⟨u3, hn3⟩ := intsAre_at hnI hnk
        have hM9 : HaltOn := trivial
        rw [mapPut2 m6, mapPut2 m5, mapPut2 m4, mapPut2 m3, mapPut2 m2, mapPut2 m1] at F9
        rw [hn] at N9 hIo
        k_steps
        refine haltI ?_
        (rename Fr _ _ _ _ => fF)
        (rename News _ _ _ _ => nN)
        have hvl : wvs.length = rows.length := by have := strsAre_len2 hw; rwa [List.length_map] at this
        have b1 := wholeL_len s2' n
        have b2 := pathL_len (ledL_small s2' n)
        have b3 := pathL_len s2'
        replace nN := swap12 nN
        obtain ⟨m9, em9, fF⟩ : ∃ m', m' = _ ∧ Fr s1.heap s1.heap.objs.size _ m' := ⟨_, rfl, fF⟩
        refine wpAny_execs_cons (wpAny_Assign_Name (wpAny_mono (Q := fun v s₂ => Halt (∃ wvs' cw' h' tk', ToldV rows stand n v ∧ s₂ = { s1 with heap := h', toks := tk' } ∧ Fr s1.heap s1.heap.objs.size h' m9 ∧ News s1.heap s1.heap.objs.size h' ((W₁, W.listOf wvs'.toArray cw') :: (I, o) :: (RW, W.listOf rvs.toArray cr) :: junk) ∧ StrsAre wvs' ((stepL (rows, stand) n).1.map fun r => mkS (pathL r)))) ?ev ?rest fun _ _ e => e) ?sw)
        case sw => with_unfolding_all rfl
        case ev =>
          subst em9
          k_steps
          refine haltI ?_
          refine' EL.item nN (.tail _ (.tail _ (.tail _ hS))) (2 * k) (by omega) hal2 hw1 ?_ ?hsb
          case hsb => with_unfolding_all rfl
          k_steps
          refine haltI ?_
          refine' EL.item nN (.tail _ (.tail _ (.tail _ hS))) (2 * k + 1) (by omega) hal2 hw2 ?_ ?hsb
          case hsb => with_unfolding_all rfl
          k_steps
          refine haltI ?_
          k_dflt (refine' callUse (reply_call w W₁ rows stand n wvs cw _ _ _ _ g1 g2 hw ?q1 ?q2 ?q3 ?q4 ?q5) ?k1 ?k2 ?k3 ?k4 ?k5 ?kK ?kd ?ku ?_; (case k4 => k_asm); (case k1 => k_asm); (case k2 => k_asm); (case k3 => k_asm); (case k5 => k_asm); (case kK => first | exact rfl | assumption); (case kd => ktr_room); (case ku => ktr_units))
          case q1 => omega
          case q2 => exact offW (fun e => hIo _ (.head _) e.symm) o2 o1
          case q3 => omega
          case q4 => omega
          case q5 => omega
          refine ⟨fun hf resp t ht hl h' tk' F' N' => ?_, fun hf ho t t' c' h' tk' F' N' => ?_, fun hf ho t h' tk' F' N' => ?_⟩
          all_goals (try dsimp only)
          all_goals k_steps
          all_goals refine haltI ?_
          · k_dflt (refine' told_bad w resp _ _ ?q1 ht ?k1 ?k2 ?k3 ?k4 ?k5 rfl ?kd ?ku ?_; (case k4 => k_asm); (case k1 => k_asm); (case k2 => k_asm); (case k3 => k_asm); (case k5 => k_asm); (case kd => ktr_room); (case ku => ktr_units))
            case q1 => omega
            intro h2 tk2 F2 N2
            exact ⟨wvs, cw, h2, tk2, by unfold ToldV; rw [if_neg (ff hf)], rfl, F2, N2, by rw [step_no hf]; exact hw⟩
          · k_dflt (refine' callUse (told_ok w (r257 (ledL stand n) n) _ _ _ ?q1 (r257_eq _ n)) ?k1 ?k2 ?k3 ?k4 ?k5 ?kK ?kd ?ku ?_; (case k4 => k_asm); (case k1 => k_asm); (case k2 => k_asm); (case k3 => k_asm); (case k5 => k_asm); (case kK => first | exact rfl | assumption); (case kd => ktr_room); (case ku => ktr_units))
            case q1 => have := r257_len b2 n; omega
            intro t2 h2 tk2 F2 N2
            exact ⟨_, _, h2, tk2, by unfold ToldV; rw [if_pos hf, un257]; exact ⟨_, rfl⟩, rfl, F2, N2, by rw [step_odd hf ho, List.map_append]; exact strsAre_app hw (.cons _ _ .nil)⟩
          · k_dflt (refine' callUse (told_ok w (r257 (ledL stand n) n) _ _ _ ?q1 (r257_eq _ n)) ?k1 ?k2 ?k3 ?k4 ?k5 ?kK ?kd ?ku ?_; (case k4 => k_asm); (case k1 => k_asm); (case k2 => k_asm); (case k3 => k_asm); (case k5 => k_asm); (case kK => first | exact rfl | assumption); (case kd => ktr_room); (case ku => ktr_units))
            case q1 => have := r257_len b2 n; omega
            intro t2 h2 tk2 F2 N2
            exact ⟨_, _, h2, tk2, by unfold ToldV; rw [if_pos hf, un257]; exact ⟨_, rfl⟩, rfl, F2, N2, by rw [step_even hf ho]; exact hw⟩
        case rest =>
          subst em9
          rintro v s₂ ⟨wvs', cw', h', tk', hv, rfl, F1, N1, hw'⟩
          clear hw hvl nN
          k_steps
          refine haltI ?_
          dsimp only
          refine wpAny_execs_cons ?_
          k_steps
          refine haltI ?_
          (rename News _ _ _ _ => nN)
          refine' EL.item nN (.tail _ (.tail _ (.tail _ hNL))) k rfl hnl2 hn3 ?_ ?hsb
          case hsb => with_unfolding_all rfl
          k_steps
          refine haltI ?_
          k_dflt (refine' callUse (led_call w Sr stand n u3 svs cs' _ junk ?q1 hsm hs ?q2) ?k1 ?k2 ?k3 ?k4 ?k5 ?kK ?kd ?ku ?_; (case k4 => k_asm); (case k1 => k_asm); (case k2 => k_asm); (case k3 => k_asm); (case k5 => k_asm); (case kK => first | exact rfl | assumption); (case kd => ktr_room); (case ku => ktr_units))
          case q1 => exact fun p hp => .tail _ (.tail _ (.tail _ hp))
          case q2 => have := s2'.1; omega
          intro R lvs c2 extra hv2 hR hlt h3 tk3 F3 N3
          (try clear nN)
          replace N3 := led_perm N3
          have o1' := led_off hIo o1 hlt
          have hIo' : ∀ p ∈ [(W₁, W.listOf wvs.toArray cw), (RW, W.listOf rvs.toArray cr)], p.1 ≠ I := fun p hp => hIo p (by rcases List.mem_cons.mp hp with rfl | hp; exact .head _; rw [List.mem_singleton.mp hp]; exact .tail _ (.head _))
          replace hr := hr.mono (n' := extra ++ junk) fun p hp => List.mem_append_right _ hp
          replace hsm : _ ∈ extra ++ junk := List.mem_append_right _ hsm
          replace hNL : _ ∈ extra ++ junk := List.mem_append_right _ hNL
          replace hS : _ ∈ extra ++ junk := List.mem_append_right _ hS
          clear hIo o1 hlt
          generalize extra ++ junk = junk2 at *
          try dsimp only
          k_steps
          refine haltI ?_
          try dsimp only
          refine wpAny_execs_cons ?_
          k_steps
          refine haltI ?_
          (rename News _ _ _ _ => nN)
          refine' EL.inRows nN (.tail _ (.tail _ (.head _))) (hr.mono fun p hp => .tail _ (.tail _ (.tail _ hp))) (.tail _ (.tail _ (.tail _ hR))) hv2 ?hu rfl ?_
          case hu => first | ktr_units | decide
          k_steps
          refine haltI ?_
          try dsimp only
          (try clear nN)
          (rename Fr _ _ _ _ => fF)
          (rename News _ _ _ _ => nN)
          obtain ⟨m8, em8, fF⟩ : ∃ m', m' = _ ∧ Fr s1.heap s1.heap.objs.size _ m' := ⟨_, rfl, fF⟩
          refine wpAny_execs_cons (wpAny_mono (Q := fun fl s₂ => Halt (∃ h' tk', fl = Flow.next ∧ s₂ = { s1 with heap := h', toks := tk' } ∧ Fr s1.heap s1.heap.objs.size h' (fun y => if y = Str.ofString "fits" then some (.bool (fitsL rows (ledL stand n) (oddL n))) else m8 y) ∧ News s1.heap s1.heap.objs.size h' ((I, o) :: (W₁, W.listOf wvs'.toArray cw') :: (RW, W.listOf rvs.toArray cr) :: junk2))) ?ifs ?rest2 fun _ _ e => e)
          case ifs =>
            have hm8 : m8 (Str.ofString "fits") = some (.bool (rows.contains (ledL stand n))) := by subst em8; rfl
            have keep : m8 = fun y => if y = Str.ofString "fits" then some (.bool (rows.contains (ledL stand n))) else m8 y := mapPut2 hm8
            subst em8
            k_steps
            refine haltI ?_
            refine' EL.item nN (.tail _ (.tail _ (.tail _ hNL))) k rfl hnl2 hn3 ?_ ?hsb
            case hsb => with_unfolding_all rfl
            k_steps
            all_goals refine haltI ?_
            · have ho : oddL n = true := odd_t (by with_reducible assumption)
              refine wpAny_execs_cons ?_
              k_steps
              refine haltI ?_
              refine' EL.notinRows nN (.tail _ (.tail _ (.head _))) (hr.mono fun p hp => .tail _ (.tail _ (.tail _ hp))) (.tail _ (.tail _ (.tail _ hR))) hv2 ?hu rfl ?_
              case hu => first | ktr_units | decide
              k_steps
              all_goals refine haltI ?_
              · have hb : rows.contains (ledL stand n) = true := by with_reducible assumption
                exact ⟨_, _, rfl, rfl, by rw [fit_f ho hb]; k_asm, by k_asm⟩
              · have hb : rows.contains (ledL stand n) = false := by with_reducible assumption
                (rename Fr _ _ _ _ => fF)
                refine' EL.initL (s := ⟨_, _, _, _, _⟩) fF nN (.tail _ (.tail _ (.tail _ hR))) ?hll ?_ ?k6 ?k7
                case hll => have h1 := strsAre_len2 hv2; rw [List.length_map] at h1; have h2 := (ledL_small s2' n).1; omega
                case k6 => with_unfolding_all rfl
                case k7 => (intro _; with_unfolding_all rfl)
                intro R2 h2 hlt2 F2 N2
                k_steps
                refine haltI ?_
                refine' EL.inRows N2 (.tail _ (.tail _ (.tail _ (.head _)))) (hr.mono fun p hp => .tail _ (.tail _ (.tail _ (.tail _ hp)))) (.head _) (strsAre_drop hv2) ?hu rfl ?_
                case hu => first | ktr_units | decide
                k_steps
                refine haltI ?_
                exact ⟨_, _, rfl, rfl, by rw [fit_e ho hb]; k_asm, skip1 (by k_asm)⟩
            · have ho : oddL n = false := odd_f (by with_reducible assumption)
              (rename Fr _ _ _ _ => fF)
              rw [keep] at fF
              exact ⟨_, _, rfl, rfl, by rw [fit_d ho rfl]; exact fF, by k_asm⟩
          case rest2 =>
            rintro fl s₂ ⟨h', tk', rfl, rfl, F4, N4⟩
            subst em8
            try dsimp only
            (try clear nN)
            cases hfit : fitsL rows (ledL stand n) (oddL n) with
            | false =>
              rw [hfit] at F4
              unfold ToldV at hv
              rw [if_neg (ff hfit)] at hv
              subst hv
              refine wpAny_execs_cons ?_
              k_steps
              refine haltI ?_
              try dsimp only
              refine wpAny_execs_cons ?_
              k_steps
              refine haltI ?_
              refine wpAny_execs_cons ?_
              k_steps
              exact ⟨_, _, _, (W₁, W.listOf wvs'.toArray cw') :: (RW, W.listOf rvs.toArray cr) :: junk2, rfl, by k_asm, by k_asm, offI (hIo' _ (.head _)) (hIo' _ (.tail _ (.head _))) o1', wvs', cw', rvs, cr, svs, cs', Sr, junk2, tp, ⟨rfl, rfl, rfl, by rw [rstep, step_no hfit]; rfl, rfl, rfl, rfl, by rw [rstep]; exact hw', by rw [rstep, step_no hfit]; exact hr, by rw [rstep, step_no hfit]; exact hs, hsm, hNL, hS, fun p hp => (o1' p hp).1, o2⟩⟩
            | true =>
              rw [hfit] at F4
              unfold ToldV at hv
              rw [if_pos hfit] at hv
              obtain ⟨tt, rfl⟩ := hv
              have sm := ledL_small s2' n
              have jl := joinL_small sm
              have ej : Txt.join (Str.ofString "/") ((ledL stand n).map mkS) = mkS (joinL (ledL stand n)) := by rw [es]; exact txt_join _
              have hne : (mkS (pathL (ledL stand n)) != mkS ([47] ++ joinL (ledL stand n))) = false := by show (mkS _ != mkS _) = false; rw [bne_eq_false_iff_eq]; rfl
              refine wpAny_execs_cons ?_
              k_steps
              refine haltI ?_
              (rename News _ _ _ _ => nN)
              refine' EL.joinS nN (.tail _ (.tail _ (.tail _ hR))) rfl hv2 (by decide +kernel) (by have := sm.1; omega) (fun c hc => by have := sm.2 c hc; omega) ej ?_
              intro t5 k5
              k_steps
              refine haltI ?_
              refine' EL.addL es (by simp; omega) ?_
              intro t6 k6
              k_steps
              refine haltI ?_
              try dsimp only
              refine wpAny_execs_cons ?_
              k_steps
              refine haltI ?_
              refine' EL.item nN (.tail _ (.tail _ (.tail _ hNL))) k rfl hnl2 hn3 ?_ ?hsb
              case hsb => with_unfolding_all rfl
              k_steps
              all_goals refine haltI ?_
              all_goals refine wpAny_execs_cons ?_
              · have ho : oddL n = true := odd_t (by with_reducible assumption)
                k_steps
                refine haltI ?_
                (rename Fr _ _ _ _ => fF)
                (rename News _ _ _ _ => nM)
                refine' EL.app (p0 := (I, o)) fF (swap23 nM) (hIo' _ (.tail _ (.head _))).symm (offRW o2 o1') (by have := hr.len; omega) ?_
                intro h7 F7 N7
                replace N7 := swap23 N7
                k_steps
                exact ⟨_, _, _, (W₁, W.listOf wvs'.toArray cw') :: (RW, _) :: junk2, rfl, by k_asm, by k_asm, offI (hIo' _ (.head _)) (hIo' _ (.tail _ (.head _))) o1', wvs', cw', rvs ++ [.ref R], _, svs, cs', Sr, junk2, tp, ⟨rfl, rfl, rfl, by rw [rstep, step_odd hfit ho]; rfl, rfl, rfl, rfl, by rw [rstep]; exact hw', by rw [rstep, step_odd hfit ho]; exact hr.snoc hR hv2, by rw [rstep, step_odd hfit ho]; exact hs, hsm, hNL, hS, fun p hp => (o1' p hp).1, o2⟩⟩
              · have ho : oddL n = false := odd_f (by with_reducible assumption)
                k_steps
                refine haltI ?_
                refine wpAny_execs_cons ?_
                k_steps
                refine haltI ?_
                try dsimp only
                refine wpAny_execs_cons ?_
                k_steps
                exact ⟨_, _, _, (W₁, W.listOf wvs'.toArray cw') :: (RW, W.listOf rvs.toArray cr) :: junk2, rfl, by k_asm, by k_asm, offI (hIo' _ (.head _)) (hIo' _ (.tail _ (.head _))) o1', wvs', cw', rvs, cr, lvs, c2, R, junk2, tt, ⟨rfl, rfl, rfl, by rw [rstep, step_even hfit ho]; rfl, rfl, rfl, rfl, by rw [rstep]; exact hw', by rw [rstep, step_even hfit ho]; exact hr, by rw [rstep, step_even hfit ho]; exact hv2, hR, hNL, hS, fun p hp => (o1' p hp).1, o2⟩⟩)

end
end Mine
theorem PySem.Challenge.cw_ik0087_01_holds : PySem.Challenge.rw_ik0087_01.Holds := by
  exact Mine.law_ok
