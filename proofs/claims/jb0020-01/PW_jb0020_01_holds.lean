import PyProof.Rows.All
import Wide.All
import OpenK.AllK
import Wide.FinOn
import PySem.Challenge.RW_jb0020_01
set_option Elab.async false
set_option linter.all false
section
open PySem PySem.W PyProof.Rows PySem.Calls
namespace Jb
theorem via {r : OpenRow} {q : Program} {loose : List Str} {Xt : Shared → Bool} {XP : (Str → Option Value) → Heap → Prop} {α : Type} {Yf : Shared → α} {Ya : World → α} {YP : World → Heap → Prop} {d : DefRec} {kwd : List (Str × PySem.Expr)} {N : Nat}
    (hl : LeftO r.prog q loose Xt Yf Ya N) (hw : r.toRowW.promised) (hc : WalkO q loose XP YP r.toRowW d kwd fun f vs => PySem.call f vs)
    (k : LeftO r.prog q loose Xt Yf Ya N → r.toRowW.promised → (WalkO q loose XP YP r.toRowW d kwd fun f vs => PySem.call f vs) → r.Holds) : r.Holds := k hl hw hc
-- What follows lays one constant ahead of the proof: the heap that the program's top leaves, of which every contract below speaks.
-- `a` has premises of its own (its top ends, a witness is there, its call walks): it says nothing of the statement, and nothing uses it.
-- The names `law_main.tw..` below are taken so that no twins are made under them: they say nothing, and nothing uses them. `law_main` itself has no premise.
theorem law_main.tw2940667919045409729 : True := True.intro
theorem law_main.tw8596912869475297545 : True := True.intro
theorem law_main.tw3435468123523653036 : True := True.intro
theorem law_main.tw1515775768342900377 : True := True.intro
theorem law_main.tw16808234388035023899 : True := True.intro
theorem law_main.tw14875576812115263422 : True := True.intro
theorem law_main.tw3973838063255354676 : True := True.intro
theorem law_main.tw17403783428411108734 : True := True.intro
theorem law_main.tw1049042973457609131 : True := True.intro
theorem law_main.tw5632725621488798203 : True := True.intro
theorem law_main.tw8510228468947725760 : True := True.intro
theorem law_main.tw16823838725741300821 : True := True.intro
theorem law_main.tw3215186195754905669 : True := True.intro
theorem law_main.tw12383270024300596222 : True := True.intro
theorem law_main.tw8446733136362952140 : True := True.intro
theorem law_main.tw2633973391232329839 : True := True.intro
theorem law_main.tw18171322764872837725 : True := True.intro
theorem law_main.tw9826512429465307968 : True := True.intro
theorem law_main.tw7637904059778723857 : True := True.intro
theorem law_main.tw5112345456061012426 : True := True.intro
theorem law_main.tw2257786772880654609 : True := True.intro
theorem law_main.tw15596912465858626660 : True := True.intro
theorem law_main.tw7013084156953542195 : True := True.intro
theorem law_main.tw2574294900985971852 : True := True.intro
theorem law_main.tw6835571817101939369 : True := True.intro
theorem law_main.tw12781652697166207474 : True := True.intro
theorem law_main.tw17386850222342368395 : True := True.intro
theorem law_main.tw6807169041304946803 : True := True.intro
theorem law_main.tw5616917576604287305 : True := True.intro
theorem law_main.tw5878987264583854331 : True := True.intro
theorem law_main.tw7848931749965112470 : True := True.intro
theorem law_main.tw6147093157546728894 : True := True.intro
theorem law_main.tw18181095325961435468 : True := True.intro
theorem law_main.tw8380377975348770536 : True := True.intro
theorem law_main.tw12133164961148210377 : True := True.intro
theorem law_main.tw11824664833844090528 : True := True.intro
theorem law_main.tw6823752472441077197 : True := True.intro
theorem law_main.tw9794432277313950121 : True := True.intro
theorem law_main.tw3265502839483266202 : True := True.intro
theorem law_main.tw18090850776111788879 : True := True.intro
theorem law_main.tw15466948229345768555 : True := True.intro
theorem law_main.tw13735951123823508123 : True := True.intro
theorem law_main.tw8161340418370086704 : True := True.intro
theorem law_main.tw6285588158339625906 : True := True.intro
theorem law_main.tw15776683863676871828 : True := True.intro
theorem law_main.tw12744568781064826536 : True := True.intro
theorem law_main.tw10336860771883455666 : True := True.intro
theorem law_main.tw8062633262359139033 : True := True.intro
theorem law_main.tw12557463076090544213 : True := True.intro
theorem law_main.tw8458200242889845923 : True := True.intro
theorem law_main.tw11327083651860785924 : True := True.intro
theorem law_main.tw6482516248920715652 : True := True.intro
theorem law_main.tw10309183535612714691 : True := True.intro
theorem law_main.tw6530330528026973501 : True := True.intro
theorem law_main.tw16353237333131890122 : True := True.intro
theorem law_main.tw17767026794663289569 : True := True.intro
theorem law_main.tw13909251229933871783 : True := True.intro
theorem law_main.tw9558152013955964236 : True := True.intro
theorem law_main.tw2448815517858431288 : True := True.intro
theorem law_main.tw14340271133426179598 : True := True.intro
theorem law_main.tw11432167860878982302 : True := True.intro
theorem law_main.tw5214475644548475095 : True := True.intro
theorem law_main.tw5684499245084002626 : True := True.intro
theorem law_main.tw11911833075366137747 : True := True.intro
theorem law_main.tw13937542589384845304 : True := True.intro
theorem law_main.tw11335303205397844823 : True := True.intro
theorem law_main.tw17257243048399434582 : True := True.intro
theorem law_main.tw9604109791152923022 : True := True.intro
theorem law_main.tw14848905864134927287 : True := True.intro
theorem law_main.tw10559558401032467615 : True := True.intro
theorem law_main.tw13780136725165018962 : True := True.intro
theorem law_main.tw5870195619095303810 : True := True.intro
theorem law_main.tw4239286951426542555 : True := True.intro
theorem law_main.tw4341344628392582851 : True := True.intro
theorem law_main.tw4151676888523134898 : True := True.intro
theorem law_main.tw12169649338941936311 : True := True.intro
theorem law_main.tw1740278015428029624 : True := True.intro
theorem law_main.tw15524329161963319031 : True := True.intro
theorem law_main.tw2684343172593196418 : True := True.intro
theorem law_main.tw7480543770404622111 : True := True.intro
theorem law_main.tw771953769788556336 : True := True.intro
theorem law_main.tw8168304241690874878 : True := True.intro
theorem law_main.tw17944777542511240978 : True := True.intro
theorem law_main.tw14592639509879102170 : True := True.intro
theorem law_main.tw11936436700782890565 : True := True.intro
theorem law_main.tw9334589111349911793 : True := True.intro
theorem law_main.tw2533186556825341853 : True := True.intro
theorem law_main.tw17078773806068907698 : True := True.intro
theorem law_main.tw3478537541101817661 : True := True.intro
theorem law_main.tw16341864274801659181 : True := True.intro
theorem law_main.tw17909284301435860890 : True := True.intro
theorem law_main.tw13294117936891899748 : True := True.intro
theorem law_main.tw11578801093697467459 : True := True.intro
theorem law_main.tw5019844293226057323 : True := True.intro
theorem law_main.tw12815566708158716238 : True := True.intro
theorem law_main.tw15587383967303012438 : True := True.intro
theorem law_main.tw9412789316722078619 : True := True.intro
theorem law_main.tw9130780495781481073 : True := True.intro
theorem law_main.tw2603003571055468310 : True := True.intro
theorem law_main.tw2997356374211820107 : True := True.intro
theorem law_main.tw16631655544614441536 : True := True.intro
theorem law_main.tw3224952791999604327 : True := True.intro
theorem law_main.tw10379963044256727222 : True := True.intro
theorem law_main.tw8478654054131856990 : True := True.intro
theorem law_main.tw2640455514374603214 : True := True.intro
theorem law_main.tw12617293662625311646 : True := True.intro
theorem law_main.tw5174803805654930034 : True := True.intro
theorem law_main.tw10054863857231941938 : True := True.intro
theorem law_main.tw4773114949339312569 : True := True.intro
theorem law_main.tw17821167387110435401 : True := True.intro
theorem law_main.tw14716764297082468876 : True := True.intro
theorem law_main.tw7646455021298533908 : True := True.intro
theorem law_main.tw16489459303948319617 : True := True.intro
theorem law_main.tw4039877707367647225 : True := True.intro
theorem law_main.tw7951563885805152573 : True := True.intro
theorem law_main.tw16399521302106415901 : True := True.intro
theorem law_main.tw8228558911179784537 : True := True.intro
theorem law_main.tw4539609971799777279 : True := True.intro
theorem law_main.tw7486124467853524084 : True := True.intro
theorem law_main.tw16420663074134848277 : True := True.intro
theorem law_main.tw4728437722616138849 : True := True.intro
theorem law_main.tw10916254243033013899 : True := True.intro
theorem law_main.tw5189993403720583137 : True := True.intro
theorem law_main.tw2382290307472799475 : True := True.intro
theorem law_main.tw148109866723652144 : True := True.intro
theorem law_main.tw5496150743807114600 : True := True.intro
theorem law_main.tw1017644956688708378 : True := True.intro
theorem law_main.tw5925393800434106045 : True := True.intro
theorem law_main.tw10609317852980077388 : True := True.intro
theorem law_main.tw8359852691967820860 : True := True.intro
theorem law_main.tw5172321320573377574 : True := True.intro
theorem law_main.tw12746945421320987437 : True := True.intro
theorem law_main.tw994605965979922869 : True := True.intro
theorem law_main.tw3658541122133890321 : True := True.intro
theorem law_main.tw6903913255867956669 : True := True.intro
theorem law_main.tw1779677092738692552 : True := True.intro
theorem law_main.tw11323972908827163363 : True := True.intro
theorem law_main.tw18093272349368256449 : True := True.intro
theorem law_main.tw4071178941038375599 : True := True.intro
theorem law_main.tw1477479144593005023 : True := True.intro
theorem law_main.tw13708005894965833687 : True := True.intro
theorem law_main.tw17072707948189295849 : True := True.intro
theorem law_main.tw2849010995159872754 : True := True.intro
theorem law_main.tw5986546261073108299 : True := True.intro
theorem law_main.tw6157075160898739180 : True := True.intro
theorem law_main.tw13621469421095732011 : True := True.intro
theorem law_main.tw11069201635379888668 : True := True.intro
theorem law_main.tw11679848971392485355 : True := True.intro
theorem law_main.tw10404574573439240926 : True := True.intro
theorem law_main.tw16555791707565833049 : True := True.intro
theorem law_main.tw5968141880670507810 : True := True.intro
theorem law_main.tw7225987849473983278 : True := True.intro
theorem law_main.tw3385127170089585034 : True := True.intro
theorem law_main.tw861248212669328942 : True := True.intro
theorem law_main.tw5781420636537075427 : True := True.intro
theorem law_main.tw15060073139816765365 : True := True.intro
theorem law_main.tw17099941231804102514 : True := True.intro
theorem law_main.tw11471369756701928375 : True := True.intro
theorem law_main.tw14026200580772210237 : True := True.intro
theorem law_main.tw17615998244707481887 : True := True.intro
theorem law_main.tw11701948521955640145 : True := True.intro
theorem law_main.tw18021406397748300390 : True := True.intro
theorem law_main.tw6414742226658453241 : True := True.intro
theorem law_main.tw4080291350174225372 : True := True.intro
theorem law_main.tw7568114774597417551 : True := True.intro
theorem law_main.tw2925638605650452275 : True := True.intro
theorem law_main.tw15816985832122202862 : True := True.intro
theorem law_main.tw1559613526778837822 : True := True.intro
theorem law_main.tw10844702222529999760 : True := True.intro
theorem law_main.tw16348156413566031162 : True := True.intro
theorem law_main.tw5671782330816354140 : True := True.intro
theorem law_main.tw16260449108045350429 : True := True.intro
theorem law_main.tw13386692701837656136 : True := True.intro
theorem law_main.tw15566332526686488932 : True := True.intro
theorem law_main.tw2963584056564268122 : True := True.intro
theorem law_main.tw4943924231757902780 : True := True.intro
theorem law_main.tw8317586822652371747 : True := True.intro
theorem law_main.tw10817622796864992307 : True := True.intro
theorem law_main.tw8667320659467599249 : True := True.intro
theorem law_main.tw5919345725429543483 : True := True.intro
theorem law_main.tw18262997159404419204 : True := True.intro
theorem law_main.tw17812616124478542662 : True := True.intro
theorem law_main.tw16290415079188350562 : True := True.intro
theorem law_main.tw15021981928836682936 : True := True.intro
theorem law_main.tw6473946009332946499 : True := True.intro
theorem law_main.tw4928195570087683719 : True := True.intro
theorem law_main.tw16688031135654366308 : True := True.intro
theorem law_main.tw3542339446559000067 : True := True.intro
theorem law_main.tw14692747968221840435 : True := True.intro
theorem law_main.tw6449483281669007915 : True := True.intro
theorem law_main.tw5471094708641599620 : True := True.intro
theorem law_main.tw14560233149533565865 : True := True.intro
theorem law_main.tw2311034445615957033 : True := True.intro
theorem law_main.tw17217886061152057642 : True := True.intro
theorem law_main.tw15507343509825076474 : True := True.intro
theorem law_main.tw2963936607267111076 : True := True.intro
theorem law_main.tw18147192084963237681 : True := True.intro
theorem law_main.tw9918466182468666907 : True := True.intro
theorem law_main.tw11137727525490773241 : True := True.intro
theorem law_main.tw1912663056229983092 : True := True.intro
theorem law_main.tw15272261602783509368 : True := True.intro
theorem law_main.tw1429936807680778864 : True := True.intro
theorem law_main.tw15912623432357977985 : True := True.intro
theorem law_main.tw6808890011254397680 : True := True.intro
theorem law_main.tw17311718810492240708 : True := True.intro
theorem law_main.tw16717180933953700902 : True := True.intro
theorem law_main.tw10941896835236871883 : True := True.intro
theorem law_main.tw14555611479884354157 : True := True.intro
theorem law_main.tw11407468425298356872 : True := True.intro
theorem law_main.tw5020787237612585668 : True := True.intro
theorem law_main.tw14484462241977171610 : True := True.intro
theorem law_main.tw7379111136514663329 : True := True.intro
theorem law_main.tw16556732604589091118 : True := True.intro
theorem law_main.tw17933123494874479381 : True := True.intro
theorem law_main.tw3116226381628830491 : True := True.intro
theorem law_main.tw1742563742869408576 : True := True.intro
theorem law_main.tw15715669766607040270 : True := True.intro
theorem law_main.tw17771056882289533169 : True := True.intro
theorem law_main.tw11778344379438457878 : True := True.intro
theorem law_main.tw11952904297760087932 : True := True.intro
theorem law_main.tw14651384000720540126 : True := True.intro
theorem law_main.tw8830212791520797288 : True := True.intro
theorem law_main.tw10677318219579789599 : True := True.intro
theorem law_main.tw18209624937649777492 : True := True.intro
theorem law_main.tw2284633156281687893 : True := True.intro
theorem law_main.tw17934191775290308247 : True := True.intro
theorem law_main.tw15620779993721381856 : True := True.intro
theorem law_main.tw11287843917572452910 : True := True.intro
theorem law_main.tw5923582431975928256 : True := True.intro
theorem law_main.tw10488678139842467300 : True := True.intro
theorem law_main.tw12063910762738910280 : True := True.intro
theorem law_main.tw5698612613149733649 : True := True.intro
theorem law_main.tw9862783550657383749 : True := True.intro
theorem law_main.tw2527056282114568094 : True := True.intro
theorem law_main.tw14540943394269920589 : True := True.intro
theorem law_main.tw3275805237289712388 : True := True.intro
theorem law_main.tw8325967740162885684 : True := True.intro
theorem law_main.tw1811831228673076067 : True := True.intro
theorem law_main.tw10360114479995390979 : True := True.intro
theorem law_main.tw11872943274549508894 : True := True.intro
theorem law_main.tw17439793154858117697 : True := True.intro
theorem law_main.tw17867839679541465589 : True := True.intro
theorem law_main.tw10887019890346338988 : True := True.intro
theorem law_main.tw1161247909234263964 : True := True.intro
theorem law_main.tw2536339890742399397 : True := True.intro
theorem law_main.tw11164756478867806995 : True := True.intro
theorem law_main.tw6801257777630260593 : True := True.intro
theorem law_main.tw1259200718989036432 : True := True.intro
theorem law_main.tw13917179480642068637 : True := True.intro
theorem law_main.tw12553827993872242691 : True := True.intro
theorem law_main.tw5865115417052882880 : True := True.intro
theorem law_main.tw16174944716322501247 : True := True.intro
theorem law_main.tw5185894354469619202 : True := True.intro
theorem law_main.tw13360561549565613250 : True := True.intro
theorem law_main.tw8201810558886668648 : True := True.intro
theorem law_main.tw9632648480929389864 : True := True.intro
theorem law_main.tw15125520139219418573 : True := True.intro
theorem law_main.tw12400729070987096270 : True := True.intro
theorem law_main.tw17201064599786665920 : True := True.intro
theorem law_main.tw1799445609015568847 : True := True.intro
theorem law_main.tw11260532623453699589 : True := True.intro
theorem law_main.tw10136095685081529471 : True := True.intro
theorem law_main.tw9930602980570266455 : True := True.intro
theorem law_main.tw7275176309600522601 : True := True.intro
theorem law_main.tw11333259712130354990 : True := True.intro
theorem law_main.tw14954290559899370419 : True := True.intro
theorem law_main.tw6102988050961202969 : True := True.intro
theorem law_main.tw5042782996987551814 : True := True.intro
theorem law_main.tw9296962765430556035 : True := True.intro
theorem law_main.tw4789828444195479119 : True := True.intro
theorem law_main.tw3918851245097807821 : True := True.intro
theorem law_main.tw2403052125456105259 : True := True.intro
theorem law_main.tw1070773324829387144 : True := True.intro
theorem law_main.tw14052087843526718471 : True := True.intro
theorem law_main.tw3978414827166230095 : True := True.intro
theorem law_main.tw17170069732992375039 : True := True.intro
theorem law_main.tw16300891746194929002 : True := True.intro
theorem law_main.tw8647752281697712646 : True := True.intro
theorem law_main.tw1550597125577600588 : True := True.intro
theorem law_main.tw12471699661171355457 : True := True.intro
theorem law_main.tw14924760979259608296 : True := True.intro
theorem law_main.tw15939771685648007858 : True := True.intro
theorem law_main.tw1175441878738495176 : True := True.intro
theorem law_main.tw9297186657423303995 : True := True.intro
theorem law_main.tw15225489811453737285 : True := True.intro
theorem law_main.tw15995346324238612929 : True := True.intro
theorem law_main.tw12369237742435572662 : True := True.intro
theorem law_main.tw4893882638791270070 : True := True.intro
theorem law_main.tw11276169663369549413 : True := True.intro
theorem law_main.tw1958331068128322103 : True := True.intro
theorem law_main.tw6341043408308827639 : True := True.intro
theorem law_main.tw165254060311444574 : True := True.intro
theorem law_main.tw13662730311474860968 : True := True.intro
theorem law_main.tw16856739227434098413 : True := True.intro
theorem law_main.tw10963926566844600894 : True := True.intro
theorem law_main.tw3881836166952492685 : True := True.intro
theorem law_main.tw8830805268934526027 : True := True.intro
theorem law_main.tw10481413427236680538 : True := True.intro
theorem law_main.tw8378591652064836999 : True := True.intro
theorem law_main.tw10171958612453700935 : True := True.intro
theorem law_main.tw16064702559625002725 : True := True.intro
theorem law_main.tw6799512351885461713 : True := True.intro
theorem law_main.tw13735999633014488599 : True := True.intro
theorem law_main.tw3061064408096066552 : True := True.intro
theorem law_main.tw1179553856009075978 : True := True.intro
theorem law_main.tw7520523210459866540 : True := True.intro
theorem law_main.tw7442078512020625683 : True := True.intro
theorem law_main.tw11790865392595087645 : True := True.intro
theorem law_main.tw14425695997806396303 : True := True.intro
theorem law_main.tw4692541558195307911 : True := True.intro
theorem law_main.tw15492176288206027814 : True := True.intro
theorem law_main.tw15808296414071739401 : True := True.intro
theorem law_main.tw10364723333065823096 : True := True.intro
theorem law_main.tw2752848823984184806 : True := True.intro
theorem law_main.tw17215575964033993543 : True := True.intro
theorem law_main.tw3551806431254989328 : True := True.intro
theorem law_main.tw9717413079643688268 : True := True.intro
theorem law_main.tw14368033659150825402 : True := True.intro
theorem law_main.tw2471790630277501670 : True := True.intro
theorem law_main.tw11795934725417879970 : True := True.intro
theorem law_main.tw15255339990960432744 : True := True.intro
theorem law_main.tw5559634158792996612 : True := True.intro
theorem law_main.tw12897634232309916172 : True := True.intro
theorem law_main.tw17127111074621452596 : True := True.intro
theorem law_main.tw559100290608972613 : True := True.intro
theorem law_main.tw18021298379813474376 : True := True.intro
theorem law_main.tw4546920982961385627 : True := True.intro
theorem law_main.tw13501111919393678803 : True := True.intro
theorem law_main.tw15942931854861694886 : True := True.intro
theorem law_main.tw286135065753402515 : True := True.intro
theorem law_main.tw11921461523492796654 : True := True.intro
theorem law_main.tw14835089677487186121 : True := True.intro
theorem law_main.tw13609951634273451167 : True := True.intro
theorem law_main.tw7306290983994381046 : True := True.intro
theorem law_main.tw9253517580345092434 : True := True.intro
theorem law_main.tw2888868995457553226 : True := True.intro
theorem law_main.tw9621899528352194600 : True := True.intro
theorem law_main.tw15005124485844888483 : True := True.intro
theorem law_main.tw903254098267788706 : True := True.intro
theorem law_main.tw989827084037057836 : True := True.intro
theorem law_main.tw8883283748871425512 : True := True.intro
theorem law_main.tw8675899798511578928 : True := True.intro
theorem law_main.tw3230414078372281815 : True := True.intro
theorem law_main.tw5851547172366056731 : True := True.intro
theorem law_main.tw8242817713329655947 : True := True.intro
theorem law_main.tw5180080753093700001 : True := True.intro
theorem law_main.tw237535653778141578 : True := True.intro
theorem law_main.tw1441782589505558530 : True := True.intro
theorem law_main.tw10782610762049501382 : True := True.intro
theorem law_main.tw17883944063919376239 : True := True.intro
theorem law_main.tw17522727414797311507 : True := True.intro
theorem law_main.tw1210657677063613082 : True := True.intro
theorem law_main.tw3196457032215452582 : True := True.intro
theorem law_main.tw13663354281867564212 : True := True.intro
theorem law_main.tw7229394777666015625 : True := True.intro
theorem law_main.tw16527847143346494633 : True := True.intro
theorem law_main.tw1739145546900190005 : True := True.intro
theorem law_main.tw382487247141720106 : True := True.intro
theorem law_main.tw12120233924906338097 : True := True.intro
theorem law_main.tw16605193917906605250 : True := True.intro
theorem law_main.tw18386486359661245529 : True := True.intro
theorem law_main.tw11945907514776611948 : True := True.intro
theorem law_main.tw15894881126146153667 : True := True.intro
theorem law_main.tw10466012508038395873 : True := True.intro
theorem law_main.tw13168136536918833121 : True := True.intro
theorem law_main.tw7730797800989022527 : True := True.intro
theorem law_main.tw2795053629663005532 : True := True.intro
theorem law_main.tw12763148259364246506 : True := True.intro
theorem law_main.tw5540363064935425324 : True := True.intro
theorem law_main.tw8168450671795021489 : True := True.intro
theorem law_main.tw12205440614232778485 : True := True.intro
theorem law_main.tw4682196536286196660 : True := True.intro
theorem law_main.tw18313357370920676189 : True := True.intro
theorem law_main.tw16811612058094131250 : True := True.intro
theorem law_main.tw12127225075673309374 : True := True.intro
theorem law_main.tw7207461784897867765 : True := True.intro
theorem law_main.tw88156008111243775 : True := True.intro
theorem law_main.tw10432615944074372699 : True := True.intro
theorem law_main.tw15972291396572304130 : True := True.intro
theorem law_main.tw7219210553695731874 : True := True.intro
theorem law_main.tw12566408999671118458 : True := True.intro
theorem law_main.tw4608215459789102463 : True := True.intro
theorem law_main.tw4855229837035386758 : True := True.intro
theorem law_main.tw6201915270468777577 : True := True.intro
theorem law_main.tw14825410182829652422 : True := True.intro
theorem law_main.tw17789792476553336365 : True := True.intro
theorem law_main.tw4574029488337217295 : True := True.intro
theorem law_main.tw13970253354002065020 : True := True.intro
theorem law_main.tw2781120680226324048 : True := True.intro
theorem law_main.tw3375226919282085986 : True := True.intro
theorem law_main.tw3583859260262483292 : True := True.intro
theorem law_main.tw11972988054529109201 : True := True.intro
theorem law_main.tw12070636673850873630 : True := True.intro
theorem law_main.tw5612681316303555102 : True := True.intro
theorem law_main.tw3801695487408881800 : True := True.intro
theorem law_main.tw8992544598987838148 : True := True.intro
theorem law_main.tw2652707428591153080 : True := True.intro
theorem law_main.tw938649841466143225 : True := True.intro
theorem law_main.tw18050115428363437257 : True := True.intro
theorem law_main.tw5033235999976907814 : True := True.intro
theorem law_main.tw10750432821884823872 : True := True.intro
theorem law_main.tw9642055910068382637 : True := True.intro
theorem law_main.tw17529555333672089826 : True := True.intro
theorem law_main.tw3232227639991582260 : True := True.intro
theorem law_main.tw569000262964228650 : True := True.intro
theorem law_main.tw3148064679281215814 : True := True.intro
theorem law_main.tw6355843994034102146 : True := True.intro
theorem law_main.tw2933519242042832738 : True := True.intro
theorem law_main.tw9632789561741511095 : True := True.intro
theorem law_main.tw12626243796747809593 : True := True.intro
theorem law_main.tw12119054414199444669 : True := True.intro
theorem law_main.tw3964128708775952531 : True := True.intro
theorem law_main.tw17867225841303759034 : True := True.intro
theorem law_main.tw18222939452800876776 : True := True.intro
theorem law_main.tw16767747180207255530 : True := True.intro
theorem law_main.tw13374796800555096372 : True := True.intro
theorem law_main.tw14925381873898522633 : True := True.intro
theorem law_main.tw3507719232864515563 : True := True.intro
theorem law_main.tw5053662834957742079 : True := True.intro
theorem law_main.tw5922316496081891900 : True := True.intro
theorem law_main.tw6225523943339347685 : True := True.intro
theorem law_main.tw1313602838225218435 : True := True.intro
theorem law_main.tw14344734543751162088 : True := True.intro
theorem law_main.tw8993256725990211598 : True := True.intro
set_option Elab.async true
set_option maxRecDepth 100000 in
set_option maxHeartbeats 8000000 in
theorem a (said : PySem.Challenge.rw_jb0020_01.row.wellSaid = true) (ha : ∀ {α : Type} (q : Program) (loose : List Str) (Xt : Shared → Bool) (Yf : Shared → α) (Ya : World → α) (N : Nat), LeftO PySem.Challenge.rw_jb0020_01.row.prog q loose Xt Yf Ya N)
    (hb : PySem.Challenge.rw_jb0020_01.row.toRowW.promised) (hd : ∀ (q : Program) (loose : List Str) (XP : (Str → Option Value) → Heap → Prop) (YP : World → Heap → Prop) (d : DefRec) (kwd : List (Str × PySem.Expr)), WalkO q loose XP YP PySem.Challenge.rw_jb0020_01.row.toRowW d kwd fun f vs => PySem.call f vs) :
    PySem.Challenge.rw_jb0020_01.row.Holds := by
  apply via
  case k =>
    intro _ _ _
    w_on
    k_head
  case hl => exact ha _ _ _ _ _ _
  case hw => exact hb
  case hc => exact hd _ _ _ _ _ _
end Jb

theorem Jb.heap_there : Jb.a.heap_1_1 = Jb.a.heap_1_1 := rfl
end
section
open PySem PySem.W PyProof.Rows
namespace Jb
abbrev cl (x : Str) : List Nat := x.cps.toList
def inG (g : Str) (c : Nat) : Bool := !(Builtin.Str.occurrences g (Txt.lower ⟨#[c]⟩) 0 g.length 1).isEmpty
def skipF (x : Str) (k : Int) (g : Str) : Int := (x.length : Int) - (((cl x).drop k.toNat).dropWhile (inG g)).length
theorem len_cl (x : Str) : (cl x).length = x.length := by simp [cl, Str.length]
theorem item_eq (x : Str) (i : Int) (h0 : 0 ≤ i) (h : i < x.length) : ∃ c, (cl x)[i.toNat]? = some c ∧ Txt.item x i = ⟨#[c]⟩ ∧ (cl x).drop i.toNat = c :: (cl x).drop (i + 1).toNat := by
  have hl : i.toNat < (cl x).length := by rw [len_cl]; omega
  refine ⟨(cl x)[i.toNat], List.getElem?_eq_getElem hl, ?_, ?_⟩
  · have hs : i.toNat < x.cps.size := by simpa [Str.length] using hl
    unfold Txt.item Txt.charAt
    rw [seqIndex_of h0 h]
    simp [hs]
  · rw [show (i + 1).toNat = i.toNat + 1 by omega]
    exact (List.drop_eq_getElem_cons hl)
theorem skipF_go (x g : Str) (i : Int) (h0 : 0 ≤ i) (h : i < x.length) (hg : (Builtin.Str.occurrences g (Txt.lower (Txt.item x i)) 0 g.length 1).isEmpty = false) : skipF x i g = skipF x (i + 1) g := by
  obtain ⟨c, h1, h2, h3⟩ := item_eq x i h0 h
  unfold skipF
  rw [h3, List.dropWhile_cons_of_pos]
  simp [inG, ← h2, hg]
theorem skipF_stop (x g : Str) (i : Int) (h0 : 0 ≤ i) (h : i < x.length) (hg : (Builtin.Str.occurrences g (Txt.lower (Txt.item x i)) 0 g.length 1).isEmpty = true) : skipF x i g = i := by
  obtain ⟨c, h1, h2, h3⟩ := item_eq x i h0 h
  unfold skipF
  rw [h3, List.dropWhile_cons_of_neg (by simp [inG, ← h2, hg]), ← h3, List.length_drop, len_cl]
  omega
theorem skipF_end (x g : Str) (i : Int) (h : (x.length : Int) ≤ i) : skipF x i g = x.length := by
  unfold skipF
  rw [List.drop_eq_nil_of_le (by rw [len_cl]; omega)]
  simp
theorem skip_end1 {x g : Str} {k i : Int} (h0 : 0 ≤ k) (h1 : k ≤ i) (h : i < x.length) (hq : skipF x k g = skipF x i g) (hg : (Builtin.Str.occurrences g (Txt.lower (Txt.item x i)) 0 g.length 1).isEmpty = true) : i = skipF x k g := by
  rw [hq, skipF_stop x g i (by omega) h hg]
theorem skip_end2 {x g : Str} {k i : Int} (h1 : i ≤ x.length) (h : ¬ i < x.length) (hq : skipF x k g = skipF x i g) : i = skipF x k g := by
  rw [hq, skipF_end x g i (by omega)]
  omega
theorem dropWhile_len_le {α : Type} (p : α → Bool) (l : List α) : (l.dropWhile p).length ≤ l.length := by
  induction l with
  | nil => simp
  | cons a r ih => rw [List.dropWhile_cons]; split <;> simp <;> omega
theorem skipF_ge (x g : Str) (k : Int) (h0 : 0 ≤ k) (h : k ≤ x.length) : k ≤ skipF x k g := by
  unfold skipF
  have := dropWhile_len_le (inG g) ((cl x).drop k.toNat)
  rw [List.length_drop, len_cl] at this
  omega
theorem skipF_le (x g : Str) (k : Int) : skipF x k g ≤ x.length := by
  unfold skipF
  omega

def Asc (x : Str) : Prop := ∀ c ∈ cl x, c < 128
theorem str_ext {x y : Str} (h : cl x = cl y) : x = y := by
  cases x; cases y
  simpa [cl] using h
theorem sliceIdx_ss_beyond (len : Nat) {i j : Int} (h : (len : Int) ≤ j) : Builtin.Str.strSliceIndices (some i) (some j) 1 len = Builtin.Str.strSliceIndices (some i) (some (len : Int)) 1 len := by
  have a1 : ¬ j < 0 := by omega
  have a2 : ¬ ((len : Int) < 0) := by omega
  have e1 : min j (len : Int) = len := by omega
  have e2 : min (len : Int) (len : Int) = len := by omega
  simp [Builtin.Str.strSliceIndices, a1, a2, e1, e2]
theorem cl_slice (x : Str) {i j : Int} (h0 : 0 ≤ i) (h1 : i ≤ j) (h2 : i ≤ x.length) : cl (Txt.slice x (some i) (some j)) = ((cl x).drop i.toNat).take (j - i).toNat := by
  by_cases hj : j ≤ x.length
  · have := eq_of_beq (slice_closesL (x := x) h0 h1 hj)
    rw [this]
  · have e : Txt.slice x (some i) (some j) = Txt.slice x (some i) (some (x.length : Int)) := by
      show StrLaws.sliceText x (some i) (some j) = StrLaws.sliceText x (some i) (some (x.length : Int))
      unfold StrLaws.sliceText
      rw [sliceIdx_ss_beyond x.length (by omega)]
    rw [e]
    have := eq_of_beq (slice_closesL (x := x) h0 h2 (Int.le_refl _))
    rw [this]
    show ((cl x).drop i.toNat).take _ = _
    rw [List.take_of_length_le, List.take_of_length_le]
    · rw [List.length_drop, len_cl]; omega
    · rw [List.length_drop, len_cl]; omega
theorem cl_slice_from (x : Str) {i : Int} (h0 : 0 ≤ i) (h2 : i ≤ x.length) : cl (Txt.slice x (some i) none) = (cl x).drop i.toNat := by
  rw [slice_from_eq h0 h2 rfl]
  show ((cl x).drop i.toNat).take _ = _
  rw [List.take_of_length_le]
  rw [List.length_drop, len_cl]; omega
theorem Asc.slice {x : Str} (hA : Asc x) {i j : Int} (h0 : 0 ≤ i) (h1 : i ≤ j) (h2 : i ≤ x.length) : Asc (Txt.slice x (some i) (some j)) := by
  intro c hc
  rw [cl_slice x h0 h1 h2] at hc
  exact hA c (List.mem_of_mem_drop (List.mem_of_mem_take hc))
theorem cl_lower {x : Str} (hA : Asc x) : cl (Txt.lower x) = (cl x).map lo1 := by
  rw [lower_ascii hA]
  simp [cl]
theorem beq_cl {x y : Str} (h : (x == y) = true) : cl x = cl y := by rw [eq_of_beq h]
theorem slash_in {x : Str} {r : Int} (h : (Txt.slice x (some r) (some (r + 1)) == Str.ofString "/") = true) (h0 : 0 ≤ r) (h1 : r ≤ x.length) : r + 1 ≤ x.length := by
  have e := congrArg List.length (beq_cl h)
  rw [cl_slice x h0 (by omega) h1] at e
  have : (cl (Str.ofString "/")).length = 1 := by decide +kernel
  rw [this, List.length_take, List.length_drop, len_cl] at e
  omega
theorem per_in {x : Str} {r : Int} (h : (Txt.lower (Txt.slice x (some r) (some (r + 3))) == Str.ofString "per") = true) (hA : Asc x) (h0 : 0 ≤ r) (h1 : r ≤ x.length) : r + 3 ≤ x.length := by
  have e := congrArg List.length (beq_cl h)
  rw [cl_lower (hA.slice h0 (by omega) h1), List.length_map, cl_slice x h0 (by omega) h1] at e
  have : (cl (Str.ofString "per")).length = 3 := by decide +kernel
  rw [this, List.length_take, List.length_drop, len_cl] at e
  omega

def linkEnd (x : Str) (r : Int) : Option Int :=
  if (Txt.slice x (some r) (some (r + 1)) == Str.ofString "/") = true then some (r + 1)
  else if (Txt.lower (Txt.slice x (some r) (some (r + 3))) == Str.ofString "per") = true then some (r + 3)
  else none
def readTail (x a : Str) (p3 : Int) : Option (Str × Str × Str × Int) :=
  let s2 := skipF x p3 (Str.ofString " \t\n\x0b\x0c\x0d\x1c\x1d\x1e\x1f")
  let p4 := skipF x s2 (Str.ofString "0123456789")
  let s3 := skipF x p4 (Str.ofString " \t\n\x0b\x0c\x0d\x1c\x1d\x1e\x1f")
  let p5 := skipF x s3 (Str.ofString "abcdefghijklmnopqrstuvwxyz")
  if p5 = s3 then none else some (a, Txt.slice x (some s2) (some p4), Txt.slice x (some s3) (some p5), skipF x p5 (Str.ofString " \t\n\x0b\x0c\x0d\x1c\x1d\x1e\x1f"))
def readF (x : Str) (k : Int) : Option (Str × Str × Str × Int) :=
  let s1 := skipF x k (Str.ofString " \t\n\x0b\x0c\x0d\x1c\x1d\x1e\x1f")
  let p1 := skipF x s1 (Str.ofString "0123456789")
  if p1 = s1 then none else
  match linkEnd x (skipF x p1 (Str.ofString " \t\n\x0b\x0c\x0d\x1c\x1d\x1e\x1f")) with
  | none => none
  | some p3 => readTail x (Txt.slice x (some s1) (some p1)) p3
theorem linkEnd1 {x : Str} {r : Int} (h : (Txt.slice x (some r) (some (r + 1)) == Str.ofString "/") = true) : linkEnd x r = some (r + 1) := by
  unfold linkEnd; rw [if_pos h]
theorem linkEnd2 {x : Str} {r : Int} (h : (Txt.slice x (some r) (some (r + 1)) == Str.ofString "/") = false) (h2 : (Txt.lower (Txt.slice x (some r) (some (r + 3))) == Str.ofString "per") = true) : linkEnd x r = some (r + 3) := by
  unfold linkEnd; rw [if_neg (by rw [h]; exact Bool.false_ne_true), if_pos h2]
theorem linkEnd3 {x : Str} {r : Int} (h : (Txt.slice x (some r) (some (r + 1)) == Str.ofString "/") = false) (h2 : (Txt.lower (Txt.slice x (some r) (some (r + 3))) == Str.ofString "per") = false) : linkEnd x r = none := by
  unfold linkEnd; rw [if_neg (by rw [h]; exact Bool.false_ne_true), if_neg (by rw [h2]; exact Bool.false_ne_true)]
section
variable {x : Str} {k r1 r2 r3 p3 r4 r5 r6 r7 r8 : Int}
theorem readF_a (e1 : skipF x k (Str.ofString " \t\n\x0b\x0c\x0d\x1c\x1d\x1e\x1f") = r1) (e2 : skipF x r1 (Str.ofString "0123456789") = r2) (h : r2 = r1) : readF x k = none := by
  unfold readF; simp only [e1, e2]; rw [if_pos h]
theorem readF_b (e1 : skipF x k (Str.ofString " \t\n\x0b\x0c\x0d\x1c\x1d\x1e\x1f") = r1) (e2 : skipF x r1 (Str.ofString "0123456789") = r2) (h : r2 ≠ r1) (e3 : skipF x r2 (Str.ofString " \t\n\x0b\x0c\x0d\x1c\x1d\x1e\x1f") = r3) (hl : linkEnd x r3 = none) : readF x k = none := by
  unfold readF; simp only [e1, e2, e3, hl]; rw [if_neg h]
theorem readF_c (e1 : skipF x k (Str.ofString " \t\n\x0b\x0c\x0d\x1c\x1d\x1e\x1f") = r1) (e2 : skipF x r1 (Str.ofString "0123456789") = r2) (h : r2 ≠ r1) (e3 : skipF x r2 (Str.ofString " \t\n\x0b\x0c\x0d\x1c\x1d\x1e\x1f") = r3) (hl : linkEnd x r3 = some p3)
    (e4 : skipF x p3 (Str.ofString " \t\n\x0b\x0c\x0d\x1c\x1d\x1e\x1f") = r4) (e5 : skipF x r4 (Str.ofString "0123456789") = r5) (e6 : skipF x r5 (Str.ofString " \t\n\x0b\x0c\x0d\x1c\x1d\x1e\x1f") = r6) (e7 : skipF x r6 (Str.ofString "abcdefghijklmnopqrstuvwxyz") = r7) (h7 : r7 = r6) : readF x k = none := by
  unfold readF; simp only [e1, e2, e3, hl]; rw [if_neg h]; unfold readTail; simp only [e4, e5, e6, e7]; rw [if_pos h7]
theorem readF_d (e1 : skipF x k (Str.ofString " \t\n\x0b\x0c\x0d\x1c\x1d\x1e\x1f") = r1) (e2 : skipF x r1 (Str.ofString "0123456789") = r2) (h : r2 ≠ r1) (e3 : skipF x r2 (Str.ofString " \t\n\x0b\x0c\x0d\x1c\x1d\x1e\x1f") = r3) (hl : linkEnd x r3 = some p3)
    (e4 : skipF x p3 (Str.ofString " \t\n\x0b\x0c\x0d\x1c\x1d\x1e\x1f") = r4) (e5 : skipF x r4 (Str.ofString "0123456789") = r5) (e6 : skipF x r5 (Str.ofString " \t\n\x0b\x0c\x0d\x1c\x1d\x1e\x1f") = r6) (e7 : skipF x r6 (Str.ofString "abcdefghijklmnopqrstuvwxyz") = r7) (h7 : r7 ≠ r6)
    (e8 : skipF x r7 (Str.ofString " \t\n\x0b\x0c\x0d\x1c\x1d\x1e\x1f") = r8) : readF x k = some (Txt.slice x (some r1) (some r2), Txt.slice x (some r4) (some r5), Txt.slice x (some r6) (some r7), r8) := by
  unfold readF; simp only [e1, e2, e3, hl]; rw [if_neg h]; unfold readTail; simp only [e4, e5, e6, e7, e8]; rw [if_neg h7]
end
abbrev tupObj (vs : List Value) : Obj := { cls := .type "tuple", data := .seq vs.toArray }

theorem no_colon {x : Str} {i : Int} (h : (Txt.item x i == Str.ofString ":") = true) (h0 : 0 ≤ i) (h1 : i < x.length) : 58 ∈ cl x := by
  obtain ⟨c, e1, e2, _⟩ := item_eq x i h0 h1
  have e := beq_cl h
  rw [e2, show cl (Str.ofString ":") = [58] by decide +kernel] at e
  have : c = 58 := by simpa [cl] using e
  subst this
  exact List.mem_of_getElem? e1
abbrev Rw := Str × Str × Str × Int
def sepAt (x : Str) (i : Int) : Bool := [Str.ofString ",", Str.ofString ";", Str.ofString "|"].any (· == Txt.slice x (some i) (some (i + 1)))
def restF (x : Str) : Nat → Rw → Option (List Rw)
  | 0, _ => none
  | n + 1, r => if r.2.2.2 = x.length then some [r] else
      if sepAt x r.2.2.2 = true then (match readF x (r.2.2.2 + 1) with | none => none | some q => (restF x n q).map (r :: ·)) else none
def readsF (x : Str) : Option (List Rw) := match readF x 0 with | none => none | some q => restF x (x.length + 1) q
abbrev rowObj (r : Rw) (t1 t2 t3 t4 : Tok) : Obj := tupObj [.str r.1 t1, .str r.2.1 t2, .str r.2.2.1 t3, .int r.2.2.2 t4]
/-- a value of the ledger that is a row -/
def Row (tl : List (Addr × Obj)) (v : Value) (r : Rw) : Prop := ∃ d t1 t2 t3 t4, v = .ref d ∧ (d, rowObj r t1 t2 t3 t4) ∈ tl
theorem Row.mono {tl tl' : List (Addr × Obj)} {v : Value} {r : Rw} (h : Row tl v r) (hs : ∀ p ∈ tl, p ∈ tl') : Row tl' v r := let ⟨d, a, b, c, e, h1, h2⟩ := h; ⟨d, a, b, c, e, h1, hs _ h2⟩
inductive RowsIn (tl : List (Addr × Obj)) : List Value → List Rw → Prop
  | nil : RowsIn tl [] []
  | cons {v : Value} {vs : List Value} {r : Rw} {rs : List Rw} : Row tl v r → RowsIn tl vs rs → RowsIn tl (v :: vs) (r :: rs)
theorem RowsIn.mono {tl tl' : List (Addr × Obj)} {vs : List Value} {rs : List Rw} (h : RowsIn tl vs rs) (hs : ∀ p ∈ tl, p ∈ tl') : RowsIn tl' vs rs := by
  induction h with
  | nil => exact .nil
  | cons h _ ih => exact .cons (h.mono hs) ih
theorem RowsIn.snoc {tl : List (Addr × Obj)} {vs : List Value} {rs : List Rw} {v : Value} {r : Rw} (h : RowsIn tl vs rs) (h1 : Row tl v r) : RowsIn tl (vs ++ [v]) (rs ++ [r]) := by
  induction h with
  | nil => exact .cons h1 .nil
  | cons h _ ih => exact .cons h ih
theorem RowsIn.length {tl : List (Addr × Obj)} {vs : List Value} {rs : List Rw} (h : RowsIn tl vs rs) : vs.length = rs.length := by
  induction h with
  | nil => rfl
  | cons _ _ ih => simp [ih]
theorem restF_end {x : Str} {n : Nat} {r : Rw} (h : r.2.2.2 = x.length) : restF x (n + 1) r = some [r] := by
  unfold restF; rw [if_pos h]
theorem restF_stop {x : Str} {n : Nat} {r : Rw} (h : r.2.2.2 ≠ x.length) (hs : sepAt x r.2.2.2 = false) : restF x (n + 1) r = none := by
  unfold restF; rw [if_neg h, if_neg (by rw [hs]; exact Bool.false_ne_true)]
theorem restF_none {x : Str} {n : Nat} {r : Rw} (h : r.2.2.2 ≠ x.length) (hs : sepAt x r.2.2.2 = true) (hr : readF x (r.2.2.2 + 1) = none) : restF x (n + 1) r = none := by
  unfold restF; rw [if_neg h, if_pos hs, hr]
theorem restF_some {x : Str} {n : Nat} {r q : Rw} (h : r.2.2.2 ≠ x.length) (hs : sepAt x r.2.2.2 = true) (hr : readF x (r.2.2.2 + 1) = some q) : restF x (n + 1) r = (restF x n q).map (r :: ·) := by
  rw [restF, if_neg h, if_pos hs, hr]
/-- the loop of read_limits: what holds between its turns -/
def RlJ (x : Str) (tx : Tok) (news : List (Addr × Obj)) (n : Nat) (m : Str → Option Value) (nx : List (Addr × Obj)) : Prop :=
  ∃ rows, m (Str.ofString "text") = some (.str x tx) ∧ m (Str.ofString "rows") = some (.ref rows) ∧ (∀ p ∈ news, p.1 < rows) ∧
  ((∃ vs ne tl, nx = (rows, listOf vs ne) :: (tl ++ news) ∧ m (Str.ofString "found") = some .none ∧ readsF x = none) ∨
   (∃ vs ne tl done d a b c i t1 t2 t3 t4, nx = (d, tupObj [.str a t1, .str b t2, .str c t3, .int i t4]) :: (rows, listOf (List.toArray vs) ne) :: (tl ++ news) ∧ rows < d ∧ (∀ p ∈ tl ++ news, p.1 ≠ rows) ∧ m (Str.ofString "found") = some (.ref d) ∧ RowsIn tl vs done ∧
      0 ≤ i ∧ i ≤ x.length ∧ (x.length : Int) < n + i ∧ (done.length : Int) ≤ i ∧ readsF x = (restF x n (a, b, c, i)).map (done ++ ·)))
theorem rlj_start {x a b c : Str} {i : Int} {tx t1 t2 t3 t4 : Tok} {news : List (Addr × Obj)} {m : Str → Option Value} {rows d : Addr} (h1 : m (Str.ofString "text") = some (.str x tx)) (h2 : m (Str.ofString "rows") = some (.ref rows)) (h3 : m (Str.ofString "found") = some (.ref d))
    (hr : readF x 0 = some (a, b, c, i)) (l : 0 ≤ i) (u : i ≤ x.length) (o1 : ∀ p ∈ news, p.1 < rows) (o2 : rows < d) :
    RlJ x tx news (x.length + 1) m ((d, tupObj [.str a t1, .str b t2, .str c t3, .int i t4]) :: (rows, listOf #[] 0) :: news) :=
  ⟨rows, h1, h2, o1, .inr ⟨[], 0, [], [], d, a, b, c, i, t1, t2, t3, t4, rfl, o2, fun p hp => Nat.ne_of_lt (o1 p hp), h3, .nil, l, u, by omega, l, by unfold readsF; rw [hr]; simp⟩⟩
/-- a goal that the walk leaves alone -/
def Hold (P : Prop) : Prop := P
theorem unhold {P : Prop} (h : Hold P) : P := h
/-- a while's turn, its end -/
def WPost (h₀ : Heap) (L : Addr) (s : Shared) (J : Nat → (Str → Option Value) → List (Addr × Obj) → Prop) (Q : Flow → Shared → Prop) (n : Nat) (f : Flow) (s₃ : Shared) : Prop := WhileStep2 h₀ L s J Q n f s₃
theorem WPost.ret {h₀ : Heap} {L : Addr} {s : Shared} {J : Nat → (Str → Option Value) → List (Addr × Obj) → Prop} {Q : Flow → Shared → Prop} {n : Nat} {v : Value} {s₃ : Shared} (h : Q (.ret v) s₃) : WPost h₀ L s J Q n (.ret v) s₃ := h
theorem WPost.next {h₀ : Heap} {L : Addr} {s : Shared} {J : Nat → (Str → Option Value) → List (Addr × Obj) → Prop} {Q : Flow → Shared → Prop} {n : Nat} {h' : Heap} {tk : Nat} {m₂ : Str → Option Value} {news₂ : List (Addr × Obj)} (n' : Nat) (F : Fr h₀ L h' m₂) (N : News h₀ L h' news₂) (hn : n' < n) (hj : J n' m₂ news₂) :
    WPost h₀ L s J Q n .next { s with heap := h', toks := tk } := ⟨h', tk, m₂, news₂, n', rfl, F, N, hn, hj⟩
theorem gw_while {prog : Program} {w : World} {A : Around} {E : Value → Shared → Prop} {Q : Flow → Shared → Prop} {s : Shared} {env : Env} {h₀ : Heap} {L : Addr} {test : Expr} {body : List Stmt} {pos : Pos} {m : Str → Option Value} {news : List (Addr × Obj)} (J : Nat → (Str → Option Value) → List (Addr × Obj) → Prop) (n₀ : Nat)
    (F : Fr h₀ L s.heap m) (N : News h₀ L s.heap news) (hJ : Hold (J n₀ m news))
    (turn : Hold (∀ n m₁ news₁ h₁ tk₁, Fr h₀ L h₁ m₁ → News h₀ L h₁ news₁ → J n m₁ news₁ →
      wpAny (model prog w) A (isTrue test env (eval test env)) (fun b s₂ =>
        if b = true then wpAny (model prog w) A (execs body env) (WPost h₀ L s J Q n) E s₂ else Q .next s₂) E { s with heap := h₁, toks := tk₁ }))
    (hE : PassesOwn (model prog w) A env E := by passes_own) :
    wpAny (model prog w) A (exec (.While test body [] pos) env) Q E s := While_inv2 J F N hJ turn hE
section
variable {g h : Heap} {L rows d d9 l9 : Addr} {o o9 ol : Obj} {vs : List Value} {ne : Nat} {tl news : List (Addr × Obj)}
theorem rl_newsA (N : News g L h ((rows, ol) :: (tl ++ news))) : News g L h news := fun p hp => N p (.tail _ (List.mem_append_right _ hp))
theorem rl_newsB (N : News g L h ((d, o) :: (rows, listOf (vs.toArray.push (.ref d)) (ne + 1)) :: (tl ++ news))) : News g L h ((rows, listOf (List.toArray (vs ++ [.ref d])) (ne + 1)) :: (((d, o) :: tl) ++ news)) := by
  rw [List.push_toArray] at N
  intro p hp
  refine N p ?_
  simp only [List.mem_cons, List.mem_append, List.cons_append] at hp ⊢
  rcases hp with h | h | h | h <;> simp [h]
theorem rl_newsC (N : News g L h ((l9, o9) :: (d, o) :: (rows, listOf (vs.toArray.push (.ref d)) (ne + 1)) :: (tl ++ news))) : News g L h ((rows, listOf (List.toArray (vs ++ [.ref d])) (ne + 1)) :: (((d, o) :: tl) ++ news)) :=
  rl_newsB fun p hp => N p (.tail _ hp)
theorem rl_newsD (N : News g L h ((d9, o9) :: (l9, ol) :: (d, o) :: (rows, listOf (vs.toArray.push (.ref d)) (ne + 1)) :: (tl ++ news))) : News g L h ((d9, o9) :: (rows, listOf (List.toArray (vs ++ [.ref d])) (ne + 1)) :: (((d, o) :: tl) ++ news)) := by
  intro p hp
  rcases List.mem_cons.mp hp with rfl | hp
  · exact N _ (.head _)
  · exact rl_newsC (l9 := l9) (o9 := ol) (fun p hp => N p (.tail _ hp)) p hp
end
section
variable {x a b c a' b' c' : Str} {i i' : Int} {tx t1 t2 t3 t4 u1 u2 u3 u4 : Tok} {n ne : Nat} {rows d d' : Addr} {vs : List Value} {tl news : List (Addr × Obj)} {done : List Rw} {m : Str → Option Value}
theorem rl_sz (l1 : i ≤ x.length) (l2 : (x.length : Int) < n + i) : n - 1 < n := by omega
theorem rl_some (l1 : i ≤ x.length) (l2 : (x.length : Int) < n + i) (hi : i = x.length) (hq : readsF x = (restF x n (a, b, c, i)).map (done ++ ·)) : readsF x = some (done ++ [(a, b, c, i)]) := by
  obtain ⟨n', rfl⟩ : ∃ n', n = n' + 1 := ⟨n - 1, by omega⟩
  rw [hq, restF_end (r := (a, b, c, i)) hi]; rfl
theorem rl_rows (hr : RowsIn tl vs done) : RowsIn ((d, tupObj [.str a t1, .str b t2, .str c t3, .int i t4]) :: tl) (vs ++ [.ref d]) (done ++ [(a, b, c, i)]) :=
  (hr.mono fun _ h => .tail _ h).snoc ⟨d, t1, t2, t3, t4, rfl, .head _⟩
theorem rl_stop (l1 : i ≤ x.length) (l2 : (x.length : Int) < n + i) (hi : i ≠ x.length) (hs : sepAt x i = false) (hq : readsF x = (restF x n (a, b, c, i)).map (done ++ ·)) : readsF x = none := by
  obtain ⟨n', rfl⟩ : ∃ n', n = n' + 1 := ⟨n - 1, by omega⟩
  rw [hq, restF_stop (r := (a, b, c, i)) hi hs]; rfl
theorem rl_next0 (l1 : i ≤ x.length) (l2 : (x.length : Int) < n + i) (hi : i ≠ x.length) (hs : sepAt x i = true) (hq : readsF x = (restF x n (a, b, c, i)).map (done ++ ·)) (he : readF x (i + 1) = none)
    (h1 : m (Str.ofString "text") = some (.str x tx)) (h2 : m (Str.ofString "rows") = some (.ref rows)) (h3 : m (Str.ofString "found") = some .none) (o1 : ∀ p ∈ news, p.1 < rows) :
    RlJ x tx news (n - 1) m ((rows, listOf (List.toArray (vs ++ [.ref d])) (ne + 1)) :: (((d, tupObj [.str a t1, .str b t2, .str c t3, .int i t4]) :: tl) ++ news)) := by
  obtain ⟨n', rfl⟩ : ∃ n', n = n' + 1 := ⟨n - 1, by omega⟩
  exact ⟨rows, h1, h2, o1, .inl ⟨_, _, _, rfl, h3, by rw [hq, restF_none (r := (a, b, c, i)) hi hs he]; rfl⟩⟩
theorem rl_next1 (l0 : 0 ≤ i) (l1 : i ≤ x.length) (l2 : (x.length : Int) < n + i) (l3 : (done.length : Int) ≤ i) (hi : i ≠ x.length) (hs : sepAt x i = true) (hq : readsF x = (restF x n (a, b, c, i)).map (done ++ ·)) (he : readF x (i + 1) = some (a', b', c', i')) (hl : i + 1 ≤ i') (hu : i' ≤ x.length)
    (h1 : m (Str.ofString "text") = some (.str x tx)) (h2 : m (Str.ofString "rows") = some (.ref rows)) (h3 : m (Str.ofString "found") = some (.ref d')) (o1 : ∀ p ∈ news, p.1 < rows) (o2 : ∀ p ∈ tl ++ news, p.1 ≠ rows) (o3 : @LT.lt Nat _ rows d) (o4 : @LT.lt Nat _ rows d') (hr : RowsIn tl vs done) :
    RlJ x tx news (n - 1) m ((d', tupObj [.str a' u1, .str b' u2, .str c' u3, .int i' u4]) :: (rows, listOf (List.toArray (vs ++ [.ref d])) (ne + 1)) :: (((d, tupObj [.str a t1, .str b t2, .str c t3, .int i t4]) :: tl) ++ news)) := by
  obtain ⟨n', rfl⟩ : ∃ n', n = n' + 1 := ⟨n - 1, by omega⟩
  refine ⟨rows, h1, h2, o1, .inr ⟨_, _, _, done ++ [(a, b, c, i)], d', a', b', c', i', u1, u2, u3, u4, rfl, o4, ?_, h3, rl_rows hr, by omega, hu, by simp at *; omega, by simp; omega, ?_⟩⟩
  · intro p hp
    rcases List.mem_cons.mp hp with rfl | hp
    · exact Nat.ne_of_gt o3
    · exact o2 p hp
  · rw [hq, restF_some (r := (a, b, c, i)) hi hs he, Option.map_map]
    simp only [Nat.add_sub_cancel]
    congr 1
    funext y
    simp
end
theorem fr_known {h₀ h : Heap} {L : Addr} {m : Str → Option Value} (ps : List (Str × Value)) (F : Fr h₀ L h m) (hp : ∀ p ∈ ps, m p.1 = some p.2) : Fr h₀ L h (kstB m ps) := by
  have e : kstB m ps = m := funext fun y => kstB_eq hp fun _ => rfl
  rw [e]; exact F
open PySem.Calls in
/-- a contract: the call of the def at f with vs, at most n calls deep; R says what the caller gets -/
abbrev Ctr (prog : Program) (w : World) (K : Frag) (p : Program) (loose : List Str) (mean : ExcName → Option Value) (mg mb : Str → Option Value) (f : Addr) (n : Nat) (news : List (Addr × Obj)) (vs : List Value) (pre : Prop)
    (R : Heap → Addr → (Str → Option Value) → Shared → (Value → Shared → Prop) → (Value → Shared → Prop) → Prop) : Prop :=
  ∀ (dp un : Nat) (gd : Option (List Code)) (cn : Str) (cs : Scope) (a : Addr) (ccd : Value) (cl : List (Str × Addr)) (outer : List Env) (A₀ : Around) (base h₀ : Heap) (L : Addr) (m : Str → Option Value) (s : Shared) (Q E : Value → Shared → Prop),
    Below A₀ base outer h₀ → Fr h₀ L s.heap m → K.In h₀ → News h₀ L s.heap news → Top p loose mean mg mb h₀ → cs.kind = .function →
    pre → dp + n < recursionLimit → un + 8 * n < cLine → R h₀ L m s Q E →
      wpAny (model prog w) (ktrTop dp un gd cn cs L a ccd cl outer) (call (.ref f) vs) Q E s
end Jb
end
section
open PySem PySem.W PyProof.Rows
namespace Jb
theorem fill0 : PySem.Challenge.rw_jb0020_01.foot = 8 ∧ Jb.a.heap_1_1 = Jb.a.heap_1_1 := by
  k_fill
  exact ⟨rfl, rfl⟩
set_option maxRecDepth 100000 in
set_option maxHeartbeats 8000000 in
theorem skip_claim {prog : Program} {w : World} {p loose mean mg mb} {news} (x : Str) (tx : Tok) (k : Int) (tk : Tok) (g : Str) (tg) :
  Ctr prog w (Jb.a.heap_1_1 w.params) p loose mean mg mb 313 1 news [.str x tx, .int k tk, .str g tg] (0 ≤ k ∧ k ≤ x.length ∧ x.length ≤ 1000000) (fun h₀ L m s Q E => ∀ (r : Int) (t : Tok) (h' : Heap) (tk' : Nat), k ≤ r → r ≤ x.length → skipF x k g = r → Fr h₀ L h' m → News h₀ L h' news → Q (.int r t) { s with heap := h', toks := tk' }) := by
  dsimp only [Ctr]; intros; rename_i hpre _ _ hret
  refine wpAny_call ?_
  k_dflt ktr_enter
  k_with_none
  k_with "exec While" => k_while (fun _ i => k ≤ i ∧ i ≤ x.length ∧ skipF x k g = skipF x i g) (fun _ i => (x.length - i).toNat) "place"
  k_with "state" => (refine ⟨by omega, by omega, ?_⟩; rw [← skipF_go _ _ _ (by omega) (by omega) (by assumption)]; assumption)
  w_top off
  k_steps
  all_goals (refine hret _ _ _ _ (by omega) (by omega) (Eq.symm ?_) (by assumption) (by assumption))
  · exact skip_end1 hpre.1 (by assumption) (by assumption) (by assumption) (by assumption)
  · exact skip_end2 (by assumption) (by assumption) (by assumption)
end Jb
end
section
open PySem PySem.W PyProof.Rows
namespace Jb
local macro_rules | `(tactic| walk_at "call ref") => `(tactic| (k_here; (with_reducible show wpAny _ _ (call (Value.ref 313) [Value.str _ _, Value.int _ _, Value.str _ _]) _ _ _); (refine' skip_claim _ _ _ _ _ _ _ _ _ _ _ _ _ _ _ _ _ _ _ _ _ _ _ ?k1 ?k2 ?k3 ?k4 ?k5 ?k6 ?k7 ?k8 ?k9 ?_; (case k1 => k_asm); (case k2 => k_asm); (case k3 => k_asm); (case k4 => k_asm); (case k5 => k_asm); (case k6 => (first | exact rfl | assumption)); (case k7 => (first | omega | (have qq := slash_in (by assumption) (by omega) (by omega); omega) | (have qq := per_in (by assumption) (by assumption) (by omega) (by omega); omega))); (case k8 => ktr_room); (case k9 => ktr_units)); intro r9 t9 h9 tk9 l9 u9 e9 F9 N9; (try dsimp only); (try k_fold)))
set_option maxRecDepth 100000 in
set_option maxHeartbeats 8000000 in
theorem read_limit_claim {prog : Program} {w : World} {p loose mean mg mb} {news} (x : Str) (tx : Tok) (k : Int) (tk : Tok) :
  Ctr prog w (Jb.a.heap_1_1 w.params) p loose mean mg mb 320 2 news [.str x tx, .int k tk] (0 ≤ k ∧ k ≤ x.length ∧ x.length ≤ 1000000 ∧ Asc x) (fun h₀ L m s Q E =>
    (readF x k = none → ∀ h' tk', Fr h₀ L h' m → News h₀ L h' news → Q .none { s with heap := h', toks := tk' }) ∧
    (∀ a b c i, readF x k = some (a, b, c, i) → k ≤ i → i ≤ x.length → ∀ d t1 t2 t3 t4 h' tk', Fr h₀ L h' m → News h₀ L h' ((d, tupObj [.str a t1, .str b t2, .str c t3, .int i t4]) :: news) → (∀ p ∈ news, p.1 < d) → Q (.ref d) { s with heap := h', toks := tk' })) := by
  dsimp only [Ctr]; intros; rename_i hpre _ _ hret; have hA := hpre.2.2.2
  refine wpAny_call ?_
  k_dflt ktr_enter
  k_with_none
  w_top off
  k_steps
  · exact hret.1 (readF_a (by with_reducible assumption) (by with_reducible assumption) (by with_reducible assumption)) _ _ (by with_reducible assumption) (by with_reducible assumption)
  · exact hret.1 (readF_c (by with_reducible assumption) (by with_reducible assumption) (by with_reducible assumption) (by with_reducible assumption) (linkEnd1 (by with_reducible assumption)) (by with_reducible assumption) (by with_reducible assumption) (by with_reducible assumption) (by with_reducible assumption) (by with_reducible assumption)) _ _ (by with_reducible assumption) (by with_reducible assumption)
  · exact hret.2 _ _ _ _ (readF_d (by with_reducible assumption) (by with_reducible assumption) (by with_reducible assumption) (by with_reducible assumption) (linkEnd1 (by with_reducible assumption)) (by with_reducible assumption) (by with_reducible assumption) (by with_reducible assumption) (by with_reducible assumption) (by with_reducible assumption) (by with_reducible assumption)) (by omega) (by omega) _ _ _ _ _ _ _ (by with_reducible assumption) (by with_reducible assumption) (by with_reducible assumption)
  · exact hret.1 (readF_c (by with_reducible assumption) (by with_reducible assumption) (by with_reducible assumption) (by with_reducible assumption) (linkEnd2 (by with_reducible assumption) (by with_reducible assumption)) (by with_reducible assumption) (by with_reducible assumption) (by with_reducible assumption) (by with_reducible assumption) (by with_reducible assumption)) _ _ (by with_reducible assumption) (by with_reducible assumption)
  · exact hret.2 _ _ _ _ (readF_d (by with_reducible assumption) (by with_reducible assumption) (by with_reducible assumption) (by with_reducible assumption) (linkEnd2 (by with_reducible assumption) (by with_reducible assumption)) (by with_reducible assumption) (by with_reducible assumption) (by with_reducible assumption) (by with_reducible assumption) (by with_reducible assumption) (by with_reducible assumption)) (by omega) (by omega) _ _ _ _ _ _ _ (by with_reducible assumption) (by with_reducible assumption) (by with_reducible assumption)
  · exact hret.1 (readF_b (by with_reducible assumption) (by with_reducible assumption) (by with_reducible assumption) (by with_reducible assumption) (linkEnd3 (by with_reducible assumption) (by with_reducible assumption))) _ _ (by with_reducible assumption) (by with_reducible assumption)
end Jb
end
section
open PySem PySem.W PyProof.Rows
namespace Jb
local macro_rules | `(tactic| walk_at "call ref") => `(tactic| (k_here; (with_reducible show wpAny _ _ (call (Value.ref 320) [Value.str _ _, Value.int _ _]) _ _ _); (refine' read_limit_claim _ _ _ _ _ _ _ _ _ _ _ _ _ _ _ _ _ _ _ _ _ ?k1 ?k2 ?k3 ?k4 ?k5 ?k6 ?k7 ?k8 ?k9 ?_; (case k1 => k_asm); (case k2 => k_asm); (case k3 => k_asm); (case k4 => k_asm); (case k5 => k_asm); (case k6 => (first | exact rfl | assumption)); (case k7 => (first | exact ⟨by omega, by omega, by omega, by assumption⟩)); (case k8 => ktr_room); (case k9 => ktr_units)); refine And.intro ?_ ?_; (intro e9 h9 tk9 F9 N9; (try dsimp only); (try k_fold)); rotate_left; (intro a9 b9 c9 i9 e9 l9 u9 d9 t91 t92 t93 t94 h9 tk9 F9 N9 o9; (try k_lt o9); (try dsimp only); (try k_fold)); rotate_left))
local macro_rules | `(tactic| walk_at "exec While") => `(tactic| ((rename Fr _ _ _ _ => lF'); (rename News _ _ _ _ => lN'); k_extra "W"))
local macro_rules | `(tactic| k_all) => `(tactic| with_reducible assumption)
local macro_rules | `(tactic| size_fits) => `(tactic| with_reducible assumption)
local macro_rules | `(tactic| walk_at "WPost ret") => `(tactic| (refine WPost.ret ?_; dsimp only))
local macro_rules | `(tactic| walk_at "exec AugAssign") => `(tactic| exact absurd (no_colon (by with_reducible assumption) (by omega) (by omega)) (by with_reducible assumption))
set_option maxRecDepth 100000 in
set_option maxHeartbeats 8000000 in
theorem read_limits_claim {prog : Program} {w : World} {p loose mean mg mb} {news} (x : Str) (tx : Tok) :
  Ctr prog w (Jb.a.heap_1_1 w.params) p loose mean mg mb 327 3 news [.str x tx] (x.length ≤ 1000000 ∧ Asc x ∧ 58 ∉ cl x) (fun h₀ L m s Q E =>
    (readsF x = none → ∀ h' tk', Fr h₀ L h' m → News h₀ L h' news → Q .none { s with heap := h', toks := tk' }) ∧
    (∀ rs, readsF x = some rs → (rs.length : Int) ≤ x.length + 1 → ∀ rows vs ne tl h' tk', Fr h₀ L h' m → News h₀ L h' ((rows, listOf (List.toArray vs) ne) :: (tl ++ news)) → RowsIn tl vs rs → (∀ p ∈ news, p.1 < rows) → Q (.ref rows) { s with heap := h', toks := tk' })) := by
  dsimp only [Ctr]; intros; rename_i hpre _ _ hret; have hA := hpre.2.1; have hcol := hpre.2.2
  refine wpAny_call ?_
  k_dflt ktr_enter
  k_with_none
  k_with "W" => (with_unfolding_all refine' gw_while (RlJ x tx news) (x.length + 1) (by assumption) (by assumption) ?kj ?_)
  w_top off
  k_steps
  · exact hret.1 (by unfold readsF; rw [(by with_reducible assumption : readF x 0 = none)]) _ _ (by with_reducible assumption) (cb_drop (by with_reducible assumption) (by k_sub))
  · unfold Hold
    exact rlj_start rfl rfl rfl (by with_reducible assumption) (by omega) (by omega) (by first | with_reducible assumption | exact ktn_ltOf (by with_reducible assumption)) (ltN (by omega))
  · unfold Hold
    rintro n m₁ nx h₁ tk₁ F₁ N₁ ⟨rows, h1, h2, h3, hc⟩
    rcases hc with ⟨vs, ne, tl, rfl, hf, hn⟩ | ⟨vs, ne, tl, done, d, a, b, c, i, t1, t2, t3, t4, rfl, o1, o2, hf, hr, l0, l1, l2, l3, hq⟩
    · have F₂ := fr_known [(Str.ofString "text", .str x tx), (Str.ofString "rows", .ref rows), (Str.ofString "found", .none)] F₁ (by simp [h1, h2, hf])
      clear F₁
      k_steps
      exact hret.1 hn _ _ (by with_reducible assumption) (rl_newsA (by with_reducible assumption))
    · have F₂ := fr_known [(Str.ofString "text", .str x tx), (Str.ofString "rows", .ref rows), (Str.ofString "found", .ref d)] F₁ (by simp [h1, h2, hf])
      clear F₁
      replace o1 := ltN o1
      have hsz : vs.toArray.size ≤ sizeLine := by rw [List.size_toArray, sizeLine_eq, hr.length]; omega
      k_steps
      · exact hret.2 _ (rl_some l1 l2 (by with_reducible assumption) hq) (by simp; omega) _ _ _ _ _ _ (by with_reducible assumption) (rl_newsB (by with_reducible assumption)) (rl_rows hr) h3
      · exact WPost.next (n - 1) (by with_reducible assumption) (rl_newsC (by with_reducible assumption)) (rl_sz l1 l2) (rl_next0 l1 l2 (by with_reducible assumption) (by unfold sepAt; with_reducible assumption) hq (by with_reducible assumption) rfl rfl rfl h3)
      · exact WPost.next (n - 1) (by with_reducible assumption) (rl_newsD (by with_reducible assumption)) (rl_sz l1 l2) (rl_next1 l0 l1 l2 l3 (by with_reducible assumption) (by unfold sepAt; with_reducible assumption) hq (by with_reducible assumption) (by with_reducible assumption) (by with_reducible assumption) rfl rfl rfl h3 o2 o1 (by omega) hr)
      · exact hret.1 (rl_stop l1 l2 (by with_reducible assumption) (by unfold sepAt; with_reducible assumption) hq) _ _ (by with_reducible assumption) (rl_newsA (tl := ((d, tupObj [.str a t1, .str b t2, .str c t3, .int i t4]) :: tl)) (rl_newsC (by with_reducible assumption)))
end Jb
end
section
open PySem PySem.W PyProof.Rows PySem.Calls
namespace Jb
section
variable {prog : Program} {w : World} {M : Model} {A : Around} {E : Value → Shared → Prop} {Q : Value → Shared → Prop} {s : Shared} {K : Frag} {x dx C : Addr} {ox od : Obj} {h : Heap}
theorem inst_K (X : K.In h) (h1 : K.lookup x = some ox) (h2 : ox.cls = .ref C) (h3 : notCls ox = true) (h4 : ox.dict = some dx) (h5 : K.lookup dx = some od) : InstAt h x ox C (some od) :=
  ⟨X _ _ h1, h2, h3, by rw [h4]; exact X _ _ h5⟩
set_option maxRecDepth 100000 in
set_option maxHeartbeats 4000000 in
theorem issub_nested {Q : Fin → Shared → Prop} {cc : Value} {dd : Option Addr} {cd : ClassData} {sl : Array (Option Value)} (X : K.In s.heap) (hc : K.lookup C = some ⟨cc, dd, .cls cd, sl⟩) (hm : mroIn K C (.type "tuple") = some true) (hq : Q (.done (.ret (.bool true))) s) :
    wpAny (model prog w) A (Builtin.«issubclass.nested» ⟨[.ref C, .type "tuple", rawInt 0], []⟩) Q E s := by
  obtain ⟨hh, g, d, t, os⟩ := s
  have L1 := looks_mroIn (M := model prog w) X hm
  have L0 : hh.get? C = some _ := X _ _ hc
  unfold Builtin.«issubclass.nested»
  repeat lk
  exact hq
theorem issub_K {cc : Value} {dd : Option Addr} {cd : ClassData} {sl : Array (Option Value)} (X : K.In s.heap) (hc : K.lookup C = some ⟨cc, dd, .cls cd, sl⟩) (hm : mroIn K C (.type "tuple") = some true) (hq : Q (.bool true) s) : wpAny (model prog w) A (call (.builtin "issubclass") [.ref C, .type "tuple"]) Q E s := by
  refine call_issubclass (S := fun A R s' => s' = s ∧ K.In s.heap ∧ R (.ok (.ret (.bool true))) s) ?_ ⟨rfl, X, hq⟩
  rintro prog' w' A' R s' ⟨rfl, X, hs⟩
  exact issubclass_outer (issub_nested X hc hm hs)
theorem meta_tuple : typeOf (.type "tuple") = pure (.type "type") := by first | rfl | kernel_rfl
set_option maxRecDepth 100000 in
set_option maxHeartbeats 4000000 in
theorem tgi_K {i : Int} {u : Tok} {k : Nat} {y : Value} {items : Array Value} {n : Nat} {xd : Option Addr} {xs : Array (Option Value)} (X : K.In s.heap) (hx : K.lookup x = some ⟨.ref C, xd, .seq items n, xs⟩) (hm : mroIn K C (.type "tuple") = some true)
    (hlo : -2 ^ 63 ≤ i) (hhi : i < 2 ^ 63) (hk : seqIndex? i items.size = some k) (hy : items[k]? = some y) (hq : Q y s) : wpAny (model prog w) A (call (.builtin "tuple.__getitem__") [.ref x, .int i u]) Q E s := by
  have hxg : s.heap.get? x = some _ := X _ _ hx
  have LI : Looks (model prog w) s.heap (isInstance (.ref x) (.type "tuple")) true := ((Looks.ld hxg).andThen .now : Looks (model prog w) s.heap (typeOf (.ref x)) (.ref C)).andThen (looks_mroIn X hm)
  refine wpAny_call (codeAny_call_builtin PyProof.Rows.slot_tuple_getitem.plain PyProof.Rows.entry_tuple_getitem (check_slot (i := "tuple.__getitem__") (owner := "tuple") (n := "__getitem__") (by decide +kernel) (by decide +kernel) LI (PyProof.Rows.args_tuple_getitem _ _) ?_))
  obtain ⟨hh, g, d, t, os⟩ := s
  have f1 := AutoSeq1.idx_int
  have hf : ¬ (decide (i < -2 ^ 63) || decide (i ≥ 2 ^ 63)) = true := by simp; omega
  unfold Builtin.«tuple.__getitem__»
  repeat lk
  rw [if_neg hf]
  simp only [hk, hy, Option.bind_some]
  exact wpAny_pure hq
end
local macro_rules | `(tactic| k_room) => `(tactic| ktr_room)
local macro_rules | `(tactic| k_units) => `(tactic| ktr_units)
local macro_rules | `(tactic| walk_at "call builtin:issubclass") => `(tactic| (k_here; (with_reducible show wpAny _ _ (call (Value.builtin "issubclass") [Value.ref _, Value.type "tuple"]) _ _ _); k_dflt (refine' issub_K ?k1 ?k2 ?k3 ?_; (case k1 => k_in); (case k2 => k_is); (case k3 => k_is); k_whole)))
local macro_rules | `(tactic| walk_at "getMethod type:tuple") => `(tactic| (k_here; refine' method_type ?F ?X ?m (by decide +kernel) ?e ?h ?_; (case F => k_asm); (case X => k_asm); (case m => exact meta_tuple); (case e => k_dflt k_is); (case h => k_handed)))
local macro_rules | `(tactic| walk_at "call builtin:tuple.__getitem__") => `(tactic| (k_here; k_dflt (refine' tgi_K ?k1 ?k2 ?k3 ?k4 ?k5 ?k6 ?k7 ?_; (case k1 => k_in); (case k2 => with_reducible assumption); (case k3 => k_is); (case k4 => decide); (case k5 => decide); (case k6 => rfl); (case k7 => rfl); k_whole)))
local macro_rules | `(tactic| k_inst) => `(tactic| (refine' inst_K ?X ?h1 ?h2 ?h3 ?h4 ?h5; (case X => k_in); (case h1 => with_reducible assumption); (case h2 => rfl); (case h3 => rfl); (case h4 => rfl); (case h5 => with_reducible assumption)))
set_option maxRecDepth 100000 in
set_option maxHeartbeats 8000000 in
theorem tget_sec {prog : Program} {w : World} {p loose mean mg mb} {news} {x dx : Addr} {sec : Int} {nm : Str} {t1 t2 : Tok} :
  Ctr prog w (Jb.a.heap_1_1 w.params) p loose mean mg mb 43 2 news [.ref 124, .ref x, .ref 132] ((Jb.a.heap_1_1 w.params).lookup x = some ⟨.ref 132, some dx, .seq #[.int sec t1, .str nm t2] 0, #[]⟩ ∧ (Jb.a.heap_1_1 w.params).lookup dx = some (dictOf [] 0)) (fun h₀ L m s Q E =>
    ∀ h' tk', Fr h₀ L h' m → News h₀ L h' news → Q (.int sec t1) { s with heap := h', toks := tk' }) := by
  dsimp only [Ctr]; intros; rename_i hpre _ _ hret; obtain ⟨hpx, hpd⟩ := hpre
  refine wpAny_call ?_
  k_dflt (refine' code_def ?k1 ?k2 ?k3 ?k4 ?k5 ?kA ?kF ?kK ?k6 ?k7 ?k8 ?k9 ?kB ?_ ?c2 ?c3 ?c4 ?c5; (case kA => exact rfl); (case kF => exact rfl); (case kK => assumption); (case k1 => k_asm); (case k2 => k_asm); (case k3 => k_asm); (case k4 => k_asm); (case k5 => k_asm); (case k6 => k_is); (case k7 => k_is); (case k8 => ktr_room); (case k9 => first | exact BindsTo.of_eq rfl | exact binds_K (by k_in) rfl (by k_is) rfl rfl rfl); (case c5 => decide); (case kB => exact locs rfl); (case c2 => exact rfl); (case c3 => exact rfl); (case c4 => exact rfl); k_whole; intro g' L' h' FG' F' N' B' X' T'; (try dsimp only); (try k_fold))
  k_with_none
  w_top off
  k_steps
  exact hret _ _ (by with_reducible assumption) (by with_reducible assumption)
set_option maxRecDepth 100000 in
set_option maxHeartbeats 8000000 in
theorem tget_name {prog : Program} {w : World} {p loose mean mg mb} {news} {x dx : Addr} {sec : Int} {nm : Str} {t1 t2 : Tok} :
  Ctr prog w (Jb.a.heap_1_1 w.params) p loose mean mg mb 43 2 news [.ref 127, .ref x, .ref 132] ((Jb.a.heap_1_1 w.params).lookup x = some ⟨.ref 132, some dx, .seq #[.int sec t1, .str nm t2] 0, #[]⟩ ∧ (Jb.a.heap_1_1 w.params).lookup dx = some (dictOf [] 0)) (fun h₀ L m s Q E =>
    ∀ h' tk', Fr h₀ L h' m → News h₀ L h' news → Q (.str nm t2) { s with heap := h', toks := tk' }) := by
  dsimp only [Ctr]; intros; rename_i hpre _ _ hret; obtain ⟨hpx, hpd⟩ := hpre
  refine wpAny_call ?_
  k_dflt (refine' code_def ?k1 ?k2 ?k3 ?k4 ?k5 ?kA ?kF ?kK ?k6 ?k7 ?k8 ?k9 ?kB ?_ ?c2 ?c3 ?c4 ?c5; (case kA => exact rfl); (case kF => exact rfl); (case kK => assumption); (case k1 => k_asm); (case k2 => k_asm); (case k3 => k_asm); (case k4 => k_asm); (case k5 => k_asm); (case k6 => k_is); (case k7 => k_is); (case k8 => ktr_room); (case k9 => first | exact BindsTo.of_eq rfl | exact binds_K (by k_in) rfl (by k_is) rfl rfl rfl); (case c5 => decide); (case kB => exact locs rfl); (case c2 => exact rfl); (case c3 => exact rfl); (case c4 => exact rfl); k_whole; intro g' L' h' FG' F' N' B' X' T'; (try dsimp only); (try k_fold))
  k_with_none
  k_steps
  exact hret _ _ (by with_reducible assumption) (by with_reducible assumption)
section
variable {prog : Program} {w : World} {A : Around} {E : Value → Shared → Prop} {Q : Value → Shared → Prop} {s : Shared} {K : Frag} {x C f : Addr} {ox od : Obj} {name : Str} {a : Addr} {expr : Bool}
set_option maxRecDepth 100000 in
set_option maxHeartbeats 4000000 in
theorem tga_run2 {tk : Tok} {Q : Fin → Shared → Prop} (X : K.In s.heap) (I : InstAt s.heap x ox C (some od)) (hc : isClsIn K C = true)
    (ha : findIn K (.ref C) name = some (some (.ref a))) (hg : specialIn K (.ref a) "__get__" = some (some (.ref f))) (ht : takesIn K (.ref a) = some true)
    (h : wpAny (model prog w) A (call (.ref f) [.ref a, .ref x, .ref C]) (fun v s' => Q (.done (.ret v)) s') E s) :
    wpAny (model prog w) A (Builtin.«object.__getattribute__» ⟨[.ref x, .str name tk], []⟩) Q E s := by
  obtain ⟨hh, g, d, t, os⟩ := s
  have L0 := I.type (M := model prog w)
  have L3 := looks_find (M := model prog w) X I (findObj_data hc ha hg ht)
  unfold Builtin.«object.__getattribute__»
  refine wpAny_bind (wpAny_pure (wpAny_bind (wpAny_pure (wpAny_bind (L0.at (wpAny_bind (L3.at ?_)))))))
  show wpAny _ _ (holding [.ref a] (call (.ref f) [.ref a, .ref x, .ref C]) >>= ret) _ _ _
  exact wpAny_bind (wpAny_holding (wpAny_mono h (fun v s' z => wpAny_pure z) fun _ _ z => z))
set_option maxRecDepth 100000 in
set_option maxHeartbeats 4000000 in
theorem tattr_K (X : K.In s.heap) (I : InstAt s.heap x ox C (some od)) (hc : isClsIn K C = true) (hga : findIn K (.ref C) "__getattribute__" = some (some (.builtin "tuple.__getattribute__"))) (hgn : findIn K (.ref C) "__getattr__" = some none) (hm : mroIn K C (.type "tuple") = some true)
    (ha : findIn K (.ref C) name = some (some (.ref a))) (hg : specialIn K (.ref a) "__get__" = some (some (.ref f))) (ht : takesIn K (.ref a) = some true)
    (h : wpAny (model prog w) A.in1 (call (.ref f) [.ref a, .ref x, .ref C]) (fun v s' => wpAny (model prog w) A (handedOut v) Q E s') (fun _ _ => False) { s with toks := s.toks + 1 }) :
    wpAny (model prog w) A (getAttr (.ref x) name expr) Q E s := by
  obtain ⟨hh, g, d, t, os⟩ := s
  have L0 := I.type (M := model prog w)
  have L1 := looks_findIn (M := model prog w) X hga
  have L2 := looks_findIn (M := model prog w) X hgn
  have LI : Looks (model prog w) hh (isInstance (.ref x) (.type "tuple")) true := L0.andThen (looks_mroIn X hm)
  unfold getAttr getAttrBy
  refine wpAny_bind (wpAny_mkText (wpAny_holding (wpAny_bind (L0.at (wpAny_bind (L1.at ?_))))))
  show wpAny _ _ (getAttrByItsOwn (.ref x) (.str name t) (.ref C) (.builtin "tuple.__getattribute__") true expr) _ _ _
  unfold getAttrByItsOwn
  refine wpAny_bind (m := hookBefore (.ref C)) (L2.at ?_)
  refine wpAny_bind (wpAny_attempt (wpAny_holding ?_))
  have e : callGetattribute (.ref x) (.str name t) (.builtin "tuple.__getattribute__") expr = boundAndCalled (.builtin "tuple.__getattribute__") (.ref x) (.str name t) := by
    unfold callGetattribute
    rw [show onTheHeap (.builtin "tuple.__getattribute__") = false from rfl, Bool.and_false]
    rfl
  rw [e]
  unfold boundAndCalled
  refine wpAny_bind (wpAny_of_eq (F.slot_tuple_getattribute.bind (.ref x)) ?_)
  refine wpAny_call (codeAny_call_builtin F.slot_tuple_getattribute.plain F.entry_tuple_ga (check_slot (i := "tuple.__getattribute__") (owner := "tuple") (n := "__getattribute__") (by decide +kernel) (by decide +kernel) LI (F.args_tuple_getattribute_2 _ _) ?_))
  exact tga_run2 X I hc ha hg ht (wpAny_mono h (fun v s' z => z) fun _ _ z => z.elim)
end
end Jb
end
section
open PySem PySem.W PyProof.Rows PySem.Calls
namespace Jb
local macro_rules | `(tactic| walk_at "no such key") => `(tactic| skip)
def isG (nm x : Str) : Bool := decide (Txt.lower x = nm) || decide (Txt.lower x = nm ++ Str.ofString "s")
/-- a class of items, its granularity -/
structure GranCls (K : Frag) (C g dx : Addr) (sec : Int) (nm : Str) (t1 t2 : Tok) : Prop where
  ty : typeIn K (.ref C) = some (.type "type")
  rd : readsIn K C (.type "type") = true
  fc : findCls K (.ref C) (.type "type") (Str.ofString "GRANULARITY") = some (.val (.ref g))
  lk : K.lookup g = some ⟨.ref 132, some dx, .seq #[.int sec t1, .str nm t2] 0, #[]⟩
  ld : K.lookup dx = some (dictOf [] 0)
/-- a contract on the code's side -/
abbrev CtrC (prog : Program) (w : World) (K : Frag) (p : Program) (loose : List Str) (mean : ExcName → Option Value) (mg mb : Str → Option Value) (f : Addr) (n : Nat) (news : List (Addr × Obj)) (vs : List Value) (pre : Prop)
    (R : Heap → Addr → (Str → Option Value) → Shared → (Value → Shared → Prop) → (Value → Shared → Prop) → Prop) : Prop :=
  ∀ (dp un : Nat) (gd : Option (List Code)) (cn : Str) (cs : Scope) (a : Addr) (ccd : Value) (cl : List (Str × Addr)) (outer : List Env) (A₀ : Around) (base h₀ : Heap) (L : Addr) (m : Str → Option Value) (s : Shared) (Q E : Value → Shared → Prop),
    Below A₀ base outer h₀ → Fr h₀ L s.heap m → K.In h₀ → News h₀ L s.heap news → Top p loose mean mg mb h₀ → cs.kind = .function →
    pre → dp + n < recursionLimit → un + 8 * n < cLine → R h₀ L m s Q E →
      codeAny (model prog w) (ktrTop dp un gd cn cs L a ccd cl outer) (.call (.ref f) ⟨vs, []⟩) (fun r s' => match r with | .ok (.ret v) => Q v s' | .ok _ => False | .error e => E e s') s
local macro_rules | `(tactic| k_room) => `(tactic| ktr_room)
local macro_rules | `(tactic| k_units) => `(tactic| ktr_units)
local macro_rules | `(tactic| walk_at "getAttr ref") => `(tactic| (k_here; k_dflt (refine' tattr_K (C := 132) ?k1 ?k2 ?k3 ?k4 ?k4b ?k4c ?k5 ?k6 ?k7 ?_; (case k1 => k_in); (case k2 => (refine' inst_K ?X ?h1 ?h2 ?h3 ?h4 ?h5; (case X => k_in); (case h1 => with_reducible assumption); (case h2 => rfl); (case h3 => rfl); (case h4 => rfl); (case h5 => with_reducible assumption))); (case k3 => k_is); (case k4 => k_is); (case k4b => k_is); (case k4c => k_is); (case k5 => k_is); (case k6 => k_is); (case k7 => k_is); k_whole)))
local macro_rules | `(tactic| walk_at "getAttr ref") => `(tactic| (k_here; k_dflt (refine' cls_val ?k1 ?k2 ?k3 ?k4 ?k5 ?k6 ?_; (case k1 => k_asm); (case k2 => k_asm); (case k3 => with_reducible assumption); (case k4 => with_reducible assumption); (case k5 => with_reducible assumption); (case k6 => k_handed); k_whole)))
local macro_rules | `(tactic| walk_at "call ref") => `(tactic| (k_here; k_dflt ((show wpAny _ _ (call (Value.ref 43) [Value.ref 127, Value.ref _, Value.ref 132]) _ _ _); refine' tget_name _ _ _ _ _ _ _ _ _ _ _ _ _ _ _ _ _ ?k1 ?k2 ?k3 ?k4 ?k5 ?k6 ?k7 ?k8 ?k9 ?_; (case k7 => exact ⟨by with_reducible assumption, by with_reducible assumption⟩); (case k1 => k_asm); (case k2 => k_asm); (case k3 => k_asm); (case k4 => k_asm); (case k5 => k_asm); (case k6 => (first | exact rfl | assumption)); (case k8 => ktr_room); (case k9 => ktr_units)); intro h9 tk9 F9 N9; (try dsimp only); (refine handed_on rfl ?_); (try dsimp only); (try k_fold)))
set_option maxRecDepth 100000 in
set_option maxHeartbeats 8000000 in
theorem chk_claim {prog : Program} {w : World} {p loose mean mg mb} {news} {C g dx : Addr} {sec : Int} {nm : Str} {t1 t2 : Tok} (x : Str) (tx : Tok) :
  CtrC prog w (Jb.a.heap_1_1 w.params) p loose mean mg mb 157 4 news [.ref C, .str x tx] (GranCls (Jb.a.heap_1_1 w.params) C g dx sec nm t1 t2 ∧ x.length ≤ 1000000 ∧ nm.length ≤ 100 ∧ Asc x) (fun h₀ L m s Q E =>
    ∀ h' tk', Fr h₀ L h' m → News h₀ L h' news → Q (.bool (isG nm x)) { s with heap := h', toks := tk' }) := by
  dsimp only [CtrC]; intros; rename_i hpre _ _ hret; obtain ⟨⟨hg1, hg2, hg3, hg4, hg5⟩, hx, hnm, hA⟩ := hpre
  k_dflt ktr_enter
  k_with_none
  w_top off
  k_steps
  rw [Bool.false_or, PySem.Str.empty_append]
  exact hret _ _ (by with_reducible assumption) (cb_drop (by with_reducible assumption) fun _ hp => .tail _ hp)
end Jb
end
section
open PySem PySem.W PyProof.Rows PySem.Calls
namespace Jb
/-- a class whose instances are made by the common __init__ -/
structure MkCls (K : Frag) (C : Addr) : Prop where
  mkk : makesIn K C = true
  ini : findIn K (.ref C) (Str.ofString "__init__") = some (some (.ref 150))
  set : findIn K (.ref C) (Str.ofString "__setattr__") = some (some (.builtin "object.__setattr__"))
  pl : plainOver K C = true
  t1 : takerIn K C (Str.ofString "namespace") = some none
  t2 : takerIn K C (Str.ofString "amount") = some none
  t3 : takerIn K C (Str.ofString "multiples") = some none
  hd : hasDictIn K C = true
theorem mk219 (P : Params) : MkCls (Jb.a.heap_1_1 P) 219 := ⟨by k_is, by k_is, by k_is, by k_is, by k_is, by k_is, by k_is, by k_is⟩
abbrev itemDict (P : Params) (k m : Int) (t1 t2 t3 t4 t5 t6 : Tok) : Obj :=
  dictOf [⟨PyData.keyHash P (Str.ofString "namespace"), .str (Str.ofString "namespace") t1, .str (Str.ofString "LIMITER") t2⟩, ⟨PyData.keyHash P (Str.ofString "amount"), .str (Str.ofString "amount") t3, .int k t4⟩, ⟨PyData.keyHash P (Str.ofString "multiples"), .str (Str.ofString "multiples") t5, .int m t6⟩] 3
local macro_rules | `(tactic| k_room) => `(tactic| ktr_room)
local macro_rules | `(tactic| k_units) => `(tactic| ktr_units)
local macro_rules | `(tactic| walk_at "call ref") => `(tactic| (k_here; k_dflt (refine' call_cls ?k1 ?k2 ?k3 ?k4 ?k5 ?k6 ?_; (case k1 => k_asm); (case k2 => k_asm); (case k3 => k_asm); (case k4 => with_reducible assumption); (case k5 => with_reducible assumption); (case k6 => k_is); k_whole; intro x' d' h' F' N' l1 l2; (try k_lt l1); (try k_lt2 l2); (try k_sweep); refine' code_def ?k1 ?k2 ?k3 ?k4 ?k5 ?kA ?kF ?kK ?k6 ?k7 ?k8 ?k9 ?kB ?_ ?c2 ?c3 ?c4 ?c5; (case kA => exact rfl); (case kF => exact rfl); (case kK => first | exact rfl | assumption); (case k1 => k_asm); (case k2 => k_asm); (case k3 => k_asm); (case k4 => k_asm); (case k5 => k_asm); (case k6 => k_is); (case k7 => k_is); (case k8 => ktr_room); (case k9 => first | exact BindsTo.of_eq rfl | exact binds_K (by k_in) rfl (by k_is) rfl rfl rfl); (case c5 => decide); (case kB => exact locs rfl); (case c2 => exact rfl); (case c3 => exact rfl); (case c4 => exact rfl); k_whole; intro g' L' h' FG' F' N' B' X' T'; (try dsimp only); (try k_fold))))
local macro_rules | `(tactic| walk_at "setAttr ref") => `(tactic| (k_here; k_dflt (refine' set_dict ?k1 ?k2 ?k3 ?k4 ?k5 ?k6 ?k7 ?k8 ?k9 ?k10 ?k11 ?k12 ?k13 ?_; (case k1 => k_asm); (case k2 => k_asm); (case k3 => k_asm); (case k4 => k_inst); (case k5 => exact rfl); (case k6 => with_reducible assumption); (case k7 => with_reducible assumption); (case k8 => with_reducible assumption); (case k9 => with_reducible assumption); (case k10 => k_get); (case k11 => k_put); (case k12 => k_upd); (case k13 => exact Nat.le_of_ble_eq_true rfl); k_whole; intro h' F' N'; (try k_sweep))))
set_option maxRecDepth 100000 in
set_option maxHeartbeats 8000000 in
theorem make0_claim {prog : Program} {w : World} {p loose mean mg mb} {news} {C : Addr} (k : Int) (tk : Tok) :
  Ctr prog w (Jb.a.heap_1_1 w.params) p loose mean mg mb C 3 news [.int k tk, .none] (MkCls (Jb.a.heap_1_1 w.params) C) (fun h₀ L m s Q E =>
    ∀ x dx t1 t2 t3 t4 t5 t6 h' tk', Fr h₀ L h' m → News h₀ L h' ((x, instObj C dx) :: (dx, itemDict w.params k 1 t1 t2 t3 t4 t5 t6) :: news) → (∀ p ∈ news, p.1 < dx) → @LT.lt Nat _ dx x → Q (.ref x) { s with heap := h', toks := tk' }) := by
  dsimp only [Ctr]; intros; rename_i hpre _ _ hret; obtain ⟨hm1, hm2, hm3, hm4, hm5, hm6, hm7, hm8⟩ := hpre
  k_with_none
  w_top off
  k_steps
  all_goals first | (exfalso; omega) | exact hret _ _ _ _ _ _ _ _ _ _ (by with_reducible assumption) (by with_reducible assumption) (by first | with_reducible assumption | exact ktn_ltOf (by with_reducible assumption)) (by first | with_reducible assumption | omega)
set_option maxRecDepth 100000 in
set_option maxHeartbeats 8000000 in
theorem make1_claim {prog : Program} {w : World} {p loose mean mg mb} {news} {C : Addr} (k : Int) (tk : Tok) (j : Int) (tj : Tok) :
  Ctr prog w (Jb.a.heap_1_1 w.params) p loose mean mg mb C 3 news [.int k tk, .int j tj] (MkCls (Jb.a.heap_1_1 w.params) C ∧ j ≠ 0) (fun h₀ L m s Q E =>
    ∀ x dx t1 t2 t3 t4 t5 t6 h' tk', Fr h₀ L h' m → News h₀ L h' ((x, instObj C dx) :: (dx, itemDict w.params k j t1 t2 t3 t4 t5 t6) :: news) → (∀ p ∈ news, p.1 < dx) → @LT.lt Nat _ dx x → Q (.ref x) { s with heap := h', toks := tk' }) := by
  dsimp only [Ctr]; intros; rename_i hpre _ _ hret; obtain ⟨⟨hm1, hm2, hm3, hm4, hm5, hm6, hm7, hm8⟩, hj⟩ := hpre
  k_with_none
  k_steps
  all_goals first | (exfalso; omega) | exact hret _ _ _ _ _ _ _ _ _ _ (by with_reducible assumption) (by with_reducible assumption) (by first | with_reducible assumption | exact ktn_ltOf (by with_reducible assumption)) (by first | with_reducible assumption | omega)
/-- the second argument of a class of items, and what it is worth -/
def Mult (mv : Value) (j : Int) : Prop := (mv = .none ∧ j = 1) ∨ ∃ t, mv = .int j t ∧ j ≠ 0
theorem make_claim {prog : Program} {w : World} {p loose mean mg mb} {news} {C : Addr} (k : Int) (tk : Tok) (mv : Value) {j : Int} :
  Ctr prog w (Jb.a.heap_1_1 w.params) p loose mean mg mb C 3 news [.int k tk, mv] (Mult mv j ∧ MkCls (Jb.a.heap_1_1 w.params) C) (fun h₀ L m s Q E =>
    ∀ x dx t1 t2 t3 t4 t5 t6 h' tk', Fr h₀ L h' m → News h₀ L h' ((x, instObj C dx) :: (dx, itemDict w.params k j t1 t2 t3 t4 t5 t6) :: news) → (∀ p ∈ news, p.1 < dx) → @LT.lt Nat _ dx x → Q (.ref x) { s with heap := h', toks := tk' }) := by
  dsimp only [Ctr]
  intro dp un gd cn cs a ccd cl outer A₀ base h₀ L m s Q E B F X N T hk ⟨hm, hC⟩ hd hu hret
  rcases hm with ⟨rfl, rfl⟩ | ⟨t, rfl, hj⟩
  · exact make0_claim k tk dp un gd cn cs a ccd cl outer A₀ base h₀ L m s Q E B F X N T hk hC hd hu hret
  · exact make1_claim k tk j t dp un gd cn cs a ccd cl outer A₀ base h₀ L m s Q E B F X N T hk ⟨hC, hj⟩ hd hu hret
end Jb
end
section
open PySem PySem.W PyProof.Rows PySem.Calls
namespace Jb
/-- a contract that may raise: R is told the frames too -/
abbrev CtrX (prog : Program) (w : World) (K : Frag) (p : Program) (loose : List Str) (mean : ExcName → Option Value) (mg mb : Str → Option Value) (f : Addr) (n : Nat) (news : List (Addr × Obj)) (vs : List Value) (pre : Prop)
    (R : Heap → List Env → Heap → Addr → (Str → Option Value) → Shared → (Value → Shared → Prop) → (Value → Shared → Prop) → Prop) : Prop :=
  ∀ (dp un : Nat) (gd : Option (List Code)) (cn : Str) (cs : Scope) (a : Addr) (ccd : Value) (cl : List (Str × Addr)) (outer : List Env) (A₀ : Around) (base h₀ : Heap) (L : Addr) (m : Str → Option Value) (s : Shared) (Q E : Value → Shared → Prop),
    Below A₀ base outer h₀ → Fr h₀ L s.heap m → K.In h₀ → News h₀ L s.heap news → Top p loose mean mg mb h₀ → cs.kind = .function →
    pre → dp + n < recursionLimit → un + 8 * n < cLine → R base (envX cn cs L a ccd cl :: outer) h₀ L m s Q E →
      wpAny (model prog w) (ktrTop dp un gd cn cs L a ccd cl outer) (call (.ref f) vs) Q E s
/-- what a caller is handed of a ValueError -/
abbrev VErr (news : List (Addr × Obj)) (base : Heap) (l : List Env) (h₀ : Heap) (L : Addr) (m : Str → Option Value) (s : Shared) (E : Value → Shared → Prop) : Prop :=
  ∀ e h' tk' h₂, Fr h₀ L h₂ m → h₂.UpToSlots h' → RaisedSN base h₂ l e (.type "ValueError") news h' → E (.ref e) { s with heap := h', toks := tk' }
theorem RaisedSN.sub {base G h : Heap} {l : List Env} {e : Addr} {cls : Value} {news news' : List (Addr × Obj)} (R : RaisedSN base G l e cls news h) (hs : ∀ p ∈ news', p ∈ news) : RaisedSN base G l e cls news' h :=
  let ⟨B, a0, h1, h0, h2, h3⟩ := R
  ⟨B, a0, h1, h0, fun q hq => h2 q (hs q hq), h3⟩
def grF (x : Str) : Option (Addr × Int) :=
  if isG (Str.ofString "year") x = true then some (219, 31104000) else
  if isG (Str.ofString "month") x = true then some (236, 2592000) else
  if isG (Str.ofString "day") x = true then some (253, 86400) else
  if isG (Str.ofString "hour") x = true then some (270, 3600) else
  if isG (Str.ofString "minute") x = true then some (287, 60) else
  if isG (Str.ofString "second") x = true then some (304, 1) else none
section
variable {x : Str}
theorem gr1 (h1 : isG (Str.ofString "year") x = true) : grF x = some (219, 31104000) := by simp [grF, h1]
theorem gr2 (h1 : isG (Str.ofString "year") x = false) (h2 : isG (Str.ofString "month") x = true) : grF x = some (236, 2592000) := by simp [grF, h1, h2]
theorem gr3 (h1 : isG (Str.ofString "year") x = false) (h2 : isG (Str.ofString "month") x = false) (h3 : isG (Str.ofString "day") x = true) : grF x = some (253, 86400) := by simp [grF, h1, h2, h3]
theorem gr4 (h1 : isG (Str.ofString "year") x = false) (h2 : isG (Str.ofString "month") x = false) (h3 : isG (Str.ofString "day") x = false) (h4 : isG (Str.ofString "hour") x = true) : grF x = some (270, 3600) := by simp [grF, h1, h2, h3, h4]
theorem gr5 (h1 : isG (Str.ofString "year") x = false) (h2 : isG (Str.ofString "month") x = false) (h3 : isG (Str.ofString "day") x = false) (h4 : isG (Str.ofString "hour") x = false) (h5 : isG (Str.ofString "minute") x = true) : grF x = some (287, 60) := by simp [grF, h1, h2, h3, h4, h5]
theorem gr6 (h1 : isG (Str.ofString "year") x = false) (h2 : isG (Str.ofString "month") x = false) (h3 : isG (Str.ofString "day") x = false) (h4 : isG (Str.ofString "hour") x = false) (h5 : isG (Str.ofString "minute") x = false) (h6 : isG (Str.ofString "second") x = true) : grF x = some (304, 1) := by simp [grF, h1, h2, h3, h4, h5, h6]
theorem gr7 (h1 : isG (Str.ofString "year") x = false) (h2 : isG (Str.ofString "month") x = false) (h3 : isG (Str.ofString "day") x = false) (h4 : isG (Str.ofString "hour") x = false) (h5 : isG (Str.ofString "minute") x = false) (h6 : isG (Str.ofString "second") x = false) : grF x = none := by simp [grF, h1, h2, h3, h4, h5, h6]
theorem sub2 {a b : Addr × Obj} {X news : List (Addr × Obj)} (h : ∀ p ∈ news, p ∈ X) : ∀ p ∈ a :: b :: news, p ∈ a :: b :: X := by
  intro p hp
  rcases List.mem_cons.mp hp with rfl | hp
  · exact .head _
  rcases List.mem_cons.mp hp with rfl | hp
  · exact .tail _ (.head _)
  · exact .tail _ (.tail _ (h p hp))
theorem lt_sub {X news : List (Addr × Obj)} {d : Addr} (o : ∀ p ∈ X, p.1 < d) (h : ∀ p ∈ news, p ∈ X) : ∀ p ∈ news, p.1 < d := fun p hp => o p (h p hp)
end
local macro_rules | `(tactic| k_room) => `(tactic| ktr_room)
local macro_rules | `(tactic| k_units) => `(tactic| ktr_units)
local macro_rules | `(tactic| walk_at "call ref") => `(tactic| (k_here; k_dflt (refine' call_meth (f := .ref 157) ?m1 ?m2 ?_; (case m1 => k_asm); (case m2 => k_mem); refine' chk_claim _ _ _ _ _ _ _ _ _ _ _ _ _ _ _ _ _ _ _ ?k1 ?k2 ?k3 ?k4 ?k5 ?k6 ?k7 ?k8 ?k9 ?_; (case k7 => exact ⟨⟨by k_is, by k_is, by k_is, by k_is, by k_is⟩, by omega, Nat.le_of_ble_eq_true (by rfl), by with_reducible assumption⟩); (case k1 => k_asm); (case k2 => k_asm); (case k3 => k_asm); (case k4 => k_asm); (case k5 => k_asm); (case k6 => (first | exact rfl | assumption)); (case k8 => ktr_room); (case k9 => ktr_units)); intro h9 tk9 F9 N9; (try dsimp only); (try k_fold)))
local macro_rules | `(tactic| walk_at "call ref") => `(tactic| (k_here; k_dflt ((show wpAny _ _ (call (Value.ref _) [Value.int _ _, _]) _ _ _); refine' make_claim _ _ _ _ _ _ _ _ _ _ _ _ _ _ _ _ _ _ _ _ ?k1 ?k2 ?k3 ?k4 ?k5 ?k6 ?k7 ?k8 ?k9 ?_; (case k7 => exact ⟨by with_reducible assumption, ⟨by k_is, by k_is, by k_is, by k_is, by k_is, by k_is, by k_is, by k_is⟩⟩); (case k1 => k_asm); (case k2 => k_asm); (case k3 => k_asm); (case k4 => k_asm); (case k5 => k_asm); (case k6 => (first | exact rfl | assumption)); (case k8 => ktr_room); (case k9 => ktr_units)); intro x9 dx9 t91 t92 t93 t94 t95 t96 h9 tk9 F9 N9 o91 o92; (try dsimp only); (try k_fold)))
local macro_rules | `(tactic| walk_at "leaving ref") => `(tactic| (k_here; k_dflt (first | (refine' leave_newS ?k1 ?k0 ?k2 ?k3 ?_; (case k0 => assumption); (case k1 => assumption); (case k2 => assumption); (case k3 => k_asm); k_whole; intro h' S' R' U'; (try dsimp only at S' R' U' ⊢)) | (refine' leave_onSN ?k1 ?k2 ?k3 ?k4 ?_; (case k3 => assumption); (case k1 => assumption); (case k4 => assumption); (case k2 => assumption); k_whole; intro h' S' R' U'; (try dsimp only at S' R' U' ⊢)))))
set_option maxRecDepth 100000 in
set_option maxHeartbeats 8000000 in
theorem gran_claim {prog : Program} {w : World} {p loose mean mg mb} {news} (x : Str) (tx : Tok) (k : Int) (tk : Tok) (mv : Value) {j : Int} :
  CtrX prog w (Jb.a.heap_1_1 w.params) p loose mean mg mb 348 6 news [.str x tx, .int k tk, mv] (x.length ≤ 1000000 ∧ Asc x ∧ Mult mv j) (fun base l h₀ L m s Q E =>
    (∀ C sec, grF x = some (C, sec) → ∀ xx dx t1 t2 t3 t4 t5 t6 h' tk', Fr h₀ L h' m → News h₀ L h' ((xx, instObj C dx) :: (dx, itemDict w.params k j t1 t2 t3 t4 t5 t6) :: news) → (∀ p ∈ news, p.1 < dx) → @LT.lt Nat _ dx xx → Q (.ref xx) { s with heap := h', toks := tk' }) ∧
    (grF x = none → VErr news base l h₀ L m s E)) := by
  dsimp only [CtrX]; intros; rename_i hpre _ _ hret; have hA := hpre.2.1; have hM := hpre.2.2
  refine wpAny_call ?_
  k_dflt ktr_enter
  k_with_none
  w_top off
  k_steps
  · exact hret.1 _ _ (gr1 (by with_reducible assumption)) _ _ _ _ _ _ _ _ _ _ (by with_reducible assumption) (cb_drop (by with_reducible assumption) (sub2 (by intro p hp; repeat (first | exact hp | apply List.Mem.tail)))) (lt_sub (by with_reducible assumption) (by intro p hp; repeat (first | exact hp | apply List.Mem.tail))) (by with_reducible assumption)
  · exact hret.1 _ _ (gr2 (by with_reducible assumption) (by with_reducible assumption)) _ _ _ _ _ _ _ _ _ _ (by with_reducible assumption) (cb_drop (by with_reducible assumption) (sub2 (by intro p hp; repeat (first | exact hp | apply List.Mem.tail)))) (lt_sub (by with_reducible assumption) (by intro p hp; repeat (first | exact hp | apply List.Mem.tail))) (by with_reducible assumption)
  · exact hret.1 _ _ (gr3 (by with_reducible assumption) (by with_reducible assumption) (by with_reducible assumption)) _ _ _ _ _ _ _ _ _ _ (by with_reducible assumption) (cb_drop (by with_reducible assumption) (sub2 (by intro p hp; repeat (first | exact hp | apply List.Mem.tail)))) (lt_sub (by with_reducible assumption) (by intro p hp; repeat (first | exact hp | apply List.Mem.tail))) (by with_reducible assumption)
  · exact hret.1 _ _ (gr4 (by with_reducible assumption) (by with_reducible assumption) (by with_reducible assumption) (by with_reducible assumption)) _ _ _ _ _ _ _ _ _ _ (by with_reducible assumption) (cb_drop (by with_reducible assumption) (sub2 (by intro p hp; repeat (first | exact hp | apply List.Mem.tail)))) (lt_sub (by with_reducible assumption) (by intro p hp; repeat (first | exact hp | apply List.Mem.tail))) (by with_reducible assumption)
  · exact hret.1 _ _ (gr5 (by with_reducible assumption) (by with_reducible assumption) (by with_reducible assumption) (by with_reducible assumption) (by with_reducible assumption)) _ _ _ _ _ _ _ _ _ _ (by with_reducible assumption) (cb_drop (by with_reducible assumption) (sub2 (by intro p hp; repeat (first | exact hp | apply List.Mem.tail)))) (lt_sub (by with_reducible assumption) (by intro p hp; repeat (first | exact hp | apply List.Mem.tail))) (by with_reducible assumption)
  · exact hret.1 _ _ (gr6 (by with_reducible assumption) (by with_reducible assumption) (by with_reducible assumption) (by with_reducible assumption) (by with_reducible assumption) (by with_reducible assumption)) _ _ _ _ _ _ _ _ _ _ (by with_reducible assumption) (cb_drop (by with_reducible assumption) (sub2 (by intro p hp; repeat (first | exact hp | apply List.Mem.tail)))) (lt_sub (by with_reducible assumption) (by intro p hp; repeat (first | exact hp | apply List.Mem.tail))) (by with_reducible assumption)
  · exact hret.2 (gr7 (by with_reducible assumption) (by with_reducible assumption) (by with_reducible assumption) (by with_reducible assumption) (by with_reducible assumption) (by with_reducible assumption)) _ _ _ _ (by with_reducible assumption) (by with_reducible assumption) (RaisedSN.sub (by with_reducible assumption) (by intro p hp; repeat (first | exact hp | apply List.Mem.tail)))
end Jb
end
section
open PySem PySem.W PyProof.Rows PySem.Calls
namespace Jb
/-- the end of a turn over a list on the ledger: the iterator stands, the list stands, the invariant holds -/
def TPost (h₀ : Heap) (L I : Addr) (oI : Obj) (ax : Addr) (lo : Obj) (J : (Str → Option Value) → List (Addr × Obj) → Prop) (s₁ : Shared) (Q : Flow → Shared → Prop) (f : Flow) (s₂ : Shared) : Prop :=
  match f with
  | .ret v => Q (.ret v) s₂
  | .brk => Q .next s₂
  | _ => ∃ h' tk m' nx', s₂ = { s₁ with heap := h', toks := tk } ∧ Fr h₀ L h' m' ∧ News h₀ L h' ((I, oI) :: nx') ∧ (∀ p ∈ nx', p.1 ≠ I) ∧ (ax, lo) ∈ nx' ∧ J m' nx'
section
variable {h₀ h' : Heap} {L I ax : Addr} {oI lo : Obj} {J : (Str → Option Value) → List (Addr × Obj) → Prop} {s₁ s₂ : Shared} {Q : Flow → Shared → Prop} {v : Value} {tk : Nat} {m' : Str → Option Value} {nx' : List (Addr × Obj)}
theorem TPost.ret (h : Q (.ret v) s₂) : TPost h₀ L I oI ax lo J s₁ Q (.ret v) s₂ := h
theorem TPost.next (F : Fr h₀ L h' m') (N : News h₀ L h' ((I, oI) :: nx')) (hI : ∀ p ∈ nx', p.1 ≠ I) (hl : (ax, lo) ∈ nx') (hJ : J m' nx') : TPost h₀ L I oI ax lo J s₁ Q .next { s₁ with heap := h', toks := tk } := ⟨h', tk, m', nx', rfl, F, N, hI, hl, hJ⟩
end
section
variable {prog : Program} {w : World} {A : Around} {E : Value → Shared → Prop} {s : Shared} {env : Env} {h₀ : Heap} {target : Expr} {body : List Stmt} {Q : Flow → Shared → Prop}
set_option maxHeartbeats 3200000 in
theorem it_turns {l : Addr} {vs : List Value} {nn : Nat} {m₀ : Str → Option Value} {news : List (Addr × Obj)} (J : Nat → (Str → Option Value) → List (Addr × Obj) → Prop)
    (hh : A.handled = none) (hl : (l, listOf vs.toArray nn) ∈ news) (F : Fr h₀ env.locals s.heap m₀) (N : News h₀ env.locals s.heap news) (hj : J 0 m₀ news)
    (turn : ∀ i v m₁ nx h tk I oI, vs[i]? = some v → (∀ p ∈ nx, p.1 ≠ I) → (∀ p ∈ news, p.1 < I) → (l, listOf vs.toArray nn) ∈ nx → J i m₁ nx → Fr h₀ env.locals h m₁ → News h₀ env.locals h ((I, oI) :: nx) →
      wpAny (model prog w) A (assign target env v) (fun _ s₃ => wpAny (model prog w) A (execs body env) (TPost h₀ env.locals I oI l (listOf vs.toArray nn) (J (i + 1)) { s with heap := h, toks := tk } Q) E s₃) E { s with heap := h, toks := tk })
    (done : ∀ m₁ nx h tk, J vs.length m₁ nx → (l, listOf vs.toArray nn) ∈ nx → Fr h₀ env.locals h m₁ → News h₀ env.locals h nx → Q .next { s with heap := h, toks := tk }) :
    wpAny (model prog w) A (pyIter (.ref l)) (fun it s₂ => TurnsAt prog w A h₀ env target body Q E it s₂) E s := by
  have hol : s.heap.get? l = some (listOf vs.toArray nn) := (N _ hl).1
  have hls : s.heap.IsList l vs.toArray := ⟨_, hol, rfl, nn, rfl⟩
  have hne : l ≠ s.heap.objs.size := Nat.ne_of_lt (Heap.lt_size hol)
  refine wpAny_pyIter_list hls ?_
  have W := Walks.list (prog := prog) (w := w) hh s.heap.objs.size l hne vs.toArray
  have hlen : vs.toArray.size = vs.length := by simp
  rw [hlen] at W
  refine ⟨_, _, _, vs.length, _, _, _, m₀, news, (fun i m nx => (l, listOf vs.toArray nn) ∈ nx ∧ J i m nx), rfl, KTurns.ofWalks (target := target) W (fun i v s Q E st q => letGo_listiter st.1 q), ?_, ?_, ?_, ⟨⟨_, Heap.get?_push_size _ rfl, rfl, rfl⟩, hls.at fun o e => Heap.get?_push_of_some _ e⟩, F.push _, (fun p hp => ⟨Heap.get?_push_of_some _ (N p hp).1, (N p hp).2⟩), ⟨hl, hj⟩, ?_, ?_⟩
  · intro hm
    rcases List.mem_cons.mp hm with e | hm
    · exact absurd F.ns.lt (e ▸ Nat.lt_irrefl _)
    · exact (N _ hl).2.1 ((List.mem_singleton.mp hm).symm)
  · intro b hb
    rw [List.mem_singleton.mp hb]
    exact next_is_new F
  · intro p hp hI
    exact absurd (Heap.lt_size (N p hp).1) ((List.mem_singleton.mp hI) ▸ Nat.lt_irrefl _)
  · rintro i v m₁ news₁ h₁ tk₁ own hin hP ⟨hl₁, hJ⟩ hoff hown hget hfp hst F₁ N₁
    have hP' : vs[i]? = some v := by simpa using hP
    have hI0 : h₀.get? s.heap.objs.size = none := next_is_new F
    obtain ⟨⟨oI, hoI, _⟩, _⟩ := id hst
    have hIown : (s.heap.objs.size, oI) ∈ own := hfp _ (List.mem_cons.mpr (.inl rfl)) hI0 _ hoI
    have hlo : h₁.get? l = some (listOf vs.toArray nn) := (N₁ _ (List.mem_append.mpr (.inr hl₁))).1
    have N₂ : News h₀ env.locals h₁ ((s.heap.objs.size, oI) :: news₁) := fun p hp => (List.mem_cons.mp hp).elim (fun e => N₁ p (List.mem_append.mpr (.inl (e ▸ hIown)))) fun h => N₁ p (List.mem_append.mpr (.inr h))
    have hoff' : ∀ p ∈ news₁, p.1 ≠ s.heap.objs.size := fun p hp e => hoff p hp (List.mem_singleton.mpr e)
    refine wpAny_mono (turn i v m₁ news₁ h₁ tk₁ s.heap.objs.size oI hP' hoff' (fun p hp => Heap.lt_size (N p hp).1) hl₁ hJ F₁ N₂) (fun _ s₃ p => wpAny_mono p (fun f s₄ q => ?_) fun _ _ e => e) fun _ _ e => e
    have fin : (∃ h' tk m' nx', s₄ = { s with heap := h', toks := tk } ∧ Fr h₀ env.locals h' m' ∧ News h₀ env.locals h' ((s.heap.objs.size, oI) :: nx') ∧ (∀ p ∈ nx', p.1 ≠ s.heap.objs.size) ∧ (l, listOf vs.toArray nn) ∈ nx' ∧ J (i + 1) m' nx') →
        LoopStepU h₀ env.locals [s.heap.objs.size] own (fun m nx => (l, listOf vs.toArray nn) ∈ nx ∧ J (i + 1) m nx) { s with heap := h₁, toks := tk₁ } .next s₄ := by
      rintro ⟨h', tk, m', nx', e, F', N', hI', hl', hJ'⟩
      refine ⟨rfl, h', tk, m', nx', e, F', fun p hp => ?_, fun p hp hq => hI' p hp (List.mem_singleton.mp hq), hl', hJ'⟩
      rcases List.mem_append.mp hp with h | h
      · rcases List.mem_cons.mp (hown p h) with h2 | h2
        · have h3 : h₁.get? p.1 = some p.2 := hget p h
          rw [h2, hoI] at h3
          have : p = (s.heap.objs.size, oI) := Prod.ext h2 (Option.some.inj h3).symm
          exact this ▸ N' _ (.head _)
        · have h1 : p.1 = l := List.mem_singleton.mp h2
          have h3 : h₁.get? p.1 = some p.2 := hget p h
          rw [h1, hlo] at h3
          have : p = (l, listOf vs.toArray nn) := Prod.ext h1 (Option.some.inj h3).symm
          exact this ▸ N' _ (.tail _ hl')
      · exact N' p (.tail _ h)
    cases f with
    | ret v => exact q
    | brk => exact q
    | next => exact fin q
    | cont => exact fin q
  · rintro h' tk m' news' F' N' _ ⟨hl', hJ⟩
    exact done m' news' h' tk hJ hl' F' N'
theorem it_turnsH {l : Addr} {vs : List Value} {nn : Nat} {m₀ : Str → Option Value} {news : List (Addr × Obj)} (J : Nat → (Str → Option Value) → List (Addr × Obj) → Prop)
    (hh : A.handled = none) (hl : (l, listOf vs.toArray nn) ∈ news) (F : Fr h₀ env.locals s.heap m₀) (N : News h₀ env.locals s.heap news) (hj : Hold (J 0 m₀ news))
    (turn : Hold (∀ i v m₁ nx h tk I oI, vs[i]? = some v → (∀ p ∈ nx, p.1 ≠ I) → (∀ p ∈ news, p.1 < I) → (l, listOf vs.toArray nn) ∈ nx → J i m₁ nx → Fr h₀ env.locals h m₁ → News h₀ env.locals h ((I, oI) :: nx) →
      wpAny (model prog w) A (assign target env v) (fun _ s₃ => wpAny (model prog w) A (execs body env) (TPost h₀ env.locals I oI l (listOf vs.toArray nn) (J (i + 1)) { s with heap := h, toks := tk } Q) E s₃) E { s with heap := h, toks := tk }))
    (done : Hold (∀ m₁ nx h tk, J vs.length m₁ nx → (l, listOf vs.toArray nn) ∈ nx → Fr h₀ env.locals h m₁ → News h₀ env.locals h nx → Q .next { s with heap := h, toks := tk })) :
    wpAny (model prog w) A (pyIter (.ref l)) (fun it s₂ => TurnsAt prog w A h₀ env target body Q E it s₂) E s := it_turns J hh hl F N hj turn done
end
/-- the worth of a text of figures -/
def num (s : Str) : Int := ((PySem.NumText.digitsVal (cl s) : Nat) : Int)
def multF (s : Str) : Int := if cl s = [] then 1 else if num s = 0 then 1 else num s
abbrev It := Addr × Int × Int × Int
def rowItem (r : Rw) : Option It := (grF r.2.2.1).map fun q => (q.1, q.2, num r.1, multF r.2.1)
def mapO {α β : Type} (f : α → Option β) : List α → Option (List β)
  | [] => some []
  | a :: r => match f a with | none => none | some b => (mapO f r).map (b :: ·)
def pmF (x : Str) : Option (List It) := match readsF x with | none => none | some rs => mapO rowItem rs
def RowOk (r : Rw) : Prop := PySem.NumText.AllDigits (cl r.1) ∧ cl r.1 ≠ [] ∧ r.1.length ≤ 600 ∧ PySem.NumText.AllDigits (cl r.2.1) ∧ r.2.1.length ≤ 600 ∧ r.2.2.1.length ≤ 600 ∧ Asc r.2.2.1
def ItemIn (P : Params) (tl : List (Addr × Obj)) (v : Value) (it : It) : Prop := ∃ xx dx t1 t2 t3 t4 t5 t6, v = .ref xx ∧ (xx, instObj it.1 dx) ∈ tl ∧ (dx, itemDict P it.2.2.1 it.2.2.2 t1 t2 t3 t4 t5 t6) ∈ tl
theorem ItemIn.mono {P : Params} {tl tl' : List (Addr × Obj)} {v : Value} {it : It} (h : ItemIn P tl v it) (hs : ∀ p ∈ tl, p ∈ tl') : ItemIn P tl' v it :=
  let ⟨a, b, c, d, e, f, g, i, h1, h2, h3⟩ := h
  ⟨a, b, c, d, e, f, g, i, h1, hs _ h2, hs _ h3⟩
inductive ItemsIn (P : Params) (tl : List (Addr × Obj)) : List Value → List It → Prop
  | nil : ItemsIn P tl [] []
  | cons {v : Value} {vs : List Value} {r : It} {rs : List It} : ItemIn P tl v r → ItemsIn P tl vs rs → ItemsIn P tl (v :: vs) (r :: rs)
theorem ItemsIn.mono {P : Params} {tl tl' : List (Addr × Obj)} {vs : List Value} {rs : List It} (h : ItemsIn P tl vs rs) (hs : ∀ p ∈ tl, p ∈ tl') : ItemsIn P tl' vs rs := by
  induction h with
  | nil => exact .nil
  | cons h _ ih => exact .cons (h.mono hs) ih
theorem ItemsIn.snoc {P : Params} {tl : List (Addr × Obj)} {vs : List Value} {rs : List It} {v : Value} {r : It} (h : ItemsIn P tl vs rs) (h1 : ItemIn P tl v r) : ItemsIn P tl (vs ++ [v]) (rs ++ [r]) := by
  induction h with
  | nil => exact .cons h1 .nil
  | cons h _ ih => exact .cons h ih
theorem ItemsIn.length {P : Params} {tl : List (Addr × Obj)} {vs : List Value} {rs : List It} (h : ItemsIn P tl vs rs) : vs.length = rs.length := by
  induction h with
  | nil => rfl
  | cons _ _ ih => simp [ih]
theorem RowsIn.get {tl : List (Addr × Obj)} {vs : List Value} {rs : List Rw} (h : RowsIn tl vs rs) : ∀ {i : Nat} {v : Value}, vs[i]? = some v → ∃ r, rs[i]? = some r ∧ Row tl v r := by
  induction h with
  | nil => intro i v e; cases e
  | cons h _ ih =>
    intro i v e
    cases i with
    | zero => cases e; exact ⟨_, rfl, h⟩
    | succ i => exact ih e
theorem mapO_take_none {α β : Type} (f : α → Option β) : ∀ (l : List α) (i : Nat) (a : α), l[i]? = some a → f a = none → mapO f l = none
  | [], _, _, h, _ => by cases h
  | b :: r, 0, a, h, e => by cases h; simp [mapO, e]
  | b :: r, i + 1, a, h, e => by
    simp only [mapO]
    cases f b with
    | none => rfl
    | some c => simp [mapO_take_none f r i a h e]
theorem mapO_take_snoc {α β : Type} (f : α → Option β) : ∀ (l : List α) (i : Nat) (a : α) (b : β) (bs : List β), l[i]? = some a → mapO f (l.take i) = some bs → f a = some b → mapO f (l.take (i + 1)) = some (bs ++ [b])
  | [], _, _, _, _, h, _, _ => by cases h
  | c :: r, 0, a, b, bs, h, hb, e => by
    cases h
    simp only [List.take_zero, mapO, Option.some.injEq] at hb
    subst hb
    simp [mapO, e]
  | c :: r, i + 1, a, b, bs, h, hb, e => by
    simp only [List.take_succ_cons, mapO] at hb ⊢
    cases hc : f c with
    | none => rw [hc] at hb; cases hb
    | some d =>
      rw [hc] at hb
      simp only [Option.map_eq_some_iff] at hb ⊢
      obtain ⟨bs', h1, rfl⟩ := hb
      exact ⟨bs' ++ [b], mapO_take_snoc f r i a b bs' h h1 e, rfl⟩
end Jb
end
section
open PySem PySem.W PyProof.Rows PySem.Calls
namespace Jb
/-- the loop of parse_many -/
def PmJ (P : Params) (lim : Addr) (rs : List Rw) (keep : List (Addr × Obj)) (i : Nat) (m : Str → Option Value) (nx : List (Addr × Obj)) : Prop :=
  ∃ vs ne tl its, m (Str.ofString "limits") = some (.ref lim) ∧ nx = (lim, listOf (List.toArray vs) ne) :: (tl ++ keep) ∧ ItemsIn P tl vs its ∧ mapO rowItem (rs.take i) = some its ∧ (∀ p ∈ tl ++ keep, p.1 ≠ lim) ∧ its.length = i
section
variable {prog : Program} {w : World} {A : Around} {E : Value → Shared → Prop} {s : Shared} {env : Env} {h₀ : Heap} {target : Expr} {body : List Stmt} {Q : Flow → Shared → Prop}
theorem pm_turns {rowsA lim L : Addr} {vsr : List Value} {ner : Nat} {tlr news : List (Addr × Obj)} {rs : List Rw} {m₀ : Str → Option Value} (P : Params) (hL : env.locals = L)
    (hR : RowsIn tlr vsr rs) (hh : A.handled = none) (F : Fr h₀ L s.heap m₀) (N : News h₀ L s.heap ((lim, listOf #[] 0) :: (rowsA, listOf vsr.toArray ner) :: (tlr ++ news))) (hlim : m₀ (Str.ofString "limits") = some (.ref lim))
    (ho : @LT.lt Nat _ rowsA lim ∧ AllLt lim (tlr ++ news))
    (turn : Hold (∀ i r d t1 t2 t3 t4 vs ne tl its m₁ h tk I oI, rs[i]? = some r → (d, rowObj r t1 t2 t3 t4) ∈ tlr → ItemsIn P tl vs its → mapO rowItem (rs.take i) = some its → its.length = i → (∀ p ∈ tl ++ (rowsA, listOf vsr.toArray ner) :: (tlr ++ news), p.1 ≠ lim) →
      (∀ p ∈ (lim, listOf vs.toArray ne) :: (tl ++ (rowsA, listOf vsr.toArray ner) :: (tlr ++ news)), p.1 ≠ I) → @LT.lt Nat _ lim I →
      Fr h₀ L h (kstB m₁ [(Str.ofString "limits", .ref lim)]) → News h₀ L h ((I, oI) :: (lim, listOf vs.toArray ne) :: (tl ++ (rowsA, listOf vsr.toArray ner) :: (tlr ++ news))) →
      wpAny (model prog w) A (assign target env (.ref d)) (fun _ s₃ => wpAny (model prog w) A (execs body env) (TPost h₀ L I oI rowsA (listOf vsr.toArray ner) (PmJ P lim rs ((rowsA, listOf vsr.toArray ner) :: (tlr ++ news)) (i + 1)) { s with heap := h, toks := tk } Q) E s₃) E { s with heap := h, toks := tk }))
    (done : Hold (∀ vs ne tl its m₁ h tk, ItemsIn P tl vs its → mapO rowItem rs = some its → its.length = rs.length → Fr h₀ L h (kstB m₁ [(Str.ofString "limits", .ref lim)]) → News h₀ L h ((lim, listOf vs.toArray ne) :: (tl ++ (rowsA, listOf vsr.toArray ner) :: (tlr ++ news))) → Q .next { s with heap := h, toks := tk })) :
    wpAny (model prog w) A (pyIter (.ref rowsA)) (fun it s₂ => TurnsAt prog w A h₀ env target body Q E it s₂) E s := by
  subst hL
  refine it_turns (PmJ P lim rs ((rowsA, listOf vsr.toArray ner) :: (tlr ++ news))) hh (.tail _ (.head _)) F N ⟨[], 0, [], [], hlim, rfl, .nil, by simp [mapO], fun p hp => Nat.ne_of_lt (ktn_ltOf (l := (rowsA, listOf vsr.toArray ner) :: (tlr ++ news)) ho p hp), rfl⟩ ?_ ?_
  · rintro i v m₁ nx h tk I oI hv hI hlt _ ⟨vs, ne, tl, its, hm, rfl, hit, hmap, hne, hlen⟩ F₁ N₁
    obtain ⟨r, hr, d, t1, t2, t3, t4, rfl, hd⟩ := hR.get hv
    exact turn i r d t1 t2 t3 t4 vs ne tl its m₁ h tk I oI hr hd hit hmap hlen hne hI (hlt _ (.head _)) (fr_known _ F₁ (by simp [hm])) N₁
  · rintro m₁ nx h tk ⟨vs, ne, tl, its, hm, rfl, hit, hmap, hne, hlen⟩ _ F₁ N₁
    rw [hR.length, List.take_length] at hmap
    exact done vs ne tl its m₁ h tk hit hmap (by rw [hlen, hR.length]) (fr_known _ F₁ (by simp [hm])) N₁
end
theorem len0 {s : Str} : cl s = [] ↔ s.length = 0 := by
  rw [← len_cl, List.length_eq_zero_iff]
theorem int_ne {s : Str} (h : PySem.NumText.AllDigits (cl s)) (hl : (s.length : Int) ≠ 0) (h2 : s.length ≤ 600) : PySem.intText? s = some (num s) :=
  PySem.intText_digits h (fun e => by have := len0.mp e; omega) (by omega)
section
variable {a b c : Str} {pl : Int} {C : Addr} {sec : Int}
theorem ri1 (g : grF c = some (C, sec)) (hb : (b.length : Int) ≠ 0) (h : num b ≠ 0) : rowItem (a, b, c, pl) = some (C, sec, num a, num b) := by
  have : cl b ≠ [] := fun e => by have := len0.mp e; omega
  simp [rowItem, g, multF, this, h]
theorem ri2 (g : grF c = some (C, sec)) (hb : (b.length : Int) ≠ 0) (h : num b = 0) : rowItem (a, b, c, pl) = some (C, sec, num a, 1) := by
  have : cl b ≠ [] := fun e => by have := len0.mp e; omega
  simp [rowItem, g, multF, this, h]
theorem ri3 (g : grF c = some (C, sec)) (hb : (b.length : Int) = 0) : rowItem (a, b, c, pl) = some (C, sec, num a, 1) := by
  have : cl b = [] := len0.mpr (by omega)
  simp [rowItem, g, multF, this]
theorem pm_none {x : Str} {rs : List Rw} {i : Nat} (h : readsF x = some rs) (hi : rs[i]? = some (a, b, c, pl)) (g : grF c = none) : pmF x = none := by
  unfold pmF; rw [h]
  exact mapO_take_none _ _ _ _ hi (by simp [rowItem, g])
theorem pm_some {x : Str} {rs : List Rw} {its : List It} (h : readsF x = some rs) (hi : mapO rowItem rs = some its) : pmF x = some its := by
  unfold pmF; rw [h]; exact hi
end
theorem lt_tail {a lim : Nat} {tl news : List (Addr × Obj)} (h : @LT.lt Nat _ a lim ∧ AllLt lim (tl ++ news)) : ∀ p ∈ news, p.1 < lim := fun p hp => ktn_ltOf h.2 p (List.mem_append_right _ hp)
theorem news_assoc {h₀ h : Heap} {L : Addr} {q r : Addr × Obj} {tl tl' news : List (Addr × Obj)} (N : News h₀ L h (q :: (tl ++ r :: (tl' ++ news)))) : News h₀ L h (q :: ((tl ++ r :: tl') ++ news)) := by
  rw [List.append_assoc, List.cons_append]; exact N
theorem pm_next {h₀ h' : Heap} {L I rowsA lim x9 dx9 : Addr} {oI lo : Obj} {s₁ : Shared} {Q : Flow → Shared → Prop} {tk : Nat} {m' : Str → Option Value} {P : Params} {rs : List Rw} {keep : List (Addr × Obj)} {i ne : Nat} {vs : List Value} {tl : List (Addr × Obj)} {its : List It} {r : Rw} {C : Addr} {sec k j : Int} {t1 t2 t3 t4 t5 t6 : Tok}
    (F : Fr h₀ L h' m') (hm : m' (Str.ofString "limits") = some (.ref lim)) (N : News h₀ L h' ((x9, instObj C dx9) :: (dx9, itemDict P k j t1 t2 t3 t4 t5 t6) :: (I, oI) :: (lim, listOf (vs.toArray.push (.ref x9)) (ne + 1)) :: (tl ++ (rowsA, lo) :: keep)))
    (o : @LT.lt Nat _ I dx9 ∧ @LT.lt Nat _ lim dx9 ∧ AllLt dx9 (tl ++ (rowsA, lo) :: keep)) (o2 : @LT.lt Nat _ dx9 x9) (hI : ∀ p ∈ (lim, listOf vs.toArray ne) :: (tl ++ (rowsA, lo) :: keep), p.1 ≠ I) (hne : ∀ p ∈ tl ++ (rowsA, lo) :: keep, p.1 ≠ lim)
    (hit : ItemsIn P tl vs its) (hmap : mapO rowItem (rs.take i) = some its) (hlen : its.length = i) (hri : rs[i]? = some r) (hrow : rowItem r = some (C, sec, k, j)) :
    TPost h₀ L I oI rowsA lo (PmJ P lim rs ((rowsA, lo) :: keep) (i + 1)) s₁ Q .next { s₁ with heap := h', toks := tk } := by
  refine TPost.next (nx' := (lim, listOf (List.toArray (vs ++ [.ref x9])) (ne + 1)) :: (((x9, instObj C dx9) :: (dx9, itemDict P k j t1 t2 t3 t4 t5 t6) :: tl) ++ (rowsA, lo) :: keep)) F ?_ ?_ ?_ ⟨vs ++ [.ref x9], ne + 1, (x9, instObj C dx9) :: (dx9, itemDict P k j t1 t2 t3 t4 t5 t6) :: tl, its ++ [(C, sec, k, j)], hm, rfl, ?_, mapO_take_snoc _ _ _ _ _ _ hri hmap hrow, ?_, by simp [hlen]⟩
  · rw [List.push_toArray] at N
    intro p hp
    refine N p ?_
    simp only [List.mem_cons, List.mem_append, List.cons_append] at hp ⊢
    rcases hp with h | h | h | h | h | h | h <;> simp [h]
  · intro p hp
    simp only [List.mem_cons, List.mem_append, List.cons_append] at hp
    rcases hp with rfl | rfl | rfl | h
    · exact hI (lim, listOf vs.toArray ne) (.head _)
    · show x9 ≠ I
      exact fun e => by subst e; exact absurd (Nat.lt_trans o2 o.1) (by intro h; have := Nat.lt_irrefl x9; omega)
    · exact Nat.ne_of_gt o.1
    · exact hI p (.tail _ (List.mem_append.mpr (by simpa using h)))
  · simp
  · exact (hit.mono fun p hp => .tail _ (.tail _ hp)).snoc ⟨x9, dx9, t1, t2, t3, t4, t5, t6, rfl, .head _, .tail _ (.head _)⟩
  · intro p hp
    simp only [List.mem_cons, List.mem_append, List.cons_append] at hp
    rcases hp with rfl | rfl | h
    · exact Nat.ne_of_gt (Nat.lt_trans o.2.1 o2)
    · exact Nat.ne_of_gt o.2.1
    · exact hne p (List.mem_append.mpr (by simpa using h))
local macro_rules | `(tactic| k_room) => `(tactic| ktr_room)
local macro_rules | `(tactic| k_units) => `(tactic| ktr_units)
local macro_rules | `(tactic| walk_at "call ref") => `(tactic| (k_here; k_dflt ((show wpAny _ _ (call (Value.ref 327) [Value.str _ _]) _ _ _); refine' read_limits_claim _ _ _ _ _ _ _ _ _ _ _ _ _ _ _ _ _ _ _ ?k1 ?k2 ?k3 ?k4 ?k5 ?k6 ?k7 ?k8 ?k9 ?_; (case k1 => k_asm); (case k2 => k_asm); (case k3 => k_asm); (case k4 => k_asm); (case k5 => k_asm); (case k6 => (first | exact rfl | assumption)); (case k7 => (first | exact ⟨by omega, by with_reducible assumption, by with_reducible assumption⟩)); (case k8 => ktr_room); (case k9 => ktr_units)); refine And.intro ?_ ?_; (intro e9 h9 tk9 F9 N9; (try dsimp only); (try k_fold)); rotate_left; (intro rs9 e9 l9 a9 vs9 ne9 tl9 h9 tk9 F9 N9 r9 o9; (try dsimp only); (try k_fold)); rotate_left))
local macro_rules | `(tactic| walk_at "pyIter ref") => `(tactic| ((rename Fr _ _ _ _ => lF'); (rename News _ _ _ _ => lN'); k_extra "W"))
local macro_rules | `(tactic| walk_at "exec For Tuple Name cons nil") => `(tactic| (k_here; (rename Fr _ _ _ _ => lF'); k_dflt (refine' For_turns ?lF ?_ ?ls ?lE; (case ls => intro _; rfl); (case lE => passes_own); (case lF => with_unfolding_all exact lF'))))
local macro_rules | `(tactic| k_all) => `(tactic| with_reducible assumption)
local macro_rules | `(tactic| size_fits) => `(tactic| with_reducible assumption)
local macro_rules | `(tactic| walk_at "call ref") => `(tactic| (k_here; k_dflt ((show wpAny _ _ (call (Value.ref 348) [Value.str _ _, Value.int _ _, _]) _ _ _); refine' gran_claim _ _ _ _ _ _ _ _ _ _ _ _ _ _ _ _ _ _ _ _ _ _ ?k1 ?k2 ?k3 ?k4 ?k5 ?k6 ?k7 ?k8 ?k9 ?_; (case k1 => k_asm); (case k2 => k_asm); (case k3 => k_asm); (case k4 => k_asm); (case k5 => k_asm); (case k6 => (first | exact rfl | assumption)); (case k7 => (first | exact ⟨by omega, by with_reducible assumption, Or.inl ⟨rfl, rfl⟩⟩ | exact ⟨by omega, by with_reducible assumption, Or.inr ⟨_, rfl, by first | with_reducible assumption | omega⟩⟩)); (case k8 => ktr_room); (case k9 => ktr_units)); refine And.intro ?_ ?_; (intro C9 sec9 g9 x9 dx9 t91 t92 t93 t94 t95 t96 h9 tk9 F9 N9 o91 o92; (try k_lt o91); (try dsimp only); (try k_fold)); rotate_left; (intro g9 e9 h9 tk9 h29 F29 U9 R9; (try dsimp only)); rotate_left))
local macro_rules | `(tactic| walk_at "call ref") => `(tactic| (k_here; k_dflt (show wpAny _ _ (call (Value.ref 348) [Value.str _ _, Value.int _ _, Value.str _ _]) _ _ _); exfalso; omega))
local macro_rules | `(tactic| walk_at "call type:int") => `(tactic| (k_here; (with_reducible show wpAny _ _ (call (Value.type "int") [Value.str _ _]) _ _ _); refine KIN.call_text (int_ne (by with_reducible assumption) (by with_reducible assumption) (by with_reducible assumption)) (by omega) ?_))
local macro_rules | `(tactic| walk_at "leaving ref") => `(tactic| (k_here; k_dflt (first | (refine' leave_newS ?k1 ?k0 ?k2 ?k3 ?_; (case k0 => assumption); (case k1 => assumption); (case k2 => assumption); (case k3 => k_asm); k_whole; intro h' S' R' U'; (try dsimp only at S' R' U' ⊢)) | (refine' leave_onSN ?k1 ?k2 ?k3 ?k4 ?_; (case k3 => assumption); (case k1 => assumption); (case k4 => assumption); (case k2 => assumption); k_whole; intro h' S' R' U'; (try dsimp only at S' R' U' ⊢)))))
set_option maxRecDepth 100000 in
set_option maxHeartbeats 8000000 in
theorem parse_many_claim {prog : Program} {w : World} {p loose mean mg mb} {news} (x : Str) (tx : Tok) :
  CtrX prog w (Jb.a.heap_1_1 w.params) p loose mean mg mb 334 8 news [.str x tx] (x.length ≤ 600 ∧ Asc x ∧ 58 ∉ cl x ∧ ∀ rs, readsF x = some rs → ∀ r ∈ rs, RowOk r) (fun base l h₀ L m s Q E =>
    (∀ its, pmF x = some its → (its.length : Int) ≤ 601 → ∀ lim vs ne tl h' tk', Fr h₀ L h' m → News h₀ L h' ((lim, listOf (List.toArray vs) ne) :: (tl ++ news)) → ItemsIn w.params tl vs its → (∀ p ∈ news, p.1 < lim) → Q (.ref lim) { s with heap := h', toks := tk' }) ∧
    (pmF x = none → VErr news base l h₀ L m s E)) := by
  dsimp only [CtrX]; intros; rename_i hpre _ _ hret; obtain ⟨hx, hA, hcol, hrow⟩ := hpre
  refine wpAny_call ?_
  k_dflt ktr_enter
  k_with_none
  k_with "W" => ((rename Fr _ _ _ _ => lF2); (rename News _ _ _ _ => lN2); refine' pm_turns w.params ?hL (by with_reducible assumption) ?hh ?hF ?hN ?hlim ?ho ?kt ?kd; (case hF => with_unfolding_all exact lF2); (case hN => with_unfolding_all exact lN2); (case hL => exact rfl); (case hh => exact rfl); (case hlim => with_unfolding_all rfl); (case ho => with_reducible assumption))
  w_top off
  k_steps
  · exact hret.2 (by unfold pmF; rw [(by with_reducible assumption : readsF x = none)]) _ _ _ _ (by with_reducible assumption) (by with_reducible assumption) (by with_reducible assumption)
  · unfold Hold
    rintro i ⟨a, b, c, pl⟩ d t1 t2 t3 t4 vs ne tl its m₁ h tk I oI hri hd hit hmap hlen hne hI hlI F₁ N₁
    obtain ⟨q1, q2, q3, q4, q5, q6, q7⟩ := hrow _ (by with_reducible assumption) _ (List.mem_of_getElem? hri)
    dsimp only at q1 q2 q3 q4 q5 q6 q7 hd
    have hsz : vs.toArray.size ≤ sizeLine := by
      rw [List.size_toArray, sizeLine_eq, hit.length, hlen]
      have := (List.getElem?_eq_some_iff.mp hri).1
      omega
    have hT : IsTup h d #[.str a t1, .str b t2, .str c t3, .int pl t4] := ⟨_, (N₁ (d, _) (.tail _ (.tail _ (List.mem_append_right _ (.tail _ (List.mem_append_left _ hd)))))).1, rfl, 0, rfl⟩
    have hal : (a.length : Int) ≠ 0 := fun e => q2 (len0.mpr (by omega))
    k_steps
    · exact pm_next (by with_reducible assumption) rfl (by with_reducible assumption) (by with_reducible assumption) (by with_reducible assumption) hI hne hit hmap hlen hri (ri1 (by with_reducible assumption) (by with_reducible assumption) (by with_reducible assumption))
    · exact hret.2 (pm_none (by with_reducible assumption) hri (by with_reducible assumption)) _ _ _ _ (by with_reducible assumption) (by with_reducible assumption) (RaisedSN.sub (by with_reducible assumption) (fun p hp => .tail _ (.tail _ (List.mem_append_right _ (.tail _ (List.mem_append_right _ hp))))))
    · exact pm_next (by with_reducible assumption) rfl (by with_reducible assumption) (by with_reducible assumption) (by with_reducible assumption) hI hne hit hmap hlen hri (ri2 (by with_reducible assumption) (by with_reducible assumption) (by with_reducible assumption))
    · exact hret.2 (pm_none (by with_reducible assumption) hri (by with_reducible assumption)) _ _ _ _ (by with_reducible assumption) (by with_reducible assumption) (RaisedSN.sub (by with_reducible assumption) (fun p hp => .tail _ (.tail _ (List.mem_append_right _ (.tail _ (List.mem_append_right _ hp))))))
    · exact pm_next (by with_reducible assumption) rfl (by with_reducible assumption) (by with_reducible assumption) (by with_reducible assumption) hI hne hit hmap hlen hri (ri3 (by with_reducible assumption) (by with_reducible assumption))
    · exact hret.2 (pm_none (by with_reducible assumption) hri (by with_reducible assumption)) _ _ _ _ (by with_reducible assumption) (by with_reducible assumption) (RaisedSN.sub (by with_reducible assumption) (fun p hp => .tail _ (.tail _ (List.mem_append_right _ (.tail _ (List.mem_append_right _ hp))))))
  · unfold Hold
    rintro vs ne tl its m₁ h tk hit hmap hlen F₁ N₁
    k_steps
    exact hret.1 its (pm_some (by with_reducible assumption) hmap) (by omega) _ _ _ _ _ _ (by with_reducible assumption) (news_assoc (by with_reducible assumption)) (hit.mono fun _ hp => List.mem_append_left _ hp) (lt_tail (by with_reducible assumption))
end Jb
end
section
open PySem PySem.W PyProof.Rows PySem.Calls
namespace Jb
theorem restF_ne {x : Str} : ∀ {n : Nat} {r : Rw} {rs : List Rw}, restF x n r = some rs → rs ≠ []
  | 0, _, _, h => by cases h
  | n + 1, r, rs, h => by
    unfold restF at h
    split at h
    · cases h; simp
    · split at h
      · split at h
        · cases h
        · obtain ⟨q, _, rfl⟩ := Option.map_eq_some_iff.mp h
          simp
      · cases h
theorem mapO_ne {α β : Type} {f : α → Option β} {l : List α} {bs : List β} (h : mapO f l = some bs) (hl : l ≠ []) : bs ≠ [] := by
  cases l with
  | nil => exact absurd rfl hl
  | cons a r =>
    unfold mapO at h
    split at h
    · cases h
    · obtain ⟨q, _, rfl⟩ := Option.map_eq_some_iff.mp h
      simp
theorem pmF_ne {x : Str} {its : List It} (h : pmF x = some its) : its ≠ [] := by
  unfold pmF at h
  split at h
  · cases h
  · rename_i rs hr
    refine mapO_ne h ?_
    unfold readsF at hr
    split at hr
    · cases hr
    · exact restF_ne hr
theorem ItemsIn.head {P : Params} {tl : List (Addr × Obj)} {vs : List Value} {its : List It} (h : ItemsIn P tl vs its) (hne : its ≠ []) : ∃ v vr it ir, vs = v :: vr ∧ its = it :: ir ∧ ItemIn P tl v it := by
  cases h with
  | nil => exact absurd rfl hne
  | cons h _ => exact ⟨_, _, _, _, rfl, rfl, h⟩
theorem sz_items {P : Params} {tl : List (Addr × Obj)} {vs : List Value} {its : List It} (h : ItemsIn P tl vs its) (l : (its.length : Int) ≤ 601) : vs.toArray.size ≤ sizeLine := by
  rw [List.size_toArray, sizeLine_eq, h.length]; omega
local macro_rules | `(tactic| size_fits) => `(tactic| with_reducible assumption)
local macro_rules | `(tactic| k_room) => `(tactic| ktr_room)
local macro_rules | `(tactic| k_units) => `(tactic| ktr_units)
local macro_rules | `(tactic| walk_at "call ref") => `(tactic| (k_here; k_dflt ((show wpAny _ _ (call (Value.ref 334) [Value.str _ _]) _ _ _); refine' parse_many_claim _ _ _ _ _ _ _ _ _ _ _ _ _ _ _ _ _ _ _ ?k1 ?k2 ?k3 ?k4 ?k5 ?k6 ?k7 ?k8 ?k9 ?_; (case k1 => k_asm); (case k2 => k_asm); (case k3 => k_asm); (case k4 => k_asm); (case k5 => k_asm); (case k6 => (first | exact rfl | assumption)); (case k7 => with_reducible assumption); (case k8 => ktr_room); (case k9 => ktr_units)); refine And.intro ?_ ?_; (intro its9 e9 l9 a9 vs9 ne9 tl9 h9 tk9 F9 N9 r9 o9; (have z9 := sz_items r9 l9); (obtain ⟨v9, vr9, it9, ir9, e19, e29, i9⟩ := r9.head (pmF_ne e9)); subst e19; subst e29; (try dsimp only); (try k_fold)); rotate_left; (intro g9 e9 h9 tk9 h29 F29 U9 R9; (try dsimp only)); rotate_left))
local macro_rules | `(tactic| walk_at "leaving ref") => `(tactic| (k_here; k_dflt (first | (refine' leave_newS ?k1 ?k0 ?k2 ?k3 ?_; (case k0 => assumption); (case k1 => assumption); (case k2 => assumption); (case k3 => k_asm); k_whole; intro h' S' R' U'; (try dsimp only at S' R' U' ⊢)) | (refine' leave_onSN ?k1 ?k2 ?k3 ?k4 ?_; (case k3 => assumption); (case k1 => assumption); (case k4 => assumption); (case k2 => assumption); k_whole; intro h' S' R' U'; (try dsimp only at S' R' U' ⊢)))))
set_option maxRecDepth 100000 in
set_option maxHeartbeats 8000000 in
theorem parse_claim {prog : Program} {w : World} {p loose mean mg mb} {news} (x : Str) (tx : Tok) :
  CtrX prog w (Jb.a.heap_1_1 w.params) p loose mean mg mb 341 9 news [.str x tx] (x.length ≤ 600 ∧ Asc x ∧ 58 ∉ cl x ∧ ∀ rs, readsF x = some rs → ∀ r ∈ rs, RowOk r) (fun base l h₀ L m s Q E =>
    (∀ it ir, pmF x = some (it :: ir) → ∀ v tl h' tk', Fr h₀ L h' m → News h₀ L h' (tl ++ news) → ItemIn w.params tl v it → Q v { s with heap := h', toks := tk' }) ∧
    (pmF x = none → VErr news base l h₀ L m s E)) := by
  dsimp only [CtrX]; intros; rename_i hpre _ _ hret
  refine wpAny_call ?_
  k_dflt ktr_enter
  k_with_none
  w_top off
  k_steps
  · exact hret.1 _ _ (by with_reducible assumption) _ _ _ _ (by with_reducible assumption) (cb_drop (by with_reducible assumption) fun _ hp => .tail _ (.tail _ hp)) (by with_reducible assumption)
  · exact hret.2 (by with_reducible assumption) _ _ _ _ (by with_reducible assumption) (by with_reducible assumption) (by with_reducible assumption)
end Jb
end
section
open PySem PySem.W PyProof.Rows PySem.Calls
namespace Jb
section
variable {prog : Program} {w : World} {M : Model} {A A₀ : Around} {E : Value → Shared → Prop} {s : Shared} {K : Frag} {x C L : Addr} {h₀ : Heap} {m : Str → Option Value} {items : Array Value} {n : Nat} {xd : Option Addr} {xs : Array (Option Value)}
set_option maxRecDepth 100000 in
set_option maxHeartbeats 4000000 in
theorem tupeq_tree {P : Fin → Shared → Prop} {o : Obj} (hx : s.heap.get? x = some o) (hd : o.data = .seq items n) (LI : Looks (model prog w) s.heap (isInstance (.ref x) (.type "tuple")) true)
    (h : P (.done (.ret (.bool true))) s) : wpAny (model prog w) A (Builtin.«tuple.__eq__» ⟨[.ref x, .ref x], []⟩) P E s := by
  show wpAny _ _ (isInstance (.ref x) (.type "tuple") >>= _) _ _ s
  refine wpAny_bind (LI.here ?_)
  simp only [Bool.not_true, Bool.false_eq_true, if_false]
  refine wpAny_bind (wpAny_tupleItemsOf hx hd ?_)
  refine wpAny_bind (wpAny_tupleItemsOf hx hd ?_)
  refine wpAny_bind ?_
  refine wpAny_forIn_list _ (fun rest r s' => r.1 = none ∧ s' = s ∧ ∃ ys, rest = List.zip ys ys) _ ?_ ?_ _ _ ⟨rfl, rfl, items.toList, rfl⟩
  · rintro ⟨u, v⟩ rest r s' ⟨hr, rfl, ys, hz⟩
    cases ys with
    | nil => simp at hz
    | cons y ys =>
      simp only [List.zip_cons_cons, List.cons.injEq, Prod.mk.injEq] at hz
      obtain ⟨⟨rfl, rfl⟩, rfl⟩ := hz
      refine wpAny_bind ((SeqAt.EqAt.same (A := A) _) prog w _ _ ?_)
      simp only [Bool.not_true, Bool.false_eq_true, if_false]
      exact wpAny_pure ⟨rfl, rfl, ys, rfl⟩
  · rintro ⟨b1, b2⟩ s' ⟨hr, rfl, ys, hz⟩
    simp only at hr
    subst hr
    simp only [Builtin.Tuple.tupleCompareSizes, beq_self_eq_true]
    exact wpAny_pure h
theorem tupeq_K {Q : Value → Shared → Prop} (hu : A.units < cLine) (X : K.In s.heap) (hx : K.lookup x = some ⟨.ref C, xd, .seq items n, xs⟩) (hm : mroIn K C (.type "tuple") = some true) (he : findIn K (.ref C) "__eq__" = some (some (.builtin "tuple.__eq__")))
    (h : Q (.bool true) s) : wpAny (model prog w) A (compareOp .Eq (.ref x) (.ref x)) Q E s := by
  have hxg : s.heap.get? x = some _ := X _ _ hx
  have LT : Looks (model prog w) s.heap (typeOf (.ref x)) (.ref C) := (Looks.ld hxg).andThen .now
  have LI : Looks (model prog w) s.heap (isInstance (.ref x) (.type "tuple")) true := LT.andThen (looks_mroIn X hm)
  have cl : wpAny (model prog w) A (call (.builtin "tuple.__eq__") [.ref x, .ref x]) (fun v s' => v = .bool true ∧ Q v s') E s := by
    refine wpAny_call (codeAny_call_builtin PyProof.Rows.slot_tuple_eq.plain PyProof.Rows.entry_tuple_eq (check_slot (i := "tuple.__eq__") (owner := "tuple") (n := "__eq__") (by decide +kernel) (by decide +kernel) LI (PyProof.Rows.args_tuple_eq _ _) ?_))
    exact tupeq_tree hxg rfl LI ⟨rfl, h⟩
  have bnd : wpAny (model prog w) A (callSpecialIfBound? (.ref x) "__eq__" [.ref x]) (fun r s' => ∃ v, r = some v ∧ v = .bool true ∧ Q v s') E s := by
    simp only [callSpecialIfBound?, bindSpecialIfBound?]
    refine wpAny_holding (wpAny_bind (wpAny_bind (wpAny_bind (LT.here ((looks_findIn X he).here ?_)))))
    refine wpAny_bind (wpAny_askSetting (wpAny_ite ?_))
    have fin : wpAny (model prog w) A (call (.builtin "tuple.__eq__") ([.ref x] ++ [.ref x]) >>= fun v => pure (some v)) (fun r s' => ∃ v, r = some v ∧ v = .bool true ∧ Q v s') E s := wpAny_bind (wpAny_mono cl (fun v s' h' => wpAny_pure ⟨v, rfl, h'⟩) fun _ _ h' => h')
    have bd : bindSpecial (.builtin "tuple.__eq__") (.ref x) = pure (.builtin "tuple.__eq__", [.ref x]) := PyProof.Rows.slot_tuple_eq.bind _
    split
    · rw [bd]; exact wpAny_bind (wpAny_pure (wpAny_pure (by exact fin)))
    · rw [bd]; exact wpAny_tryCatch (wpAny_bind (wpAny_pure (wpAny_pure (by exact fin))))
  have one : wpAny (model prog w) A (tryCompare (.ref x) (cmpInfo .Eq).2.1 (.ref x)) (fun r s' => ∃ v, r = some v ∧ Q v s') E s := by
    unfold tryCompare
    refine wpAny_bind (wpAny_mono bnd (fun r s' z => ?_) fun _ _ e => e)
    obtain ⟨v, rfl, rfl, hq⟩ := z
    exact wpAny_pure ⟨_, rfl, hq⟩
  refine cmp_ofEq ?_
  unfold richCompare
  simp only [oneThing_ref]
  refine wpAny_holding (wpAny_bind (wpAny_cRoomFor hu ?_))
  refine wpAny_bind (LT.here (wpAny_bind (LT.here ?_)))
  simp only [bne_self_eq_false, Bool.false_eq_true, if_false]
  refine wpAny_bind (wpAny_pure ?_)
  simp only [Bool.false_eq_true, if_false]
  refine wpAny_bind (wpAny_mono one (fun r s' z => ?_) fun _ _ e => e)
  obtain ⟨v, rfl, hq⟩ := z
  exact wpAny_pure hq
end
end Jb
end
section
open PySem PySem.W PyProof.Rows PySem.Calls
namespace Jb
local macro_rules | `(tactic| walk_at "no such key") => `(tactic| skip)
/-- a class of items as its instances are read -/
structure ItCls (K : Frag) (C g dx : Addr) (sec : Int) (nm : Str) (t1 t2 : Tok) : Prop where
  lk : K.lookup g = some ⟨.ref 132, some dx, .seq #[.int sec t1, .str nm t2] 0, #[]⟩
  ld : K.lookup dx = some (dictOf [] 0)
  pg : plainGet K C (Str.ofString "amount") = true
  hd : hasDictIn K C = true
  am : findIn K (.ref C) (Str.ofString "amount") = some none
  mu : findIn K (.ref C) (Str.ofString "multiples") = some none
  gr : findIn K (.ref C) (Str.ofString "GRANULARITY") = some (some (.ref g))
  ex : findIn K (.ref C) (Str.ofString "get_expiry") = some (some (.ref 167))
  eq : findIn K (.ref C) (Str.ofString "__eq__") = some (some (.ref 183))
  su : isIn K (.ref C) 200 = true
  nf : notFirst K C (.ref C) = true
  gn : specialIn K (.ref g) "__get__" = some none
  sl : 0 ≤ sec ∧ sec ≤ 40000000
theorem it219 (P : Params) : ∃ dx nm t1 t2, ItCls (Jb.a.heap_1_1 P) 219 216 dx 31104000 nm t1 t2 := ⟨_, _, _, _, by k_is, by k_is, by k_is, by k_is, by k_is, by k_is, by k_is, by k_is, by k_is, by k_is, by k_is, by k_is, by decide⟩
theorem inst_N {h₀ h : Heap} {L xx dx C : Addr} {news : List (Addr × Obj)} {od : Obj} (N : News h₀ L h news) (hx : (xx, instObj C dx) ∈ news) (hd : (dx, od) ∈ news) : InstAt h xx (instObj C dx) C (some od) :=
  ⟨(N _ hx).1, rfl, rfl, (N _ hd).1⟩
theorem it236 (P : Params) : ∃ dx nm t1 t2, ItCls (Jb.a.heap_1_1 P) 236 233 dx 2592000 nm t1 t2 := ⟨_, _, _, _, by k_is, by k_is, by k_is, by k_is, by k_is, by k_is, by k_is, by k_is, by k_is, by k_is, by k_is, by k_is, by decide⟩
theorem it253 (P : Params) : ∃ dx nm t1 t2, ItCls (Jb.a.heap_1_1 P) 253 250 dx 86400 nm t1 t2 := ⟨_, _, _, _, by k_is, by k_is, by k_is, by k_is, by k_is, by k_is, by k_is, by k_is, by k_is, by k_is, by k_is, by k_is, by decide⟩
theorem it270 (P : Params) : ∃ dx nm t1 t2, ItCls (Jb.a.heap_1_1 P) 270 267 dx 3600 nm t1 t2 := ⟨_, _, _, _, by k_is, by k_is, by k_is, by k_is, by k_is, by k_is, by k_is, by k_is, by k_is, by k_is, by k_is, by k_is, by decide⟩
theorem it287 (P : Params) : ∃ dx nm t1 t2, ItCls (Jb.a.heap_1_1 P) 287 284 dx 60 nm t1 t2 := ⟨_, _, _, _, by k_is, by k_is, by k_is, by k_is, by k_is, by k_is, by k_is, by k_is, by k_is, by k_is, by k_is, by k_is, by decide⟩
theorem it304 (P : Params) : ∃ dx nm t1 t2, ItCls (Jb.a.heap_1_1 P) 304 301 dx 1 nm t1 t2 := ⟨_, _, _, _, by k_is, by k_is, by k_is, by k_is, by k_is, by k_is, by k_is, by k_is, by k_is, by k_is, by k_is, by k_is, by decide⟩
local macro_rules | `(tactic| k_room) => `(tactic| ktr_room)
local macro_rules | `(tactic| k_units) => `(tactic| ktr_units)
local macro_rules | `(tactic| k_inst) => `(tactic| (refine' inst_N ?N ?h1 ?h2; (case N => k_asm); (case h1 => with_reducible assumption); (case h2 => with_reducible assumption)))
local macro_rules | `(tactic| walk_at "getAttr ref") => `(tactic| (k_here; k_dflt (first
  | (refine' get_own ?k1 ?k2 ?k3 ?k4 ?k5 ?k6 ?k7 ?k8 ?k9 ?_; (case k1 => k_asm); (case k2 => k_asm); (case k3 => k_inst); (case k4 => assumption); (case k5 => with_reducible assumption); (case k6 => with_reducible assumption); (case k7 => rfl); (case k8 => k_get); (case k9 => k_handed); k_whole)
  | (refine' get_cls ?k1 ?k2 ?k3 ?k4 ?k5 ?k6 ?k7 ?k8 ?k9 ?k10 ?_; (case k1 => k_asm); (case k2 => k_asm); (case k3 => k_inst); (case k4 => assumption); (case k5 => with_reducible assumption); (case k6 => with_reducible assumption); (case k7 => with_reducible assumption); (case k8 => rfl); (case k9 => decide +kernel); (case k10 => k_get); k_whole)
  | (refine' tattr_K (C := 132) ?k1 ?k2 ?k3 ?k4 ?k4b ?k4c ?k5 ?k6 ?k7 ?_; (case k1 => k_in); (case k2 => (refine' inst_K ?X ?h1 ?h2 ?h3 ?h4 ?h5; (case X => k_in); (case h1 => with_reducible assumption); (case h2 => rfl); (case h3 => rfl); (case h4 => rfl); (case h5 => with_reducible assumption))); (case k3 => k_is); (case k4 => k_is); (case k4b => k_is); (case k4c => k_is); (case k5 => k_is); (case k6 => k_is); (case k7 => k_is); k_whole))))
local macro_rules | `(tactic| walk_at "call ref") => `(tactic| (k_here; k_dflt ((show wpAny _ _ (call (Value.ref 43) [Value.ref 124, Value.ref _, Value.ref 132]) _ _ _); refine' tget_sec _ _ _ _ _ _ _ _ _ _ _ _ _ _ _ _ _ ?k1 ?k2 ?k3 ?k4 ?k5 ?k6 ?k7 ?k8 ?k9 ?_; (case k7 => exact ⟨by with_reducible assumption, by with_reducible assumption⟩); (case k1 => k_asm); (case k2 => k_asm); (case k3 => k_asm); (case k4 => k_asm); (case k5 => k_asm); (case k6 => (first | exact rfl | assumption)); (case k8 => ktr_room); (case k9 => ktr_units)); intro h9 tk9 F9 N9; (try dsimp only); (refine handed_on rfl ?_); (try dsimp only); (try k_fold)))
local macro_rules | `(tactic| mul_fits) => `(tactic| exact PySem.IntMulOk.of_left (PySem.intBits_le_64 (by omega) (by omega)))
set_option maxRecDepth 100000 in
set_option maxHeartbeats 8000000 in
theorem expiry_claim {prog : Program} {w : World} {p loose mean mg mb} {news} {C g gd xx dx : Addr} {sec : Int} {nm : Str} {u1 u2 : Tok} {k j : Int} {t1 t2 t3 t4 t5 t6 : Tok} :
  Ctr prog w (Jb.a.heap_1_1 w.params) p loose mean mg mb 167 4 news [.ref xx] (ItCls (Jb.a.heap_1_1 w.params) C g gd sec nm u1 u2 ∧ (xx, instObj C dx) ∈ news ∧ (dx, itemDict w.params k j t1 t2 t3 t4 t5 t6) ∈ news) (fun h₀ L m s Q E =>
    ∀ t h' tk', Fr h₀ L h' m → News h₀ L h' news → Q (.int (sec * j) t) { s with heap := h', toks := tk' }) := by
  dsimp only [Ctr]; intros; rename_i hpre _ _ hret; obtain ⟨⟨c1, c2, c3, c4, c5, c6, c7, c8, c9, c10, c11, c12, c13⟩, hx, hd⟩ := hpre
  refine wpAny_call ?_
  k_dflt ktr_enter
  k_with_none
  w_top off
  k_steps
  exact hret _ _ _ (by with_reducible assumption) (by with_reducible assumption)
local macro_rules | `(tactic| walk_at "compareOp Eq ref") => `(tactic| (k_here; k_dflt (refine' tupeq_K ?k1 ?k2 ?k3 ?k4 ?k5 ?_; (case k3 => with_reducible assumption); (case k1 => ktr_units); (case k2 => k_in); (case k4 => k_is); (case k5 => k_is); k_whole)))
local macro_rules | `(tactic| walk_at "call builtin:isinstance") => `(tactic| (k_here; k_dflt (refine' isi_call ?k1 ?k2 ?k3 ?k4 ?_; (case k1 => k_in); (case k2 => (intro M; exact InstAt.type (by k_inst))); (case k3 => with_reducible assumption); (case k4 => intro e; cases e); k_whole)))
set_option maxRecDepth 100000 in
set_option maxHeartbeats 8000000 in
theorem eq_claim {prog : Program} {w : World} {p loose mean mg mb} {news} {C g gd xx dx yy dy : Addr} {sec : Int} {nm : Str} {u1 u2 : Tok} {k j : Int} {t1 t2 t3 t4 t5 t6 v1 v2 v3 v4 v5 v6 : Tok} :
  Ctr prog w (Jb.a.heap_1_1 w.params) p loose mean mg mb 183 4 news [.ref xx, .ref yy] (ItCls (Jb.a.heap_1_1 w.params) C g gd sec nm u1 u2 ∧ (xx, instObj C dx) ∈ news ∧ (dx, itemDict w.params k j t1 t2 t3 t4 t5 t6) ∈ news ∧ (yy, instObj C dy) ∈ news ∧ (dy, itemDict w.params k j v1 v2 v3 v4 v5 v6) ∈ news) (fun h₀ L m s Q E =>
    ∀ h' tk', Fr h₀ L h' m → News h₀ L h' news → Q (.bool true) { s with heap := h', toks := tk' }) := by
  dsimp only [Ctr]; intros; rename_i hpre _ _ hret; obtain ⟨⟨c1, c2, c3, c4, c5, c6, c7, c8, c9, c10, c11, c12, c13⟩, hx, hd, hy, he⟩ := hpre
  refine wpAny_call ?_
  k_dflt ktr_enter
  k_with_none
  k_steps
  all_goals (rw [beq_self_eq_true]; exact hret _ _ (by with_reducible assumption) (by with_reducible assumption))
end Jb
end
section
open PySem PySem.W PyProof.Rows PySem.Calls
namespace Jb
section
variable {prog : Program} {w : World} {A : Around} {h₀ : Heap} {L : Addr} {m : Str → Option Value} {env : Env} {elt : Expr} {x : Str} {scope : Scope} {cl : List (Str × Addr)} {s : Shared} {S : List (Addr × Obj) → Prop} {P : Nat → Value → Prop} {Fin : List Value → List (Addr × Obj) → Prop} {news : List (Addr × Obj)}
/-- a comprehension by an own invariant -/
theorem comp_rest {n : Nat} (J : Nat → List Value → List (Addr × Obj) → Prop) (h0 : J 0 [] news)
    (turn : ∀ i v I oI C oC D m₂ ys nx h tk (E' : Value → Shared → Prop), i < n → P i v → J i ys nx → LCg.NsObj oC m₂ → m₂ x = some v → Fr h₀ L h m → News h₀ L h ((I, oI) :: (C, oC) :: (D, LCg.lst ys) :: nx) → LCg.Off3 I C D nx → ((@Ne Nat I C) ∧ (@Ne Nat I D) ∧ (@Ne Nat C D)) →
      wpAny (model prog w) A (eval elt (compEnvC scope cl C env)) (LCg.CompEnd h₀ L m { s with heap := h, toks := tk } I oI C oC D (LCg.lst ys) S (fun y nx' => J (i + 1) (ys ++ [y]) nx')) E' { s with heap := h, toks := tk })
    (fin : ∀ ys nx, J n ys nx → Fin ys nx) : LCg.CompRest prog w A h₀ L m env elt x scope cl s S P Fin n 0 [] news := by
  have key : ∀ (j i : Nat) (ys : List Value) (nx : List (Addr × Obj)), i + j = n → J i ys nx → LCg.CompRest prog w A h₀ L m env elt x scope cl s S P Fin j i ys nx := by
    intro j
    induction j with
    | zero =>
      intro i ys nx hi hy
      obtain rfl : i = n := by omega
      exact LCg.CompRest.zero (fin ys nx hy)
    | succ j ih =>
      intro i ys nx hi hy
      refine LCg.CompRest.succ ?_
      intro v I oI C oC D m₂ h tk E' hv hC hx F N off ne
      refine wpAny_mono (turn i v I oI C oC D m₂ ys nx h tk E' (by omega) hv hy hC hx F N off ne) (fun y s₂ hq => ?_) fun _ _ e => e
      obtain ⟨h', tk', nw, e, F', N', off', hS, hn⟩ := hq
      exact ⟨h', tk', nw, e, F', N', off', hS, ih (i + 1) _ _ (by omega) hn⟩
  exact key n 0 [] news (by omega) h0
/-- over a list on the ledger -/
theorem comp_led {Fin : Shared → List Value → List (Addr × Obj) → Prop} {ax : Addr} {vs : List Value} {k : Nat} {s₁ : Shared} (J : Nat → List Value → List (Addr × Obj) → Prop)
    (hh : A.handled = none) (F : Fr h₀ L s₁.heap m) (N : News h₀ L s₁.heap news) (hm : (ax, ({ cls := .type "list", data := .seq vs.toArray k } : Obj)) ∈ news) (hsz : vs.length ≤ sizeLine)
    (h0 : Hold (J 0 [] news))
    (turn : Hold (∀ i v I oI C oC D m₂ ys nx h tk (E' : Value → Shared → Prop), vs[i]? = some v → J i ys nx → LCg.NsObj oC m₂ → m₂ x = some v → Fr h₀ L h m → News h₀ L h ((I, oI) :: (C, oC) :: (D, LCg.lst ys) :: nx) → LCg.Off3 I C D nx → ((@Ne Nat I C) ∧ (@Ne Nat I D) ∧ (@Ne Nat C D)) →
      wpAny (model prog w) A (eval elt (compEnvC scope cl C env)) (LCg.CompEnd h₀ L m { s₁ with heap := h, toks := tk } I oI C oC D (LCg.lst ys) (LCg.SrcAt h₀ ax vs.toArray) (fun y nx' => J (i + 1) (ys ++ [y]) nx')) E' { s₁ with heap := h, toks := tk }))
    (fin : Hold (∀ g ys nx, J vs.length ys nx → Fin { s₁ with heap := g } ys nx)) : LCg.CompSrc prog w A h₀ L m env elt x scope cl Fin (.ref ax) s₁ :=
  .ledger hh F N hm (by simpa using hsz) fun g => comp_rest (fun i ys nx => J i ys nx) h0
    (fun i v I oI C oC D m₂ ys nx h tk E' hi hv hJ hC hx F N off ne => turn i v I oI C oC D m₂ ys nx h tk E' (by simpa using hv) hJ hC hx F N off ne) (fun ys nx hJ => fin g ys nx (by simpa using hJ))
end
end Jb
end
section
open PySem PySem.W PyProof.Rows PySem.Calls
namespace Jb
def Known (P : Params) (it : It) : Prop := ∃ g gd nm u1 u2, ItCls (Jb.a.heap_1_1 P) it.1 g gd it.2.1 nm u1 u2
theorem known_gr (P : Params) {x : Str} {C : Addr} {sec : Int} (h : grF x = some (C, sec)) (k j : Int) : Known P (C, sec, k, j) := by
  unfold grF at h
  split at h
  · cases h; obtain ⟨_, _, _, _, h⟩ := it219 P; exact ⟨_, _, _, _, _, h⟩
  split at h
  · cases h; obtain ⟨_, _, _, _, h⟩ := it236 P; exact ⟨_, _, _, _, _, h⟩
  split at h
  · cases h; obtain ⟨_, _, _, _, h⟩ := it253 P; exact ⟨_, _, _, _, _, h⟩
  split at h
  · cases h; obtain ⟨_, _, _, _, h⟩ := it270 P; exact ⟨_, _, _, _, _, h⟩
  split at h
  · cases h; obtain ⟨_, _, _, _, h⟩ := it287 P; exact ⟨_, _, _, _, _, h⟩
  split at h
  · cases h; obtain ⟨_, _, _, _, h⟩ := it304 P; exact ⟨_, _, _, _, _, h⟩
  cases h
theorem known_row (P : Params) {r : Rw} {it : It} (h : rowItem r = some it) : Known P it := by
  unfold rowItem at h
  obtain ⟨q, hq, rfl⟩ := Option.map_eq_some_iff.mp h
  exact known_gr P hq _ _
theorem mapO_all {α β : Type} {f : α → Option β} {p : β → Prop} (hp : ∀ a b, f a = some b → p b) : ∀ {l : List α} {bs : List β}, mapO f l = some bs → ∀ b ∈ bs, p b
  | [], bs, h => by cases h; exact fun _ h => nomatch h
  | a :: r, bs, h => by
    simp only [mapO] at h
    split at h
    · cases h
    · rename_i b hb
      obtain ⟨bs', h1, rfl⟩ := Option.map_eq_some_iff.mp h
      intro c hc
      rcases List.mem_cons.mp hc with rfl | hc
      · exact hp _ _ hb
      · exact mapO_all hp h1 c hc
theorem known_pm (P : Params) {x : Str} {its : List It} (h : pmF x = some its) : ∀ it ∈ its, Known P it := by
  unfold pmF at h
  split at h
  · cases h
  · exact mapO_all (fun _ _ => known_row P) h
theorem ItemsIn.get {P : Params} {tl : List (Addr × Obj)} {vs : List Value} {rs : List It} (h : ItemsIn P tl vs rs) : ∀ {i : Nat} {v : Value}, vs[i]? = some v → ∃ r, rs[i]? = some r ∧ ItemIn P tl v r := by
  induction h with
  | nil => intro i v e; cases e
  | cons h _ ih =>
    intro i v e
    cases i with
    | zero => cases e; exact ⟨_, rfl, h⟩
    | succ i => exact ih e
/-- a tuple that tells of an item -/
def TupIn (tl : List (Addr × Obj)) (v : Value) (it : It) : Prop := ∃ a t1 t2 t3 t4, v = .ref a ∧ (a, tupObj [.int it.2.1 t1, .int it.2.2.1 t2, .int it.2.2.2 t3, .int (it.2.1 * it.2.2.2) t4]) ∈ tl
inductive TupsIn (tl : List (Addr × Obj)) : List Value → List It → Prop
  | nil : TupsIn tl [] []
  | cons {v : Value} {vs : List Value} {r : It} {rs : List It} : TupIn tl v r → TupsIn tl vs rs → TupsIn tl (v :: vs) (r :: rs)
theorem TupIn.mono {tl tl' : List (Addr × Obj)} {v : Value} {it : It} (h : TupIn tl v it) (hs : ∀ p ∈ tl, p ∈ tl') : TupIn tl' v it :=
  let ⟨a, b, c, d, e, h1, h2⟩ := h
  ⟨a, b, c, d, e, h1, hs _ h2⟩
theorem TupsIn.mono {tl tl' : List (Addr × Obj)} {vs : List Value} {rs : List It} (h : TupsIn tl vs rs) (hs : ∀ p ∈ tl, p ∈ tl') : TupsIn tl' vs rs := by
  induction h with
  | nil => exact .nil
  | cons h _ ih => exact .cons (h.mono hs) ih
theorem TupsIn.snoc {tl : List (Addr × Obj)} {vs : List Value} {rs : List It} {v : Value} {r : It} (h : TupsIn tl vs rs) (h1 : TupIn tl v r) : TupsIn tl (vs ++ [v]) (rs ++ [r]) := by
  induction h with
  | nil => exact .cons h1 .nil
  | cons h _ ih => exact .cons h ih
def ToldJ (news : List (Addr × Obj)) (its : List It) (i : Nat) (ys : List Value) (nx : List (Addr × Obj)) : Prop := (∀ p ∈ news, p ∈ nx) ∧ TupsIn nx ys (its.take i)
theorem comp_told {prog : Program} {w : World} {A : Around} {h₀ : Heap} {L : Addr} {m : Str → Option Value} {env : Env} {elt : Expr} {y : Str} {scope : Scope} {cl : List (Str × Addr)} {news : List (Addr × Obj)} {Fin : Shared → List Value → List (Addr × Obj) → Prop} {ax : Addr} {vs : List Value} {k : Nat} {s₁ : Shared} {P : Params} {its : List It} {tl : List (Addr × Obj)} {x : Str}
    (eY : pmF x = some its) (rI : ItemsIn P tl vs its) (hh : A.handled = none) (F : Fr h₀ L s₁.heap m) (N : News h₀ L s₁.heap news) (hm : (ax, ({ cls := .type "list", data := .seq vs.toArray k } : Obj)) ∈ news) (hsz : vs.length ≤ sizeLine) (hsub : ∀ p ∈ tl, p ∈ news)
    (turn : Hold (∀ it xx dx t1 t2 t3 t4 t5 t6 g gd nm u1 u2 I oI C oC D m₂ ys nx h tk (E' : Value → Shared → Prop), ItCls (Jb.a.heap_1_1 P) it.1 g gd it.2.1 nm u1 u2 → (xx, instObj it.1 dx) ∈ nx → (dx, itemDict P it.2.2.1 it.2.2.2 t1 t2 t3 t4 t5 t6) ∈ nx → (ax, ({ cls := .type "list", data := .seq vs.toArray k } : Obj)) ∈ nx → LCg.NsObj oC m₂ → m₂ y = some (.ref xx) → Fr h₀ L h m → News h₀ L h ((I, oI) :: (C, oC) :: (D, LCg.lst ys) :: nx) → LCg.Off3 I C D nx → ((@Ne Nat I C) ∧ (@Ne Nat I D) ∧ (@Ne Nat C D)) →
      wpAny (model prog w) A (eval elt (compEnvC scope cl C env)) (LCg.CompEnd h₀ L m { s₁ with heap := h, toks := tk } I oI C oC D (LCg.lst ys) (LCg.SrcAt h₀ ax vs.toArray) (fun v nx' => (∀ p ∈ nx, p ∈ nx') ∧ TupIn nx' v it)) E' { s₁ with heap := h, toks := tk }))
    (fin : Hold (∀ g ys nx, (∀ p ∈ news, p ∈ nx) → TupsIn nx ys its → Fin { s₁ with heap := g } ys nx)) : LCg.CompSrc prog w A h₀ L m env elt y scope cl Fin (.ref ax) s₁ := by
  have hlen := rI.length
  refine comp_led (ToldJ news its) hh F N hm hsz ⟨fun _ h => h, .nil⟩ ?_ ?_
  · intro i v I oI C oC D m₂ ys nx h tk E' hv hJ hC hx F N off ne
    obtain ⟨it, hit, xx, dx, t1, t2, t3, t4, t5, t6, rfl, hxx, hdx⟩ := rI.get hv
    obtain ⟨g, gd, nm, u1, u2, hc⟩ := known_pm P eY it (List.mem_of_getElem? hit)
    refine wpAny_mono (turn it xx dx t1 t2 t3 t4 t5 t6 g gd nm u1 u2 I oI C oC D m₂ ys nx h tk E' hc (hJ.1 _ (hsub _ hxx)) (hJ.1 _ (hsub _ hdx)) (hJ.1 _ hm) hC hx F N off ne) (fun r s₂ hq => ?_) fun _ _ e => e
    obtain ⟨h', tk', nw, e, F', N', off', hS, hn, hT⟩ := hq
    refine ⟨h', tk', nw, e, F', N', off', hS, fun p hp => hn _ (hJ.1 p hp), ?_⟩
    rw [List.take_add_one, hit]
    exact (hJ.2.mono hn).snoc hT
  · intro g ys nx hJ
    refine fin g ys nx hJ.1 ?_
    have := hJ.2
    rwa [hlen, List.take_length] at this
theorem end1 {h₀ : Heap} {L I C D a ax : Addr} {m : Str → Option Value} {s₁ : Shared} {oI oC oD o : Obj} {its : Array Value} {k : Nat} {rest : Value → List (Addr × Obj) → Prop} {h' : Heap} {tk : Nat} {nx : List (Addr × Obj)}
    (F : Fr h₀ L h' m) (N : News h₀ L h' ((a, o) :: (I, oI) :: (C, oC) :: (D, oD) :: nx)) (off : LCg.Off3 I C D nx) (lt : @LT.lt Nat _ I a ∧ @LT.lt Nat _ C a ∧ @LT.lt Nat _ D a) (src : (ax, ({ cls := .type "list", data := .seq its k } : Obj)) ∈ nx) (r : rest (.ref a) ((a, o) :: nx)) :
    LCg.CompEnd h₀ L m s₁ I oI C oC D oD (LCg.SrcAt h₀ ax its) rest (.ref a) { s₁ with heap := h', toks := tk } :=
  .intro F N ((a, o) :: nx) (fun p hp => by simp only [List.mem_cons] at hp ⊢; rcases hp with h | h | h | h | h <;> simp [h]) ⟨⟨Nat.ne_of_gt lt.1, Nat.ne_of_gt lt.2.1, Nat.ne_of_gt lt.2.2⟩, off⟩ (.inr ⟨_, .tail _ src, rfl, _, rfl⟩) r
theorem sub_head {prog : Program} {w : World} {A : Around} {E : Value → Shared → Prop} {s : Shared} {h₀ : Heap} {L D : Addr} {news : List (Addr × Obj)} {v : Value} {vs : List Value} {n : Nat} {u : Tok} {value slice : PySem.Expr} {Q : Value → Shared → Prop} (N : News h₀ L s.heap news) (hm : (D, listOf (v :: vs).toArray n) ∈ news) (h : Q v s)
    (hs : subscripted slice false (.ref D) (.int 0 u) = operate [.ref D, .int 0 u] (getItem (.ref D) (.int 0 u))) :
    wpAny (model prog w) A (subscriptTail value slice (.ref D) (.int 0 u)) Q E s :=
  tail_any (PySem.IsL.isList (n := n) (N _ hm).1).typeIs slot_list_getitem.lookup (wpAny_getItem_list (PySem.IsL.isList (n := n) (N _ hm).1) (by decide) (by decide) (by simp) h) hs
theorem cmpBack_bool {Q : Value → Shared → Prop} {b : Bool} {s : Shared} (h : Q (.bool b) s) : PySem.W.CmpBack Q (.bool b) s := h
/-- a contract of a def that catches, called from the law's own frame -/
abbrev Ctr0 (prog : Program) (w : World) (K : Frag) (p : Program) (loose : List Str) (mean : ExcName → Option Value) (mg mb : Str → Option Value) (f : Addr) (n : Nat) (news : List (Addr × Obj)) (vs : List Value) (pre : Prop)
    (R : Heap → Addr → (Str → Option Value) → Shared → (Value → Shared → Prop) → (Value → Shared → Prop) → Prop) : Prop :=
  ∀ (dp un : Nat) (gd : Option (List Code)) (cn : Str) (cs : Scope) (a : Addr) (ccd : Value) (A₀ : Around) (base h₀ : Heap) (L : Addr) (m : Str → Option Value) (s : Shared) (Q E : Value → Shared → Prop),
    Below A₀ base [] h₀ → Fr h₀ L s.heap m → K.In h₀ → News h₀ L s.heap news → Top p loose mean mg mb h₀ → K.In base → Top p loose mean mg mb base → cs.kind = .function →
    pre → dp + n < recursionLimit → un + 8 * n < cLine → R h₀ L m s Q E →
      wpAny (model prog w) (ktrTop dp un gd cn cs L a ccd [] []) (call (.ref f) vs) Q E s
local macro_rules | `(tactic| k_room) => `(tactic| ktr_room)
local macro_rules | `(tactic| k_units) => `(tactic| ktr_units)
local macro_rules | `(tactic| size_fits) => `(tactic| with_reducible assumption)
local macro_rules | `(tactic| walk_at "call ref") => `(tactic| (k_here; k_dflt ((show wpAny _ _ (call (Value.ref 334) [Value.str _ _]) _ _ _); refine' parse_many_claim _ _ _ _ _ _ _ _ _ _ _ _ _ _ _ _ _ _ _ ?k1 ?k2 ?k3 ?k4 ?k5 ?k6 ?k7 ?k8 ?k9 ?_; (case k1 => k_asm); (case k2 => k_asm); (case k3 => k_asm); (case k4 => k_asm); (case k5 => k_asm); (case k6 => (first | exact rfl | assumption)); (case k7 => with_reducible assumption); (case k8 => ktr_room); (case k9 => ktr_units)); refine And.intro ?_ ?_; (intro its9 e9 l9 a9 vs9 ne9 tl9 h9 tk9 F9 N9 r9 o9; (have z9 := sz_items r9 l9); (obtain ⟨v9, vr9, it9, ir9, e19, e29, i9⟩ := r9.head (pmF_ne e9)); subst e19; subst e29; (try dsimp only); (try k_fold)); rotate_left; (intro g9 e9 h9 tk9 h29 F29 U9 R9; (try dsimp only)); rotate_left))
local macro_rules | `(tactic| walk_at "call ref") => `(tactic| (k_here; k_dflt ((show wpAny _ _ (call (Value.ref 341) [Value.str _ _]) _ _ _); refine' parse_claim _ _ _ _ _ _ _ _ _ _ _ _ _ _ _ _ _ _ _ ?k1 ?k2 ?k3 ?k4 ?k5 ?k6 ?k7 ?k8 ?k9 ?_; (case k1 => k_asm); (case k2 => k_asm); (case k3 => k_asm); (case k4 => k_asm); (case k5 => k_asm); (case k6 => (first | exact rfl | assumption)); (case k7 => with_reducible assumption); (case k8 => ktr_room); (case k9 => ktr_units)); first
  | ((rename pmF _ = some _ => eY); refine And.intro ?_ (fun eN => by rw [eN] at eY; cases eY); (intro it9 ir9 e9 v9 tl9 h9 tk9 F9 N9 i9; (obtain ⟨e19, e29⟩ := List.cons.inj (Option.some.inj (e9.symm.trans eY)); subst e19; subst e29); (try dsimp only); (try k_fold)))
  | ((rename pmF _ = none => eN); refine And.intro (fun it9 ir9 e9 => by rw [eN] at e9; cases e9) ?_; (intro g9 e9 h9 tk9 h29 F29 U9 R9; (try dsimp only)))))
local macro_rules | `(tactic| walk_at "exec Assign cons ListComp") => `(tactic| (k_here; k_dflt (refine LCg.Assign_ListComp_U (F₀ := by k_asm) (by rfl) (by with_unfolding_all rfl) (by rfl) (by decide) (by rfl) (by decide) (by rfl) (by rfl) (by rfl) ?_)))
theorem mem_of {α : Type} {a : α} {l : List α} (h : a ∈ l) : List.Mem a l := h
local macro_rules | `(tactic| k_mem) => `(tactic| first | with_reducible assumption | (refine mem_of ?_; with_reducible assumption))
local macro_rules | `(tactic| k_inst) => `(tactic| (refine' inst_N ?N ?h1 ?h2; (case N => k_asm); (case h1 => k_mem); (case h2 => k_mem)))
local macro_rules | `(tactic| walk_at "getAttr ref") => `(tactic| (k_here; k_dflt (first
  | (refine' get_own ?k1 ?k2 ?k3 ?k4 ?k5 ?k6 ?k7 ?k8 ?k9 ?_; (case k1 => k_asm); (case k2 => k_asm); (case k3 => k_inst); (case k4 => assumption); (case k5 => with_reducible assumption); (case k6 => with_reducible assumption); (case k7 => rfl); (case k8 => k_get); (case k9 => k_handed); k_whole)
  | (refine' get_cls ?k1 ?k2 ?k3 ?k4 ?k5 ?k6 ?k7 ?k8 ?k9 ?k10 ?_; (case k1 => k_asm); (case k2 => k_asm); (case k3 => k_inst); (case k4 => assumption); (case k5 => with_reducible assumption); (case k6 => with_reducible assumption); (case k7 => with_reducible assumption); (case k8 => rfl); (case k9 => decide +kernel); (case k10 => k_get); k_whole)
  | (refine' tattr_K (C := 132) ?k1 ?k2 ?k3 ?k4 ?k4b ?k4c ?k5 ?k6 ?k7 ?_; (case k1 => k_in); (case k2 => (refine' inst_K ?X ?h1 ?h2 ?h3 ?h4 ?h5; (case X => k_in); (case h1 => with_reducible assumption); (case h2 => rfl); (case h3 => rfl); (case h4 => rfl); (case h5 => with_reducible assumption))); (case k3 => k_is); (case k4 => k_is); (case k4b => k_is); (case k4c => k_is); (case k5 => k_is); (case k6 => k_is); (case k7 => k_is); k_whole))))
local macro_rules | `(tactic| walk_at "call ref") => `(tactic| (k_here; k_dflt ((show wpAny _ _ (call (Value.ref 43) [Value.ref 124, Value.ref _, Value.ref 132]) _ _ _); refine' tget_sec _ _ _ _ _ _ _ _ _ _ _ _ _ _ _ _ _ ?k1 ?k2 ?k3 ?k4 ?k5 ?k6 ?k7 ?k8 ?k9 ?_; (case k7 => exact ⟨by with_reducible assumption, by with_reducible assumption⟩); (case k1 => k_asm); (case k2 => k_asm); (case k3 => k_asm); (case k4 => k_asm); (case k5 => k_asm); (case k6 => (first | exact rfl | assumption)); (case k8 => ktr_room); (case k9 => ktr_units)); intro h9 tk9 F9 N9; (try dsimp only); (refine handed_on rfl ?_); (try dsimp only); (try k_fold)))
local macro_rules | `(tactic| mul_fits) => `(tactic| exact PySem.IntMulOk.of_left (PySem.intBits_le_64 (by omega) (by omega)))
local macro_rules | `(tactic| walk_at "getMethod ref") => `(tactic| (k_here; k_dflt (refine' method_inst ?k1 ?k2 ?k3 ?k4 ?k5 ?k6 ?k7 ?_; (case k1 => k_asm); (case k2 => k_asm); (case k3 => k_inst); (case k4 => assumption); (case k5 => with_reducible assumption); (case k6 => k_is); (case k7 => k_get); k_whole)))
local macro_rules | `(tactic| walk_at "call ref") => `(tactic| (k_here; k_dflt ((show wpAny _ _ (call (Value.ref 167) [Value.ref _]) _ _ _); refine' expiry_claim _ _ _ _ _ _ _ _ _ _ _ _ _ _ _ _ _ ?k1 ?k2 ?k3 ?k4 ?k5 ?k6 ?k7 ?k8 ?k9 ?_; (case k1 => k_asm); (case k2 => k_asm); (case k3 => k_asm); (case k4 => k_asm); (case k5 => k_asm); (case k6 => (first | exact rfl | assumption)); (case k7 => exact ⟨by with_reducible assumption, by k_mem, by k_mem⟩); (case k8 => ktr_room); (case k9 => ktr_units)); intro t9 h9 tk9 F9 N9; (try dsimp only); (try k_fold)))
local macro_rules | `(tactic| walk_at "compareOp Eq ref") => `(tactic| (k_here; k_dflt (refine cmp_ofEq ?_; refine' cmp_K ?k1 ?k2 ?k3 ?k4 ?k5 ?k6 ?k7 ?k8 ?_; (case k1 => ktr_units); (case k2 => k_asm); (case k3 => k_asm); (case k4 => k_inst); (case k5 => exact InstAt.type (by k_inst)); (case k6 => with_reducible assumption); (case k7 => (show findIn _ _ (Str.ofString "__eq__") = _; with_reducible assumption)); (case k8 => k_is); k_whole)))
local macro_rules | `(tactic| walk_at "call ref") => `(tactic| (k_here; k_dflt ((show wpAny _ _ (call (Value.ref 183) [Value.ref _, Value.ref _]) _ _ _); refine' eq_claim _ _ _ _ _ _ _ _ _ _ _ _ _ _ _ _ _ ?k1 ?k2 ?k3 ?k4 ?k5 ?k6 ?k7 ?k8 ?k9 ?_; (case k1 => k_asm); (case k2 => k_asm); (case k3 => k_asm); (case k4 => k_asm); (case k5 => k_asm); (case k6 => (first | exact rfl | assumption)); (case k7 => exact ⟨by with_reducible assumption, by k_mem, by k_mem, by k_mem, by k_mem⟩); (case k8 => ktr_room); (case k9 => ktr_units)); intro h9 tk9 F9 N9; (refine cmpBack_bool ?_); (try dsimp only); (try k_fold)))
local macro_rules | `(tactic| walk_at "subscriptTail") => `(tactic| (k_here; (with_reducible show wpAny _ _ (subscriptTail _ _ (Value.ref _) (Value.int _ _)) _ _ _); k_dflt (refine' sub_head ?k1 ?k2 ?_ ?k7; (case k1 => k_asm); (case k2 => k_mem); (case k7 => with_unfolding_all rfl); k_whole)))
set_option maxRecDepth 100000 in
set_option maxHeartbeats 8000000 in
theorem told_claim {prog : Program} {w : World} {p loose mean mg mb} {news} (x : Str) (tx : Tok) :
  Ctr0 prog w (Jb.a.heap_1_1 w.params) p loose mean mg mb 375 12 news [.str x tx] (x.length ≤ 600 ∧ Asc x ∧ 58 ∉ cl x ∧ ∀ rs, readsF x = some rs → ∀ r ∈ rs, RowOk r) (fun h₀ L m s Q E =>
    (pmF x = none → ∀ h' tk', Fr h₀ L h' m → News h₀ L h' news → Q .none { s with heap := h', toks := tk' }) ∧
    (∀ its, pmF x = some its → ∀ D ys nx h' tk', Fr h₀ L h' m → News h₀ L h' ((D, LCg.lst ys) :: nx) → (∀ p ∈ news, p ∈ nx) → TupsIn nx ys its → Q (.ref D) { s with heap := h', toks := tk' })) := by
  dsimp only [Ctr0]; intros; rename_i hpre _ _ hret
  refine wpAny_call ?_
  k_dflt (refine' code_defS0 ?k1 ?k2 ?k3 ?k4 ?k5 ?kA ?k6 ?k7 ?k8 ?k9 ?kB ?_ ?cK ?c2 ?c3 ?c4 ?c5; (case kA => exact rfl); (case k2 => k_asm); (case k1 => k_asm); (case k3 => k_asm); (case k4 => k_asm); (case k5 => k_asm); (case k6 => k_is); (case k7 => k_is); (case k8 => ktr_room); (case k9 => exact BindsTo.of_eq rfl); (case kB => exact locs rfl); (case cK => assumption); (case c2 => exact rfl); (case c3 => exact rfl); (case c4 => exact rfl); (case c5 => decide); k_whole; intro g' L' h' FG' F' N' B' X' T' D'; (try dsimp only); (try k_fold))
  k_with_none
  w_top off
  k_steps
  · refine comp_told (by with_reducible assumption) (by with_reducible assumption) (by rfl) (by with_reducible assumption) (by with_reducible assumption) (by k_mem) (by rw [← List.size_toArray]; with_reducible assumption) (fun p hp => by simp only [List.mem_append, List.mem_cons]; simp [hp]) ?_ ?_
    · unfold Hold
      intro it xx dx t1 t2 t3 t4 t5 t6 g gd nm u1 u2 I oI C oC D m₂ ys nx h tk E2 hcls hx hd hli hC hm2 F9 N9 off ne
      have hcls' := hcls
      obtain ⟨c1, c2, c3, c4, c5, c6, c7, c8, c9, c10, c11, c12, c13⟩ := hcls'
      k_steps
      (obtain ⟨l1, l2, l3, l4⟩ := (by with_reducible assumption : I < _ ∧ C < _ ∧ D < _ ∧ AllLt _ nx))
      (rename News _ _ _ ((_, _) :: (I, oI) :: _) => N8)
      exact end1 (by with_reducible assumption) N8 off ⟨l1, l2, l3⟩ hli ⟨fun p hp => .tail _ hp, _, _, _, _, _, rfl, .head _⟩
    · unfold Hold
      intro g ys nx hsub hT
      unfold LCg.FinA
      intro D h tk F9 N9 o1
      rename ItemIn _ _ _ _ => iA
      obtain ⟨xa, da, a1, a2, a3, a4, a5, a6, rfl, hxa, hda⟩ := iA
      rename ItemIn _ _ _ _ => iB
      obtain ⟨xb, db, b1, b2, b3, b4, b5, b6, rfl, hxb, hdb⟩ := iB
      have hl9 := hsub _ (List.mem_append_right _ (List.Mem.head _))
      replace hxa := hsub _ (List.mem_append_right _ (List.Mem.tail _ (List.mem_append_left _ hxa)))
      replace hda := hsub _ (List.mem_append_right _ (List.Mem.tail _ (List.mem_append_left _ hda)))
      replace hxb := hsub _ (List.mem_append_left _ hxb)
      replace hdb := hsub _ (List.mem_append_left _ hdb)
      obtain ⟨gg, gd, nm, u1, u2, hcls⟩ := known_pm w.params (by with_reducible assumption) _ (List.Mem.head _)
      have hcls' := hcls
      obtain ⟨c1, c2, c3, c4, c5, c6, c7, c8, c9, c10, c11, c12, c13⟩ := hcls'
      try dsimp only
      try k_fold
      k_steps
      exact hret.2 _ (by with_reducible assumption) _ _ _ _ _ (by with_reducible assumption) (by with_reducible assumption) (fun p hp => hsub p (by simp only [List.mem_append, List.mem_cons]; simp [hp])) hT
  · exact hret.1 (by with_reducible assumption) _ _ (by with_reducible assumption) (by with_reducible assumption)
end Jb
end
section
open PySem PySem.W PyProof.Rows
namespace Jb
def isDig (c : Nat) : Bool := decide (48 ≤ c) && decide (c ≤ 57)
abbrev blanksS : Str := Str.ofString " \t\n\x0b\x0c\r\x1c\x1d\x1e\x1f"
set_option maxRecDepth 100000 in
theorem occ_dig : ∀ c, c < 128 → (Builtin.Str.occurrences (Str.ofString "0123456789") ⟨#[c]⟩ 0 (Str.ofString "0123456789").length 1).isEmpty = !isDig c := by decide +kernel
theorem cl_app (x y : Str) : cl (x ++ y) = cl x ++ cl y := by
  show (x.cps ++ y.cps).toList = _
  simp [cl]
theorem head_item {ps : Str} (h : (ps.length : Int) ≠ 0) : ∃ c, Txt.item ps 0 = ⟨#[c]⟩ ∧ cl ps = c :: (cl ps).drop 1 := by
  obtain ⟨c, _, h2, h3⟩ := item_eq ps 0 (by decide) (by omega)
  exact ⟨c, h2, by simpa using h3⟩
theorem asc_tail {x fs ps : Str} (hA : Asc x) (hc : cl x = cl fs ++ cl ps) : ∀ c ∈ cl ps, c < 128 := fun c h => hA c (by rw [hc]; exact List.mem_append_right _ h)
theorem fig_stop {x fs ps : Str} (hA : Asc x) (hc : cl x = cl fs ++ cl ps) (h : (ps.length : Int) ≠ 0)
    (ho : (Builtin.Str.occurrences (Str.ofString "0123456789") (Txt.item ps 0) 0 (Str.ofString "0123456789").length 1).isEmpty = true) : ∀ c, (cl ps)[0]? = some c → isDig c = false := by
  obtain ⟨c, h2, h3⟩ := head_item h
  intro d hd
  rw [h3] at hd
  cases hd
  rw [h2, occ_dig c (asc_tail hA hc c (by rw [h3]; exact .head _))] at ho
  simpa using ho
theorem fig_end {ps : Str} (h : (ps.length : Int) = 0) : ∀ c, (cl ps)[0]? = some c → isDig c = false := by
  have : cl ps = [] := List.eq_nil_of_length_eq_zero (by rw [len_cl]; omega)
  intro d hd
  rw [this] at hd; cases hd
/-- the loop's state -/
def FigJ (x : Str) (news : List (Addr × Obj)) (n : Nat) (m : Str → Option Value) (nx : List (Addr × Obj)) : Prop :=
  ∃ fs ps t1 t2, nx = news ∧ m (Str.ofString "figures") = some (.str fs t1) ∧ m (Str.ofString "part") = some (.str ps t2) ∧ cl x = cl fs ++ cl ps ∧ (∀ c ∈ cl fs, isDig c = true) ∧ ps.length ≤ n
theorem fig_next {x fs ps : Str} {t1 t2 : Tok} {news : List (Addr × Obj)} {n : Nat} {m : Str → Option Value} (hA : Asc x) (hc : cl x = cl fs ++ cl ps) (h : (ps.length : Int) ≠ 0)
    (ho : (Builtin.Str.occurrences (Str.ofString "0123456789") (Txt.item ps 0) 0 (Str.ofString "0123456789").length 1).isEmpty = false) (hd : ∀ c ∈ cl fs, isDig c = true) (hn : ps.length ≤ n)
    (h1 : m (Str.ofString "figures") = some (.str (fs ++ Txt.item ps 0) t1)) (h2 : m (Str.ofString "part") = some (.str (Txt.slice ps (some 1) none) t2)) : n - 1 < n ∧ FigJ x news (n - 1) m news := by
  obtain ⟨c, e2, e3⟩ := head_item h
  have e4 : cl (Txt.slice ps (some 1) none) = (cl ps).drop 1 := cl_slice_from ps (by decide) (by omega)
  refine ⟨by omega, _, _, _, _, rfl, h1, h2, ?_, ?_, ?_⟩
  · rw [hc, cl_app, e4, e2, List.append_assoc]
    conv => lhs; rw [e3]
    rfl
  · intro d hm
    rw [cl_app, e2] at hm
    rcases List.mem_append.mp hm with hm | hm
    · exact hd d hm
    · obtain rfl : d = c := by simpa [cl] using hm
      rw [e2, occ_dig d (asc_tail hA hc d (by rw [e3]; exact .head _))] at ho
      simpa using ho
  · have := congrArg List.length e4
    rw [len_cl, List.length_drop, len_cl] at this
    omega
local macro_rules | `(tactic| walk_at "exec While") => `(tactic| ((rename Fr _ _ _ _ => lF'); (rename News _ _ _ _ => lN'); k_extra "W"))
local macro_rules | `(tactic| size_fits) => `(tactic| (rw [sizeLine_eq]; omega))
local macro_rules | `(tactic| walk_at "WPost ret") => `(tactic| (refine WPost.ret ?_; dsimp only))
set_option maxRecDepth 100000 in
set_option maxHeartbeats 8000000 in
theorem figures_claim {prog : Program} {w : World} {p loose mean mg mb} {news} (x : Str) (tx : Tok) :
  Ctr prog w (Jb.a.heap_1_1 w.params) p loose mean mg mb 363 2 news [.str x tx] (x.length ≤ 1000000 ∧ Asc x) (fun h₀ L m s Q E =>
    ∀ fs ps, cl x = cl fs ++ cl ps → (∀ c ∈ cl fs, isDig c = true) → (∀ c, (cl ps)[0]? = some c → isDig c = false) → ∀ d t1 t2 h' tk', Fr h₀ L h' m → News h₀ L h' ((d, tupObj [.str fs t1, .str (Txt.stripChars ps blanksS) t2]) :: news) → (∀ p ∈ news, p.1 < d) → Q (.ref d) { s with heap := h', toks := tk' }) := by
  dsimp only [Ctr]; intros; rename_i hpre _ _ hret; have hA := hpre.2; replace hpre := hpre.1
  refine wpAny_call ?_
  k_dflt ktr_enter
  k_with_none
  k_with "W" => (with_unfolding_all refine' gw_while (FigJ x news) x.length (by assumption) (by assumption) ?kj ?_)
  w_top off
  k_steps
  · unfold Hold
    exact ⟨Str.ofString "", x, _, _, rfl, rfl, rfl, rfl, (fun c h => nomatch h), Nat.le_refl _⟩
  · unfold Hold
    rintro n m₁ nx h₁ tk₁ F₁ N₁ ⟨fs, ps, t1, t2, rfl, h1, h2, hc, hd, hn⟩
    have F₂ := fr_known [(Str.ofString "part", .str ps t2), (Str.ofString "figures", .str fs t1)] F₁ (by simp [h1, h2])
    clear F₁
    have hlen : x.length = fs.length + ps.length := by have := congrArg List.length hc; rwa [List.length_append, len_cl, len_cl, len_cl] at this
    k_steps
    · exact hret _ _ hc hd (fig_stop hA hc (by with_reducible assumption) (by with_reducible assumption)) _ _ _ _ _ (by with_reducible assumption) (by with_reducible assumption) (by with_reducible assumption)
    · exact WPost.next (n - 1) (by with_reducible assumption) (by with_reducible assumption) (by omega) (fig_next hA hc (by with_reducible assumption) (by with_reducible assumption) hd hn rfl rfl).2
    · exact hret _ _ hc hd (fig_end (by with_reducible assumption)) _ _ _ _ _ (by with_reducible assumption) (by with_reducible assumption) (by with_reducible assumption)
end Jb
end
section
open PySem PySem.W PyProof.Rows PySem.Calls
namespace Jb
def bl (c : Nat) : Bool := blanksS.cps.contains c
def stripL (l : List Nat) : List Nat := ((l.dropWhile bl).reverse.dropWhile bl).reverse
theorem drop_takeWhile {α : Type} (p : α → Bool) : ∀ l : List α, l.drop (l.takeWhile p).length = l.dropWhile p
  | [] => rfl
  | a :: r => by
    by_cases h : p a = true
    · simp [List.takeWhile_cons, List.dropWhile_cons, h, drop_takeWhile p r]
    · simp [List.takeWhile_cons, List.dropWhile_cons, h]
theorem takeLast_dropWhile (p : Nat → Bool) (l : List Nat) : l.take (l.length - (l.reverse.takeWhile p).length) = (l.reverse.dropWhile p).reverse := by
  have e := List.takeWhile_append_dropWhile (p := p) (l := l.reverse)
  have e2 : l = (l.reverse.dropWhile p).reverse ++ (l.reverse.takeWhile p).reverse := by
    rw [← List.reverse_append, e, List.reverse_reverse]
  have hl := congrArg List.length e2
  rw [List.length_append, List.length_reverse, List.length_reverse] at hl
  conv => lhs; arg 2; rw [e2]
  rw [List.take_append_of_le_length (by rw [List.length_reverse]; omega), List.take_of_length_le (by rw [List.length_reverse]; omega)]
theorem cl_strip (x : Str) : cl (Txt.stripChars x blanksS) = stripL (cl x) := by
  rw [Txt.stripChars, PySem.W.stripBy_eq]
  unfold PySem.W.stripped Builtin.Str.strSub
  simp only [if_true]
  show (Array.extract _ _ _).toList = _
  rw [Array.toList_extract]
  have e1 : (x.cps.toList.takeWhile blanksS.cps.contains).length ≤ (cl x).length := (List.takeWhile_sublist _).length_le
  have e2 := drop_takeWhile bl (cl x)
  have e3 := congrArg List.length e2
  rw [List.length_drop] at e3
  have e4 := takeLast_dropWhile bl ((cl x).dropWhile bl)
  rw [List.extract_eq_drop_take]
  show (List.drop (List.takeWhile bl (cl x)).length (cl x)).take _ = _
  unfold stripL
  rw [e2, ← e4]
  congr 1
  have e5 : (List.drop (List.takeWhile bl (cl x)).length (cl x)) = (cl x).dropWhile bl := e2
  show x.length - ((List.drop (List.takeWhile bl (cl x)).length (cl x)).reverse.takeWhile bl).length - (List.takeWhile bl (cl x)).length = _
  rw [e5, ← len_cl]
  omega
theorem strip_mem {l : List Nat} {c : Nat} (h : c ∈ stripL l) : c ∈ l := by
  unfold stripL at h
  have h1 := (List.dropWhile_sublist _).subset (List.mem_reverse.mp h)
  exact (List.dropWhile_sublist _).subset (List.mem_reverse.mp h1)
theorem Asc.strip {x : Str} (h : Asc x) : Asc (Txt.stripChars x blanksS) := fun c hc => h c (strip_mem (cl_strip x ▸ hc))
theorem mem_takeWhile {α : Type} (p : α → Bool) : ∀ (l : List α) (c : α), c ∈ l.takeWhile p → p c = true
  | [], _, h => nomatch h
  | a :: r, c, h => by
    rw [List.takeWhile_cons] at h
    split at h
    · rename_i ha
      rcases List.mem_cons.mp h with rfl | h
      · exact ha
      · exact mem_takeWhile p r c h
    · cases h
def digP (x : Str) : Str := ⟨((cl x).takeWhile isDig).toArray⟩
def digR (x : Str) : Str := ⟨((cl x).dropWhile isDig).toArray⟩
theorem fig_uniq {x fs ps : Str} (hc : cl x = cl fs ++ cl ps) (hd : ∀ c ∈ cl fs, isDig c = true) (hs : ∀ c, (cl ps)[0]? = some c → isDig c = false) : fs = digP x ∧ ps = digR x := by
  have a : (cl ps).takeWhile isDig = [] ∧ (cl ps).dropWhile isDig = cl ps := by
    cases e : cl ps with
    | nil => exact ⟨rfl, rfl⟩
    | cons c r =>
      have := hs c (by rw [e]; rfl)
      simp [List.takeWhile_cons, List.dropWhile_cons, this]
  constructor
  · apply str_ext
    show _ = (((cl x).takeWhile isDig).toArray).toList
    rw [hc, List.takeWhile_append_of_pos hd, a.1]
    simp
  · apply str_ext
    show _ = (((cl x).dropWhile isDig).toArray).toList
    rw [hc, List.dropWhile_append_of_pos hd, a.2]
theorem Asc.digR {x : Str} (h : Asc x) : Asc (digR x) := fun c hc => h c ((List.dropWhile_sublist _).subset hc)
theorem len_digR (x : Str) : (digR x).length ≤ x.length := by
  have := (List.dropWhile_sublist (l := cl x) isDig).length_le
  rw [len_cl] at this
  simpa [digR, Str.length] using this
theorem len_digP (x : Str) : (digP x).length ≤ x.length := by
  have := (List.takeWhile_sublist (l := cl x) isDig).length_le
  rw [len_cl] at this
  simpa [digP, Str.length] using this
theorem digP_all (x : Str) : PySem.NumText.AllDigits (cl (digP x)) := by
  intro c hc
  have := mem_takeWhile isDig (cl x) c (by simpa [digP, cl] using hc)
  simpa [isDig] using this
theorem figures_fn {prog : Program} {w : World} {p loose mean mg mb} {news} (x : Str) (tx : Tok) :
  Ctr prog w (Jb.a.heap_1_1 w.params) p loose mean mg mb 363 2 news [.str x tx] (x.length ≤ 1000000 ∧ Asc x) (fun h₀ L m s Q E =>
    ∀ a b, digP x = a → Txt.stripChars (digR x) blanksS = b → a.length ≤ x.length → b.length ≤ x.length → Asc b → PySem.NumText.AllDigits (cl a) →
      ∀ d t1 t2 h' tk', Fr h₀ L h' m → News h₀ L h' ((d, tupObj [.str a t1, .str b t2]) :: news) → (∀ p ∈ news, p.1 < d) → Q (.ref d) { s with heap := h', toks := tk' }) := by
  dsimp only [Ctr]
  intro dp un gd cn cs a ccd cl outer A₀ base h₀ L m s Q E B F X N T hk hpre hd hu hret
  refine figures_claim x tx dp un gd cn cs a ccd cl outer A₀ base h₀ L m s Q E B F X N T hk hpre hd hu fun fs ps hc hds hs => ?_
  obtain ⟨rfl, rfl⟩ := fig_uniq hc hds hs
  exact hret _ _ rfl rfl (len_digP x) (Nat.le_trans (len_stripChars _ _) (len_digR x)) hpre.2.digR.strip (digP_all x)
end Jb
end
section
open PySem PySem.W PyProof.Rows PySem.Calls
namespace Jb
theorem slice_none (x : Str) (j : Int) : Txt.slice x none (some j) = Txt.slice x (some 0) (some j) := by
  show StrLaws.sliceText x none (some j) = StrLaws.sliceText x (some 0) (some j)
  unfold StrLaws.sliceText
  have : Builtin.Str.strSliceIndices none (some j) 1 x.length = Builtin.Str.strSliceIndices (some 0) (some j) 1 x.length := by
    have e : max 0 (min 0 (x.length : Int)) = 0 := by omega
    simp [Builtin.Str.strSliceIndices, e]
  rw [this]
theorem cl_slice_to (x : Str) {j : Int} (h : 0 ≤ j) : cl (Txt.slice x none (some j)) = (cl x).take j.toNat := by
  rw [slice_none, cl_slice x (by decide) h (by omega)]
  simp
theorem item_0 {q : Str} {c : Nat} {r : List Nat} (h : cl q = c :: r) : Txt.item q 0 = ⟨#[c]⟩ ∧ 0 < q.length := by
  have hl : 0 < q.length := by rw [← len_cl, h]; simp
  obtain ⟨d, h1, h2, h3⟩ := item_eq q 0 (by decide) (by omega)
  rw [h] at h1
  have : c = d := by simpa using h1
  subst this
  exact ⟨h2, hl⟩
theorem it_slash {q : Str} (h : (Txt.slice q none (some 1) != Str.ofString "/") = false) : Txt.item q 0 = Str.ofString "/" ∧ 0 < q.length := by
  have e := congrArg cl (by simpa using h : Txt.slice q none (some 1) = Str.ofString "/")
  rw [cl_slice_to q (by decide)] at e
  cases hq : cl q with
  | nil => rw [hq] at e; exact absurd e (by decide +kernel)
  | cons c r =>
    obtain ⟨a, b⟩ := item_0 hq
    rw [hq] at e
    have : c = 47 := by
      have e2 : [c] = cl (Str.ofString "/") := e
      have e3 : cl (Str.ofString "/") = [47] := by decide +kernel
      rw [e3] at e2
      simpa using e2
    subst this
    exact ⟨a.trans (by decide +kernel), b⟩
theorem it_per {q : Str} (h : (Txt.slice q none (some 3) != Str.ofString "per") = false) : Txt.item q 0 = Str.ofString "p" ∧ 3 ≤ q.length := by
  have e := congrArg cl (by simpa using h : Txt.slice q none (some 3) = Str.ofString "per")
  rw [cl_slice_to q (by decide)] at e
  have e3 : cl (Str.ofString "per") = [112, 101, 114] := by decide +kernel
  rw [e3] at e
  have hl := congrArg List.length e
  rw [List.length_take, len_cl] at hl
  cases hq : cl q with
  | nil => rw [hq] at e; cases e
  | cons c r =>
    obtain ⟨a, b⟩ := item_0 hq
    rw [hq] at e
    have : c = 112 := by
      have e2 := congrArg List.head? e
      simpa using e2
    subst this
    refine ⟨a.trans (by decide +kernel), ?_⟩
    have : (Int.toNat 3) = 3 := rfl
    rw [this] at hl
    simp only [List.length_cons, List.length_nil] at hl
    omega
theorem lo1_lt : ∀ c, c < 128 → lo1 c < 128 := by decide +kernel
theorem Asc.lower {x : Str} (h : Asc x) : Asc (Txt.lower x) := by
  intro c hc
  rw [cl_lower h] at hc
  obtain ⟨d, hd, rfl⟩ := List.mem_map.mp hc
  exact lo1_lt d (h d hd)
theorem len_lower' {x : Str} (h : Asc x) : (Txt.lower x).length = x.length := by
  have := congrArg List.length (cl_lower h)
  rw [List.length_map, len_cl, len_cl] at this
  exact this
theorem len_slice_from {x : Str} {i : Int} (h0 : 0 ≤ i) (h : i ≤ x.length) : (Txt.slice x (some i) none).length ≤ x.length := by
  have := congrArg List.length (cl_slice_from x h0 h)
  rw [len_cl, List.length_drop, len_cl] at this
  omega
theorem Asc.slice_from {x : Str} (hA : Asc x) {i : Int} (h0 : 0 ≤ i) (h : i ≤ x.length) : Asc (Txt.slice x (some i) none) := by
  intro c hc
  rw [cl_slice_from x h0 h] at hc
  exact hA c (List.mem_of_mem_drop hc)
theorem pre_sl {x : Str} {i : Int} (hA : Asc x) (h0 : 0 ≤ i) (h : i ≤ x.length) (hl : x.length ≤ 600) : (Txt.stripChars (Txt.slice x (some i) none) blanksS).length ≤ 1000000 ∧ Asc (Txt.stripChars (Txt.slice x (some i) none) blanksS) :=
  ⟨Nat.le_trans (len_stripChars _ _) (Nat.le_trans (len_slice_from h0 h) (by omega)), (hA.slice_from h0 h).strip⟩
theorem pre_st {x : Str} (hA : Asc x) (hl : x.length ≤ 600) : (Txt.stripChars x blanksS).length ≤ 1000000 ∧ Asc (Txt.stripChars x blanksS) :=
  ⟨Nat.le_trans (len_stripChars _ _) (by omega), hA.strip⟩
theorem lower_abs {prog : Program} {w : World} {A : Around} {E : Value → Shared → Prop} {s : Shared} {Q : Value → Shared → Prop} {x : Str} {t : Tok} (hA : Asc x) (hfit : x.length ≤ 600)
    (h : ∀ q, Txt.lower x = q → q.length = x.length → Asc q → Q (.str q s.toks) { s with toks := s.toks + 1 }) : wpAny (model prog w) A (call (.builtin "str.lower") [.str x t]) Q E s :=
  SCL.lower (by omega) fun _ => h _ rfl (len_lower' hA) hA.lower
end Jb
end
section
open PySem PySem.W PyProof.Rows PySem.Calls
namespace Jb
/-- the grains of a text, by its name: matched with or without an s -/
def gMatch (g gn : Str) : Bool := decide (g = gn) || decide (g = gn ++ Str.ofString "s")
def gFind (g : Str) : List (Str × Int) → Option Int
  | [] => none
  | p :: r => if gMatch g p.1 = true then some p.2 else gFind g r
theorem gFind_none {g : Str} : ∀ {l : List (Str × Int)}, (∀ p ∈ l, gMatch g p.1 = false) → gFind g l = none
  | [], _ => rfl
  | p :: r, h => by
    simp only [gFind, h p (.head _), Bool.false_eq_true, if_false]
    exact gFind_none fun q hq => h q (.tail _ hq)
theorem gFind_at {g : Str} : ∀ {l : List (Str × Int)} {i : Nat} {gn : Str} {sec : Int}, l[i]? = some (gn, sec) → (∀ p ∈ l.take i, gMatch g p.1 = false) → gMatch g gn = true → gFind g l = some sec
  | [], _, _, _, h, _, _ => by cases h
  | p :: r, 0, gn, sec, h, _, hm => by
    cases h
    simp [gFind, hm]
  | p :: r, i + 1, gn, sec, h, hn, hm => by
    simp only [gFind, hn p (by simp), Bool.false_eq_true, if_false]
    exact gFind_at (i := i) (by simpa using h) (fun q hq => hn q (by simp [hq])) hm
inductive GrsIn (tl : List (Addr × Obj)) : List Value → List (Str × Int) → Prop
  | nil : GrsIn tl [] []
  | cons {vs : List Value} {rs : List (Str × Int)} (d : Addr) (gn : Str) (sec : Int) (t1 t2 : Tok) : (d, tupObj [.str gn t1, .int sec t2]) ∈ tl → GrsIn tl vs rs → GrsIn tl (.ref d :: vs) ((gn, sec) :: rs)
theorem GrsIn.length {tl : List (Addr × Obj)} {vs : List Value} {rs : List (Str × Int)} (h : GrsIn tl vs rs) : vs.length = rs.length := by
  induction h with
  | nil => rfl
  | cons _ _ _ _ _ _ _ ih => simp [ih]
theorem GrsIn.get {tl : List (Addr × Obj)} {vs : List Value} {rs : List (Str × Int)} (h : GrsIn tl vs rs) : ∀ {i : Nat} {v : Value}, vs[i]? = some v → ∃ d gn sec t1 t2, rs[i]? = some (gn, sec) ∧ v = .ref d ∧ (d, tupObj [.str gn t1, .int sec t2]) ∈ tl := by
  induction h with
  | nil => intro i v e; cases e
  | cons d gn sec t1 t2 h _ ih =>
    intro i v e
    cases i with
    | zero => cases e; exact ⟨d, gn, sec, t1, t2, rfl, rfl, h⟩
    | succ i => exact ih e
/-- the loop over the grains: what stands -/
def GrJ (keep : List (Str × Value)) (g : Str) (gs : List (Str × Int)) (news : List (Addr × Obj)) (i : Nat) (m : Str → Option Value) (nx : List (Addr × Obj)) : Prop :=
  (∀ p ∈ keep, m p.1 = some p.2) ∧ nx = news ∧ ∀ p ∈ gs.take i, gMatch g p.1 = false
section
variable {prog : Program} {w : World} {A : Around} {E : Value → Shared → Prop} {s : Shared} {env : Env} {h₀ : Heap} {target : Expr} {body : List Stmt} {Q : Flow → Shared → Prop}
theorem gr_turns {l L : Addr} {vs : List Value} {nn : Nat} {m₀ : Str → Option Value} {news : List (Addr × Obj)} (keep : List (Str × Value)) (g : Str) (gs : List (Str × Int)) (hL : env.locals = L)
    (hh : A.handled = none) (hl : (l, listOf vs.toArray nn) ∈ news) (hg : GrsIn news vs gs) (F : Fr h₀ L s.heap m₀) (N : News h₀ L s.heap news) (hk : ∀ p ∈ keep, m₀ p.1 = some p.2)
    (turn : Hold (∀ i gn sec d t1 t2 m₁ h tk I oI, gs[i]? = some (gn, sec) → (∀ p ∈ gs.take i, gMatch g p.1 = false) → (d, tupObj [.str gn t1, .int sec t2]) ∈ news → (∀ p ∈ news, p.1 ≠ I) → (∀ p ∈ news, p.1 < I) → Fr h₀ L h (kstB m₁ keep) → News h₀ L h ((I, oI) :: news) →
      wpAny (model prog w) A (assign target env (.ref d)) (fun _ s₃ => wpAny (model prog w) A (execs body env) (TPost h₀ L I oI l (listOf vs.toArray nn) (GrJ keep g gs news (i + 1)) { s with heap := h, toks := tk } Q) E s₃) E { s with heap := h, toks := tk }))
    (done : Hold (∀ m₁ h tk, (∀ p ∈ gs, gMatch g p.1 = false) → Fr h₀ L h (kstB m₁ keep) → News h₀ L h news → Q .next { s with heap := h, toks := tk })) :
    wpAny (model prog w) A (pyIter (.ref l)) (fun it s₂ => TurnsAt prog w A h₀ env target body Q E it s₂) E s := by
  subst hL
  refine it_turns (GrJ keep g gs news) hh hl F N ⟨hk, rfl, by simp⟩ ?_ ?_
  · rintro i v m₁ nx h tk I oI hv hI hlt _ ⟨hm, rfl, hn⟩ F₁ N₁
    obtain ⟨d, gn, sec, t1, t2, hr, rfl, hd⟩ := hg.get hv
    exact turn i gn sec d t1 t2 m₁ h tk I oI hr hn hd hI hlt (fr_known _ F₁ hm) N₁
  · rintro m₁ nx h tk ⟨hm, rfl, hn⟩ _ F₁ N₁
    rw [hg.length, List.take_length] at hn
    exact done m₁ h tk hn (fr_known _ F₁ hm) N₁
end
end Jb
end
section
open PySem PySem.W PyProof.Rows PySem.Calls
namespace Jb
abbrev grains6 : List (Str × Int) := [(Str.ofString "second", 1), (Str.ofString "minute", 60), (Str.ofString "hour", 3600), (Str.ofString "day", 86400), (Str.ofString "month", 2592000), (Str.ofString "year", 31104000)]
local macro_rules | `(tactic| k_room) => `(tactic| ktr_room)
local macro_rules | `(tactic| k_units) => `(tactic| ktr_units)
set_option maxRecDepth 100000 in
set_option maxHeartbeats 4000000 in
theorem grains_claim {prog : Program} {w : World} {p loose mean mg mb} {news} :
  Ctr prog w (Jb.a.heap_1_1 w.params) p loose mean mg mb 356 1 news [] True (fun h₀ L m s Q E =>
    ∀ l vs nn tl h' tk', Fr h₀ L h' m → News h₀ L h' ((l, listOf (List.toArray vs) nn) :: (tl ++ news)) → GrsIn tl vs grains6 → (∀ p ∈ tl ++ news, p.1 < l) → Q (.ref l) { s with heap := h', toks := tk' }) := by
  dsimp only [Ctr]; intros; rename_i hpre _ _ hret
  refine wpAny_call ?_
  k_dflt ktr_enter
  k_with_none
  w_top off
  k_steps
  rename News _ _ _ (_ :: _) => N9
  rename Fr _ _ _ _ => F9
  refine hret _ [_, _, _, _, _, _] 0 [_, _, _, _, _, _] _ _ F9 N9 ?_ ?_
  · exact (.cons _ _ _ _ _ (.tail _ (.tail _ (.tail _ (.tail _ (.tail _ (.head _)))))) (.cons _ _ _ _ _ (.tail _ (.tail _ (.tail _ (.tail _ (.head _))))) (.cons _ _ _ _ _ (.tail _ (.tail _ (.tail _ (.head _)))) (.cons _ _ _ _ _ (.tail _ (.tail _ (.head _))) (.cons _ _ _ _ _ (.tail _ (.head _)) (.cons _ _ _ _ _ (.head _) .nil))))))
  · rename _ ∧ _ ∧ _ ∧ _ ∧ _ ∧ _ ∧ AllLt _ news => o9
    exact ktn_ltOf (l := [_, _, _, _, _, _] ++ news) o9
end Jb
end
section
open PySem PySem.W PyProof.Rows PySem.Calls
namespace Jb
theorem GrsIn.mono {tl tl' : List (Addr × Obj)} {vs : List Value} {rs : List (Str × Int)} (h : GrsIn tl vs rs) (hs : ∀ p ∈ tl, p ∈ tl') : GrsIn tl' vs rs := by
  induction h with
  | nil => exact .nil
  | cons d gn sec t1 t2 h _ ih => exact .cons d gn sec t1 t2 (hs _ h) ih
section
variable {prog : Program} {w : World} {A : Around} {E : Value → Shared → Prop} {s : Shared} {env : Env} {h₀ : Heap} {target : Expr} {body : List Stmt} {Q : Flow → Shared → Prop}
theorem gr_turns3 {l L : Addr} {vs : List Value} {nn : Nat} {m₀ : Str → Option Value} {news : List (Addr × Obj)} {a c g : Str} {ta tc tg : Tok} (hL : env.locals = L)
    (hh : A.handled = none) (hl : (l, listOf vs.toArray nn) ∈ news) (hg : GrsIn news vs grains6) (F : Fr h₀ L s.heap m₀) (N : News h₀ L s.heap news)
    (hk1 : m₀ (Str.ofString "amount") = some (.str a ta)) (hk2 : m₀ (Str.ofString "multiple") = some (.str c tc)) (hk3 : m₀ (Str.ofString "part") = some (.str g tg))
    (turn : Hold (∀ i gn sec d t1 t2 m₁ h tk I oI, grains6[i]? = some (gn, sec) → (∀ p ∈ grains6.take i, gMatch g p.1 = false) → (d, tupObj [.str gn t1, .int sec t2]) ∈ news → (∀ p ∈ news, p.1 ≠ I) → (∀ p ∈ news, p.1 < I) → Fr h₀ L h (kstB m₁ [(Str.ofString "amount", .str a ta), (Str.ofString "multiple", .str c tc), (Str.ofString "part", .str g tg)]) → News h₀ L h ((I, oI) :: news) →
      wpAny (model prog w) A (assign target env (.ref d)) (fun _ s₃ => wpAny (model prog w) A (execs body env) (TPost h₀ L I oI l (listOf vs.toArray nn) (GrJ [(Str.ofString "amount", .str a ta), (Str.ofString "multiple", .str c tc), (Str.ofString "part", .str g tg)] g grains6 news (i + 1)) { s with heap := h, toks := tk } Q) E s₃) E { s with heap := h, toks := tk }))
    (done : Hold (∀ m₁ h tk, (∀ p ∈ grains6, gMatch g p.1 = false) → Fr h₀ L h (kstB m₁ [(Str.ofString "amount", .str a ta), (Str.ofString "multiple", .str c tc), (Str.ofString "part", .str g tg)]) → News h₀ L h news → Q .next { s with heap := h, toks := tk })) :
    wpAny (model prog w) A (pyIter (.ref l)) (fun it s₂ => TurnsAt prog w A h₀ env target body Q E it s₂) E s :=
  gr_turns _ g grains6 hL hh hl hg F N (by simp [hk1, hk2, hk3]) turn done
end
def lkS (q : Str) : Option Str := if (Txt.slice q none (some 1) != Str.ofString "/") = false then some (Txt.slice q (some 1) none) else if (Txt.slice q none (some 3) != Str.ofString "per") = false then some (Txt.slice q (some 3) none) else none
def oneF (x : Str) : Option (Int × Int × Int) :=
  if (digP (Txt.stripChars x blanksS) == Str.ofString "") = true then none else
  match lkS (Txt.lower (Txt.stripChars (digR (Txt.stripChars x blanksS)) blanksS)) with
  | none => none
  | some r => (gFind (Txt.stripChars (digR (Txt.stripChars r blanksS)) blanksS) grains6).map fun sec => (sec, num (digP (Txt.stripChars x blanksS)), if (digP (Txt.stripChars r blanksS) == Str.ofString "") = true then 1 else max 1 (num (digP (Txt.stripChars r blanksS))))
section
variable {x a b q r c g : Str}
theorem one_a (e1 : digP (Txt.stripChars x blanksS) = a) (h : (a == Str.ofString "") = true) : oneF x = none := by
  unfold oneF; rw [e1, if_pos h]
theorem one_b (e2 : Txt.stripChars (digR (Txt.stripChars x blanksS)) blanksS = b) (e3 : Txt.lower b = q) (h1 : (Txt.slice q none (some 1) != Str.ofString "/") = true) (h2 : (Txt.slice q none (some 3) != Str.ofString "per") = true) : oneF x = none := by
  unfold oneF lkS
  simp only [e2, e3, h1, h2]
  simp
theorem one_c (e1 : digP (Txt.stripChars x blanksS) = a) (e2 : Txt.stripChars (digR (Txt.stripChars x blanksS)) blanksS = b) (e3 : Txt.lower b = q) (h : (a == Str.ofString "") = false) (hl : lkS q = some r)
    (e4 : digP (Txt.stripChars r blanksS) = c) (e5 : Txt.stripChars (digR (Txt.stripChars r blanksS)) blanksS = g) : oneF x = (gFind g grains6).map fun sec => (sec, num a, if (c == Str.ofString "") = true then 1 else max 1 (num c)) := by
  unfold oneF
  rw [e1, e2, e3, hl, if_neg (by rw [h]; decide)]
  dsimp only
  rw [e4, e5]
theorem g_hit {gn : Str} (h : (g == gn) = true ∨ (g == gn ++ Str.ofString "s") = true) : gMatch g gn = true := by
  unfold gMatch
  rcases h with h | h <;> simp [eq_of_beq h]
theorem g_miss {gn : Str} (h : (g == gn) = false) (h2 : (g == gn ++ Str.ofString "s") = false) : gMatch g gn = false := by
  unfold gMatch
  simp at h h2
  simp [h, h2]
theorem one_hit1 {i : Nat} {gn : Str} {sec : Int} (e1 : digP (Txt.stripChars x blanksS) = a) (e2 : Txt.stripChars (digR (Txt.stripChars x blanksS)) blanksS = b) (e3 : Txt.lower b = q) (h : (a == Str.ofString "") = false) (hl : lkS q = some r)
    (e4 : digP (Txt.stripChars r blanksS) = c) (e5 : Txt.stripChars (digR (Txt.stripChars r blanksS)) blanksS = g) (hi : grains6[i]? = some (gn, sec)) (hn : ∀ p ∈ grains6.take i, gMatch g p.1 = false) (hm : gMatch g gn = true) (hc : (c == Str.ofString "") = true) : oneF x = some (sec, num a, 1) := by
  rw [one_c e1 e2 e3 h hl e4 e5, gFind_at hi hn hm, if_pos hc]; rfl
theorem one_hit2 {i : Nat} {gn : Str} {sec : Int} (e1 : digP (Txt.stripChars x blanksS) = a) (e2 : Txt.stripChars (digR (Txt.stripChars x blanksS)) blanksS = b) (e3 : Txt.lower b = q) (h : (a == Str.ofString "") = false) (hl : lkS q = some r)
    (e4 : digP (Txt.stripChars r blanksS) = c) (e5 : Txt.stripChars (digR (Txt.stripChars r blanksS)) blanksS = g) (hi : grains6[i]? = some (gn, sec)) (hn : ∀ p ∈ grains6.take i, gMatch g p.1 = false) (hm : gMatch g gn = true) (hc : (c == Str.ofString "") = false) : oneF x = some (sec, num a, if num c > 1 then num c else 1) := by
  rw [one_c e1 e2 e3 h hl e4 e5, gFind_at hi hn hm, if_neg (by rw [hc]; decide)]
  simp only [Option.map_some]
  congr 3
  split <;> omega
theorem one_miss (e1 : digP (Txt.stripChars x blanksS) = a) (e2 : Txt.stripChars (digR (Txt.stripChars x blanksS)) blanksS = b) (e3 : Txt.lower b = q) (h : (a == Str.ofString "") = false) (hl : lkS q = some r)
    (e4 : digP (Txt.stripChars r blanksS) = c) (e5 : Txt.stripChars (digR (Txt.stripChars r blanksS)) blanksS = g) (hn : ∀ p ∈ grains6, gMatch g p.1 = false) : oneF x = none := by
  rw [one_c e1 e2 e3 h hl e4 e5, gFind_none hn]; rfl
theorem lk_sl (h : (Txt.slice q none (some 1) != Str.ofString "/") = false) : lkS q = some (Txt.slice q (some 1) none) := by
  unfold lkS; rw [if_pos h]
theorem lk_per (h : (Txt.slice q none (some 1) != Str.ofString "/") = true) (h2 : (Txt.slice q none (some 3) != Str.ofString "per") = false) : lkS q = some (Txt.slice q (some 3) none) := by
  unfold lkS; rw [if_neg (by rw [h]; decide), if_pos h2]
end
section
variable {g h : Heap} {L D I l d1 d2 : Addr} {oD oI ol o1 o2 : Obj} {tl news : List (Addr × Obj)}
theorem one_nw (N : News g L h ((D, oD) :: (I, oI) :: (l, ol) :: (tl ++ (d1, o1) :: (d2, o2) :: news))) : News g L h ((D, oD) :: news) := by
  intro p hp
  refine N p ?_
  simp only [List.mem_cons, List.mem_append] at hp ⊢
  rcases hp with h | h <;> simp [h]
theorem one_nd (N : News g L h ((l, ol) :: (tl ++ (d1, o1) :: (d2, o2) :: news))) : News g L h news := by
  intro p hp
  refine N p ?_
  simp only [List.mem_cons, List.mem_append]
  simp [hp]
theorem one_lt (o : @LT.lt Nat _ I D ∧ @LT.lt Nat _ l D ∧ AllLt D (tl ++ (d1, o1) :: (d2, o2) :: news)) : ∀ p ∈ news, p.1 < D := fun p hp =>
  ktn_ltOf o.2.2 p (by simp [hp])
end
theorem int_ne2 {s : Str} (h : PySem.NumText.AllDigits (cl s)) (hl : (s == Str.ofString "") = false) (h2 : s.length ≤ 600) : PySem.intText? s = some (num s) :=
  PySem.intText_digits h (fun e => by
    have : s = Str.ofString "" := str_ext (e.trans (by decide +kernel))
    rw [this] at hl
    exact absurd hl (by decide +kernel)) (by omega)
theorem gr_small {i : Nat} {gn : Str} {sec : Int} (h : grains6[i]? = some (gn, sec)) : gn.length ≤ 6 ∧ 1 ≤ sec ∧ sec ≤ 31104000 := by
  have : ∀ p ∈ grains6, p.1.length ≤ 6 ∧ 1 ≤ p.2 ∧ p.2 ≤ 31104000 := by decide +kernel
  exact this _ (List.mem_of_getElem? h)
theorem gr_next {keep : List (Str × Value)} {g gn : Str} {gs : List (Str × Int)} {sec : Int} {news : List (Addr × Obj)} {i : Nat} {m : Str → Option Value} (hk : ∀ p ∈ keep, m p.1 = some p.2) (hi : gs[i]? = some (gn, sec)) (hn : ∀ p ∈ gs.take i, gMatch g p.1 = false) (hm : gMatch g gn = false) : GrJ keep g gs news (i + 1) m news := by
  refine ⟨hk, rfl, ?_⟩
  rw [List.take_add_one, hi]
  intro p hp
  rcases List.mem_append.mp hp with h | h
  · exact hn p h
  · have e : p = (gn, sec) := by simpa using h
    rw [e]; exact hm
local macro_rules | `(tactic| walk_at "TPost ret") => `(tactic| (refine TPost.ret ?_; dsimp only))
local macro_rules | `(tactic| walk_at "call type:int") => `(tactic| (k_here; (with_reducible show wpAny _ _ (call (Value.type "int") [Value.str _ _]) _ _ _); refine KIN.call_text (int_ne2 (by with_reducible assumption) (by with_reducible assumption) (by omega)) (by omega) ?_))
local macro_rules | `(tactic| k_room) => `(tactic| ktr_room)
local macro_rules | `(tactic| k_units) => `(tactic| ktr_units)
local macro_rules | `(tactic| size_fits) => `(tactic| (rw [sizeLine_eq]; omega))
local macro_rules | `(tactic| walk_at "call ref") => `(tactic| (k_here; k_dflt ((show wpAny _ _ (call (Value.ref 363) [Value.str _ _]) _ _ _); refine' figures_fn _ _ _ _ _ _ _ _ _ _ _ _ _ _ _ _ _ _ _ ?k1 ?k2 ?k3 ?k4 ?k5 ?k6 ?k7 ?k8 ?k9 ?_; (case k1 => k_asm); (case k2 => k_asm); (case k3 => k_asm); (case k4 => k_asm); (case k5 => k_asm); (case k6 => (first | exact rfl | assumption)); (case k7 => first | exact pre_st (by with_reducible assumption) (by omega) | exact pre_sl (by with_reducible assumption) (by decide) (by omega) (by omega)); (case k8 => ktr_room); (case k9 => ktr_units)); intro a9 b9 ea9 eb9 la9 lb9 ab9 ad9 d9 t19 t29 h9 tk9 F9 N9 o9; (try k_lt o9); (try dsimp only); (try k_fold)))
local macro_rules | `(tactic| walk_at "call builtin:str.lower") => `(tactic| (k_here; k_dflt (refine lower_abs (by with_reducible assumption) (by omega) ?_); intro q9 eq9 lq9 aq9))
local macro_rules | `(tactic| walk_at "subscriptTail Name Constant str int") => `(tactic| (k_here; k_dflt (first
  | (obtain ⟨hi9, hp9⟩ := it_slash (by with_reducible assumption); refine item_str (by decide) (by omega) (by omega) ?_; intro _; rw [hi9]; clear hi9)
  | (obtain ⟨hi9, hp9⟩ := it_per (by with_reducible assumption); refine item_str (by decide) (by omega) (by omega) ?_; intro _; rw [hi9]; clear hi9))))
local macro_rules | `(tactic| walk_at "call ref") => `(tactic| (k_here; k_dflt ((show wpAny _ _ (call (Value.ref 356) []) _ _ _); refine' grains_claim _ _ _ _ _ _ _ _ _ _ _ _ _ _ _ _ _ ?k1 ?k2 ?k3 ?k4 ?k5 ?k6 ?k7 ?k8 ?k9 ?_; (case k1 => k_asm); (case k2 => k_asm); (case k3 => k_asm); (case k4 => k_asm); (case k5 => k_asm); (case k6 => (first | exact rfl | assumption)); (case k7 => trivial); (case k8 => ktr_room); (case k9 => ktr_units)); intro l9 vs9 nn9 tl9 h9 tk9 F9 N9 g9 o9; (try k_lt o9); (try dsimp only); (try k_fold)))
local macro_rules | `(tactic| walk_at "pyIter ref") => `(tactic| ((rename Fr _ _ _ _ => lF'); (rename News _ _ _ _ => lN'); k_extra "W"))
local macro_rules | `(tactic| walk_at "exec For Tuple Call cons nil") => `(tactic| (k_here; (rename Fr _ _ _ _ => lF'); k_dflt (refine' For_turns ?lF ?_ ?ls ?lE; (case ls => intro _; rfl); (case lE => passes_own); (case lF => with_unfolding_all exact lF'))))
set_option maxRecDepth 100000 in
set_option maxHeartbeats 8000000 in
theorem one_claim {prog : Program} {w : World} {p loose mean mg mb} {news} (x : Str) (tx : Tok) :
  Ctr prog w (Jb.a.heap_1_1 w.params) p loose mean mg mb 370 4 news [.str x tx] (x.length ≤ 600 ∧ Asc x) (fun h₀ L m s Q E =>
    (oneF x = none → ∀ h' tk', Fr h₀ L h' m → News h₀ L h' news → Q .none { s with heap := h', toks := tk' }) ∧
    (∀ sec k j, oneF x = some (sec, k, j) → ∀ d t1 t2 t3 h' tk', Fr h₀ L h' m → News h₀ L h' ((d, tupObj [.int sec t1, .int k t2, .int j t3]) :: news) → (∀ p ∈ news, p.1 < d) → Q (.ref d) { s with heap := h', toks := tk' })) := by
  dsimp only [Ctr]; intros; rename_i hpre _ _ hret; have hA := hpre.2; replace hpre := hpre.1
  refine wpAny_call ?_
  k_dflt ktr_enter
  k_with_none
  k_with "W" => ((rename Fr _ _ _ _ => lF2); (rename News _ _ _ _ => lN2); refine' gr_turns3 ?hL ?hh ?hl ?hg ?hF ?hN ?h1 ?h2 ?h3 ?_ ?_; (case hF => with_unfolding_all exact lF2); (case hN => with_unfolding_all exact lN2); (case hL => exact rfl); (case hh => exact rfl); (case hl => k_mem); (case hg => exact GrsIn.mono (by with_reducible assumption) fun p hp => .tail _ (List.mem_append_left _ hp)); (case h1 => with_unfolding_all rfl); (case h2 => with_unfolding_all rfl); (case h3 => with_unfolding_all rfl))
  w_top off
  k_steps
  · exact hret.1 (one_a (by with_reducible assumption) (by with_reducible assumption)) _ _ (by with_reducible assumption) (cb_drop (by with_reducible assumption) fun _ hp => .tail _ hp)
  · exact hret.1 (one_b (by with_reducible assumption) (by with_reducible assumption) (by with_reducible assumption) (by with_reducible assumption)) _ _ (by with_reducible assumption) (cb_drop (by with_reducible assumption) fun _ hp => .tail _ hp)
  · unfold Hold
    intro i gn sec d t1 t2 m₁ h tk I oI hgi hno hd hI hlt F₁ N₁
    obtain ⟨q1, q2, q3⟩ := gr_small hgi
    have hT : IsTup h d #[.str gn t1, .int sec t2] := ⟨_, (N₁ (d, _) (.tail _ hd)).1, rfl, 0, rfl⟩
    k_steps
    · exact hret.2 _ _ _ (one_hit1 (by with_reducible assumption) (by with_reducible assumption) (by with_reducible assumption) (by with_reducible assumption) (lk_per (by with_reducible assumption) (by with_reducible assumption)) (by with_reducible assumption) (by with_reducible assumption) hgi hno (g_hit (.inl (by with_reducible assumption))) (by with_reducible assumption)) _ _ _ _ _ _ (by with_reducible assumption) (one_nw (by with_reducible assumption)) (one_lt (by with_reducible assumption))
    · exact hret.2 _ _ _ (one_hit2 (by with_reducible assumption) (by with_reducible assumption) (by with_reducible assumption) (by with_reducible assumption) (lk_per (by with_reducible assumption) (by with_reducible assumption)) (by with_reducible assumption) (by with_reducible assumption) hgi hno (g_hit (.inl (by with_reducible assumption))) (by with_reducible assumption)) _ _ _ _ _ _ (by with_reducible assumption) (one_nw (by with_reducible assumption)) (one_lt (by with_reducible assumption))
    · exact hret.2 _ _ _ (one_hit1 (by with_reducible assumption) (by with_reducible assumption) (by with_reducible assumption) (by with_reducible assumption) (lk_per (by with_reducible assumption) (by with_reducible assumption)) (by with_reducible assumption) (by with_reducible assumption) hgi hno (g_hit (.inr (by with_reducible assumption))) (by with_reducible assumption)) _ _ _ _ _ _ (by with_reducible assumption) (one_nw (by with_reducible assumption)) (one_lt (by with_reducible assumption))
    · exact hret.2 _ _ _ (one_hit2 (by with_reducible assumption) (by with_reducible assumption) (by with_reducible assumption) (by with_reducible assumption) (lk_per (by with_reducible assumption) (by with_reducible assumption)) (by with_reducible assumption) (by with_reducible assumption) hgi hno (g_hit (.inr (by with_reducible assumption))) (by with_reducible assumption)) _ _ _ _ _ _ (by with_reducible assumption) (one_nw (by with_reducible assumption)) (one_lt (by with_reducible assumption))
    · exact TPost.next (by with_reducible assumption) (by with_reducible assumption) hI (.head _) (gr_next (by intro p hp; simp only [List.mem_cons, List.not_mem_nil, or_false] at hp; rcases hp with rfl | rfl | rfl <;> with_unfolding_all rfl) hgi hno (g_miss (by with_reducible assumption) (by with_reducible assumption)))
  · unfold Hold
    intro m₁ h tk hn F₁ N₁
    k_steps
    exact hret.1 (one_miss (by with_reducible assumption) (by with_reducible assumption) (by with_reducible assumption) (by with_reducible assumption) (lk_per (by with_reducible assumption) (by with_reducible assumption)) (by with_reducible assumption) (by with_reducible assumption) hn) _ _ (by with_reducible assumption) (one_nd (by with_reducible assumption))
  · unfold Hold
    intro i gn sec d t1 t2 m₁ h tk I oI hgi hno hd hI hlt F₁ N₁
    obtain ⟨q1, q2, q3⟩ := gr_small hgi
    have hT : IsTup h d #[.str gn t1, .int sec t2] := ⟨_, (N₁ (d, _) (.tail _ hd)).1, rfl, 0, rfl⟩
    k_steps
    · exact hret.2 _ _ _ (one_hit1 (by with_reducible assumption) (by with_reducible assumption) (by with_reducible assumption) (by with_reducible assumption) (lk_sl (by with_reducible assumption)) (by with_reducible assumption) (by with_reducible assumption) hgi hno (g_hit (.inl (by with_reducible assumption))) (by with_reducible assumption)) _ _ _ _ _ _ (by with_reducible assumption) (one_nw (by with_reducible assumption)) (one_lt (by with_reducible assumption))
    · exact hret.2 _ _ _ (one_hit2 (by with_reducible assumption) (by with_reducible assumption) (by with_reducible assumption) (by with_reducible assumption) (lk_sl (by with_reducible assumption)) (by with_reducible assumption) (by with_reducible assumption) hgi hno (g_hit (.inl (by with_reducible assumption))) (by with_reducible assumption)) _ _ _ _ _ _ (by with_reducible assumption) (one_nw (by with_reducible assumption)) (one_lt (by with_reducible assumption))
    · exact hret.2 _ _ _ (one_hit1 (by with_reducible assumption) (by with_reducible assumption) (by with_reducible assumption) (by with_reducible assumption) (lk_sl (by with_reducible assumption)) (by with_reducible assumption) (by with_reducible assumption) hgi hno (g_hit (.inr (by with_reducible assumption))) (by with_reducible assumption)) _ _ _ _ _ _ (by with_reducible assumption) (one_nw (by with_reducible assumption)) (one_lt (by with_reducible assumption))
    · exact hret.2 _ _ _ (one_hit2 (by with_reducible assumption) (by with_reducible assumption) (by with_reducible assumption) (by with_reducible assumption) (lk_sl (by with_reducible assumption)) (by with_reducible assumption) (by with_reducible assumption) hgi hno (g_hit (.inr (by with_reducible assumption))) (by with_reducible assumption)) _ _ _ _ _ _ (by with_reducible assumption) (one_nw (by with_reducible assumption)) (one_lt (by with_reducible assumption))
    · exact TPost.next (by with_reducible assumption) (by with_reducible assumption) hI (.head _) (gr_next (by intro p hp; simp only [List.mem_cons, List.not_mem_nil, or_false] at hp; rcases hp with rfl | rfl | rfl <;> with_unfolding_all rfl) hgi hno (g_miss (by with_reducible assumption) (by with_reducible assumption)))
  · unfold Hold
    intro m₁ h tk hn F₁ N₁
    k_steps
    exact hret.1 (one_miss (by with_reducible assumption) (by with_reducible assumption) (by with_reducible assumption) (by with_reducible assumption) (lk_sl (by with_reducible assumption)) (by with_reducible assumption) (by with_reducible assumption) hn) _ _ (by with_reducible assumption) (one_nd (by with_reducible assumption))
end Jb
end
section
namespace Jb
namespace Pl
def bl (c : Nat) : Bool := decide (c = 32) || (decide (9 ≤ c) && decide (c ≤ 13)) || (decide (28 ≤ c) && decide (c ≤ 31))
def dg (c : Nat) : Bool := decide (48 ≤ c) && decide (c ≤ 57)
def lo (c : Nat) : Nat := if 65 ≤ c ∧ c ≤ 90 then c + 32 else c
def lt (c : Nat) : Bool := decide (97 ≤ lo c) && decide (lo c ≤ 122)
def sp (c : Nat) : Bool := decide (c = 44) || decide (c = 59) || decide (c = 124)
def mapO {α β : Type} (f : α → Option β) : List α → Option (List β)
  | [] => some []
  | a :: r => match f a with | none => none | some b => (mapO f r).map (b :: ·)
def lk (l : List Nat) : Option (List Nat) :=
  if l.take 1 = [47] then some (l.drop 1) else if (l.take 3).map lo = [112, 101, 114] then some (l.drop 3) else none
abbrev Rl := List Nat × List Nat × List Nat
def rd (l : List Nat) : Option (Rl × List Nat) :=
  let s1 := l.dropWhile bl
  if s1.takeWhile dg = [] then none else
  match lk ((s1.dropWhile dg).dropWhile bl) with
  | none => none
  | some p3 =>
    let s2 := p3.dropWhile bl
    let s3 := (s2.dropWhile dg).dropWhile bl
    if s3.takeWhile lt = [] then none else
    some ((s1.takeWhile dg, s2.takeWhile dg, s3.takeWhile lt), (s3.dropWhile lt).dropWhile bl)
def rds : Nat → List Nat → Option (List Rl)
  | 0, _ => none
  | n + 1, l => match rd l with
    | none => none
    | some (q, []) => some [q]
    | some (q, s :: t) => if sp s = true then (rds n t).map (q :: ·) else none
def rst (l : List Nat) : List Nat := (l.reverse.dropWhile bl).reverse
def stp (l : List Nat) : List Nat := rst (l.dropWhile bl)
def lk2 (l : List Nat) : Option (List Nat) :=
  if l.take 1 = [47] then some (l.drop 1) else if l.take 3 = [112, 101, 114] then some (l.drop 3) else none
def one {γ : Type} (item : List Nat → List Nat → List Nat → Option γ) (p : List Nat) : Option γ :=
  let q1 := stp p
  if q1.takeWhile dg = [] then none else
  match lk2 ((stp (q1.dropWhile dg)).map lo) with
  | none => none
  | some q3 =>
    let q4 := stp q3
    item (q1.takeWhile dg) (q4.takeWhile dg) (stp (q4.dropWhile dg))
def spl : List Nat → List (List Nat)
  | [] => [[]]
  | c :: r => if sp c = true then [] :: spl r else match spl r with | [] => [[c]] | p :: ps => (c :: p) :: ps
theorem spl_ne : ∀ l, spl l ≠ []
  | [] => by simp [spl]
  | c :: r => by
    unfold spl
    split
    · simp
    · split <;> simp
-- a head that fails a test
def Hd (q : Nat → Bool) (r : List Nat) : Prop := ∀ c t, r = c :: t → q c = false
theorem dw_app {q : Nat → Bool} {r : List Nat} (h : Hd q r) : ∀ l, (l ++ r).dropWhile q = l.dropWhile q ++ r
  | [] => by
    cases r with
    | nil => rfl
    | cons c t => simp [List.dropWhile_cons, h c t rfl]
  | a :: l => by
    simp only [List.cons_append, List.dropWhile_cons]
    split
    · exact dw_app h l
    · rfl
theorem tw_app {q : Nat → Bool} {r : List Nat} (h : Hd q r) : ∀ l, (l ++ r).takeWhile q = l.takeWhile q
  | [] => by
    cases r with
    | nil => rfl
    | cons c t => simp [List.takeWhile_cons, h c t rfl]
  | a :: l => by
    simp only [List.cons_append, List.takeWhile_cons]
    split
    · rw [tw_app h l]
    · rfl
theorem sp_bl {c : Nat} (h : sp c = true) : bl c = false := by
  simp [sp] at h; rcases h with (h | h) | h <;> subst h <;> decide
theorem sp_dg {c : Nat} (h : sp c = true) : dg c = false := by
  simp [sp] at h; rcases h with (h | h) | h <;> subst h <;> decide
theorem sp_lt {c : Nat} (h : sp c = true) : lt c = false := by
  simp [sp] at h; rcases h with (h | h) | h <;> subst h <;> decide
def SepHd (r : List Nat) : Prop := ∀ c t, r = c :: t → sp c = true
theorem lk_app {r : List Nat} (h : SepHd r) (l : List Nat) : lk (l ++ r) = (lk l).map (· ++ r) := by
  have key : ∀ c t, r = c :: t → c ≠ 47 ∧ lo c ≠ 112 ∧ lo c ≠ 101 ∧ lo c ≠ 114 := by
    intro c t e
    have := h c t e
    simp [sp] at this
    rcases this with (h | h) | h <;> subst h <;> decide
  cases r with
  | nil => simp
  | cons c t =>
    obtain ⟨k1, k2, k3, k4⟩ := key c t rfl
    match l with
    | [] => simp [lk, k1, k2]
    | [x] => by_cases hx : x = 47 <;> simp [lk, hx, k3]
    | [x, y] => by_cases hx : x = 47 <;> simp [lk, hx, k4]
    | x :: y :: z :: l =>
      by_cases hx : x = 47
      · simp [lk, hx]
      · by_cases hp : lo x = 112 ∧ lo y = 101 ∧ lo z = 114
        · simp [lk, hx, hp.1, hp.2.1, hp.2.2]
        · have : ¬ (lo x = 112 ∧ lo y = 101 ∧ lo z = 114) := hp
          simp [lk, hx, this]
theorem rd_app {r : List Nat} (h : SepHd r) (l : List Nat) : rd (l ++ r) = (rd l).map fun q => (q.1, q.2 ++ r) := by
  have hb : Hd bl r := fun c t e => sp_bl (h c t e)
  have hd : Hd dg r := fun c t e => sp_dg (h c t e)
  have hl : Hd lt r := fun c t e => sp_lt (h c t e)
  unfold rd
  simp only [dw_app hb, dw_app hd, tw_app hd, lk_app h]
  split
  · rfl
  · cases lk (((l.dropWhile bl).dropWhile dg).dropWhile bl) with
    | none => rfl
    | some p3 =>
      simp only [Option.map_some, dw_app hb, dw_app hd, tw_app hd, tw_app hl, dw_app hl]
      split <;> rfl
theorem lk_sub {l r : List Nat} (h : lk l = some r) : ∀ c ∈ r, c ∈ l := by
  unfold lk at h
  split at h
  · cases h; exact fun c hc => List.mem_of_mem_drop hc
  · split at h
    · cases h; exact fun c hc => List.mem_of_mem_drop hc
    · cases h
theorem dw_sub {q : Nat → Bool} {l : List Nat} {c : Nat} (h : c ∈ l.dropWhile q) : c ∈ l := (List.dropWhile_sublist q).subset h
theorem rd_sub {l r : List Nat} {q : Rl} (h : rd l = some (q, r)) : ∀ c ∈ r, c ∈ l := by
  unfold rd at h
  dsimp only at h
  split at h
  · cases h
  · split at h
    · cases h
    · rename_i p3 hp
      split at h
      · cases h
      · cases h
        intro c hc
        exact dw_sub (dw_sub (dw_sub (lk_sub hp _ (dw_sub (dw_sub (dw_sub (dw_sub (dw_sub hc))))))))
-- strips
theorem rst_nil : rst [] = [] := rfl
theorem rst_snoc (l : List Nat) (c : Nat) : rst (l ++ [c]) = if bl c = true then rst l else l ++ [c] := by
  simp only [rst, List.reverse_append, List.reverse_cons, List.reverse_nil, List.nil_append, List.singleton_append, List.dropWhile_cons]
  split <;> simp
theorem snoc_ind {P : List Nat → Prop} (h0 : P []) (h1 : ∀ l c, P l → P (l ++ [c])) : ∀ l, P l := by
  intro l
  have : ∀ r : List Nat, P r.reverse := by
    intro r
    induction r with
    | nil => exact h0
    | cons c r ih => rw [List.reverse_cons]; exact h1 _ _ ih
  simpa using this l.reverse
theorem rst_app (l : List Nat) : ∃ b, l = rst l ++ b ∧ ∀ c ∈ b, bl c = true := by
  refine snoc_ind (P := fun l => ∃ b, l = rst l ++ b ∧ ∀ c ∈ b, bl c = true) ⟨[], rfl, fun _ h => nomatch h⟩ ?_ l
  rintro l c ⟨b, hb, hq⟩
  rw [rst_snoc]
  split
  · rename_i hc
    refine ⟨b ++ [c], ?_, ?_⟩
    · rw [← List.append_assoc, ← hb]
    · intro d hd
      rcases List.mem_append.mp hd with h | h
      · exact hq d h
      · rw [List.mem_singleton.mp h]; exact hc
  · exact ⟨[], by simp, fun _ h => nomatch h⟩
theorem rst_blanks (l : List Nat) {b : List Nat} (h : ∀ c ∈ b, bl c = true) : rst (l ++ b) = rst l := by
  revert h
  refine snoc_ind (P := fun b => (∀ c ∈ b, bl c = true) → rst (l ++ b) = rst l) (by simp) ?_ b
  intro b c ih h
  rw [← List.append_assoc, rst_snoc, if_pos (h c (by simp))]
  exact ih fun d hd => h d (by simp [hd])
theorem rst_all {b : List Nat} (h : ∀ c ∈ b, bl c = true) : rst b = [] := by
  have := rst_blanks [] h
  rw [List.nil_append] at this
  exact this.trans rfl
theorem rst_keep {l : List Nat} {c : Nat} (h : bl c = false) : rst (l ++ [c]) = l ++ [c] := by
  rw [rst_snoc, h]; simp
theorem rst_rst (l : List Nat) : rst (rst l) = rst l := by
  obtain ⟨b, hb, hq⟩ := rst_app l
  conv => rhs; rw [hb]
  rw [rst_blanks _ hq]
theorem bl_dg {c : Nat} (h : bl c = true) : dg c = false := by
  simp [bl, dg] at h ⊢; omega
theorem bl_lo (c : Nat) : bl (lo c) = bl c := by
  unfold lo
  split
  · rename_i h
    have h1 : bl (c + 32) = false := by simp [bl]; omega
    have h2 : bl c = false := by simp [bl]; omega
    rw [h1, h2]
  · rfl
theorem dg_lo (c : Nat) : dg (lo c) = dg c := by
  unfold lo
  split
  · rename_i h
    have h1 : dg (c + 32) = false := by simp [dg]; omega
    have h2 : dg c = false := by simp [dg]; omega
    rw [h1, h2]
  · rfl
theorem lt_lo (c : Nat) : lt (lo c) = lt c := by
  have : lo (lo c) = lo c := by unfold lo; repeat' split <;> try omega
  simp [lt, this]
theorem bl_lt {c : Nat} (h : bl c = true) : lt c = false := by
  have : ¬ (65 ≤ c ∧ c ≤ 90) := by simp [bl] at h; omega
  simp [lt, lo, this]; simp [bl] at h; omega
theorem dg_bl {c : Nat} (h : dg c = true) : bl c = false := by
  simp [bl, dg] at *; omega
theorem lt_bl {c : Nat} (h : lt c = true) : bl c = false := by
  cases hb : bl c with
  | false => rfl
  | true => rw [bl_lt hb] at h; cases h
/-- dropWhile of a test that no blank meets goes through rst -/
theorem dw_blanks {q : Nat → Bool} (hq : ∀ c, bl c = true → q c = false) {b : List Nat} (h : ∀ c ∈ b, bl c = true) : b.dropWhile q = b := by
  cases b with
  | nil => rfl
  | cons c r => simp [List.dropWhile_cons, hq c (h c (by simp))]
theorem hd_blanks {q : Nat → Bool} (hq : ∀ c, bl c = true → q c = false) {b : List Nat} (h : ∀ c ∈ b, bl c = true) : Hd q b := by
  intro c t e; subst e; exact hq c (h c (by simp))
theorem dw_rst {q : Nat → Bool} (hq : ∀ c, bl c = true → q c = false) (l : List Nat) : (rst l).dropWhile q = rst (l.dropWhile q) := by
  obtain ⟨b, hb, hbl⟩ := rst_app l
  have h1 : l.dropWhile q = (rst l).dropWhile q ++ b := by
    conv => lhs; rw [hb]
    exact dw_app (hd_blanks hq hbl) _
  rw [h1, rst_blanks _ hbl]
  -- rst fixes a suffix of rst l
  have : ∀ s : List Nat, (∃ p, rst l = p ++ s) → rst s = s := by
    rintro s ⟨p, hp⟩
    have hr := rst_rst l
    rw [hp] at hr
    revert hr
    refine snoc_ind (P := fun s => rst (p ++ s) = p ++ s → rst s = s) (fun _ => rfl) ?_ s
    intro s c _ hr
    rw [← List.append_assoc, rst_snoc] at hr
    rw [rst_snoc]
    split
    · rename_i hc
      rw [if_pos hc] at hr
      obtain ⟨b', hb', _⟩ := rst_app (p ++ s)
      have := congrArg List.length hr
      have h2 := congrArg List.length hb'
      simp only [List.length_append, List.length_cons, List.length_nil] at this h2
      omega
    · rfl
  exact (this _ ⟨(rst l).takeWhile q, (List.takeWhile_append_dropWhile).symm⟩).symm
theorem tw_rst {q : Nat → Bool} (hq : ∀ c, bl c = true → q c = false) (l : List Nat) : (rst l).takeWhile q = l.takeWhile q := by
  obtain ⟨b, hb, hbl⟩ := rst_app l
  conv => rhs; rw [hb]
  exact (tw_app (hd_blanks hq hbl) _).symm
theorem dwbl_rst (l : List Nat) : (rst l).dropWhile bl = rst (l.dropWhile bl) := by
  obtain ⟨b, hb, hbl⟩ := rst_app l
  by_cases h : (rst l).dropWhile bl = []
  · rw [h]
    have h2 : ∀ c ∈ l.dropWhile bl, bl c = true := by
      intro c hc
      have h3 : ∀ c ∈ rst l, bl c = true := by
        intro d hd
        have := List.takeWhile_append_dropWhile (p := bl) (l := rst l)
        rw [h, List.append_nil] at this
        rw [← this] at hd
        exact (List.all_eq_true.mp List.all_takeWhile) d hd
      have : c ∈ l := dw_sub hc
      rw [hb] at this
      rcases List.mem_append.mp this with h | h
      · exact h3 c h
      · exact hbl c h
    rw [rst_all h2]
  · have h1 : l.dropWhile bl = (rst l).dropWhile bl ++ b := by
      conv => lhs; rw [hb]
      rw [List.dropWhile_append]
      have : ((rst l).dropWhile bl).isEmpty = false := by simpa [List.isEmpty_iff] using h
      rw [this]; simp
    rw [h1, rst_blanks _ hbl]
    -- suffix
    have hr := rst_rst l
    have e := List.takeWhile_append_dropWhile (p := bl) (l := rst l)
    generalize (rst l).takeWhile bl = p at e
    generalize (rst l).dropWhile bl = s at e h
    rw [← e] at hr
    clear e h1
    clear h
    revert hr
    refine snoc_ind (P := fun s => rst (p ++ s) = p ++ s → s = rst s) (fun _ => rfl) ?_ s
    intro s c _ hr
    rw [← List.append_assoc, rst_snoc] at hr
    rw [rst_snoc]
    split
    · rename_i hc
      rw [if_pos hc] at hr
      obtain ⟨b', hb', _⟩ := rst_app (p ++ s)
      have := congrArg List.length hr
      have h2 := congrArg List.length hb'
      simp only [List.length_append, List.length_cons, List.length_nil] at this h2
      omega
    · rfl
theorem dw_dw (q : Nat → Bool) (l : List Nat) : (l.dropWhile q).dropWhile q = l.dropWhile q := by
  induction l with
  | nil => rfl
  | cons a r ih =>
    rw [List.dropWhile_cons]
    split
    · exact ih
    · rename_i h
      rw [List.dropWhile_cons, if_neg h]
theorem stp_rst (l : List Nat) : stp (rst l) = stp l := by
  unfold stp; rw [dwbl_rst, rst_rst]
theorem map_dw {q : Nat → Bool} (h : ∀ c, q (lo c) = q c) : ∀ l : List Nat, (l.map lo).dropWhile q = (l.dropWhile q).map lo
  | [] => rfl
  | a :: r => by
    simp only [List.map_cons, List.dropWhile_cons, h]
    split
    · exact map_dw h r
    · rfl
theorem map_tw {q : Nat → Bool} (h : ∀ c, q (lo c) = q c) : ∀ l : List Nat, (l.map lo).takeWhile q = (l.takeWhile q).map lo
  | [] => rfl
  | a :: r => by
    simp only [List.map_cons, List.takeWhile_cons, h]
    split
    · rw [map_tw h r]; rfl
    · rfl
theorem map_rst (l : List Nat) : rst (l.map lo) = (rst l).map lo := by
  unfold rst
  rw [← List.map_reverse, map_dw bl_lo, List.map_reverse]
theorem map_stp (l : List Nat) : stp (l.map lo) = (stp l).map lo := by
  unfold stp; rw [map_dw bl_lo, map_rst]
theorem dg_map {l : List Nat} (h : ∀ c ∈ l, dg c = true) : l.map lo = l := by
  have : l.map lo = l.map id := List.map_congr_left fun c hc => by
    have := h c hc
    simp [dg] at this
    unfold lo; rw [if_neg (by omega)]; rfl
  rw [this, List.map_id]
theorem tw_all {q : Nat → Bool} {l : List Nat} : ∀ c ∈ l.takeWhile q, q c = true := fun c hc => (List.all_eq_true.mp List.all_takeWhile) c hc
theorem tw_self {q : Nat → Bool} {l : List Nat} (h : ∀ c ∈ l, q c = true) : l.takeWhile q = l := by
  induction l with
  | nil => rfl
  | cons a r ih => rw [List.takeWhile_cons, if_pos (h a (by simp)), ih fun d hd => h d (by simp [hd])]
theorem dw_nil {q : Nat → Bool} {l : List Nat} (h : ∀ c ∈ l, q c = true) : l.dropWhile q = [] := by
  induction l with
  | nil => rfl
  | cons a r ih => rw [List.dropWhile_cons, if_pos (h a (by simp)), ih fun d hd => h d (by simp [hd])]
theorem dw_nil' {q : Nat → Bool} {l : List Nat} (h : l.dropWhile q = []) : ∀ c ∈ l, q c = true := by
  have := List.takeWhile_append_dropWhile (p := q) (l := l)
  rw [h, List.append_nil] at this
  rw [← this]; exact tw_all
/-- the link: over a list without trailing blanks -/
theorem lk2_lk {l : List Nat} (hb : ∀ c t, l = c :: t → bl c = false) : (lk2 ((rst l).map lo)).map stp = (lk l).map fun r => (stp r).map lo := by
  have lo47 : ∀ x, lo x = 47 ↔ x = 47 := by
    intro x; unfold lo; split <;> omega
  have k47 : bl 47 = false := by decide
  have kper : ∀ x, lo x = 112 ∨ lo x = 101 ∨ lo x = 114 → bl x = false := by
    intro x hx
    rw [← bl_lo]
    rcases hx with h | h | h <;> rw [h] <;> decide
  obtain ⟨b, hl, hbl⟩ := rst_app l
  have stb : ∀ r, stp (r ++ b) = stp r := by
    intro r
    have : stp (rst (r ++ b)) = stp (rst r) := by rw [rst_blanks _ hbl]
    rwa [stp_rst, stp_rst] at this
  generalize hm : rst l = m at hl
  subst hl
  have hbb : ∀ c t, b = c :: t → bl c = true := fun c t e => hbl c (by simp [e])
  match m with
  | [] =>
    cases b with
    | nil => rfl
    | cons c t =>
      exact absurd (hb c t rfl) (by rw [hbb c t rfl]; decide)
  | [x] =>
    by_cases hx : x = 47
    · subst hx
      have : stp b = stp [] := by simpa using stb []
      simp [lk2, lk, lo47, this]
      rfl
    · have : ∀ y t, b = y :: t → lo y ≠ 101 := fun y t e h => by
        have := kper y (.inr (.inl h)); rw [hbb y t e] at this; cases this
      have h2 : ¬ lo x = 47 := fun h => hx ((lo47 x).mp h)
      cases b with
      | nil => simp [lk2, lk, hx, h2]
      | cons y t => simp [lk2, lk, hx, h2, this y t rfl]
  | [x, y] =>
    by_cases hx : x = 47
    · subst hx
      have : stp (y :: b) = stp [y] := by simpa using stb [y]
      simp [lk2, lk, lo47, this]
      rw [← map_stp]; rfl
    · have : ∀ z t, b = z :: t → lo z ≠ 114 := fun z t e h => by
        have := kper z (.inr (.inr h)); rw [hbb z t e] at this; cases this
      have h2 : ¬ lo x = 47 := fun h => hx ((lo47 x).mp h)
      cases b with
      | nil => simp [lk2, lk, hx, h2]
      | cons z t => simp [lk2, lk, hx, h2, this z t rfl]
  | x :: y :: z :: r =>
    by_cases hx : x = 47
    · subst hx
      have : stp (y :: z :: (r ++ b)) = stp (y :: z :: r) := by simpa using stb (y :: z :: r)
      simp [lk2, lk, lo47, this]
      rw [← map_stp]; rfl
    · have h2 : ¬ lo x = 47 := fun h => hx ((lo47 x).mp h)
      by_cases hp : lo x = 112 ∧ lo y = 101 ∧ lo z = 114
      · have := stb r
        simp [lk2, lk, hx, hp.1, hp.2.1, hp.2.2, this]
        rw [← map_stp]
      · simp [lk2, lk, hx, h2, hp]
theorem dw_head {q : Nat → Bool} {l : List Nat} {c : Nat} {t : List Nat} (h : l.dropWhile q = c :: t) : q c = false := by
  induction l with
  | nil => cases h
  | cons a r ih =>
    rw [List.dropWhile_cons] at h
    split at h
    · exact ih h
    · rename_i hq
      cases h
      simpa using hq
/-- what the law tells of a part is what the reader tells of it, where the reader ends with the part -/
theorem one_rd {γ : Type} {item : List Nat → List Nat → List Nat → Option γ} (H : ∀ a b c x, item a b c = some x → c ≠ [] ∧ ∀ d ∈ c, lt d = true) (p : List Nat) :
    one item p = match rd p with | some ((a, b, c), []) => item a b (c.map lo) | _ => none := by
  unfold one rd
  dsimp only
  have e1 : (stp p).takeWhile dg = (p.dropWhile bl).takeWhile dg := by
    unfold stp; exact tw_rst (fun c => bl_dg) _
  have e2 : stp ((stp p).dropWhile dg) = rst (((p.dropWhile bl).dropWhile dg).dropWhile bl) := by
    unfold stp; rw [dw_rst (fun c => bl_dg), dwbl_rst, rst_rst]
  rw [e1, e2]
  generalize (p.dropWhile bl).takeWhile dg = a
  generalize hl : ((p.dropWhile bl).dropWhile dg).dropWhile bl = l
  split
  · rfl
  · have hk := lk2_lk (l := l) (fun c t e => dw_head (hl.trans e))
    cases h2 : lk l with
    | none =>
      rw [h2] at hk
      cases h3 : lk2 ((rst l).map lo) with
      | none => rfl
      | some x => rw [h3] at hk; cases hk
    | some r =>
      rw [h2] at hk
      cases h3 : lk2 ((rst l).map lo) with
      | none => rw [h3] at hk; cases hk
      | some x =>
        rw [h3] at hk
        have hx : stp x = (stp r).map lo := by simpa using hk
        dsimp only
        rw [hx, map_tw dg_lo, map_dw dg_lo, map_stp]
        have f1 : (stp r).takeWhile dg = (r.dropWhile bl).takeWhile dg := by
          unfold stp; exact tw_rst (fun c => bl_dg) _
        have f2 : stp ((stp r).dropWhile dg) = rst (((r.dropWhile bl).dropWhile dg).dropWhile bl) := by
          unfold stp; rw [dw_rst (fun c => bl_dg), dwbl_rst, rst_rst]
        rw [f1, f2, dg_map tw_all]
        generalize (r.dropWhile bl).takeWhile dg = b
        generalize ((r.dropWhile bl).dropWhile dg).dropWhile bl = q
        -- item on rst q against the reader on q
        obtain ⟨w, hw, hwb⟩ := rst_app q
        by_cases hall : rst q ≠ [] ∧ ∀ d ∈ rst q, lt d = true
        · have t1 : q.takeWhile lt = rst q := by
            conv => lhs; rw [hw]
            rw [tw_app (hd_blanks (fun c => bl_lt) hwb)]
            exact tw_self hall.2
          have t2 : (q.dropWhile lt).dropWhile bl = [] := by
            have : q.dropWhile lt = w := by
              conv => lhs; rw [hw]
              rw [dw_app (hd_blanks (fun c => bl_lt) hwb)]
              have : (rst q).dropWhile lt = [] := dw_nil hall.2
              rw [this]; rfl
            rw [this]
            exact dw_nil hwb
          rw [t1, t2, if_neg hall.1]
        · have n1 : item a b ((rst q).map lo) = none := by
            cases hi : item a b ((rst q).map lo) with
            | none => rfl
            | some y =>
              obtain ⟨g1, g2⟩ := H _ _ _ _ hi
              refine absurd ⟨fun e => g1 (by rw [e]; rfl), fun d hd => ?_⟩ hall
              rw [← lt_lo]
              exact g2 _ (List.mem_map_of_mem hd)
          rw [n1]
          by_cases hne : q.takeWhile lt = []
          · rw [if_pos hne]
          · rw [if_neg hne]
            cases hz : (q.dropWhile lt).dropWhile bl with
            | cons _ _ => rfl
            | nil =>
              exfalso
              refine hall ?_
              have hz2 : ∀ d ∈ q.dropWhile lt, bl d = true := dw_nil' hz
              have e := List.takeWhile_append_dropWhile (p := lt) (l := q)
              have e3 : rst q = q.takeWhile lt := by
                conv => lhs; rw [← e]
                rw [rst_blanks _ hz2]
                have : ∀ s : List Nat, (∀ d ∈ s, lt d = true) → rst s = s := by
                  intro s
                  refine snoc_ind (P := fun s => (∀ d ∈ s, lt d = true) → rst s = s) (fun _ => rfl) ?_ s
                  intro s c _ h
                  exact rst_keep (lt_bl (h c (by simp)))
                exact this _ tw_all
              rw [e3]
              exact ⟨hne, tw_all⟩
theorem spl_free {p : List Nat} (h : ∀ c ∈ p, sp c = false) : spl p = [p] := by
  induction p with
  | nil => rfl
  | cons c r ih =>
    unfold spl
    rw [if_neg (by rw [h c (by simp)]; decide), ih fun d hd => h d (by simp [hd])]
theorem spl_cut {p t : List Nat} {s : Nat} (h : ∀ c ∈ p, sp c = false) (hs : sp s = true) : spl (p ++ s :: t) = p :: spl t := by
  induction p with
  | nil => simp [spl, hs]
  | cons c r ih =>
    rw [List.cons_append, spl, if_neg (by rw [h c (by simp)]; decide), ih fun d hd => h d (by simp [hd])]
theorem cut (l : List Nat) : (∀ c ∈ l, sp c = false) ∨ ∃ p s t, l = p ++ s :: t ∧ (∀ c ∈ p, sp c = false) ∧ sp s = true := by
  induction l with
  | nil => exact .inl fun _ h => nomatch h
  | cons c r ih =>
    by_cases hc : sp c = true
    · exact .inr ⟨[], c, r, rfl, fun _ h => (List.not_mem_nil h).elim, hc⟩
    · have hc' : sp c = false := by simpa using hc
      rcases ih with h | ⟨p, s, t, rfl, h1, h2⟩
      · exact .inl fun d hd => by
          rcases List.mem_cons.mp hd with rfl | hd
          · exact hc'
          · exact h d hd
      · refine .inr ⟨c :: p, s, t, rfl, fun d hd => ?_, h2⟩
        rcases List.mem_cons.mp hd with rfl | hd
        · exact hc'
        · exact h1 d hd
def pm {γ : Type} (item : List Nat → List Nat → List Nat → Option γ) (n : Nat) (l : List Nat) : Option (List γ) :=
  match rds n l with | none => none | some rs => mapO (fun q => item q.1 q.2.1 (q.2.2.map lo)) rs
/-- the reader and the law tell the same of every text -/
theorem pm_one {γ : Type} {item : List Nat → List Nat → List Nat → Option γ} (H : ∀ a b c x, item a b c = some x → c ≠ [] ∧ ∀ d ∈ c, lt d = true) :
    ∀ (n : Nat) (l : List Nat), l.length < n → pm item n l = mapO (one item) (spl l) := by
  intro n
  induction n with
  | zero => intro l h; omega
  | succ n ih =>
    intro l hn
    have nosp : ∀ {p : List Nat} {q : Rl} {x : Nat} {y : List Nat}, (∀ c ∈ p, sp c = false) → rd p = some (q, x :: y) → sp x = false := fun hp hr => hp _ (rd_sub hr _ (by simp))
    rcases cut l with h | ⟨p, s, t, rfl, h1, h2⟩
    · rw [spl_free h]
      simp only [mapO, one_rd H]
      unfold pm rds
      cases hr : rd l with
      | none => rfl
      | some q =>
        obtain ⟨⟨a, b, c⟩, r⟩ := q
        cases r with
        | nil => 
          simp only [mapO]
        | cons x y =>
          simp [nosp h hr]
    · rw [spl_cut h1 h2]
      simp only [mapO, one_rd H]
      unfold pm rds
      rw [rd_app (fun c t e => by cases e; exact h2)]
      cases hr : rd p with
      | none => rfl
      | some q =>
        obtain ⟨⟨a, b, c⟩, r⟩ := q
        cases r with
        | cons x y =>
          simp [nosp h1 hr]
        | nil =>
          have iht := ih t (by simp at hn; omega)
          unfold pm at iht
          simp only [Option.map_some, List.nil_append, h2, if_true]
          rw [← iht]
          cases rds n t with
          | none => 
            simp only [Option.map_none]
            cases item a b (c.map lo) <;> rfl
          | some rs =>
            simp only [Option.map_some, mapO]
end Pl
end Jb
end
section
open PySem PySem.W PyProof.Rows PySem.Calls
namespace Jb
/-- glued by one sign -/
def glue1 (c : Nat) : List (List Nat) → List Nat
  | [] => []
  | [p] => p
  | p :: q :: r => p ++ c :: glue1 c (q :: r)
theorem cl_join (c : Nat) : ∀ ps : List Str, cl (Str.join ⟨#[c]⟩ ps) = glue1 c (ps.map cl)
  | [] => rfl
  | [p] => rfl
  | p :: q :: r => by
    show cl (p ++ ⟨#[c]⟩ ++ Str.join ⟨#[c]⟩ (q :: r)) = _
    rw [cl_app, cl_app, cl_join c (q :: r)]
    simp [glue1, cl]
def sub1 (c d k : Nat) : Nat := if k = c then d else k
theorem sub_free {c d : Nat} {p : List Nat} (h : c ∉ p) : p.map (sub1 c d) = p := by
  have : p.map (sub1 c d) = p.map id := List.map_congr_left fun k hk => by
    have hne : k ≠ c := fun e => h (by rw [← e]; exact hk)
    simp [sub1, hne]
  rw [this, List.map_id]
theorem glue_sub {c d : Nat} : ∀ {ps : List (List Nat)}, (∀ p ∈ ps, c ∉ p) → glue1 d ps = (glue1 c ps).map (sub1 c d)
  | [], _ => rfl
  | [p], h => (sub_free (h p (by simp))).symm
  | p :: q :: r, h => by
    have ih := glue_sub (c := c) (d := d) (ps := q :: r) fun x hx => h x (by simp [hx])
    simp only [glue1, List.map_append, List.map_cons, ih, sub_free (h p (by simp))]
    simp [sub1]
theorem split_cl_free (x : Str) (c : Nat) : ∀ p ∈ (Txt.split x ⟨#[c]⟩).map cl, c ∉ p := by
  intro p hp
  obtain ⟨q, hq, rfl⟩ := List.mem_map.mp hp
  exact StrLaws.split_free x c q hq
theorem cl_replace1 (x : Str) (c d : Nat) : cl (Txt.replace x ⟨#[c]⟩ ⟨#[d]⟩) = (cl x).map (sub1 c d) := by
  have e := congrArg cl (StrLaws.join_split x ⟨#[c]⟩)
  rw [cl_join] at e
  rw [StrLaws.replace_one, cl_join, glue_sub (split_cl_free x c), e]
def spl1 (c : Nat) : List Nat → List (List Nat)
  | [] => [[]]
  | k :: r => if k = c then [] :: spl1 c r else match spl1 c r with | [] => [[k]] | p :: ps => (k :: p) :: ps
theorem spl1_free {c : Nat} {p : List Nat} (h : c ∉ p) : spl1 c p = [p] := by
  induction p with
  | nil => rfl
  | cons k r ih =>
    rw [spl1, if_neg (fun e => h (by simp [e])), ih fun hr => h (by simp [hr])]
theorem spl1_cut {c : Nat} {p t : List Nat} (h : c ∉ p) : spl1 c (p ++ c :: t) = p :: spl1 c t := by
  induction p with
  | nil => simp [spl1]
  | cons k r ih =>
    rw [List.cons_append, spl1, if_neg (fun e => h (by simp [e])), ih fun hr => h (by simp [hr])]
theorem spl1_glue {c : Nat} : ∀ {ps : List (List Nat)}, ps ≠ [] → (∀ p ∈ ps, c ∉ p) → spl1 c (glue1 c ps) = ps
  | [], h, _ => absurd rfl h
  | [p], _, h => spl1_free (h p (by simp))
  | p :: q :: r, _, h => by
    rw [glue1, spl1_cut (h p (by simp)), spl1_glue (by simp) fun x hx => h x (by simp [hx])]
theorem split_spl1 (x : Str) (c : Nat) : (Txt.split x ⟨#[c]⟩).map cl = spl1 c (cl x) := by
  have e := congrArg cl (StrLaws.join_split x ⟨#[c]⟩)
  rw [cl_join] at e
  rw [← e, spl1_glue ?_ (split_cl_free x c)]
  intro h
  have := split_pos x ⟨#[c]⟩
  rw [List.map_eq_nil_iff] at h
  rw [h] at this
  simp at this
theorem spl_spl1 : ∀ l : List Nat, Pl.spl l = spl1 44 ((l.map (sub1 59 44)).map (sub1 124 44))
  | [] => rfl
  | k :: r => by
    simp only [List.map_cons, Pl.spl, spl1, ← spl_spl1 r]
    by_cases h1 : k = 59
    · simp [h1, sub1, Pl.sp]
    · by_cases h2 : k = 124
      · simp [h2, sub1, Pl.sp]
      · by_cases h3 : k = 44
        · simp [h3, sub1, Pl.sp]
        · simp only [h1, h2, h3, sub1, Pl.sp, if_false, decide_false, Bool.or_false, Bool.false_eq_true]
          all_goals (cases Pl.spl r <;> rfl)
abbrev partsF (x : Str) : List Str := Txt.split (Txt.replace (Txt.replace x (Str.ofString ";") (Str.ofString ",")) (Str.ofString "|") (Str.ofString ",")) (Str.ofString ",")
theorem parts_list (x : Str) : (partsF x).map cl = Pl.spl (cl x) := by
  have s1 : Str.ofString ";" = ⟨#[59]⟩ := by decide +kernel
  have s2 : Str.ofString "," = ⟨#[44]⟩ := by decide +kernel
  have s3 : Str.ofString "|" = ⟨#[124]⟩ := by decide +kernel
  unfold partsF
  rw [s1, s2, s3, split_spl1, cl_replace1, cl_replace1, ← spl_spl1]
theorem rep_facts {x y z : Str} {c d : Nat} (hA : Asc x) (hy : y = ⟨#[c]⟩) (hz : z = ⟨#[d]⟩) (hd : d < 128) : (Txt.replace x y z).length = x.length ∧ Asc (Txt.replace x y z) := by
  subst hy; subst hz
  have e := cl_replace1 x c d
  constructor
  · have := congrArg List.length e
    rwa [List.length_map, len_cl, len_cl] at this
  · intro k hk
    rw [e] at hk
    obtain ⟨j, hj, rfl⟩ := List.mem_map.mp hk
    unfold sub1
    split
    · exact hd
    · exact hA j hj
theorem glue_sub_mem {x : List Nat} {p : List Nat} (h : p ∈ Pl.spl x) : ∀ c ∈ p, c ∈ x := by
  induction x generalizing p with
  | nil => simp [Pl.spl] at h; subst h; exact fun _ h => nomatch h
  | cons k r ih =>
    unfold Pl.spl at h
    split at h
    · rcases List.mem_cons.mp h with rfl | h
      · exact fun _ h => nomatch h
      · exact fun c hc => .tail _ (ih h c hc)
    · split at h
      · simp at h; subst h; intro c hc; simp at hc; simp [hc]
      · rename_i q qs e
        rcases List.mem_cons.mp h with rfl | h
        · intro c hc
          rcases List.mem_cons.mp hc with rfl | hc
          · exact .head _
          · exact .tail _ (ih (by rw [e]; exact .head _) c hc)
        · exact fun c hc => .tail _ (ih (by rw [e]; exact .tail _ h) c hc)
theorem parts_asc {x p : Str} (hA : Asc x) (hp : p ∈ partsF x) : Asc p := by
  intro c hc
  refine hA c (glue_sub_mem (p := cl p) ?_ c hc)
  rw [← parts_list]
  exact List.mem_map_of_mem hp
end Jb
end
section
open PySem PySem.W PyProof.Rows PySem.Calls
namespace Jb
section
variable {prog : Program} {w : World} {A : Around} {h₀ : Heap} {L : Addr} {m : Str → Option Value} {env : Env} {elt : Expr} {x : Str} {scope : Scope} {cl : List (Str × Addr)} {news : List (Addr × Obj)}
/-- a comprehension over a list on the ledger that makes data -/
theorem comp_dat {Fin : Shared → List Value → List (Addr × Obj) → Prop} {ax : Addr} {vs : List Value} {k : Nat} {s₁ : Shared} (ds : List Dat) (hlen : vs.length = ds.length)
    (hh : A.handled = none) (F : Fr h₀ L s₁.heap m) (N : News h₀ L s₁.heap news) (hm : (ax, ({ cls := .type "list", data := .seq vs.toArray k } : Obj)) ∈ news) (hsz : vs.length ≤ sizeLine)
    (turn : Hold (∀ (i : Nat) v d I oI C oC D m₂ ys nx h tk (E' : Value → Shared → Prop), vs[i]? = some v → ds[i]? = some d → (∀ p ∈ news, p ∈ nx) → (ax, ({ cls := .type "list", data := .seq vs.toArray k } : Obj)) ∈ nx → LCg.NsObj oC m₂ → m₂ x = some v → Fr h₀ L h m → News h₀ L h ((I, oI) :: (C, oC) :: (D, LCg.lst ys) :: nx) → LCg.Off3 I C D nx → ((@Ne Nat I C) ∧ (@Ne Nat I D) ∧ (@Ne Nat C D)) →
      wpAny (model prog w) A (eval elt (compEnvC scope cl C env)) (LCg.CompEnd h₀ L m { s₁ with heap := h, toks := tk } I oI C oC D (LCg.lst ys) (LCg.SrcAt h₀ ax vs.toArray) (fun y nx' => (∀ p ∈ nx, p ∈ nx') ∧ DatIn nx' y d)) E' { s₁ with heap := h, toks := tk }))
    (fin : Hold (∀ g ys nx, (∀ p ∈ news, p ∈ nx) → DatAll nx ys ds → Fin { s₁ with heap := g } ys nx)) : LCg.CompSrc prog w A h₀ L m env elt x scope cl Fin (.ref ax) s₁ := by
  refine comp_led (fun i ys nx => (∀ p ∈ news, p ∈ nx) ∧ DatAll nx ys (ds.take i)) hh F N hm hsz ⟨fun _ h => h, by simpa using DatAll.nil⟩ ?_ ?_
  · intro i v I oI C oC D m₂ ys nx h tk E' hv hJ hC hx F N off ne
    have hi : i < ds.length := by rw [← hlen]; exact (List.getElem?_eq_some_iff.mp hv).1
    have hd := List.getElem?_eq_getElem hi
    refine wpAny_mono (turn i v _ I oI C oC D m₂ ys nx h tk E' hv hd hJ.1 (hJ.1 _ hm) hC hx F N off ne) (fun r s₂ hq => ?_) fun _ _ e => e
    obtain ⟨h', tk', nw, e, F', N', off', hS, hn, hT⟩ := hq
    refine ⟨h', tk', nw, e, F', N', off', hS, fun p hp => hn _ (hJ.1 p hp), ?_⟩
    rw [List.take_add_one, hd]
    exact (hJ.2.mono hn).append (.one hT)
  · intro g ys nx hJ
    refine fin g ys nx hJ.1 ?_
    have := hJ.2
    rwa [hlen, List.take_length] at this
theorem end0 {h₀ : Heap} {L I C D ax : Addr} {m : Str → Option Value} {s₁ : Shared} {oI oC oD : Obj} {its : Array Value} {k : Nat} {rest : Value → List (Addr × Obj) → Prop} {v : Value} {h' : Heap} {tk : Nat} {nx : List (Addr × Obj)}
    (F : Fr h₀ L h' m) (N : News h₀ L h' ((I, oI) :: (C, oC) :: (D, oD) :: nx)) (off : LCg.Off3 I C D nx) (src : (ax, ({ cls := .type "list", data := .seq its k } : Obj)) ∈ nx) (r : rest v nx) :
    LCg.CompEnd h₀ L m s₁ I oI C oC D oD (LCg.SrcAt h₀ ax its) rest v { s₁ with heap := h', toks := tk } :=
  .intro F N nx (fun p hp => hp) off (.inr ⟨_, src, rfl, _, rfl⟩) r
theorem end1d {h₀ : Heap} {L I C D a ax : Addr} {m : Str → Option Value} {s₁ : Shared} {oI oC oD o : Obj} {its : Array Value} {k : Nat} {rest : Value → List (Addr × Obj) → Prop} {h' : Heap} {tk : Nat} {nx : List (Addr × Obj)}
    (F : Fr h₀ L h' m) (N : News h₀ L h' ((a, o) :: (I, oI) :: (C, oC) :: (D, oD) :: nx)) (off : LCg.Off3 I C D nx) (lt : @LT.lt Nat _ I a ∧ @LT.lt Nat _ C a ∧ @LT.lt Nat _ D a) (src : (ax, ({ cls := .type "list", data := .seq its k } : Obj)) ∈ nx) (r : rest (.ref a) ((a, o) :: nx)) :
    LCg.CompEnd h₀ L m s₁ I oI C oC D oD (LCg.SrcAt h₀ ax its) rest (.ref a) { s₁ with heap := h', toks := tk } :=
  .intro F N ((a, o) :: nx) (fun p hp => by simp only [List.mem_cons] at hp ⊢; rcases hp with h | h | h | h | h <;> simp [h]) ⟨⟨Nat.ne_of_gt lt.1, Nat.ne_of_gt lt.2.1, Nat.ne_of_gt lt.2.2⟩, off⟩ (.inr ⟨_, .tail _ src, rfl, _, rfl⟩) r
end
theorem dec_t {p : Prop} {i : Decidable p} (h : @decide p i = true) : p := of_decide_eq_true h
theorem dec_f {p : Prop} {i : Decidable p} (h : @decide p i = false) : ¬ p := of_decide_eq_false h
def oneD : Option (Int × Int × Int) → Dat
  | none => .none
  | some (a, b, c) => .tuple [.int a, .int b, .int c]
def itD (it : Int × Int × Int) : Dat := .tuple [.int it.1, .int it.2.1, .int it.2.2]
def itD4 (it : Int × Int × Int) : Dat := .tuple [.int it.1, .int it.2.1, .int it.2.2, .int (it.1 * it.2.2)]
theorem oneD_ok (o : Option (Int × Int × Int)) : kqdOk 8 (oneD o) = true := by
  cases o with
  | none => rfl
  | some p => obtain ⟨a, b, c⟩ := p; simp [oneD, kqdOk]
theorem gFind_mem {g : Str} : ∀ {l : List (Str × Int)} {sec : Int}, gFind g l = some sec → ∃ p ∈ l, p.2 = sec
  | [], _, h => by cases h
  | p :: r, sec, h => by
    unfold gFind at h
    split at h
    · cases h; exact ⟨p, .head _, rfl⟩
    · obtain ⟨q, hq, e⟩ := gFind_mem h; exact ⟨q, .tail _ hq, e⟩
theorem oneF_sec {x : Str} {it : Int × Int × Int} (h : oneF x = some it) : 1 ≤ it.1 ∧ it.1 ≤ 31104000 := by
  unfold oneF at h
  split at h
  · cases h
  · split at h
    · cases h
    · obtain ⟨sec, h1, rfl⟩ := Option.map_eq_some_iff.mp h
      obtain ⟨p, hp, rfl⟩ := gFind_mem h1
      have : ∀ p ∈ grains6, 1 ≤ p.2 ∧ p.2 ≤ 31104000 := by decide +kernel
      exact this p hp
theorem due_none : ∀ {ps : List Str}, Dat.none ∈ ps.map (fun p => oneD (oneF p)) → mapO oneF ps = none
  | [], h => nomatch h
  | p :: r, h => by
    unfold mapO
    cases hp : oneF p with
    | none => rfl
    | some b =>
      rw [List.map_cons, hp] at h
      have : Dat.none ∈ r.map (fun p => oneD (oneF p)) := by
        rcases List.mem_cons.mp h with h | h
        · obtain ⟨a, b, c⟩ := b; cases h
        · exact h
      simp [due_none this]
theorem due_some : ∀ {ps : List Str}, Dat.none ∉ ps.map (fun p => oneD (oneF p)) → ∃ its, mapO oneF ps = some its ∧ ps.map (fun p => oneD (oneF p)) = its.map itD ∧ ∀ it ∈ its, 1 ≤ it.1 ∧ it.1 ≤ 31104000
  | [], _ => ⟨[], rfl, rfl, fun _ h => nomatch h⟩
  | p :: r, h => by
    rw [List.map_cons] at h
    obtain ⟨its, e1, e2, e3⟩ := due_some (ps := r) fun h' => h (.tail _ h')
    cases hp : oneF p with
    | none => exact absurd (by rw [hp]; exact .head _) h
    | some b =>
      refine ⟨b :: its, ?_, ?_, ?_⟩
      · simp [mapO, hp, e1]
      · rw [List.map_cons, List.map_cons, e2, hp]; rfl
      · intro it hit
        rcases List.mem_cons.mp hit with rfl | hit
        · exact oneF_sec hp
        · exact e3 it hit
theorem due_item {l : List (Str × Tok)} {i : Nat} {v : Value} {d : Dat} (hv : (strValues l)[i]? = some v) (hd : ((l.map (·.1)).map (fun p => oneD (oneF p)))[i]? = some d) : ∃ part tp, v = .str part tp ∧ d = oneD (oneF part) ∧ part ∈ l.map (·.1) := by
  unfold strValues at hv
  rw [List.getElem?_map] at hv
  obtain ⟨⟨part, tp⟩, h1, h2⟩ := Option.map_eq_some_iff.mp hv
  rw [List.getElem?_map, List.getElem?_map, h1] at hd
  simp only [Option.map_some, Option.some.injEq] at hd
  exact ⟨part, tp, h2.symm, hd.symm, List.mem_map.mpr ⟨_, List.mem_of_getElem? h1, rfl⟩⟩
theorem tup_item {news : List (Addr × Obj)} {ys : List Value} {its : List (Int × Int × Int)} {i : Nat} {v : Value} {d : Dat} (h : DatAll news ys (its.map itD)) (hv : ys[i]? = some v) (hd : (its.map itD4)[i]? = some d) :
    ∃ it a t1 t2 t3 n, it ∈ its ∧ d = itD4 it ∧ v = .ref a ∧ (a, ({ cls := .type "tuple", data := .seq #[.int it.1 t1, .int it.2.1 t2, .int it.2.2 t3] n } : Obj)) ∈ news := by
  rw [List.getElem?_map] at hd
  obtain ⟨it, h1, h2⟩ := Option.map_eq_some_iff.mp hd
  have hi : i < (its.map itD).length := by rw [List.length_map]; exact (List.getElem?_eq_some_iff.mp h1).1
  obtain ⟨v', e1, e2⟩ := h.get hi
  have : v' = v := Option.some.inj (e1.symm.trans hv)
  subst this
  have e3 : (its.map itD)[i] = itD it := by
    have : (its.map itD)[i]? = some (itD it) := by rw [List.getElem?_map, h1]; rfl
    rw [List.getElem?_eq_getElem hi] at this
    exact Option.some.inj this
  rw [e3] at e2
  unfold itD at e2
  cases e2 with
  | tuple hm hd =>
    cases hd with
    | cons a r => cases a with
      | int _ t1 => cases r with
        | cons a r => cases a with
          | int _ t2 => cases r with
            | cons a r => cases a with
              | int _ t3 => cases r with
                | nil => exact ⟨it, _, t1, t2, t3, _, List.mem_of_getElem? h1, h2.symm, rfl, hm⟩
local macro_rules | `(tactic| k_room) => `(tactic| ktr_room)
local macro_rules | `(tactic| k_units) => `(tactic| ktr_units)
local macro_rules | `(tactic| size_fits) => `(tactic| (rw [sizeLine_eq]; omega))
local macro_rules | `(tactic| walk_at "exec Assign cons ListComp") => `(tactic| (k_here; k_dflt (refine LCg.Assign_ListComp_U (F₀ := by k_asm) (by rfl) (by with_unfolding_all rfl) (by rfl) (by decide) (by rfl) (by decide) (by rfl) (by rfl) (by rfl) ?_)))
local macro_rules | `(tactic| walk_at "eval ListComp") => `(tactic| (k_here; k_dflt (refine LCg.ListComp_U (F₀ := by k_asm) (by with_unfolding_all rfl) (by decide) (by rfl) (by decide) (by rfl) ?_)))
theorem rep1 {prog : Program} {w : World} {A : Around} {E : Value → Shared → Prop} {s : Shared} {x y z : Str} {t u v : Tok} {Q : Value → Shared → Prop} {c d : Nat} (h0 : 1 ≤ s.toks) (hu : 1 ≤ u) (hv : v = u + 1) (hA : Asc x) (hx : x.length ≤ 600) (ey : y = ⟨#[c]⟩) (ez : z = ⟨#[d]⟩) (hcd : c ≠ d) (hd : d < 128)
    (hq : ∀ r t' k, Txt.replace x y z = r → r.length = x.length → Asc r → 1 ≤ k → Q (.str r t') { s with toks := k }) : wpAny (model prog w) A (call (.builtin "str.replace") [.str x t, .str y u, .str z v]) Q E s := by
  have hyz : (y == z) = false := by
    rw [beq_eq_false_iff_ne, ey, ez]
    intro e
    exact hcd (by simpa using congrArg cl e)
  have hz : z.length = 1 := by rw [ez]; rfl
  refine wpAny_with_toks h0 (SC.replaceW (Nat.ne_of_gt hu) (by rw [hv]; exact Nat.succ_ne_zero u) (by rw [hv]; exact (Nat.ne_of_lt (Nat.lt_succ_self u))) hyz (by omega) (by omega) fun t' k => ?_)
  intro hk
  obtain ⟨f1, f2⟩ := rep_facts (x := x) hA ey ez hd
  exact hq _ t' k rfl f1 f2 hk
local macro_rules | `(tactic| walk_at "call builtin:str.replace") => `(tactic| (k_here; k_dflt (first
  | (refine rep1 (c := 59) (d := 44) ?k1 ?k2 ?k3 ?k4 ?k5 ?k6 ?k7 ?k8 ?k9 ?_; (case k6 => decide +kernel); (case k1 => (dsimp only; omega)); (case k2 => omega); (case k3 => rfl); (case k4 => with_reducible assumption); (case k5 => omega); (case k7 => decide +kernel); (case k8 => decide); (case k9 => decide))
  | (refine rep1 (c := 124) (d := 44) ?k1 ?k2 ?k3 ?k4 ?k5 ?k6 ?k7 ?k8 ?k9 ?_; (case k6 => decide +kernel); (case k1 => (dsimp only; omega)); (case k2 => omega); (case k3 => rfl); (case k4 => with_reducible assumption); (case k5 => omega); (case k7 => decide +kernel); (case k8 => decide); (case k9 => decide))); intro r9 t9 k9 er9 lr9 ar9 hk9; (try dsimp only)))
local macro_rules | `(tactic| walk_at "call builtin:str.split") => `(tactic| (k_here; k_dflt (refine KSpl.split1 (by k_asm) (by k_asm) (by decide) ?_ (by rw [sizeLine_eq]; omega)); intro D8 l8 h8 k8 e8 a8 F8 N8 l18; (try k_lt l18)))
local macro_rules | `(tactic| walk_at "call ref") => `(tactic| (k_here; k_dflt ((show wpAny _ _ (call (Value.ref 370) [Value.str _ _]) _ _ _); refine' one_claim _ _ _ _ _ _ _ _ _ _ _ _ _ _ _ _ _ _ _ ?k1 ?k2 ?k3 ?k4 ?k5 ?k6 ?k7 ?k8 ?k9 ?_; (case k1 => k_asm); (case k2 => k_asm); (case k3 => k_asm); (case k4 => k_asm); (case k5 => k_asm); (case k6 => (first | exact rfl | assumption)); (case k7 => exact ⟨by omega, by with_reducible assumption⟩); (case k8 => ktr_room); (case k9 => ktr_units)); refine And.intro ?_ ?_; (intro e9 h9 tk9 F9 N9; (try dsimp only); (try k_fold)); rotate_left; (intro sec9 k9 j9 e9 d9 t91 t92 t93 h9 tk9 F9 N9 o9; (try k_lt o9); (try dsimp only); (try k_fold)); rotate_left))
set_option maxRecDepth 100000 in
set_option maxHeartbeats 4000000 in
theorem due_claim {prog : Program} {w : World} {p loose mean mg mb} {news} (x : Str) (tx : Tok) :
  Ctr prog w (Jb.a.heap_1_1 w.params) p loose mean mg mb 380 16 news [.str x tx] (x.length ≤ 600 ∧ Asc x) (fun h₀ L m s Q E =>
    (mapO oneF (partsF x) = none → ∀ h' tk', Fr h₀ L h' m → News h₀ L h' news → Q .none { s with heap := h', toks := tk' }) ∧
    (∀ its, mapO oneF (partsF x) = some its → ∀ D ys nx h' tk', Fr h₀ L h' m → News h₀ L h' ((D, LCg.lst ys) :: nx) → (∀ p ∈ news, p ∈ nx) → DatAll nx ys (its.map itD4) → Q (.ref D) { s with heap := h', toks := tk' })) := by
  dsimp only [Ctr]; intro dp un gd cn cs a ccd cl outer A₀ base h₀ L m s Q E hB hF hX hN hT hcs hpre hd hu hret; have hA := hpre.2; replace hpre := hpre.1
  refine wpAny_call ?_
  k_dflt ktr_enter
  k_with_none
  (generalize hk : s.toks + _ = tk0)
  have htk0 : 1 ≤ tk0 := by rw [← hk]; exact Nat.le_trans (Nat.le_of_eq (by with_unfolding_all rfl)) (Nat.le_add_left _ s.toks)
  clear hk
  w_top off
  k_steps
  rename List (Str × Tok) => l8
  rename List.map _ l8 = _ => e8
  rename Txt.replace _ (Str.ofString "|") _ = _ => er2
  rename Txt.replace x (Str.ofString ";") _ = _ => er1
  have hpt : l8.map (·.1) = partsF x := by unfold partsF; rw [er1, er2]; exact e8
  have hok : ∀ d ∈ (l8.map (·.1)).map (fun p => oneD (oneF p)), kqdOk 8 d = true := by
    intro d hd
    obtain ⟨p, _, rfl⟩ := List.mem_map.mp hd
    exact oneD_ok _
  have hln : (strValues l8).length ≤ 602 := by
    have h1 := len_le_of_split e8
    have h3 : (strValues l8).length = l8.length := by simp [strValues]
    omega
  refine comp_dat (vs := strValues l8) ((l8.map (·.1)).map (fun p => oneD (oneF p))) (by simp [strValues]) (by rfl) (by with_reducible assumption) (by with_reducible assumption) (.head _) (by rw [sizeLine_eq]; omega) ?_ ?_
  · unfold Hold
    intro i v d I oI C oC D m₂ ys nx h tk E2 hv hd hsub hli hC hm2 F9 N9 off ne
    obtain ⟨part, tp, rfl, rfl, hpm⟩ := due_item hv hd
    rw [hpt] at hpm
    have hpa := parts_asc hA hpm
    have hpl : part.length ≤ 600 := by
      have h1 := part_short hpm
      rw [er1, er2] at h1
      omega
    k_steps
    · rename oneF part = none => e9
      exact end0 (by with_reducible assumption) (by with_reducible assumption) off hli ⟨fun p hp => hp, by rw [e9]; exact .none⟩
    · rename oneF part = some _ => e9
      (obtain ⟨l1, l2, l3, l4⟩ := (by with_reducible assumption : I < _ ∧ C < _ ∧ D < _ ∧ AllLt _ nx))
      (rename News _ _ _ ((_, _) :: (I, oI) :: _) => N8)
      exact end1d (by with_reducible assumption) N8 off ⟨l1, l2, l3⟩ hli ⟨fun p hp => .tail _ hp, by rw [e9]; exact .tuple (.head _) (.cons (.int _ _) (.cons (.int _ _) (.cons (.int _ _) .nil)))⟩
  · unfold Hold
    intro g ys nx hsub hT
    unfold LCg.FinA
    intro D h tk F9 N9 o1
    try dsimp only
    try k_fold
    k_steps
    · rename decide _ = true => e9
      have e9' := dec_t e9
      exact hret.1 (by rw [← hpt]; exact due_none e9') _ _ (by with_reducible assumption) (cb_drop (by with_reducible assumption) fun p hp => .tail _ (hsub _ (.tail _ hp)))
    · rename decide _ = false => e9
      have e9' := dec_f e9
      obtain ⟨its, f1, f2, f3⟩ := due_some e9'
      rw [f2] at hT
      have hyl := hT.length
      rw [List.length_map] at hyl
      have hyl2 : ys.length ≤ 602 := by
        have h1 := congrArg List.length f2
        rw [List.length_map, List.length_map, List.length_map] at h1
        have h3 : (strValues l8).length = l8.length := by simp [strValues]
        omega
      refine comp_dat (vs := ys) (its.map itD4) (by rw [List.length_map]; exact hyl) (by rfl) (by with_reducible assumption) (by with_reducible assumption) (.head _) (by rw [sizeLine_eq]; omega) ?_ ?_
      · unfold Hold
        intro i v d I oI C oC D2 m₂ ys2 nx2 h tk E2 hv hd hsub2 hli hC hm2 F9 N9 off ne
        obtain ⟨it, xa, t1, t2, t3, n3, hit, rfl, rfl, hxa⟩ := tup_item hT hv hd
        obtain ⟨g1, g2⟩ := f3 _ hit
        have hT3 : IsTup h xa #[.int it.1 t1, .int it.2.1 t2, .int it.2.2 t3] := ⟨_, (N9 (xa, _) (.tail _ (.tail _ (.tail _ (hsub2 _ (.tail _ hxa)))))).1, rfl, n3, rfl⟩
        k_steps
        (rename News _ _ _ ((_, _) :: (I, oI) :: _) => N8)
        (obtain ⟨l1, l2, l3, l4⟩ := (by with_reducible assumption : I < _ ∧ C < _ ∧ D2 < _ ∧ AllLt _ nx2))
        exact end1d (by with_reducible assumption) N8 off ⟨l1, l2, l3⟩ hli ⟨fun p hp => .tail _ hp, .tuple (.head _) (.cons (.int _ _) (.cons (.int _ _) (.cons (.int _ _) (.cons (.int _ _) .nil))))⟩
      · unfold Hold
        intro g2 ys2 nx2 hsub2 hT2
        unfold LCg.FinE
        intro D2 h2 tk2 F29 N29 o12
        try dsimp only
        try k_fold
        k_steps
        exact hret.2 its (by rw [← hpt]; exact f1) _ _ _ _ _ (by with_reducible assumption) (by with_reducible assumption) (fun p hp => hsub2 _ (.tail _ (hsub _ (.tail _ hp)))) hT2
end Jb
end
section
open PySem PySem.W PyProof.Rows PySem.Calls
namespace Jb
theorem dw_drop {q : Nat → Bool} : ∀ l : List Nat, l.dropWhile q = l.drop (l.length - (l.dropWhile q).length)
  | [] => rfl
  | a :: r => by
    rw [List.dropWhile_cons]
    split
    · have h1 := dw_drop (q := q) r
      have h2 := dropWhile_len_le q r
      have : (a :: r).length - (r.dropWhile q).length = (r.length - (r.dropWhile q).length) + 1 := by simp; omega
      rw [this, List.drop_succ_cons]
      exact h1
    · simp
theorem tw_take {q : Nat → Bool} (l : List Nat) : l.takeWhile q = l.take (l.length - (l.dropWhile q).length) := by
  have e := List.takeWhile_append_dropWhile (p := q) (l := l)
  have hl := congrArg List.length e
  rw [List.length_append] at hl
  have : l.length - (l.dropWhile q).length = (l.takeWhile q).length := by omega
  rw [this]
  have h2 := List.take_left (l₁ := l.takeWhile q) (l₂ := l.dropWhile q)
  rw [e] at h2
  exact h2.symm
theorem dw_congr {p q : Nat → Bool} : ∀ {l : List Nat}, (∀ c ∈ l, p c = q c) → l.dropWhile p = l.dropWhile q
  | [], _ => rfl
  | a :: r, h => by
    rw [List.dropWhile_cons, List.dropWhile_cons, h a (by simp), dw_congr fun c hc => h c (by simp [hc])]
theorem tw_congr {p q : Nat → Bool} : ∀ {l : List Nat}, (∀ c ∈ l, p c = q c) → l.takeWhile p = l.takeWhile q
  | [], _ => rfl
  | a :: r, h => by
    rw [List.takeWhile_cons, List.takeWhile_cons, h a (by simp), tw_congr fun c hc => h c (by simp [hc])]
set_option maxRecDepth 100000 in
theorem inG_bl : ∀ c, c < 128 → inG (Str.ofString " \t\n\x0b\x0c\x0d\x1c\x1d\x1e\x1f") c = Pl.bl c := by decide +kernel
set_option maxRecDepth 100000 in
theorem inG_dg : ∀ c, c < 128 → inG (Str.ofString "0123456789") c = Pl.dg c := by decide +kernel
set_option maxRecDepth 100000 in
theorem inG_lt : ∀ c, c < 128 → inG (Str.ofString "abcdefghijklmnopqrstuvwxyz") c = Pl.lt c := by decide +kernel
/-- skip, told of lists -/
theorem skip_list {x : Str} {g : Str} {q : Nat → Bool} {k : Int} (hA : Asc x) (hg : ∀ c, c < 128 → inG g c = q c) (h0 : 0 ≤ k) (h : k ≤ x.length) :
    k ≤ skipF x k g ∧ skipF x k g ≤ x.length ∧ (cl x).drop (skipF x k g).toNat = ((cl x).drop k.toNat).dropWhile q ∧
    cl (Txt.slice x (some k) (some (skipF x k g))) = ((cl x).drop k.toNat).takeWhile q := by
  have h1 := skipF_ge x g k h0 h
  have h2 := skipF_le x g k
  have hc : ∀ c ∈ (cl x).drop k.toNat, inG g c = q c := fun c hc => hg c (hA c (List.mem_of_mem_drop hc))
  have hl : ((cl x).drop k.toNat).length = x.length - k.toNat := by rw [List.length_drop, len_cl]
  have hle := dropWhile_len_le (inG g) ((cl x).drop k.toNat)
  have e : (skipF x k g).toNat = k.toNat + (((cl x).drop k.toNat).length - (((cl x).drop k.toNat).dropWhile (inG g)).length) := by
    unfold skipF; omega
  refine ⟨h1, h2, ?_, ?_⟩
  · rw [← dw_congr hc, e, ← List.drop_drop, ← dw_drop]
  · rw [cl_slice x h0 h1 h, ← tw_congr hc, tw_take]
    congr 1
    omega
theorem linkEnd_list {x : Str} {r : Int} (hA : Asc x) (h0 : 0 ≤ r) (h : r ≤ x.length) :
    (linkEnd x r = none ∧ Pl.lk ((cl x).drop r.toNat) = none) ∨ ∃ p, linkEnd x r = some p ∧ 0 ≤ p ∧ p ≤ x.length ∧ Pl.lk ((cl x).drop r.toNat) = some ((cl x).drop p.toNat) := by
  have e1 : cl (Txt.slice x (some r) (some (r + 1))) = ((cl x).drop r.toNat).take 1 := by rw [cl_slice x h0 (by omega) h]; congr 1; omega
  have e3 : cl (Txt.slice x (some r) (some (r + 3))) = ((cl x).drop r.toNat).take 3 := by rw [cl_slice x h0 (by omega) h]; congr 1; omega
  have e3' : cl (Txt.lower (Txt.slice x (some r) (some (r + 3)))) = (((cl x).drop r.toNat).take 3).map Pl.lo := by
    rw [cl_lower (hA.slice h0 (by omega) h), e3]; rfl
  have s1 : cl (Str.ofString "/") = [47] := by decide +kernel
  have s3 : cl (Str.ofString "per") = [112, 101, 114] := by decide +kernel
  by_cases c1 : (Txt.slice x (some r) (some (r + 1)) == Str.ofString "/") = true
  · have hin := slash_in c1 h0 h
    refine .inr ⟨r + 1, linkEnd1 c1, by omega, hin, ?_⟩
    have := (e1.symm.trans (beq_cl c1)).trans s1
    unfold Pl.lk
    rw [if_pos this, List.drop_drop, show (r + 1).toNat = r.toNat + 1 by omega]
  · have c1' : (Txt.slice x (some r) (some (r + 1)) == Str.ofString "/") = false := by simpa using c1
    have n1 : ((cl x).drop r.toNat).take 1 ≠ [47] := fun e => c1 (beq_iff_eq.mpr (str_ext (e1.trans (e.trans s1.symm))))
    by_cases c3 : (Txt.lower (Txt.slice x (some r) (some (r + 3))) == Str.ofString "per") = true
    · have hin := per_in c3 hA h0 h
      refine .inr ⟨r + 3, linkEnd2 c1' c3, by omega, hin, ?_⟩
      have := (e3'.symm.trans (beq_cl c3)).trans s3
      unfold Pl.lk
      rw [if_neg n1, if_pos this, List.drop_drop, show (r + 3).toNat = r.toNat + 3 by omega]
    · have c3' : (Txt.lower (Txt.slice x (some r) (some (r + 3))) == Str.ofString "per") = false := by simpa using c3
      have n3 : (((cl x).drop r.toNat).take 3).map Pl.lo ≠ [112, 101, 114] := fun e => c3 (beq_iff_eq.mpr (str_ext (e3'.trans (e.trans s3.symm))))
      refine .inl ⟨linkEnd3 c1' c3', ?_⟩
      unfold Pl.lk
      rw [if_neg n1, if_neg n3]
def cvR (r : Rw) : Pl.Rl := (cl r.1, cl r.2.1, cl r.2.2.1)
theorem cl_nil_len {x : Str} {l : List Nat} (h : cl x = l) : l = [] ↔ x.length = 0 := by rw [← h, ← List.length_eq_zero_iff, len_cl]
theorem tw_nil_iff {x : Str} {k : Int} {g : Str} {q : Nat → Bool} (hA : Asc x) (hg : ∀ c, c < 128 → inG g c = q c) (h0 : 0 ≤ k) (h : k ≤ x.length) : skipF x k g = k ↔ ((cl x).drop k.toNat).takeWhile q = [] := by
  obtain ⟨a, b, c, d⟩ := skip_list hA hg h0 h
  rw [← d, cl_slice x h0 a h, ← List.length_eq_zero_iff, List.length_take, List.length_drop, len_cl]
  omega
/-- the reader of one limit, told of lists -/
theorem readF_list {x : Str} (hA : Asc x) {k : Int} (h0 : 0 ≤ k) (h : k ≤ x.length) :
    (readF x k = none ∧ Pl.rd ((cl x).drop k.toNat) = none) ∨ ∃ q, readF x k = some q ∧ 0 ≤ q.2.2.2 ∧ q.2.2.2 ≤ x.length ∧ Pl.rd ((cl x).drop k.toNat) = some (cvR q, (cl x).drop q.2.2.2.toNat) := by
  obtain ⟨a1, b1, c1, -⟩ := skip_list (x := x) hA inG_bl h0 h
  obtain ⟨a2, b2, c2, d2⟩ := skip_list (x := x) hA inG_dg (Int.le_trans h0 a1) b1
  have t2 := tw_nil_iff (x := x) hA inG_dg (Int.le_trans h0 a1) b1
  rw [c1] at c2 d2 t2
  unfold readF Pl.rd
  dsimp only
  by_cases hz : skipF x (skipF x k (Str.ofString " \t\n\x0b\x0c\x0d\x1c\x1d\x1e\x1f")) (Str.ofString "0123456789") = skipF x k (Str.ofString " \t\n\x0b\x0c\x0d\x1c\x1d\x1e\x1f")
  · rw [if_pos hz, if_pos (t2.mp hz)]; exact .inl ⟨rfl, rfl⟩
  · rw [if_neg hz, if_neg (fun e => hz (t2.mpr e))]
    clear hz t2
    generalize skipF x k (Str.ofString " \t\n\x0b\x0c\x0d\x1c\x1d\x1e\x1f") = s1 at *
    generalize skipF x s1 (Str.ofString "0123456789") = p1 at *
    obtain ⟨a3, b3, c3, -⟩ := skip_list (x := x) (k := p1) hA inG_bl (by omega) b2
    rw [c2] at c3
    generalize skipF x p1 (Str.ofString " \t\n\x0b\x0c\x0d\x1c\x1d\x1e\x1f") = r1 at *
    rw [← c3]
    rcases linkEnd_list (r := r1) hA (by omega) b3 with ⟨e1, e2⟩ | ⟨p3, e1, l0, l1, e2⟩
    · rw [e1, e2]; exact .inl ⟨rfl, rfl⟩
    · rw [e1, e2]
      dsimp only
      unfold readTail
      dsimp only
      obtain ⟨a4, b4, c4, -⟩ := skip_list (x := x) (k := p3) hA inG_bl l0 l1
      generalize skipF x p3 (Str.ofString " \t\n\x0b\x0c\x0d\x1c\x1d\x1e\x1f") = s2 at *
      obtain ⟨a5, b5, c5, d5⟩ := skip_list (x := x) (k := s2) hA inG_dg (by omega) b4
      rw [c4] at c5 d5
      generalize skipF x s2 (Str.ofString "0123456789") = p4 at *
      obtain ⟨a6, b6, c6, -⟩ := skip_list (x := x) (k := p4) hA inG_bl (by omega) b5
      rw [c5] at c6
      generalize skipF x p4 (Str.ofString " \t\n\x0b\x0c\x0d\x1c\x1d\x1e\x1f") = s3 at *
      obtain ⟨a7, b7, c7, d7⟩ := skip_list (x := x) (k := s3) hA inG_lt (by omega) b6
      have t7 := tw_nil_iff (x := x) (k := s3) hA inG_lt (by omega) b6
      rw [c6] at c7 d7 t7
      generalize skipF x s3 (Str.ofString "abcdefghijklmnopqrstuvwxyz") = p5 at *
      obtain ⟨a8, b8, c8, -⟩ := skip_list (x := x) (k := p5) hA inG_bl (by omega) b7
      rw [c7] at c8
      generalize skipF x p5 (Str.ofString " \t\n\x0b\x0c\x0d\x1c\x1d\x1e\x1f") = e5 at *
      by_cases hz : p5 = s3
      · rw [if_pos hz, if_pos (t7.mp hz)]; exact .inl ⟨rfl, rfl⟩
      · rw [if_neg hz, if_neg (fun e => hz (t7.mpr e))]
        refine .inr ⟨_, rfl, ?_, b8, ?_⟩
        · show 0 ≤ e5; omega
        · unfold cvR
          dsimp only
          rw [d2, d5, d7, c8]
theorem sepAt_list {x : Str} {i : Int} {s : Nat} {t : List Nat} (h0 : 0 ≤ i) (h : i ≤ x.length) (e : (cl x).drop i.toNat = s :: t) : sepAt x i = Pl.sp s := by
  have e1 : cl (Txt.slice x (some i) (some (i + 1))) = [s] := by
    rw [cl_slice x h0 (by omega) h, e, show (i + 1 - i).toNat = 1 by omega]; rfl
  have k : ∀ (y : Str) (n : Nat), cl y = [n] → (y == Txt.slice x (some i) (some (i + 1))) = decide (s = n) := by
    intro y n hy
    by_cases hs : s = n
    · subst hs
      simp only [decide_true]
      exact beq_iff_eq.mpr (str_ext (hy.trans e1.symm))
    · simp only [hs, decide_false]
      rw [beq_eq_false_iff_ne]
      intro heq
      rw [heq, e1] at hy
      exact hs (by simpa using hy)
  unfold sepAt Pl.sp
  simp only [List.any_cons, List.any_nil, Bool.or_false]
  rw [k _ 44 (by decide +kernel), k _ 59 (by decide +kernel), k _ 124 (by decide +kernel), Bool.or_assoc]
def gF (x : Str) (n : Nat) (i : Int) : Option (List Rw) := match readF x i with | none => none | some q => restF x n q
theorem gF_list {x : Str} (hA : Asc x) : ∀ (n : Nat) (i : Int), 0 ≤ i → i ≤ x.length → (gF x n i).map (List.map cvR) = Pl.rds n ((cl x).drop i.toNat)
  | 0, i, h0, h => by
    unfold gF Pl.rds
    cases readF x i <;> rfl
  | n + 1, i, h0, h => by
    unfold gF Pl.rds
    rcases readF_list hA h0 h with ⟨e1, e2⟩ | ⟨q, e1, l0, l1, e2⟩
    · rw [e1, e2]; rfl
    · rw [e1, e2]
      dsimp only
      by_cases hq : q.2.2.2 = x.length
      · rw [restF_end hq, List.drop_eq_nil_of_le (by rw [len_cl]; omega)]; rfl
      · have hlt : q.2.2.2.toNat < (cl x).length := by rw [len_cl]; omega
        have ed := List.drop_eq_getElem_cons hlt
        generalize (cl x)[q.2.2.2.toNat] = s at ed
        rw [ed]
        dsimp only
        rw [← sepAt_list l0 l1 ed]
        by_cases hs : sepAt x q.2.2.2 = true
        · rw [if_pos hs]
          have ih := gF_list hA n (q.2.2.2 + 1) (by omega) (by omega)
          rw [show (q.2.2.2 + 1).toNat = q.2.2.2.toNat + 1 by omega] at ih
          rw [← ih]
          unfold gF
          cases hr : readF x (q.2.2.2 + 1) with
          | none => rw [restF_none hq hs hr]; rfl
          | some q' =>
            rw [restF_some hq hs hr]
            dsimp only
            cases restF x n q' <;> rfl
        · have hs' : sepAt x q.2.2.2 = false := by simpa using hs
          rw [restF_stop hq hs', if_neg hs]; rfl
theorem reads_list {x : Str} (hA : Asc x) : (readsF x).map (List.map cvR) = Pl.rds (x.length + 1) (cl x) := by
  have := gF_list hA (x.length + 1) 0 (by decide) (by omega)
  exact this
end Jb
end
section
open PySem PySem.W PyProof.Rows PySem.Calls
namespace Jb
theorem mapO_pl {α β : Type} (f : α → Option β) : ∀ l : List α, mapO f l = Pl.mapO f l
  | [] => rfl
  | a :: r => by simp only [mapO, Pl.mapO, mapO_pl f r]; all_goals (cases f a <;> rfl)
theorem mapO_map {α β γ : Type} (f : β → Option γ) (g : α → β) : ∀ l : List α, mapO f (l.map g) = mapO (fun a => f (g a)) l
  | [] => rfl
  | a :: r => by simp only [List.map_cons, mapO, mapO_map f g r]
theorem mapO_congr {α β : Type} {f g : α → Option β} : ∀ {l : List α}, (∀ a ∈ l, f a = g a) → mapO f l = mapO g l
  | [], _ => rfl
  | a :: r, h => by
    have ih := mapO_congr (l := r) fun b hb => h b (.tail _ hb)
    simp only [mapO, h a (.head _), ih]
theorem mapO_post {α β γ : Type} (f : α → Option β) (g : β → γ) : ∀ l : List α, (mapO f l).map (List.map g) = mapO (fun a => (f a).map g) l
  | [] => rfl
  | a :: r => by
    simp only [mapO]
    cases f a with
    | none => rfl
    | some b =>
      simp only [Option.map_some, ← mapO_post f g r]
      cases mapO f r <;> rfl
abbrev grain12 : List Str := [Str.ofString "second", Str.ofString "seconds", Str.ofString "minute", Str.ofString "minutes", Str.ofString "hour", Str.ofString "hours", Str.ofString "day", Str.ofString "days", Str.ofString "month", Str.ofString "months", Str.ofString "year", Str.ofString "years"]
theorem gm_mem {g nm ns : Str} (hs : nm ++ Str.ofString "s" = ns) (h : gMatch g nm = true) : g = nm ∨ g = ns := by
  unfold gMatch at h
  simp only [Bool.or_eq_true, decide_eq_true_eq] at h
  rw [hs] at h
  exact h
theorem gm_12 {g nm : Str} (hnm : nm ∈ [Str.ofString "second", Str.ofString "minute", Str.ofString "hour", Str.ofString "day", Str.ofString "month", Str.ofString "year"]) (h : gMatch g nm = true) : g ∈ grain12 := by
  simp only [List.mem_cons, List.not_mem_nil, or_false] at hnm
  rcases hnm with rfl | rfl | rfl | rfl | rfl | rfl
  · rcases gm_mem (ns := Str.ofString "seconds") (by decide +kernel) h with rfl | rfl <;> simp [grain12]
  · rcases gm_mem (ns := Str.ofString "minutes") (by decide +kernel) h with rfl | rfl <;> simp [grain12]
  · rcases gm_mem (ns := Str.ofString "hours") (by decide +kernel) h with rfl | rfl <;> simp [grain12]
  · rcases gm_mem (ns := Str.ofString "days") (by decide +kernel) h with rfl | rfl <;> simp [grain12]
  · rcases gm_mem (ns := Str.ofString "months") (by decide +kernel) h with rfl | rfl <;> simp [grain12]
  · rcases gm_mem (ns := Str.ofString "years") (by decide +kernel) h with rfl | rfl <;> simp [grain12]
def grG (g : Str) : Option Int :=
  if gMatch g (Str.ofString "year") = true then some 31104000 else
  if gMatch g (Str.ofString "month") = true then some 2592000 else
  if gMatch g (Str.ofString "day") = true then some 86400 else
  if gMatch g (Str.ofString "hour") = true then some 3600 else
  if gMatch g (Str.ofString "minute") = true then some 60 else
  if gMatch g (Str.ofString "second") = true then some 1 else none
theorem grF_grG (y : Str) : (grF y).map (·.2) = grG (Txt.lower y) := by
  have e : ∀ nm, isG nm y = gMatch (Txt.lower y) nm := fun _ => rfl
  unfold grF grG
  simp only [e]
  repeat' (split <;> try rfl)
theorem grG_12 : ∀ g ∈ grain12, grG g = gFind g grains6 := by decide +kernel
theorem grG_gFind (g : Str) : grG g = gFind g grains6 := by
  by_cases h : g ∈ grain12
  · exact grG_12 g h
  · have n : ∀ nm ∈ [Str.ofString "second", Str.ofString "minute", Str.ofString "hour", Str.ofString "day", Str.ofString "month", Str.ofString "year"], gMatch g nm = false := by
      intro nm hnm
      cases hg : gMatch g nm with
      | false => rfl
      | true => exact absurd (gm_12 hnm hg) h
    have n1 := n (Str.ofString "second") (by simp)
    have n2 := n (Str.ofString "minute") (by simp)
    have n3 := n (Str.ofString "hour") (by simp)
    have n4 := n (Str.ofString "day") (by simp)
    have n5 := n (Str.ofString "month") (by simp)
    have n6 := n (Str.ofString "year") (by simp)
    simp only [grG, grains6, gFind, n1, n2, n3, n4, n5, n6, Bool.false_eq_true, if_false]
theorem gFind_12 {g : Str} {sec : Int} (h : gFind g grains6 = some sec) : g ∈ grain12 := by
  by_cases hg : g ∈ grain12
  · exact hg
  · exfalso
    have n : ∀ p ∈ grains6, gMatch g p.1 = false := by
      intro p hp
      cases hq : gMatch g p.1 with
      | false => rfl
      | true =>
        refine absurd (gm_12 (nm := p.1) ?_ hq) hg
        simp only [grains6, List.mem_cons, List.not_mem_nil, or_false] at hp ⊢
        rcases hp with rfl | rfl | rfl | rfl | rfl | rfl <;> simp
    rw [gFind_none n] at h
    cases h
def item (a b c : List Nat) : Option (Int × Int × Int) := (gFind ⟨c.toArray⟩ grains6).map fun sec => (sec, ((PySem.NumText.digitsVal a : Nat) : Int), if b = [] then 1 else max 1 ((PySem.NumText.digitsVal b : Nat) : Int))
theorem item_12 : ∀ g ∈ grain12, cl g ≠ [] ∧ ∀ d ∈ cl g, Pl.lt d = true := by decide +kernel
theorem item_H (a b c : List Nat) (x : Int × Int × Int) (h : item a b c = some x) : c ≠ [] ∧ ∀ d ∈ c, Pl.lt d = true := by
  obtain ⟨sec, h1, _⟩ := Option.map_eq_some_iff.mp h
  have := item_12 _ (gFind_12 h1)
  simpa [cl] using this
theorem lower_mk {y : Str} (hA : Asc y) : (⟨((cl y).map Pl.lo).toArray⟩ : Str) = Txt.lower y := by
  apply str_ext
  rw [cl_lower hA]
  simp [cl]
  exact fun _ _ => rfl
theorem mult_eq (b : Str) : multF b = if cl b = [] then 1 else max 1 ((PySem.NumText.digitsVal (cl b) : Nat) : Int) := by
  have e : ((PySem.NumText.digitsVal (cl b) : Nat) : Int) = num b := rfl
  have h0 : 0 ≤ num b := Int.natCast_nonneg _
  unfold multF
  rw [e]
  split
  · rfl
  · split <;> omega
theorem rowItem_item {r : Rw} (hA : Asc r.2.2.1) : (rowItem r).map (·.2) = item (cvR r).1 (cvR r).2.1 ((cvR r).2.2.map Pl.lo) := by
  unfold rowItem item cvR
  dsimp only
  rw [lower_mk hA, ← grG_gFind, ← grF_grG, Option.map_map, Option.map_map]
  refine congrArg (fun f => Option.map f (grF r.2.2.1)) (funext fun q => ?_)
  simp only [Function.comp, mult_eq]
  rfl
theorem bl_pl (c : Nat) : bl c = Pl.bl c := by
  have : blanksS.cps = #[32, 9, 10, 11, 12, 13, 28, 29, 30, 31] := by decide +kernel
  unfold bl Pl.bl
  rw [this, Bool.eq_iff_iff]
  simp
  omega
theorem stripL_pl (l : List Nat) : stripL l = Pl.stp l := by
  have : bl = Pl.bl := funext bl_pl
  unfold stripL Pl.stp Pl.rst
  rw [this]
theorem lkS_list {q : Str} : (lkS q = none ∧ Pl.lk2 (cl q) = none) ∨ ∃ r, lkS q = some r ∧ Pl.lk2 (cl q) = some (cl r) := by
  have e1 := cl_slice_to q (j := 1) (by decide)
  have e3 := cl_slice_to q (j := 3) (by decide)
  have s1 : cl (Str.ofString "/") = [47] := by decide +kernel
  have s3 : cl (Str.ofString "per") = [112, 101, 114] := by decide +kernel
  have k1 : (Txt.slice q none (some 1) != Str.ofString "/") = false ↔ (cl q).take 1 = [47] := by
    rw [bne_eq_false_iff_eq]
    constructor
    · intro h; rw [h, s1] at e1; exact e1.symm
    · intro h; exact str_ext (e1.trans (h.trans s1.symm))
  have k3 : (Txt.slice q none (some 3) != Str.ofString "per") = false ↔ (cl q).take 3 = [112, 101, 114] := by
    rw [bne_eq_false_iff_eq]
    constructor
    · intro h; rw [h, s3] at e3; exact e3.symm
    · intro h; exact str_ext (e3.trans (h.trans s3.symm))
  unfold lkS Pl.lk2
  by_cases h1 : (cl q).take 1 = [47]
  · rw [if_pos (k1.mpr h1), if_pos h1]
    refine .inr ⟨_, rfl, ?_⟩
    have hl := congrArg List.length h1
    rw [List.length_take, len_cl] at hl
    rw [cl_slice_from q (by decide) (by simp at hl; omega)]
    rfl
  · rw [if_neg (fun h => h1 (k1.mp h)), if_neg h1]
    by_cases h3 : (cl q).take 3 = [112, 101, 114]
    · rw [if_pos (k3.mpr h3), if_pos h3]
      refine .inr ⟨_, rfl, ?_⟩
      have hl := congrArg List.length h3
      rw [List.length_take, len_cl] at hl
      rw [cl_slice_from q (by decide) (by simp at hl; omega)]
      rfl
    · rw [if_neg (fun h => h3 (k3.mp h)), if_neg h3]
      exact .inl ⟨rfl, rfl⟩
theorem empty_cl (s : Str) : (s == Str.ofString "") = true ↔ cl s = [] := by
  rw [beq_iff_eq]
  constructor
  · rintro rfl; decide +kernel
  · intro h; exact str_ext (h.trans (by decide +kernel))
theorem cl_digP (x : Str) : cl (digP x) = (cl x).takeWhile Pl.dg := by
  show (((cl x).takeWhile isDig).toArray).toList = _
  rw [List.toList_toArray]; rfl
theorem cl_digR (x : Str) : cl (digR x) = (cl x).dropWhile Pl.dg := by
  show (((cl x).dropWhile isDig).toArray).toList = _
  rw [List.toList_toArray]; rfl
theorem cl_stp (x : Str) : cl (Txt.stripChars x blanksS) = Pl.stp (cl x) := by rw [cl_strip, stripL_pl]
theorem mk_cl (s : Str) : (⟨(cl s).toArray⟩ : Str) = s := by
  apply str_ext; simp [cl]
theorem oneF_one {p : Str} (hA : Asc p) : oneF p = Pl.one item (cl p) := by
  unfold oneF Pl.one
  dsimp only
  have e1 : cl (digP (Txt.stripChars p blanksS)) = (Pl.stp (cl p)).takeWhile Pl.dg := by rw [cl_digP, cl_stp]
  by_cases h : (digP (Txt.stripChars p blanksS) == Str.ofString "") = true
  · rw [if_pos h, if_pos (by rw [← e1]; exact (empty_cl _).mp h)]
  · rw [if_neg h, if_neg (fun e => h ((empty_cl _).mpr (e1.trans e)))]
    have hA2 : Asc (Txt.stripChars (digR (Txt.stripChars p blanksS)) blanksS) := hA.strip.digR.strip
    have e2 : cl (Txt.lower (Txt.stripChars (digR (Txt.stripChars p blanksS)) blanksS)) = (Pl.stp ((Pl.stp (cl p)).dropWhile Pl.dg)).map Pl.lo := by
      rw [cl_lower hA2, cl_stp, cl_digR, cl_stp]; rfl
    rcases lkS_list (q := Txt.lower (Txt.stripChars (digR (Txt.stripChars p blanksS)) blanksS)) with ⟨h1, h2⟩ | ⟨r, h1, h2⟩
    · rw [e2] at h2; rw [h1, h2]
    · rw [e2] at h2; rw [h1, h2]
      dsimp only
      unfold item
      have e4 : cl (digP (Txt.stripChars r blanksS)) = (Pl.stp (cl r)).takeWhile Pl.dg := by rw [cl_digP, cl_stp]
      have e5 : cl (Txt.stripChars (digR (Txt.stripChars r blanksS)) blanksS) = Pl.stp ((Pl.stp (cl r)).dropWhile Pl.dg) := by rw [cl_stp, cl_digR, cl_stp]
      rw [← e5, mk_cl, ← e1, ← e4]
      refine congrArg (fun f => Option.map f (gFind (Txt.stripChars (digR (Txt.stripChars r blanksS)) blanksS) grains6)) (funext fun sec => ?_)
      unfold num
      by_cases hb : (digP (Txt.stripChars r blanksS) == Str.ofString "") = true
      · rw [if_pos hb, if_pos ((empty_cl _).mp hb)]
      · rw [if_neg hb, if_neg (fun e => hb ((empty_cl _).mpr e))]
-- what a row holds
def RlOk (n : Nat) (l : List Nat) (q : Pl.Rl) : Prop := (∀ c ∈ q.1, Pl.dg c = true) ∧ q.1 ≠ [] ∧ q.1.length ≤ n ∧ (∀ c ∈ q.2.1, Pl.dg c = true) ∧ q.2.1.length ≤ n ∧ q.2.2.length ≤ n ∧ ∀ c ∈ q.2.2, c ∈ l
theorem tw_sub {q : Nat → Bool} {l : List Nat} : ∀ c ∈ l.takeWhile q, c ∈ l := fun c hc => (List.takeWhile_sublist q).subset hc
theorem lk_sublist {l r : List Nat} (h : Pl.lk l = some r) : r.Sublist l := by
  unfold Pl.lk at h
  split at h
  · cases h; exact List.drop_sublist _ _
  · split at h
    · cases h; exact List.drop_sublist _ _
    · cases h
theorem rd_ok {l r : List Nat} {q : Pl.Rl} (h : Pl.rd l = some (q, r)) : RlOk l.length l q ∧ r.length ≤ l.length ∧ ∀ c ∈ r, c ∈ l := by
  unfold Pl.rd at h
  dsimp only at h
  split at h
  · cases h
  · rename_i ha
    split at h
    · cases h
    · rename_i p3 hp
      split at h
      · cases h
      · cases h
        have sb : ∀ (q : Nat → Bool) (x : List Nat), (x.dropWhile q).Sublist x := fun q x => List.dropWhile_sublist q
        have st : ∀ (q : Nat → Bool) (x : List Nat), (x.takeWhile q).Sublist x := fun q x => List.takeWhile_sublist q
        have s1 := sb Pl.bl l
        have s3 : p3.Sublist l := (lk_sublist hp).trans ((sb _ _).trans ((sb _ _).trans s1))
        have s4 := (sb Pl.bl p3).trans s3
        have s5 := ((sb Pl.bl _).trans (sb Pl.dg (p3.dropWhile Pl.bl))).trans s4
        have t1 := (st Pl.dg (l.dropWhile Pl.bl)).trans s1
        have t2 := (st Pl.dg (p3.dropWhile Pl.bl)).trans s4
        have t3 := (st Pl.lt (((p3.dropWhile Pl.bl).dropWhile Pl.dg).dropWhile Pl.bl)).trans s5
        have t4 := ((sb Pl.bl _).trans (sb Pl.lt (((p3.dropWhile Pl.bl).dropWhile Pl.dg).dropWhile Pl.bl))).trans s5
        exact ⟨⟨Pl.tw_all, ha, t1.length_le, Pl.tw_all, t2.length_le, t3.length_le, fun c hc => t3.subset hc⟩, t4.length_le, fun c hc => t4.subset hc⟩
theorem rds_ok {L : List Nat} {m : Nat} : ∀ {n : Nat} {l : List Nat} {rs : List Pl.Rl}, Pl.rds n l = some rs → l.length ≤ m → (∀ c ∈ l, c ∈ L) → ∀ q ∈ rs, RlOk m L q
  | 0, _, _, h, _, _ => by cases h
  | n + 1, l, rs, h, hm, hL => by
    unfold Pl.rds at h
    have up : ∀ {q : Pl.Rl}, RlOk l.length l q → RlOk m L q := fun ⟨a, b, c, d, e, f, g⟩ => ⟨a, b, Nat.le_trans c hm, d, Nat.le_trans e hm, Nat.le_trans f hm, fun x hx => hL x (g x hx)⟩
    split at h
    · cases h
    · rename_i q hr
      cases h
      intro q' hq'
      rw [List.mem_singleton.mp hq']
      exact up (rd_ok hr).1
    · rename_i q s t hr
      split at h
      · obtain ⟨rs', h1, rfl⟩ := Option.map_eq_some_iff.mp h
        have hok := rd_ok hr
        intro q' hq'
        rcases List.mem_cons.mp hq' with rfl | hq'
        · exact up hok.1
        · refine rds_ok h1 ?_ ?_ q' hq'
          · have := hok.2.1; simp at this; omega
          · exact fun c hc => hL c (hok.2.2 c (.tail _ hc))
      · cases h
theorem rows_ok {x : Str} (hA : Asc x) (hl : x.length ≤ 600) : ∀ rs, readsF x = some rs → ∀ r ∈ rs, RowOk r := by
  intro rs hr r hm
  have e := reads_list hA
  rw [hr] at e
  have := rds_ok (L := cl x) (m := 600) e.symm (by rw [len_cl]; exact hl) (fun c h => h) (cvR r) (List.mem_map_of_mem hm)
  obtain ⟨a1, a2, a3, a4, a5, a6, a7⟩ := this
  unfold cvR at a1 a2 a3 a4 a5 a6 a7
  dsimp only at a1 a2 a3 a4 a5 a6 a7
  rw [len_cl] at a3 a5 a6
  refine ⟨fun c hc => ?_, a2, a3, fun c hc => ?_, a5, a6, fun c hc => hA c (a7 c hc)⟩
  · have := a1 c hc; simp [Pl.dg] at this; exact this
  · have := a4 c hc; simp [Pl.dg] at this; exact this
/-- the plain law: the reader and the law tell the same -/
theorem plain {x : Str} (hA : Asc x) (hl : x.length ≤ 600) : (pmF x).map (List.map (·.2)) = mapO oneF (partsF x) := by
  have h1 : mapO oneF (partsF x) = Pl.mapO (Pl.one item) (Pl.spl (cl x)) := by
    rw [← parts_list, ← mapO_pl, mapO_map]
    exact mapO_congr fun p hp => oneF_one (parts_asc hA hp)
  rw [h1, ← Pl.pm_one item_H (x.length + 1) (cl x) (by rw [len_cl]; omega)]
  unfold pmF Pl.pm
  have e := reads_list hA
  rw [← e]
  cases hr : readsF x with
  | none => rfl
  | some rs =>
    simp only [Option.map_some]
    rw [mapO_post, ← mapO_pl, mapO_map]
    exact mapO_congr fun r hm => rowItem_item (rows_ok hA hl rs hr r hm).2.2.2.2.2.2
end Jb
end
section
open PySem PySem.W PyProof.Rows PySem.Calls
namespace Jb
abbrev pieces24 : List Str := [Str.ofString "1", Str.ofString "20", Str.ofString " ", Str.ofString "/", Str.ofString "per", Str.ofString "day", Str.ofString ",", Str.ofString "hours", Str.ofString "\t", Str.ofString "PER", Str.ofString "Minute",
  Str.ofString ";", Str.ofString "second", Str.ofString "007", Str.ofString "months", Str.ofString "|", Str.ofString "\n ", Str.ofString "year", Str.ofString "x", Str.ofString "-", Str.ofString "s", Str.ofString "Seconds", Str.ofString "p", Str.ofString "0"]
abbrev pc (k : Int) : Str := pieces24.getD (k.fmod 24).toNat Str.empty
abbrev PcOk (x : Str) : Prop := x.length ≤ 7 ∧ (∀ c ∈ cl x, c < 128) ∧ 58 ∉ cl x
theorem pieces_ok : ∀ x ∈ pieces24, PcOk x := by decide +kernel
theorem pc_mem (k : Int) : pc k ∈ pieces24 := by
  have h0 := Int.fmod_nonneg_of_pos k (show (0 : Int) < 24 by decide)
  have h1 := Int.fmod_lt_of_pos k (show (0 : Int) < 24 by decide)
  have hl : (k.fmod 24).toNat < pieces24.length := by
    show (k.fmod 24).toNat < 24
    omega
  unfold pc
  rw [List.getD_eq_getElem?_getD, List.getElem?_eq_getElem hl]
  exact List.getElem_mem hl
theorem join_mem {sep : Str} : ∀ {ps : List Str} {c : Nat}, c ∈ cl (Str.join sep ps) → c ∈ cl sep ∨ ∃ p ∈ ps, c ∈ cl p
  | [], c, h => by exact absurd h (by show ¬ c ∈ cl (⟨#[]⟩ : Str); simp [cl])
  | [p], c, h => .inr ⟨p, .head _, h⟩
  | p :: q :: r, c, h => by
    have e : Str.join sep (p :: q :: r) = p ++ sep ++ Str.join sep (q :: r) := rfl
    rw [e, cl_app, cl_app] at h
    rcases List.mem_append.mp h with h | h
    · rcases List.mem_append.mp h with h | h
      · exact .inr ⟨p, .head _, h⟩
      · exact .inl h
    · rcases join_mem (sep := sep) (ps := q :: r) h with h | ⟨x, hx, h⟩
      · exact .inl h
      · exact .inr ⟨x, .tail _ hx, h⟩
theorem txt_join (sep : Str) (ps : List Str) : Txt.join sep ps = Str.join sep ps := StrLaws.glued_eq_join sep ps
/-- what the law's texts are: plain and short -/
def TxOk (x : Str) : Prop := x.length ≤ 600 ∧ Asc x ∧ 58 ∉ cl x
theorem sum_le {n : Nat} : ∀ {l : List Nat}, (∀ x ∈ l, x ≤ n) → l.sum ≤ l.length * n
  | [], _ => by simp
  | a :: r, h => by
    have h1 := sum_le (l := r) fun x hx => h x (.tail _ hx)
    have h2 := h a (.head _)
    rw [List.sum_cons, List.length_cons, Nat.succ_mul]
    omega
theorem join_ok {sep : Str} {ps : List Str} {n k : Nat} (hs : sep.length ≤ 1 ∧ Asc sep ∧ 58 ∉ cl sep) (hp : ∀ p ∈ ps, p.length ≤ n ∧ Asc p ∧ 58 ∉ cl p) (hk : ps.length ≤ k) (hn : k * n + k ≤ 600) : TxOk (Txt.join sep ps) := by
  rw [txt_join]
  refine ⟨?_, ?_, ?_⟩
  · have h1 := StrLaws.join_length_le sep ps
    have h2 := sum_le (n := n) (l := ps.map (·.length)) (by intro x hx; obtain ⟨p, hp', rfl⟩ := List.mem_map.mp hx; exact (hp p hp').1)
    rw [List.length_map] at h2
    have h3 : ps.length * n ≤ k * n := Nat.mul_le_mul_right _ hk
    have h4 : ps.length * sep.length ≤ ps.length * 1 := Nat.mul_le_mul_left _ hs.1
    omega
  · intro c hc
    rcases join_mem hc with h | ⟨p, hp', h⟩
    · exact hs.2.1 c h
    · exact (hp p hp').2.1 c h
  · intro hc
    rcases join_mem hc with h | ⟨p, hp', h⟩
    · exact hs.2.2 h
    · exact (hp p hp').2.2 h
theorem sep_ok : ∀ x ∈ [Str.ofString "", Str.ofString ",", Str.ofString ";", Str.ofString "|"], x.length ≤ 1 ∧ (∀ c ∈ cl x, c < 128) ∧ 58 ∉ cl x := by decide +kernel
theorem sum_wt {ps : List Str} {n k : Nat} (hp : ∀ p ∈ ps, p.length ≤ n) (hk : ps.length ≤ k) (hn : k * n + k ≤ 1048576) : (ps.map (·.length)).sum + ps.length ≤ 1048576 := by
  have h2 := sum_le (n := n) (l := ps.map (·.length)) (by intro x hx; obtain ⟨p, hp', rfl⟩ := List.mem_map.mp hx; exact hp p hp')
  rw [List.length_map] at h2
  have h3 : ps.length * n ≤ k * n := Nat.mul_le_mul_right _ hk
  omega
theorem strs_of_dats {nx : List (Addr × Obj)} : ∀ {xs : List Str} {ys : List Value}, DatAll nx ys (xs.map Dat.str) → StrsAre ys xs
  | [], ys, h => by cases h; exact .nil
  | x :: r, ys, h => by
    cases h with
    | cons a b =>
      cases a with
      | str _ t => exact .cons _ t (strs_of_dats b)
def toldD (x : Str) : Dat := match mapO oneF (partsF x) with | none => .none | some its => .list (its.map itD4)
theorem toldD_none {x : Str} (h : mapO oneF (partsF x) = none) : toldD x = .none := by unfold toldD; rw [h]
theorem toldD_some {x : Str} {its : List (Int × Int × Int)} (h : mapO oneF (partsF x) = some its) : toldD x = .list (its.map itD4) := by unfold toldD; rw [h]
def DOk (d : Dat) : Prop := d = .none ∨ ∃ ds, d = .list ds ∧ ∀ e ∈ ds, kqdOk 8 e = true
theorem itD4_ok (its : List (Int × Int × Int)) : ∀ e ∈ its.map itD4, kqdOk 8 e = true := by
  intro e he
  obtain ⟨it, _, rfl⟩ := List.mem_map.mp he
  simp [itD4, kqdOk]
theorem toldD_ok (x : Str) : DOk (toldD x) := by
  unfold toldD
  split
  · exact .inl rfl
  · exact .inr ⟨_, rfl, itD4_ok _⟩
theorem TupsIn.dats {tl : List (Addr × Obj)} : ∀ {vs : List Value} {its : List It}, TupsIn tl vs its → DatAll tl vs ((its.map (·.2)).map itD4)
  | _, _, .nil => .nil
  | _, _, .cons h r => .cons (by
      obtain ⟨a, t1, t2, t3, t4, rfl, hm⟩ := h
      exact .tuple hm (.cons (.int _ _) (.cons (.int _ _) (.cons (.int _ _) (.cons (.int _ _) .nil))))) r.dats
section
variable {prog : Program} {w : World} {A : Around} {E : Value → Shared → Prop} {s : Shared} {h₀ : Heap} {L : Addr} {nx : List (Addr × Obj)} {v v' : Value} {d : Dat} {Q : Value → Shared → Prop}
theorem ne_same (N : News h₀ L s.heap nx) (D1 : DatIn nx v d) (D2 : DatIn nx v' d) (hd : DOk d) (hu : A.units + 64 < cLine) (h : Q (.bool false) s) : wpAny (model prog w) A (compareOp .NotEq v v') Q E s := by
  rcases hd with rfl | ⟨ds, rfl, hds⟩
  · cases D1; cases D2
    exact EqNone.ne_none_none h
  · cases D1 with
    | list m1 e1 =>
      cases D2 with
      | list m2 e2 =>
        refine kqd_ne N m1 rfl rfl e1 (fun p hp => hp) m2 rfl rfl e2 (fun p hp => hp) hds hds hu ?_
        simpa using h
theorem ne_same2 {n1 : List (Addr × Obj)} (N : News h₀ L s.heap nx) (D1 : DatIn n1 v d) (h1 : ∀ p ∈ n1, p ∈ nx) (D2 : DatIn nx v' d) (hd : DOk d) (hu : A.units + 64 < cLine) (h : Q (.bool false) s) : wpAny (model prog w) A (compareOp .NotEq v v') Q E s :=
  ne_same N (D1.mono h1) D2 hd hu h
theorem kim_any {value slice : Expr} {a : Addr} {l : List Value} {n : Nat} {k : Int} {u : Tok} {x : Value} {news : List (Addr × Obj)} {lo : Obj} (N : News h₀ L s.heap news) (hm : (a, lo) ∈ news) (hc : lo.cls = .type "list") (hd : lo.data = .seq l.toArray n) (h0 : 0 ≤ k) (hfit : k < 2 ^ 63) (hx : l[k.toNat]? = some x) (h : Q x s)
    (hs : subscripted slice false (.ref a) (.int k u) = operate [.ref a, .int k u] (getItem (.ref a) (.int k u))) : wpAny (model prog w) A (subscriptTail value slice (.ref a) (.int k u)) Q E s :=
  have hl : s.heap.IsList a l.toArray := ⟨_, (N _ hm).1, hc, n, hd⟩
  tail_any hl.typeIs slot_list_getitem.lookup (wpAny_getItem_list hl h0 hfit (by simpa using hx) h) hs
theorem item_mem {value slice : Expr} {a : Addr} {lo : Obj} {l : List Value} {ws : List Str} {n : Nat} {k : Int} {u : Tok} {news : List (Addr × Obj)} (N : News h₀ L s.heap news) (hm : (a, lo) ∈ news) (hc : lo.cls = .type "list") (hd : lo.data = .seq l.toArray n) (hw : StrsAre l ws) (h0 : 0 ≤ k) (hk : k < (ws.length : Int)) (hfit : ws.length ≤ 100)
    (h : ∀ x t, x ∈ ws → Q (.str x t) s)
    (hs : subscripted slice false (.ref a) (.int k u) = operate [.ref a, .int k u] (getItem (.ref a) (.int k u))) :
    wpAny (model prog w) A (subscriptTail value slice (.ref a) (.int k u)) Q E s := by
  have key : ∀ {l : List Value} {ws : List Str}, StrsAre l ws → ∀ i, i < ws.length → ∃ x t, l[i]? = some (.str x t) ∧ x ∈ ws := by
    intro l ws hw
    induction hw with
    | nil => intro i hi; cases hi
    | cons y t _ ih =>
      intro i hi
      cases i with
      | zero => exact ⟨y, t, rfl, .head _⟩
      | succ i =>
        obtain ⟨x, t, e, hx⟩ := ih i (Nat.lt_of_succ_lt_succ hi)
        exact ⟨x, t, e, .tail _ hx⟩
  obtain ⟨x, t, e, hx⟩ := key hw k.toNat (by omega)
  exact kim_any N hm hc hd h0 (by omega) e (h x t hx) hs
theorem item_mult {value slice : Expr} {a : Addr} {lo : Obj} {n : Nat} {k : Int} {u t1 t2 t3 t4 : Tok} {news : List (Addr × Obj)} (N : News h₀ L s.heap news) (hm : (a, lo) ∈ news) (hc : lo.cls = .type "list") (hd : lo.data = .seq [Value.none, .int 1 t1, .int 2 t2, .int 15 t3, .int 0 t4].toArray n) (h0 : 0 ≤ k) (hk : k < 5)
    (h1 : Q .none s) (h2 : ∀ m t, m = 1 ∨ m = 2 ∨ m = 15 ∨ m = 0 → Q (.int m t) s)
    (hs : subscripted slice false (.ref a) (.int k u) = operate [.ref a, .int k u] (getItem (.ref a) (.int k u))) :
    wpAny (model prog w) A (subscriptTail value slice (.ref a) (.int k u)) Q E s := by
  have hk5 : k = 0 ∨ k = 1 ∨ k = 2 ∨ k = 3 ∨ k = 4 := by omega
  rcases hk5 with rfl | rfl | rfl | rfl | rfl
  · exact kim_any N hm hc hd h0 (by decide) rfl h1 hs
  · exact kim_any N hm hc hd h0 (by decide) rfl (h2 1 _ (by simp)) hs
  · exact kim_any N hm hc hd h0 (by decide) rfl (h2 2 _ (by simp)) hs
  · exact kim_any N hm hc hd h0 (by decide) rfl (h2 15 _ (by simp)) hs
  · exact kim_any N hm hc hd h0 (by decide) rfl (h2 0 _ (by simp)) hs
theorem join_rule {x : Str} {t : Tok} {D : Addr} {l : List Value} {n : Nat} {ys : List Str} (N : News h₀ L s.heap nx) (hm : (D, ({ cls := .type "list", data := .seq l.toArray n } : Obj)) ∈ nx) (hi : StrsAre l ys) (hsep : x.length ≤ 16) (hw : (ys.map (·.length)).sum + ys.length ≤ 1048576)
    (h : ∀ t' k, Q (.str (Txt.join x ys) t') { s with toks := k }) : wpAny (model prog w) A (call (.builtin "str.join") [.str x t, .ref D]) Q E s :=
  join_listW (items := l.toArray) ⟨_, (N _ hm).1, rfl, n, rfl⟩ (by simpa using hi) hsep hw h
theorem mono_hold {α : Type} {t : Sem α} {Q : α → Shared → Prop} (P : α → Shared → Prop) (h1 : Hold (wpAny (model prog w) A t P E s)) (h2 : Hold (∀ v s', P v s' → Q v s')) : wpAny (model prog w) A t Q E s :=
  wpAny_mono h1 (fun v s' x => h2 v s' x) fun _ _ x => x
end
theorem hold_it {P : Prop} (h : Hold P) : P := h
theorem told2 {prog : Program} {w : World} {p loose mean mg mb} {news} (x : Str) (tx : Tok) :
  Ctr0 prog w (Jb.a.heap_1_1 w.params) p loose mean mg mb 375 12 news [.str x tx] (TxOk x) (fun h₀ L m s Q E =>
    ∀ v nx h' tk', Fr h₀ L h' m → News h₀ L h' nx → (∀ p ∈ news, p ∈ nx) → DatIn nx v (toldD x) → Q v { s with heap := h', toks := tk' }) := by
  dsimp only [Ctr0]
  intro dp un gd cn cs a ccd A₀ base h₀ L m s Q E B F X N T XB TB hk hpre hd hu hret
  have hpl := plain hpre.2.1 hpre.1
  refine told_claim x tx dp un gd cn cs a ccd A₀ base h₀ L m s Q E B F X N T XB TB hk ⟨hpre.1, hpre.2.1, hpre.2.2, rows_ok hpre.2.1 hpre.1⟩ hd hu ⟨?_, ?_⟩
  · intro hn h' tk' F' N'
    rw [hn] at hpl
    exact hret _ news h' tk' F' N' (fun p hp => hp) (by rw [toldD_none hpl.symm]; exact .none)
  · intro its hi D ys nx h' tk' F' N' hs hT
    rw [hi] at hpl
    exact hret _ _ h' tk' F' N' (fun p hp => .tail _ (hs p hp)) (by rw [toldD_some hpl.symm]; exact .list (.head _) (hT.dats.mono fun p hp => .tail _ hp))
theorem due2 {prog : Program} {w : World} {p loose mean mg mb} {news} (x : Str) (tx : Tok) :
  Ctr prog w (Jb.a.heap_1_1 w.params) p loose mean mg mb 380 16 news [.str x tx] (TxOk x) (fun h₀ L m s Q E =>
    ∀ v nx h' tk', Fr h₀ L h' m → News h₀ L h' nx → (∀ p ∈ news, p ∈ nx) → DatIn nx v (toldD x) → Q v { s with heap := h', toks := tk' }) := by
  dsimp only [Ctr]
  intro dp un gd cn cs a ccd cl outer A₀ base h₀ L m s Q E B F X N T hk hpre hd hu hret
  refine due_claim x tx dp un gd cn cs a ccd cl outer A₀ base h₀ L m s Q E B F X N T hk ⟨hpre.1, hpre.2.1⟩ hd hu ⟨?_, ?_⟩
  · intro hn h' tk' F' N'
    exact hret _ news h' tk' F' N' (fun p hp => hp) (by rw [toldD_none hn]; exact .none)
  · intro its hi D ys nx h' tk' F' N' hs hT
    exact hret _ _ h' tk' F' N' (fun p hp => .tail _ (hs p hp)) (by rw [toldD_some hi]; exact .list (.head _) (hT.mono fun p hp => .tail _ hp))
end Jb
end
section
open PySem PySem.W PyProof.Rows PySem.Calls
namespace Jb
theorem ints_get {vs : List Value} {ns : List Int} (h : IntsAre vs ns) : ∀ {i : Nat} {v : Value}, vs[i]? = some v → ∃ k t, v = .int k t ∧ ns[i]? = some k := by
  induction h with
  | nil => intro i v e; cases e
  | cons a t _ ih =>
    intro i v e
    cases i with
    | zero => cases e; exact ⟨a, t, rfl, rfl⟩
    | succ i => exact ih e
theorem drop1 {g h : Heap} {L : Addr} {q : Addr × Obj} {news : List (Addr × Obj)} (N : News g L h (q :: news)) : News g L h news := fun p hp => N p (.tail _ hp)
theorem gr_drop {g h : Heap} {L : Addr} {q : Addr × Obj} {tl news : List (Addr × Obj)} (N : News g L h (q :: (tl ++ news))) : News g L h news := fun p hp => N p (.tail _ (List.mem_append_right _ hp))
/-- what the law's loop runs over -/
def msF (ns : List Int) : List Int := if ns = [] then [0] else ns.take 4
theorem msF_len (ns : List Int) : (msF ns).length ≤ 4 ∧ msF ns ≠ [] := by
  unfold msF
  split
  · exact ⟨by decide, by decide⟩
  · rename_i h
    refine ⟨by rw [List.length_take]; omega, ?_⟩
    cases ns with
    | nil => exact absurd rfl h
    | cons a r => simp
theorem msF_pos {ns : List Int} (h : 0 < ns.length) : msF ns = ns.take 4 := by
  unfold msF
  rw [if_neg (fun e => by subst e; exact absurd h (by decide))]
theorem msF_nil {ns : List Int} (h : ¬ 0 < ns.length) : msF ns = [0] := by
  unfold msF
  rw [if_pos (List.length_eq_zero_iff.mp (by omega))]
def SrcP (h₀ : Heap) (L : Addr) (m : Str → Option Value) (news : List (Addr × Obj)) (s : Shared) (ns : List Int) (v : Value) (s' : Shared) : Prop :=
  ∃ D vs h' tk, v = .ref D ∧ s' = { s with heap := h', toks := tk } ∧ Fr h₀ L h' m ∧ News h₀ L h' ((D, listOf (List.toArray vs) 0) :: news) ∧ IntsAre vs (msF ns) ∧ ∀ p ∈ news, p.1 < D
/-- a text that is told rightly, the limit it tells -/
def RtTx (r : Str) : Prop := r.length ≤ 60 ∧ Asc r ∧ 58 ∉ cl r ∧ ∀ c ∈ cl r, Pl.sp c = false
def RtOk (rs : List Str) (its : List (Int × Int × Int)) : Prop := mapO oneF rs = some its ∧ ∀ r ∈ rs, RtTx r
theorem mapO_snoc {α β : Type} {f : α → Option β} {a : α} {b : β} : ∀ {l : List α} {bs : List β}, mapO f l = some bs → f a = some b → mapO f (l ++ [a]) = some (bs ++ [b])
  | [], bs, h, e => by cases h; simp [mapO, e]
  | c :: r, bs, h, e => by
    simp only [mapO, List.cons_append] at h ⊢
    cases hc : f c with
    | none => rw [hc] at h; cases h
    | some d =>
      rw [hc] at h
      obtain ⟨bs', h1, rfl⟩ := Option.map_eq_some_iff.mp h
      simp [mapO_snoc h1 e]
theorem RtOk.snoc {rs : List Str} {its : List (Int × Int × Int)} {r : Str} {it : Int × Int × Int} (h : RtOk rs its) (h1 : oneF r = some it) (h2 : RtTx r) : RtOk (rs ++ [r]) (its ++ [it]) :=
  ⟨mapO_snoc h.1 h1, fun x hx => (List.mem_append.mp hx).elim (h.2 x) fun hx => by rw [List.mem_singleton.mp hx]; exact h2⟩
theorem mapO_len {α β : Type} {f : α → Option β} : ∀ {l : List α} {bs : List β}, mapO f l = some bs → bs.length = l.length
  | [], bs, h => by cases h; rfl
  | a :: r, bs, h => by
    simp only [mapO] at h
    cases hf : f a with
    | none => rw [hf] at h; cases h
    | some b =>
      rw [hf] at h
      obtain ⟨bs', h1, rfl⟩ := Option.map_eq_some_iff.mp h
      simp [mapO_len h1]
theorem strs_snoc {y : Str} {t : Tok} : ∀ {vs : List Value} {ys : List Str}, StrsAre vs ys → StrsAre (vs ++ [.str y t]) (ys ++ [y])
  | _, _, .nil => .cons y t .nil
  | _, _, .cons z u r => .cons z u (strs_snoc r)
/-- the law's loop: what stands between its turns -/
def LwJ (sv : Value) (D R W : Addr) (lo : Obj) (keep : List (Addr × Obj)) (i : Nat) (m : Str → Option Value) (nx : List (Addr × Obj)) : Prop :=
  ∃ rs its vr vw nr nw tl, m (Str.ofString "script") = some sv ∧ m (Str.ofString "right") = some (.ref R) ∧ m (Str.ofString "rows") = some (.ref W) ∧ nx = (D, lo) :: (W, listOf (List.toArray vw) nw) :: (R, listOf (List.toArray vr) nr) :: (tl ++ keep) ∧
    StrsAre vr rs ∧ DatAll tl vw (its.map itD4) ∧ RtOk rs its ∧ rs.length = i ∧ ∀ p ∈ tl ++ keep, p.1 ≠ W ∧ p.1 ≠ R ∧ p.1 ≠ D
abbrev names4 (gn : Str) : List Str := [gn, gn ++ Str.ofString "s", Txt.upper gn, Txt.upper (Txt.item gn 0) ++ Txt.slice gn (some 1) none ++ Str.ofString "S"]
theorem names_len {gn x : Str} {sec : Int} (h : (gn, sec) ∈ grains6) (hx : x ∈ names4 gn) : x.length ≤ 8 := by
  have : ∀ p ∈ grains6, ∀ x ∈ names4 p.1, x.length ≤ 8 := by decide +kernel
  exact this _ h x hx
theorem lit_len {x : Str} {ws : List Str} (h : x ∈ ws) (hw : (ws.all fun y => decide (y.length ≤ 8)) = true) : x.length ≤ 8 := by
  have := List.all_eq_true.mp hw x h
  simpa using this
section
variable {prog : Program} {w : World} {A : Around} {E : Value → Shared → Prop} {s : Shared} {env : Env} {h₀ : Heap} {L : Addr} {m : Str → Option Value} {news : List (Addr × Obj)}
theorem ifexp_src {e : Expr} {Q : Value → Shared → Prop} (ns : List Int) (F : Fr h₀ L s.heap m) (N : News h₀ L s.heap news) (h1 : Hold (wpAny (model prog w) A (eval e env) (SrcP h₀ L m news s ns) E s))
    (h2 : Hold (∀ D vs h' tk, Fr h₀ L h' m → News h₀ L h' ((D, listOf (List.toArray vs) 0) :: news) → IntsAre vs (msF ns) → (∀ p ∈ news, p.1 < D) → Q (.ref D) { s with heap := h', toks := tk })) : wpAny (model prog w) A (eval e env) Q E s :=
  wpAny_mono h1 (fun v s' ⟨D, vs, h', tk, e1, e2, F', N', hI, ho⟩ => by subst e1; subst e2; exact h2 D vs h' tk F' N' hI ho) fun _ _ x => x
theorem law_turns {target : Expr} {body : List Stmt} {Q : Flow → Shared → Prop} {D R W : Addr} {vs : List Value} {ms : List Int} {sv : Value} {keep : List (Addr × Obj)} (hL : env.locals = L)
    (hh : A.handled = none) (hI : IntsAre vs ms) (F : Fr h₀ L s.heap m) (N : News h₀ L s.heap ((D, listOf vs.toArray 0) :: (W, listOf #[] 0) :: (R, listOf #[] 0) :: keep))
    (hk1 : m (Str.ofString "script") = some sv) (hk2 : m (Str.ofString "right") = some (.ref R)) (hk3 : m (Str.ofString "rows") = some (.ref W))
    (o1 : ∀ p ∈ keep, p.1 < R) (o2 : @LT.lt Nat _ R W) (o3 : @LT.lt Nat _ W D)
    (turn : Hold (∀ i n t rs its vr vw nr nw tl m₁ h tk I oI, ms[i]? = some n → StrsAre vr rs → DatAll tl vw (its.map itD4) → RtOk rs its → rs.length = i → (∀ p ∈ tl ++ keep, p.1 ≠ W) → (∀ p ∈ tl ++ keep, p.1 ≠ R) → (∀ p ∈ tl ++ keep, p.1 ≠ D) →
      (∀ p ∈ (D, listOf vs.toArray 0) :: (W, listOf (List.toArray vw) nw) :: (R, listOf (List.toArray vr) nr) :: (tl ++ keep), p.1 ≠ I) → @LT.lt Nat _ D I → @LT.lt Nat _ W I → @LT.lt Nat _ R I →
      Fr h₀ L h (kstB m₁ [(Str.ofString "script", sv), (Str.ofString "right", .ref R), (Str.ofString "rows", .ref W)]) → News h₀ L h ((I, oI) :: (D, listOf vs.toArray 0) :: (W, listOf (List.toArray vw) nw) :: (R, listOf (List.toArray vr) nr) :: (tl ++ keep)) →
      wpAny (model prog w) A (assign target env (.int n t)) (fun _ s₃ => wpAny (model prog w) A (execs body env) (TPost h₀ L I oI D (listOf vs.toArray 0) (LwJ sv D R W (listOf vs.toArray 0) keep (i + 1)) { s with heap := h, toks := tk } Q) E s₃) E { s with heap := h, toks := tk }))
    (done : Hold (∀ rs its vr vw nr nw tl m₁ h tk, StrsAre vr rs → DatAll tl vw (its.map itD4) → RtOk rs its → rs.length = ms.length →
      Fr h₀ L h (kstB m₁ [(Str.ofString "script", sv), (Str.ofString "right", .ref R), (Str.ofString "rows", .ref W)]) → News h₀ L h ((W, listOf (List.toArray vw) nw) :: (R, listOf (List.toArray vr) nr) :: tl) → Q .next { s with heap := h, toks := tk })) :
    wpAny (model prog w) A (pyIter (.ref D)) (fun it s₂ => TurnsAt prog w A h₀ env target body Q E it s₂) E s := by
  subst hL
  have lt2 : ∀ {a b : Nat}, a < b → a ≠ b := fun h => Nat.ne_of_lt h
  refine it_turns (LwJ sv D R W (listOf vs.toArray 0) keep) hh (.head _) F N ⟨[], [], [], [], 0, 0, [], hk1, hk2, hk3, rfl, .nil, .nil, ⟨rfl, fun _ h => nomatch h⟩, rfl, ?_⟩ ?_ ?_
  · intro p hp
    have h1 := o1 p hp
    have h2 : @LT.lt Nat _ p.1 W := Nat.lt_trans h1 o2
    exact ⟨lt2 h2, lt2 h1, lt2 (Nat.lt_trans h2 o3)⟩
  · rintro i v m₁ nx h tk I oI hv hI' hlt _ ⟨rs, its, vr, vw, nr, nw, tl, k1, k2, k3, rfl, a1, a2, a3, a4, a5⟩ F₁ N₁
    obtain ⟨n, t, rfl, hn⟩ := ints_get hI hv
    exact turn i n t rs its vr vw nr nw tl m₁ h tk I oI hn a1 a2 a3 a4 (fun p hp => (a5 p hp).1) (fun p hp => (a5 p hp).2.1) (fun p hp => (a5 p hp).2.2) hI' (hlt _ (.head _)) (hlt _ (.tail _ (.head _))) (hlt _ (.tail _ (.tail _ (.head _)))) (fr_known _ F₁ (by simp [k1, k2, k3])) N₁
  · rintro m₁ nx h tk ⟨rs, its, vr, vw, nr, nw, tl, k1, k2, k3, rfl, a1, a2, a3, a4, a5⟩ _ F₁ N₁
    refine done rs its vr vw nr nw tl m₁ h tk a1 a2 a3 (by rw [a4]; exact hI.length) (fr_known _ F₁ (by simp [k1, k2, k3])) fun p hp => N₁ p ?_
    simp only [List.mem_cons, List.mem_append] at hp ⊢
    rcases hp with h | h | h <;> simp [h]
theorem item_gr {value slice : Expr} {a : Addr} {vs : List Value} {n : Nat} {k : Int} {u : Tok} {tl : List (Addr × Obj)} {Q : Value → Shared → Prop} (N : News h₀ L s.heap news) (hm : (a, listOf vs.toArray n) ∈ news) (hg : GrsIn tl vs grains6) (hs6 : ∀ p ∈ tl, p ∈ news) (h0 : 0 ≤ k) (hk : k < 6)
    (h : ∀ d gn sec t1 t2, (gn, sec) ∈ grains6 → gn.length ≤ 6 → 3 ≤ gn.length → Asc gn → 1 ≤ sec → sec ≤ 31104000 → IsTup s.heap d #[.str gn t1, .int sec t2] → Q (.ref d) s)
    (hs : subscripted slice false (.ref a) (.int k u) = operate [.ref a, .int k u] (getItem (.ref a) (.int k u))) :
    wpAny (model prog w) A (subscriptTail value slice (.ref a) (.int k u)) Q E s := by
  have hlen : vs.length = 6 := hg.length
  have hi : k.toNat < vs.length := by omega
  obtain ⟨d, gn, sec, t1, t2, e1, e2, e3⟩ := hg.get (List.getElem?_eq_getElem hi)
  have hmem := List.mem_of_getElem? e1
  have hall : ∀ p ∈ grains6, p.1.length ≤ 6 ∧ 3 ≤ p.1.length ∧ (∀ c ∈ cl p.1, c < 128) ∧ 1 ≤ p.2 ∧ p.2 ≤ 31104000 := by decide +kernel
  obtain ⟨f1, f2, f3, f4, f5⟩ := hall _ hmem
  exact kim_any (l := vs) N hm rfl rfl h0 (by omega) ((List.getElem?_eq_getElem hi).trans (congrArg some e2)) (h d gn sec t1 t2 hmem f1 f2 f3 f4 f5 ⟨_, (N _ (hs6 _ e3)).1, rfl, 0, rfl⟩) hs
end
end Jb
end
section
open PySem PySem.W PyProof.Rows PySem.Calls
namespace Jb
/-- a text of figures that tells a number -/
def Tells10 (x : Str) (a : Int) : Prop := (∀ c ∈ cl x, Pl.dg c = true) ∧ cl x ≠ [] ∧ ((PySem.NumText.digitsVal (cl x) : Nat) : Int) = a
set_option maxRecDepth 100000 in
theorem small_txt : ∀ k : Nat, k < 1000 → ((∀ c ∈ cl (Str.ofString (toString ((k : Nat) : Int))), Pl.dg c = true) ∧ cl (Str.ofString (toString ((k : Nat) : Int))) ≠ [] ∧ PySem.NumText.digitsVal (cl (Str.ofString (toString ((k : Nat) : Int)))) = k ∧ (Str.ofString (toString ((k : Nat) : Int))).length ≤ 3) := by decide +kernel
theorem mult_bd {m : Int} (h : m = 1 ∨ m = 2 ∨ m = 15 ∨ m = 0) : 0 ≤ m ∧ m < 1000 := by omega
theorem str_small {prog : Program} {w : World} {A : Around} {E : Value → Shared → Prop} {s : Shared} {a : Int} {t : Tok} {Q : Value → Shared → Prop} (h0 : 0 ≤ a ∧ a < 1000)
    (h : ∀ x, x = Str.ofString (toString a) → Tells10 x a → x.length ≤ 3 → Q (.str x s.toks) { s with toks := s.toks + 1 }) : wpAny (model prog w) A (call (.type "str") [.int a t]) Q E s := by
  obtain ⟨k, rfl⟩ := Int.eq_ofNat_of_zero_le h0.1
  obtain ⟨f1, f2, f3, f4⟩ := small_txt k (by omega)
  exact P.str_of_int (shown (N := 1000) (by omega) (by omega) (by decide +kernel)) (h _ rfl ⟨f1, f2, by rw [f3]⟩ f4)
theorem mod_bd {n : Int} : 0 ≤ n.fmod 1000 ∧ n.fmod 1000 < 1000 := ⟨Int.fmod_nonneg_of_pos _ (by decide), Int.fmod_lt_of_pos _ (by decide)⟩
end Jb
end
section
open PySem PySem.W PyProof.Rows PySem.Calls
namespace Jb
namespace Pl
def rdR (t : List Nat) : Option (List Nat × List Nat × List Nat) :=
  let s2 := t.dropWhile bl
  let s3 := (s2.dropWhile dg).dropWhile bl
  if s3.takeWhile lt = [] then none else some (s2.takeWhile dg, s3.takeWhile lt, (s3.dropWhile lt).dropWhile bl)
def rdT (t : List Nat) : Option (List Nat × List Nat × List Nat) := match lk (t.dropWhile bl) with | none => none | some p3 => rdR p3
theorem dw_pre {q : Nat → Bool} {b l : List Nat} (hb : ∀ c ∈ b, q c = true) (hl : Hd q l) : (b ++ l).dropWhile q = l := by
  induction b with
  | nil =>
    cases l with
    | nil => rfl
    | cons c t => simp [List.dropWhile_cons, hl c t rfl]
  | cons c r ih => rw [List.cons_append, List.dropWhile_cons, if_pos (hb c (by simp)), ih fun d hd => hb d (by simp [hd])]
theorem tw_pre {q : Nat → Bool} {b l : List Nat} (hb : ∀ c ∈ b, q c = true) (hl : Hd q l) : (b ++ l).takeWhile q = b := by
  induction b with
  | nil =>
    cases l with
    | nil => rfl
    | cons c t => simp [List.takeWhile_cons, hl c t rfl]
  | cons c r ih => rw [List.cons_append, List.takeWhile_cons, if_pos (hb c (by simp)), ih fun d hd => hb d (by simp [hd])]
theorem rd_pre {b ds t : List Nat} (hb : ∀ c ∈ b, bl c = true) (hd : ∀ c ∈ ds, dg c = true) (hne : ds ≠ []) (ht : Hd dg t) : rd (b ++ (ds ++ t)) = (rdT t).map fun q => ((ds, q.1, q.2.1), q.2.2) := by
  have h1 : Hd bl (ds ++ t) := by
    intro c r e
    cases ds with
    | nil => exact absurd rfl hne
    | cons d ds => cases e; exact dg_bl (hd _ (.head _))
  unfold rd rdT rdR
  dsimp only
  rw [dw_pre hb h1, tw_pre hd ht, dw_pre hd ht, if_neg hne]
  cases lk (t.dropWhile bl) with
  | none => rfl
  | some p3 =>
    dsimp only
    split <;> rfl
theorem rdR_bl {w t : List Nat} (h : ∀ c ∈ w, bl c = true) : rdR (w ++ t) = rdR t := by
  have : (w ++ t).dropWhile bl = t.dropWhile bl := by
    induction w with
    | nil => rfl
    | cons c r ih => rw [List.cons_append, List.dropWhile_cons, if_pos (h c (by simp)), ih fun d hd => h d (by simp [hd])]
  unfold rdR
  rw [this]
theorem lnk1 (t : List Nat) : rdT ([47] ++ t) = rdR t := by
  simp [rdT, lk, bl, List.dropWhile_cons]
theorem lnk2 (t : List Nat) : rdT ([32, 112, 101, 114, 32] ++ t) = rdR t := by
  have := rdR_bl (w := [32]) (t := t) (by decide)
  simp [rdT, lk, bl, lo, List.dropWhile_cons]
  exact this
theorem lnk3 (t : List Nat) : rdT ([32, 80, 69, 82] ++ t) = rdR t := by
  simp [rdT, lk, bl, lo, List.dropWhile_cons]
theorem lnk4 (t : List Nat) : rdT ([112, 101, 114, 9] ++ t) = rdR t := by
  have := rdR_bl (w := [9]) (t := t) (by decide)
  simp [rdT, lk, bl, lo, List.dropWhile_cons]
  exact this
theorem lnk5 (t : List Nat) : rdT ([10, 47, 32] ++ t) = rdR t := by
  have := rdR_bl (w := [32]) (t := t) (by decide)
  simp [rdT, lk, bl, lo, List.dropWhile_cons]
  exact this
end Pl
abbrev links5 : List Str := [Str.ofString "/", Str.ofString " per ", Str.ofString " PER", Str.ofString "per\t", Str.ofString "\n/ "]
abbrev blanks3 : List Str := [Str.ofString "", Str.ofString " ", Str.ofString "\x0b\r"]
theorem link_cl {link : Str} (h : link ∈ links5) (t : List Nat) : Pl.rdT (cl link ++ t) = Pl.rdR t ∧ Pl.Hd Pl.dg (cl link ++ t) := by
  have e1 : cl (Str.ofString "/") = [47] := by decide +kernel
  have e2 : cl (Str.ofString " per ") = [32, 112, 101, 114, 32] := by decide +kernel
  have e3 : cl (Str.ofString " PER") = [32, 80, 69, 82] := by decide +kernel
  have e4 : cl (Str.ofString "per\t") = [112, 101, 114, 9] := by decide +kernel
  have e5 : cl (Str.ofString "\n/ ") = [10, 47, 32] := by decide +kernel
  simp only [links5, List.mem_cons, List.not_mem_nil, or_false] at h
  rcases h with rfl | rfl | rfl | rfl | rfl
  · rw [e1]; exact ⟨Pl.lnk1 t, by intro c r e; cases e; decide⟩
  · rw [e2]; exact ⟨Pl.lnk2 t, by intro c r e; cases e; decide⟩
  · rw [e3]; exact ⟨Pl.lnk3 t, by intro c r e; cases e; decide⟩
  · rw [e4]; exact ⟨Pl.lnk4 t, by intro c r e; cases e; decide⟩
  · rw [e5]; exact ⟨Pl.lnk5 t, by intro c r e; cases e; decide⟩
def okC (c : Nat) : Bool := decide (c < 128) && decide (c ≠ 58) && !Pl.sp c
def okS (x : Str) : Bool := (cl x).all okC
theorem okS_link : ∀ x ∈ links5, okS x = true ∧ x.length ≤ 8 := by decide +kernel
theorem okS_blank : ∀ x ∈ blanks3, okS x = true ∧ x.length ≤ 8 ∧ (cl x).all Pl.bl = true := by decide +kernel
theorem okS_name : ∀ p ∈ grains6, ∀ x ∈ names4 p.1, okS x = true ∧ x.length ≤ 8 := by decide +kernel
theorem okS_dig {x : Str} (h : ∀ c ∈ cl x, Pl.dg c = true) : okS x = true := by
  unfold okS
  rw [List.all_eq_true]
  intro c hc
  have := h c hc
  simp [Pl.dg] at this
  simp [okC, Pl.sp]
  omega
theorem okS_app {x y : Str} (hx : okS x = true) (hy : okS y = true) : okS (x ++ y) = true := by
  unfold okS at *
  rw [cl_app, List.all_append, hx, hy]; rfl
theorem okS_rt {x : Str} (h : okS x = true) (hl : x.length ≤ 60) : RtTx x := by
  unfold okS at h
  rw [List.all_eq_true] at h
  have k : ∀ c ∈ cl x, c < 128 ∧ c ≠ 58 ∧ Pl.sp c = false := by
    intro c hc
    have := h c hc
    simp [okC] at this
    exact ⟨this.1.1, this.1.2, this.2⟩
  exact ⟨hl, fun c hc => (k c hc).1, fun hc => (k _ hc).2.1 rfl, fun c hc => (k c hc).2.2⟩
def chk (more name blank : Str) (sec mult : Int) : Bool := match Pl.rdR (cl more ++ (cl name ++ cl blank)) with
  | some (b, c, []) => decide (gFind ⟨(c.map Pl.lo).toArray⟩ grains6 = some sec) && decide ((if b = [] then 1 else max 1 ((PySem.NumText.digitsVal b : Nat) : Int)) = mult)
  | _ => false
set_option maxRecDepth 100000 in
theorem chk_none : ∀ p ∈ grains6, ∀ name ∈ names4 p.1, ∀ blank ∈ blanks3, chk (Str.ofString "") name blank p.2 1 = true := by decide +kernel
set_option maxRecDepth 100000 in
theorem chk_some : ∀ p ∈ grains6, ∀ name ∈ names4 p.1, ∀ blank ∈ blanks3, ∀ m ∈ [(1 : Int), 2, 15, 0], chk (Str.ofString (toString m) ++ blank) name blank p.2 (if m = 0 then 1 else m) = true := by decide +kernel
theorem right_gen {name link blank more sa : Str} {sec amount mult : Int} (hl : link ∈ links5) (hb : blank ∈ blanks3) (ha : Tells10 sa amount) (hla : sa.length ≤ 3) (hok : okS more = true) (hml : more.length ≤ 16) (hno : okS name = true ∧ name.length ≤ 8) (hc : chk more name blank sec mult = true) :
    oneF (blank ++ sa ++ link ++ more ++ name ++ blank) = some (sec, amount, mult) ∧ RtTx (blank ++ sa ++ link ++ more ++ name ++ blank) := by
  obtain ⟨b1, b2, b3⟩ := okS_blank _ hb
  obtain ⟨l1, l2⟩ := okS_link _ hl
  have hrt : RtTx (blank ++ sa ++ link ++ more ++ name ++ blank) := by
    refine okS_rt (okS_app (okS_app (okS_app (okS_app (okS_app b1 (okS_dig ha.1)) l1) hok) hno.1) b1) ?_
    simp only [PySem.Str.length_append]
    omega
  refine ⟨?_, hrt⟩
  rw [oneF_one hrt.2.1, Pl.one_rd item_H]
  have e : cl (blank ++ sa ++ link ++ more ++ name ++ blank) = cl blank ++ (cl sa ++ (cl link ++ (cl more ++ (cl name ++ cl blank)))) := by
    simp only [cl_app, List.append_assoc]
  obtain ⟨k1, k2⟩ := link_cl hl (cl more ++ (cl name ++ cl blank))
  rw [e, Pl.rd_pre (fun c h => List.all_eq_true.mp b3 c h) ha.1 ha.2.1 k2, k1]
  unfold chk at hc
  cases hr : Pl.rdR (cl more ++ (cl name ++ cl blank)) with
  | none => rw [hr] at hc; cases hc
  | some q =>
    obtain ⟨b, c, r⟩ := q
    rw [hr] at hc
    cases r with
    | cons x y => cases hc
    | nil =>
      simp only [Bool.and_eq_true, decide_eq_true_eq] at hc
      simp only [Option.map_some, item, hc.1, hc.2, ha.2.2]
theorem right_none {gn name link blank sa : Str} {sec amount : Int} (hg : (gn, sec) ∈ grains6) (hn : name ∈ names4 gn) (hl : link ∈ links5) (hb : blank ∈ blanks3) (ha : Tells10 sa amount) (hla : sa.length ≤ 3) :
    oneF (blank ++ sa ++ link ++ Str.ofString "" ++ name ++ blank) = some (sec, amount, 1) ∧ RtTx (blank ++ sa ++ link ++ Str.ofString "" ++ name ++ blank) :=
  right_gen hl hb ha hla (by decide +kernel) (by decide +kernel) (okS_name _ hg _ hn) (chk_none _ hg _ hn _ hb)
theorem right_some {gn name link blank sa sm : Str} {sec amount m : Int} (hg : (gn, sec) ∈ grains6) (hn : name ∈ names4 gn) (hl : link ∈ links5) (hb : blank ∈ blanks3) (ha : Tells10 sa amount) (hla : sa.length ≤ 3) (hm : m = 1 ∨ m = 2 ∨ m = 15 ∨ m = 0) (hs : sm = Str.ofString (toString m)) (ht : Tells10 sm m) (hls : sm.length ≤ 3) :
    oneF (blank ++ sa ++ link ++ (sm ++ blank) ++ name ++ blank) = some (sec, amount, if m = 0 then 1 else m) ∧ RtTx (blank ++ sa ++ link ++ (sm ++ blank) ++ name ++ blank) := by
  obtain ⟨b1, b2, b3⟩ := okS_blank _ hb
  refine right_gen hl hb ha hla (okS_app (okS_dig ht.1) b1) (by rw [PySem.Str.length_append]; omega) (okS_name _ hg _ hn) ?_
  rw [hs]
  exact chk_some _ hg _ hn _ hb m (by simpa using hm)
end Jb
end
section
open PySem PySem.W PyProof.Rows PySem.Calls
namespace Jb
abbrev signs3 : List Str := [Str.ofString ",", Str.ofString ";", Str.ofString "|"]
theorem sign_c {sign : Str} (h : sign ∈ signs3) : ∃ c, sign = ⟨#[c]⟩ ∧ Pl.sp c = true := by
  simp only [signs3, List.mem_cons, List.not_mem_nil, or_false] at h
  rcases h with rfl | rfl | rfl
  · exact ⟨44, by decide +kernel, by decide⟩
  · exact ⟨59, by decide +kernel, by decide⟩
  · exact ⟨124, by decide +kernel, by decide⟩
theorem sign_ok {sign : Str} (h : sign ∈ signs3) : sign.length ≤ 1 ∧ Asc sign ∧ 58 ∉ cl sign := sep_ok sign (by
  simp only [signs3, List.mem_cons, List.not_mem_nil, or_false] at h
  rcases h with rfl | rfl | rfl <;> simp)
theorem cl_inj_map : ∀ {a b : List Str}, a.map cl = b.map cl → a = b
  | [], [], _ => rfl
  | [], _ :: _, h => by cases h
  | _ :: _, [], h => by cases h
  | x :: r, y :: t, h => by
    simp only [List.map_cons, List.cons.injEq] at h
    rw [str_ext h.1, cl_inj_map h.2]
theorem spl_glue {c : Nat} (hc : Pl.sp c = true) : ∀ {ps : List (List Nat)}, ps ≠ [] → (∀ p ∈ ps, ∀ d ∈ p, Pl.sp d = false) → Pl.spl (glue1 c ps) = ps
  | [], h, _ => absurd rfl h
  | [p], _, h => Pl.spl_free (h p (.head _))
  | p :: q :: r, _, h => by
    rw [glue1, Pl.spl_cut (h p (.head _)) hc, spl_glue hc (by simp) fun x hx => h x (.tail _ hx)]
theorem spl_glue2 {c : Nat} (hc : Pl.sp c = true) : ∀ {ps : List (List Nat)}, ps ≠ [] → (∀ p ∈ ps, ∀ d ∈ p, Pl.sp d = false) → Pl.spl (glue1 c ps ++ [c]) = ps ++ [[]]
  | [], h, _ => absurd rfl h
  | [p], _, h => by
    show Pl.spl (p ++ [c]) = _
    rw [Pl.spl_cut (h p (.head _)) hc]; rfl
  | p :: q :: r, _, h => by
    rw [glue1, List.append_assoc, List.cons_append, Pl.spl_cut (h p (.head _)) hc, spl_glue2 hc (by simp) fun x hx => h x (.tail _ hx)]
    rfl
section
variable {sign : Str} {rs : List Str} {its : List (Int × Int × Int)}
theorem rs_ne {ms : List Int} (hl : rs.length = ms.length) (hm : ms.length ≤ 4 ∧ ms ≠ []) : rs ≠ [] ∧ rs.length ≤ 4 := by
  refine ⟨fun e => hm.2 ?_, by omega⟩
  rw [e] at hl
  exact List.length_eq_zero_iff.mp hl.symm
theorem map_free (hok : RtOk rs its) : ∀ p ∈ rs.map cl, ∀ d ∈ p, Pl.sp d = false := by
  intro p hp d hd
  obtain ⟨r, hr, rfl⟩ := List.mem_map.mp hp
  exact (hok.2 r hr).2.2.2 d hd
theorem parts_join (hs : sign ∈ signs3) (hok : RtOk rs its) (hne : rs ≠ []) : partsF (Txt.join sign rs) = rs := by
  obtain ⟨c, rfl, hc⟩ := sign_c hs
  apply cl_inj_map
  rw [parts_list, txt_join, cl_join, spl_glue hc (by simpa using hne) (map_free hok)]
theorem parts_join2 (hs : sign ∈ signs3) (hok : RtOk rs its) (hne : rs ≠ []) : partsF (Txt.join sign rs ++ sign) = rs ++ [⟨#[]⟩] := by
  obtain ⟨c, rfl, hc⟩ := sign_c hs
  apply cl_inj_map
  rw [parts_list, cl_app, txt_join, cl_join]
  have := spl_glue2 hc (ps := rs.map cl) (by simpa using hne) (map_free hok)
  rw [List.map_append]
  exact this
theorem told_right (hs : sign ∈ signs3) (hok : RtOk rs its) (hn : rs ≠ [] ∧ rs.length ≤ 4) : toldD (Txt.join sign rs) = .list (its.map itD4) :=
  toldD_some (by rw [parts_join hs hok hn.1]; exact hok.1)
theorem one_nil : oneF ⟨#[]⟩ = none := by
  rw [oneF_one (fun c h => by simp [cl] at h)]
  rfl
theorem mapO_last {α β : Type} {f : α → Option β} {a : α} (h : f a = none) : ∀ l : List α, mapO f (l ++ [a]) = none
  | [] => by simp [mapO, h]
  | b :: r => by
    simp only [List.cons_append, mapO]
    cases f b with
    | none => rfl
    | some c => simp [mapO_last h r]
theorem told_wrong (hs : sign ∈ signs3) (hok : RtOk rs its) (hn : rs ≠ [] ∧ rs.length ≤ 4) : toldD (Txt.join sign rs ++ sign) = .none :=
  toldD_none (by rw [parts_join2 hs hok hn.1]; exact mapO_last one_nil _)
theorem told_nil : toldD (Str.ofString "") = .none := by
  refine toldD_none ?_
  have e : partsF (Str.ofString "") = [⟨#[]⟩] := by
    apply cl_inj_map
    rw [parts_list, show cl (Str.ofString "") = [] by decide +kernel]
    rfl
  rw [e]
  simp [mapO, one_nil]
theorem cl_nil : cl (Str.ofString "") = [] := by decide +kernel
theorem tx_nil : TxOk (Str.ofString "") := ⟨by decide +kernel, by unfold Asc; rw [cl_nil]; exact fun c h => absurd h List.not_mem_nil, by rw [cl_nil]; exact List.not_mem_nil⟩
theorem join_bd (hs : sign ∈ signs3) (hok : RtOk rs its) (hn : rs ≠ [] ∧ rs.length ≤ 4) : TxOk (Txt.join sign rs) ∧ (Txt.join sign rs).length ≤ 300 := by
  have h1 := join_ok (n := 60) (k := 4) (sign_ok hs) (fun p hp => ⟨(hok.2 p hp).1, (hok.2 p hp).2.1, (hok.2 p hp).2.2.1⟩) hn.2 (by decide)
  refine ⟨h1, ?_⟩
  rw [txt_join]
  have h2 := StrLaws.join_length_le sign rs
  have h3 := sum_le (n := 60) (l := rs.map (·.length)) (by intro x hx; obtain ⟨p, hp', rfl⟩ := List.mem_map.mp hx; exact (hok.2 p hp').1)
  rw [List.length_map] at h3
  have h4 : rs.length * sign.length ≤ rs.length * 1 := Nat.mul_le_mul_left _ (sign_ok hs).1
  have := hn.2
  omega
theorem join_tx (hs : sign ∈ signs3) (hok : RtOk rs its) (hn : rs ≠ [] ∧ rs.length ≤ 4) : TxOk (Txt.join sign rs) := (join_bd hs hok hn).1
theorem join_tx2 (hs : sign ∈ signs3) (hok : RtOk rs its) (hn : rs ≠ [] ∧ rs.length ≤ 4) : TxOk (Txt.join sign rs ++ sign) := by
  obtain ⟨⟨h1, h2, h3⟩, h4⟩ := join_bd hs hok hn
  obtain ⟨s1, s2, s3⟩ := sign_ok hs
  refine ⟨by rw [PySem.Str.length_append]; omega, ?_, ?_⟩
  · intro c hc
    rw [cl_app] at hc
    exact (List.mem_append.mp hc).elim (h2 c) (s2 c)
  · intro hc
    rw [cl_app] at hc
    exact (List.mem_append.mp hc).elim h3 s3
theorem join_wt (hok : RtOk rs its) (hn : rs ≠ [] ∧ rs.length ≤ 4) : (rs.map (·.length)).sum + rs.length ≤ 1048576 := sum_wt (n := 60) (k := 4) (fun p hp => (hok.2 p hp).1) hn.2 (by decide)
end
section
variable {prog : Program} {w : World} {A : Around} {E : Value → Shared → Prop} {s : Shared} {h₀ : Heap} {L : Addr} {nx : List (Addr × Obj)} {v v' : Value} {d : Dat} {Q : Value → Shared → Prop}
theorem is_dat (D : DatIn nx v d) (hd : d = .none) (h : Q (.bool true) s) : wpAny (model prog w) A (compareOp .Is v .none) Q E s := by
  subst hd
  cases D
  exact is_none_none h
theorem ne_rows {sign : Str} {rs : List Str} {its : List (Int × Int × Int)} {W : Addr} {vw : List Value} {nw : Nat} {tl : List (Addr × Obj)} (N : News h₀ L s.heap nx) (D1 : DatIn nx v (toldD (Txt.join sign rs))) (hs : sign ∈ signs3) (hok : RtOk rs its) (hn : rs ≠ [] ∧ rs.length ≤ 4)
    (hm : (W, listOf (List.toArray vw) nw) ∈ nx) (D2 : DatAll tl vw (its.map itD4)) (ht : ∀ p ∈ tl, p ∈ nx) (hu : A.units + 64 < cLine) (h : Q (.bool false) s) : wpAny (model prog w) A (compareOp .NotEq v (.ref W)) Q E s :=
  ne_same N (D1) (by rw [told_right hs hok hn]; exact .list hm (D2.mono ht)) (toldD_ok _) hu h
end
theorem lw_next {h₀ h' : Heap} {L I D R W d : Addr} {oI lo : Obj} {s₁ : Shared} {Q : Flow → Shared → Prop} {tk : Nat} {m' : Str → Option Value} {sv : Value} {keep tl : List (Addr × Obj)} {i nr nw nr' nw' : Nat} {vr vw : List Value} {rs : List Str} {its : List (Int × Int × Int)} {r : Str} {t t1 t2 t3 t4 : Tok} {a b c e : Int}
    (F : Fr h₀ L h' m') (hm1 : m' (Str.ofString "script") = some sv) (hm2 : m' (Str.ofString "right") = some (.ref R)) (hm3 : m' (Str.ofString "rows") = some (.ref W))
    (N : News h₀ L h' ((d, tupObj [.int a t1, .int b t2, .int c t3, .int e t4]) :: (I, oI) :: (D, lo) :: (W, listOf (vw.toArray.push (.ref d)) nw') :: (R, listOf (vr.toArray.push (.str r t)) nr') :: (tl ++ keep)))
    (o : @LT.lt Nat _ I d ∧ @LT.lt Nat _ D d ∧ @LT.lt Nat _ W d ∧ @LT.lt Nat _ R d ∧ AllLt d (tl ++ keep))
    (hI : ∀ p ∈ (D, lo) :: (W, listOf (List.toArray vw) nw) :: (R, listOf (List.toArray vr) nr) :: (tl ++ keep), p.1 ≠ I) (hW : ∀ p ∈ tl ++ keep, p.1 ≠ W) (hR : ∀ p ∈ tl ++ keep, p.1 ≠ R) (hD : ∀ p ∈ tl ++ keep, p.1 ≠ D)
    (hvr : StrsAre vr rs) (hvw : DatAll tl vw (its.map itD4)) (hok : RtOk rs its) (hlen : rs.length = i) (h1 : oneF r = some (a, b, c)) (h2 : RtTx r) (he : e = a * c) :
    TPost h₀ L I oI D lo (LwJ sv D R W lo keep (i + 1)) s₁ Q .next { s₁ with heap := h', toks := tk } := by
  subst he
  rw [List.push_toArray, List.push_toArray] at N
  have gt : ∀ {x y : Nat}, x < y → y ≠ x := fun h => Nat.ne_of_gt h
  refine TPost.next (nx' := (D, lo) :: (W, listOf (List.toArray (vw ++ [.ref d])) nw') :: (R, listOf (List.toArray (vr ++ [.str r t])) nr') :: (((d, tupObj [.int a t1, .int b t2, .int c t3, .int (a * c) t4]) :: tl) ++ keep)) F ?_ ?_ (.head _)
    ⟨rs ++ [r], its ++ [(a, b, c)], vr ++ [.str r t], vw ++ [.ref d], nr', nw', (d, tupObj [.int a t1, .int b t2, .int c t3, .int (a * c) t4]) :: tl, hm1, hm2, hm3, rfl, strs_snoc hvr, ?_, hok.snoc h1 h2, by simp [hlen], ?_⟩
  · intro p hp
    refine N p ?_
    simp only [List.mem_cons, List.mem_append, List.cons_append] at hp ⊢
    rcases hp with h | h | h | h | h | h | h <;> simp [h]
  · intro p hp
    simp only [List.mem_cons, List.mem_append, List.cons_append] at hp
    rcases hp with rfl | rfl | rfl | rfl | h
    · exact hI (D, lo) (.head _)
    · exact hI (W, listOf (List.toArray vw) nw) (.tail _ (.head _))
    · exact hI (R, listOf (List.toArray vr) nr) (.tail _ (.tail _ (.head _)))
    · exact gt o.1
    · exact hI p (.tail _ (.tail _ (.tail _ (List.mem_append.mpr h))))
  · rw [List.map_append]
    exact (hvw.mono fun p hp => .tail _ hp).append (.one (.tuple (.head _) (.cons (.int _ _) (.cons (.int _ _) (.cons (.int _ _) (.cons (.int _ _) .nil))))))
  · intro p hp
    simp only [List.mem_cons, List.mem_append, List.cons_append] at hp
    rcases hp with rfl | h
    · exact ⟨gt o.2.2.1, gt o.2.2.2.1, gt o.2.1⟩
    · have := List.mem_append.mpr h
      exact ⟨hW p this, hR p this, hD p this⟩
theorem kst3 (m : Str → Option Value) (a b c : Value) : kstB m [(Str.ofString "script", a), (Str.ofString "right", b), (Str.ofString "rows", c)] (Str.ofString "script") = some a ∧ kstB m [(Str.ofString "script", a), (Str.ofString "right", b), (Str.ofString "rows", c)] (Str.ofString "right") = some b ∧ kstB m [(Str.ofString "script", a), (Str.ofString "right", b), (Str.ofString "rows", c)] (Str.ofString "rows") = some c := by
  have h1 : (Str.ofString "right" == Str.ofString "script") = false := by decide +kernel
  have h2 : (Str.ofString "rows" == Str.ofString "script") = false := by decide +kernel
  have h3 : (Str.ofString "rows" == Str.ofString "right") = false := by decide +kernel
  have h1' : Str.ofString "right" ≠ Str.ofString "script" := by decide +kernel
  have h2' : Str.ofString "rows" ≠ Str.ofString "script" := by decide +kernel
  have h3' : Str.ofString "rows" ≠ Str.ofString "right" := by decide +kernel
  refine ⟨?_, ?_, ?_⟩ <;> simp [kstB, List.lookup, h1, h2, h3, h1', h2', h3']
theorem right_some1 {gn name link blank sa sm : Str} {sec amount m : Int} (hg : (gn, sec) ∈ grains6) (hn : name ∈ names4 gn) (hl : link ∈ links5) (hb : blank ∈ blanks3) (ha : Tells10 sa amount) (hla : sa.length ≤ 3) (hm : m = 1 ∨ m = 2 ∨ m = 15 ∨ m = 0) (hs : sm = Str.ofString (toString m)) (ht : Tells10 sm m) (hls : sm.length ≤ 3) (h0 : m ≠ 0) :
    oneF (blank ++ sa ++ link ++ (sm ++ blank) ++ name ++ blank) = some (sec, amount, m) ∧ RtTx (blank ++ sa ++ link ++ (sm ++ blank) ++ name ++ blank) := by
  have := right_some hg hn hl hb ha hla hm hs ht hls
  rwa [if_neg h0] at this
theorem right_some0 {gn name link blank sa sm : Str} {sec amount m : Int} (hg : (gn, sec) ∈ grains6) (hn : name ∈ names4 gn) (hl : link ∈ links5) (hb : blank ∈ blanks3) (ha : Tells10 sa amount) (hla : sa.length ≤ 3) (hm : m = 1 ∨ m = 2 ∨ m = 15 ∨ m = 0) (hs : sm = Str.ofString (toString m)) (ht : Tells10 sm m) (hls : sm.length ≤ 3) (h0 : m = 0) :
    oneF (blank ++ sa ++ link ++ (sm ++ blank) ++ name ++ blank) = some (sec, amount, 1) ∧ RtTx (blank ++ sa ++ link ++ (sm ++ blank) ++ name ++ blank) := by
  have := right_some hg hn hl hb ha hla hm hs ht hls
  rwa [if_pos h0] at this
section
variable {prog : Program} {w : World} {A : Around} {E : Value → Shared → Prop} {s : Shared} {h₀ : Heap} {L : Addr} {nx : List (Addr × Obj)} {v v' : Value} {d : Dat} {Q : Value → Shared → Prop}
theorem join_rule2 {n1 : List (Addr × Obj)} {x : Str} {t : Tok} {D : Addr} {l : List Value} {n : Nat} {ys : List Str} (N : News h₀ L s.heap nx) (h1 : ∀ p ∈ n1, p ∈ nx) (hm : (D, ({ cls := .type "list", data := .seq l.toArray n } : Obj)) ∈ n1) (hi : StrsAre l ys) (hsep : x.length ≤ 16) (hw : (ys.map (·.length)).sum + ys.length ≤ 1048576)
    (h : ∀ t' k, Q (.str (Txt.join x ys) t') { s with toks := k }) : wpAny (model prog w) A (call (.builtin "str.join") [.str x t, .ref D]) Q E s :=
  join_rule N (h1 _ hm) hi hsep hw h
theorem ne_rows2 {n1 : List (Addr × Obj)} {sign : Str} {rs : List Str} {its : List (Int × Int × Int)} {W : Addr} {vw : List Value} {nw : Nat} {tl : List (Addr × Obj)} (N : News h₀ L s.heap nx) (D1 : DatIn nx v (toldD (Txt.join sign rs))) (h1 : ∀ p ∈ n1, p ∈ nx) (hs : sign ∈ signs3) (hok : RtOk rs its) (hn : rs ≠ [] ∧ rs.length ≤ 4)
    (D2 : DatAll tl vw (its.map itD4)) (hm : (W, listOf (List.toArray vw) nw) ∈ n1) (ht : ∀ p ∈ tl, p ∈ n1) (hu : A.units + 64 < cLine) (h : Q (.bool false) s) : wpAny (model prog w) A (compareOp .NotEq v (.ref W)) Q E s :=
  ne_rows N D1 hs hok hn (h1 _ hm) D2 (fun p hp => h1 _ (ht p hp)) hu h
end
theorem add_join {prog : Program} {w : World} {A : Around} {E : Value → Shared → Prop} {s : Shared} {Q : Value → Shared → Prop} {sign : Str} {rs : List Str} {its : List (Int × Int × Int)} {t u : Tok} (hs : sign ∈ signs3) (hok : RtOk rs its) (hn : rs ≠ [] ∧ rs.length ≤ 4)
    (h : ∀ t' tk, Q (.str (Txt.join sign rs ++ sign) t') { s with toks := tk }) : wpAny (model prog w) A (binaryOp .Add (.str (Txt.join sign rs) t) (.str sign u)) Q E s :=
  SB.add (fun t' tk => h t' tk) (by have h1 := (join_bd hs hok hn).2; have h2 := (sign_ok hs).1; rw [sizeLine_eq]; omega)
end Jb
end
section
open PySem PySem.W PyProof.Rows PySem.Calls
namespace Jb
local macro_rules | `(tactic| k_room) => `(tactic| ktr_room)
local macro_rules | `(tactic| k_units) => `(tactic| ktr_units)
local macro_rules | `(tactic| walk_at "eval ListComp") => `(tactic| (k_here; k_dflt (refine LCg.ListComp_U (F₀ := by k_asm) (by with_unfolding_all rfl) (by decide) (by rfl) (by decide) (by rfl) ?_)))
local macro_rules | `(tactic| walk_at "CompSrc") => `(tactic| (k_dflt (refine hold_it ?_)))
theorem mem_of2 {α : Type} {a : α} {l : List α} (h : a ∈ l) : List.Mem a l := h
local macro_rules | `(tactic| k_mem) => `(tactic| first | with_reducible assumption | (refine mem_of2 ?_; with_reducible assumption))
local macro_rules | `(tactic| walk_at "call ref") => `(tactic| (k_here; k_dflt ((show wpAny _ _ (call (Value.ref 375) [Value.str _ _]) _ _ _); refine' told2 _ _ _ _ _ _ _ _ _ _ _ _ _ _ _ _ _ ?k1 ?k2 ?k3 ?k4 ?k5 ?kb ?kt ?k6 ?k7 ?k8 ?k9 ?_; (case k1 => k_asm); (case k2 => k_asm); (case k3 => k_asm); (case k4 => k_asm); (case k5 => k_asm); (case kb => k_asm); (case kt => k_asm); (case k6 => (first | exact rfl | assumption)); (case k7 => first | with_reducible assumption | with_reducible exact tx_nil | with_reducible exact join_tx (by with_reducible assumption) (by with_reducible assumption) (by with_reducible assumption) | with_reducible exact join_tx2 (by with_reducible assumption) (by with_reducible assumption) (by with_reducible assumption)); (case k8 => ktr_room); (case k9 => ktr_units)); intro v9 nx9 h9 tk9 F9 N9 s9 d9; (try dsimp only); (try k_fold)))
local macro_rules | `(tactic| walk_at "call ref") => `(tactic| (k_here; k_dflt ((show wpAny _ _ (call (Value.ref 380) [Value.str _ _]) _ _ _); refine' due2 _ _ _ _ _ _ _ _ _ _ _ _ _ _ _ _ _ _ _ ?k1 ?k2 ?k3 ?k4 ?k5 ?k6 ?k7 ?k8 ?k9 ?_; (case k1 => k_asm); (case k2 => k_asm); (case k3 => k_asm); (case k4 => k_asm); (case k5 => k_asm); (case k6 => (first | exact rfl | assumption)); (case k7 => with_reducible assumption); (case k8 => ktr_room); (case k9 => ktr_units)); intro v9 nx9 h9 tk9 F9 N9 s9 d9; (try dsimp only); (try k_fold)))
local macro_rules | `(tactic| walk_at "call builtin:str.join") => `(tactic| (k_here; k_dflt (first
  | refine join_rule (by k_asm) (by first | exact .head _ | exact .tail _ (.head _) | exact .tail _ (.tail _ (.head _)) | exact .tail _ (.tail _ (.tail _ (.head _))) | exact .tail _ (.tail _ (.tail _ (.tail _ (.head _))))) (by with_reducible assumption) (by first | decide +kernel | exact Nat.le_trans (by with_reducible assumption) (by decide)) (by with_reducible assumption) ?_
  | refine join_rule2 (by k_asm) (by with_reducible assumption) (by first | exact .head _ | exact .tail _ (.head _) | exact .tail _ (.tail _ (.head _)) | exact .tail _ (.tail _ (.tail _ (.head _))) | exact .tail _ (.tail _ (.tail _ (.tail _ (.head _))))) (by with_reducible assumption) (by first | decide +kernel | exact Nat.le_trans (by with_reducible assumption) (by decide)) (by with_reducible assumption) ?_); intro t9 k9; (try dsimp only)))
local macro_rules | `(tactic| walk_at "compareOp NotEq") => `(tactic| (k_here; k_dflt (first
  | refine ne_same2 (by k_asm) (by with_reducible assumption) (by with_reducible assumption) (by with_reducible assumption) (toldD_ok _) (by ktr_units) ?_
  | refine ne_rows2 (by k_asm) (by with_reducible assumption) (by with_reducible assumption) (by with_reducible assumption) (by with_reducible assumption) (by with_reducible assumption) (by with_reducible assumption) (by first | exact .head _ | exact .tail _ (.head _) | exact .tail _ (.tail _ (.head _)) | exact .tail _ (.tail _ (.tail _ (.head _))) | exact .tail _ (.tail _ (.tail _ (.tail _ (.head _))))) (by first | exact fun p hp => .tail _ (.tail _ hp) | exact fun p hp => .tail _ (.tail _ (.tail _ hp)) | exact fun p hp => .tail _ (.tail _ (.tail _ (.tail _ hp)))) (by ktr_units) ?_)))
local macro_rules | `(tactic| walk_at "compareOp Is") => `(tactic| (k_here; k_dflt (refine is_dat (by with_reducible assumption) (by first | with_reducible exact told_nil | with_reducible exact told_wrong (by with_reducible assumption) (by with_reducible assumption) (by with_reducible assumption)) ?_)))
local macro_rules | `(tactic| walk_at "eval IfExp") => `(tactic| (k_here; (with_reducible show wpAny _ _ (eval (Expr.IfExp (Expr.Name _ _) _ _ _) _) _ _ _); k_dflt (refine hold_it ?_)))
local macro_rules | `(tactic| walk_at "pyIter ref") => `(tactic| (k_here; k_dflt (refine hold_it ?_)))
local macro_rules | `(tactic| walk_at "call ref") => `(tactic| (k_here; k_dflt ((show wpAny _ _ (call (Value.ref 356) []) _ _ _); refine' grains_claim _ _ _ _ _ _ _ _ _ _ _ _ _ _ _ _ _ ?k1 ?k2 ?k3 ?k4 ?k5 ?k6 ?k7 ?k8 ?k9 ?_; (case k1 => k_asm); (case k2 => k_asm); (case k3 => k_asm); (case k4 => k_asm); (case k5 => k_asm); (case k6 => (first | exact rfl | assumption)); (case k7 => trivial); (case k8 => ktr_room); (case k9 => ktr_units)); intro l9 vs9 nn9 tl9 h9 tk9 F9 N9 g9 o9; (try k_lt o9); (try dsimp only); (try k_fold)))
local macro_rules | `(tactic| k_all) => `(tactic| with_reducible assumption)
local macro_rules | `(tactic| walk_at "TPost ret") => `(tactic| (refine TPost.ret ?_; dsimp only))
local macro_rules | `(tactic| walk_at "subscriptTail List") => `(tactic| (k_here; (with_reducible show wpAny _ _ (subscriptTail _ _ (Value.ref _) (Value.int _ _)) _ _ _); k_dflt (refine' item_mult ?k1 ?k2 ?k3 ?k4 ?k5 ?k6 ?_ ?_ ?k7; (case k1 => k_asm); (case k2 => exact .head _); (case k3 => with_reducible rfl); (case k4 => with_reducible rfl); (case k5 => exact Int.fmod_nonneg_of_pos _ (by decide)); (case k6 => exact Int.fmod_lt_of_pos _ (by decide)); (case k7 => rfl)); (rename News _ _ _ (_ :: _) => NN9); (replace NN9 := drop1 NN9); rotate_left; (intro m9 t9 mem9); (rename News _ _ _ (_ :: _) => NN9); (replace NN9 := drop1 NN9); rotate_left))
local macro_rules | `(tactic| walk_at "subscriptTail List") => `(tactic| (k_here; (with_reducible show wpAny _ _ (subscriptTail _ _ (Value.ref _) (Value.int _ _)) _ _ _); k_dflt (refine' item_mem ?k1 ?k2 ?k3 ?k4 ?k5 ?k6 ?k6b ?k8 ?_ ?k7; (case k1 => k_asm); (case k2 => first | exact .head _ | exact .tail _ (.head _)); (case k3 => with_reducible rfl); (case k4 => with_reducible rfl); (case k5 => first | exact (StrsAre.cons _ _ (StrsAre.cons _ _ (StrsAre.cons _ _ (StrsAre.cons _ _ (StrsAre.cons _ _ StrsAre.nil))))) | exact (StrsAre.cons _ _ (StrsAre.cons _ _ (StrsAre.cons _ _ (StrsAre.cons _ _ StrsAre.nil)))) | exact (StrsAre.cons _ _ (StrsAre.cons _ _ (StrsAre.cons _ _ StrsAre.nil)))); (case k6 => exact Int.fmod_nonneg_of_pos _ (by decide)); (case k6b => exact Int.fmod_lt_of_pos _ (by decide)); (case k8 => exact Nat.le_of_ble_eq_true rfl); (case k7 => rfl)); intro x9 t9 mem9; (have len9 : Str.length x9 ≤ 8 := (by first | exact lit_len mem9 (by decide +kernel) | exact names_len (by with_reducible assumption) mem9)); (rename News _ _ _ (_ :: _) => NN9); (replace NN9 := drop1 NN9)))
local macro_rules | `(tactic| walk_at "subscriptTail Call") => `(tactic| (k_here; (with_reducible show wpAny _ _ (subscriptTail _ _ (Value.ref _) (Value.int _ _)) _ _ _); k_dflt (refine' item_gr ?k1 ?k2 ?k3 ?k4 ?k5 ?k6 ?_ ?k7; (case k1 => k_asm); (case k3 => with_reducible assumption); (case k2 => exact .head _); (case k4 => exact fun p hp => .tail _ (List.mem_append_left _ hp)); (case k5 => exact Int.fmod_nonneg_of_pos _ (by decide)); (case k6 => exact Int.fmod_lt_of_pos _ (by decide)); (case k7 => rfl)); intro d9 gn9 sec9 t19 t29 mem9 l69 l39 asc9 s19 s29 tup9; (rename News _ _ _ (_ :: _) => NN9); (replace NN9 := gr_drop NN9)))
local macro_rules | `(tactic| walk_at "exec For Name") => `(tactic| (k_here; (rename Fr _ _ _ _ => lF'); k_dflt (refine' For_turns ?lF ?_ ?ls ?lE; (case ls => intro _; rfl); (case lE => passes_own); (case lF => with_unfolding_all exact lF'))))
local macro_rules | `(tactic| walk_at "call type:str") => `(tactic| (k_here; k_dflt (first | refine str_small mod_bd ?_ | refine str_small (mult_bd (by with_reducible assumption)) ?_); intro x9 ex9 tl9 len9; (try dsimp only)))
local macro_rules | `(tactic| size_fits) => `(tactic| with_reducible assumption)
local macro_rules | `(tactic| walk_at "binaryOp Add str str") => `(tactic| (k_here; (with_reducible show wpAny _ _ (binaryOp Operator.Add (Value.str (Txt.join _ _) _) (Value.str _ _)) _ _ _); k_dflt (refine add_join (by with_reducible assumption) (by with_reducible assumption) (by with_reducible assumption) ?_); intro t9 k9; (try dsimp only)))
theorem dat_str {nx : List (Addr × Obj)} {x : Str} {t : Tok} {d : Dat} {ns : List Int} {i : Nat} {k : Int} (hd : (ns.map (fun n => Dat.str (pc n)))[i]? = some d) (hk : ns[i]? = some k) (e : x = pc k) : DatIn nx (.str x t) d := by
  rw [List.getElem?_map, hk] at hd
  cases hd
  rw [e]
  exact .str _ _
set_option Elab.async true
set_option maxRecDepth 100000 in
set_option maxHeartbeats 20000000 in
theorem law_main : PySem.Challenge.rw_jb0020_01.Holds := by
  (w_on; o_law; k_head; (case hw => w_witness2))
  k_go0
  have hK : Jb.law_main.heap_1_39 = Jb.a.heap_1_1 := rfl
  rename Frag.In _ _ => KX0
  rw [hK] at KX0
  (all_goals try k_fold)
  rename List Int => ns
  rename List Value => vs0
  rename IntsAre vs0 ns => hI
  k_steps
  rename List Value => vs1
  rename IntsAre vs1 _ => hI1
  rename News _ _ _ [(_, _)] => N1
  have hl1 : vs1.length ≤ 14 := by rw [hI1.length, List.length_take]; omega
  unfold Hold
  try dsimp only
  refine comp_dat (vs := vs1) ((ns.take 14).map (fun n => Dat.str (pc n))) (by rw [List.length_map]; exact hI1.length) (by rfl) (by with_reducible assumption) N1 (.head _) (by rw [sizeLine_eq]; omega) ?_ ?_
  · unfold Hold
    intro i v d I oI C oC D m₂ ys nx h tk E2 hv hd hsub hli hC hm2 F9 N9 off ne
    obtain ⟨k, t, rfl, hk⟩ := ints_get hI1 hv
    try dsimp only
    k_steps
    exact end0 (by with_reducible assumption) (by with_reducible assumption) off hli ⟨fun p hp => hp, dat_str hd hk rfl⟩
  · unfold Hold
    intro g ys nx hsub hT
    have hS : StrsAre ys ((ns.take 14).map pc) := strs_of_dats (by rw [List.map_map]; exact hT)
    have hjo : TxOk (Txt.join (Str.ofString "") ((ns.take 14).map pc)) := join_ok (n := 7) (k := 14) (sep_ok _ (by simp)) (by
      intro p hp
      obtain ⟨k, _, rfl⟩ := List.mem_map.mp hp
      exact pieces_ok _ (pc_mem k)) (by rw [List.length_map, List.length_take]; omega) (by decide)
    have hjw : (((ns.take 14).map pc).map (·.length)).sum + ((ns.take 14).map pc).length ≤ 1048576 := sum_wt (n := 7) (k := 14) (by
      intro p hp
      obtain ⟨k, _, rfl⟩ := List.mem_map.mp hp
      exact (pieces_ok _ (pc_mem k)).1) (by rw [List.length_map, List.length_take]; omega) (by decide)
    unfold LCg.FinE
    intro D h tk F9 N9 o1
    try dsimp only
    try k_fold
    k_steps
    unfold Hold
    refine ifexp_src ns (by with_reducible assumption) (by with_reducible assumption) ?_ ?_
    · unfold Hold
      refine IfExp_ ?_
      k_steps
      · exact ⟨_, _, _, _, rfl, rfl, by with_reducible assumption, by with_reducible assumption, by rw [msF_pos (by with_reducible assumption)]; with_reducible assumption, ktn_ltOf (by simp only [AllLt, and_true]; with_reducible assumption)⟩
      · exact ⟨_, _, _, _, rfl, rfl, by with_reducible assumption, by with_reducible assumption, by rw [msF_nil (by with_reducible assumption)]; exact .cons _ _ .nil, ktn_ltOf (by simp only [AllLt, and_true]; with_reducible assumption)⟩
    · unfold Hold
      intro D3 vs3 h3 tk3 F3 N3 hI3 o3
      (try k_lt o3)
      try dsimp only
      k_steps
      unfold Hold
      obtain ⟨q1, q2, q3⟩ := o3
      refine' law_turns (ms := msF ns) ?hL ?hh hI3 ?hF ?hN ?h1 ?h2 ?h3 ?o1 ?o2 ?o3 ?_ ?_
      (case hF => with_unfolding_all exact F3)
      (case hN => with_unfolding_all exact N3)
      (case hL => exact rfl); (case hh => exact rfl)
      (case h2 => exact (if_neg (by decide +kernel)).trans (if_pos rfl))
      (case h3 => exact if_pos rfl)
      (case h1 => exact (if_neg (by decide +kernel)).trans ((if_neg (by decide +kernel)).trans ((if_neg (by decide +kernel)).trans rfl)))
      (case o1 => with_reducible assumption)
      (case o2 => exact (by with_reducible assumption : _ < _ ∧ AllLt _ _).1)
      (case o3 => exact q1)
      · unfold Hold
        intro i n t rs its vr vw nr nw tl m₁ h tk I oI hn hvr hvw hok hlen hW hR hD hI' hDI hWI hRI F₁ N₁
        have hi4 : i < 4 := Nat.lt_of_lt_of_le (List.getElem?_eq_some_iff.mp hn).1 (msF_len ns).1
        have hszr : vr.toArray.size ≤ sizeLine := by rw [List.size_toArray, hvr.length, hlen, sizeLine_eq]; omega
        have hszw : vw.toArray.size ≤ sizeLine := by
          have h1 := mapO_len hok.1
          rw [List.size_toArray, hvw.length, List.length_map, sizeLine_eq]; omega
        try dsimp only
        k_steps
        · exact lw_next (by with_reducible assumption) (by repeat (first | (with_reducible exact (kst3 _ _ _ _).1) | refine (if_neg (by decide +kernel)).trans ?_)) (by repeat (first | (with_reducible exact (kst3 _ _ _ _).2.1) | refine (if_neg (by decide +kernel)).trans ?_)) (by repeat (first | (with_reducible exact (kst3 _ _ _ _).2.2) | refine (if_neg (by decide +kernel)).trans ?_)) (by with_reducible assumption) (by with_reducible assumption) hI' hW hR hD hvr hvw hok hlen (right_none (by with_reducible assumption) (by with_reducible assumption) (by with_reducible assumption) (by with_reducible assumption) (by with_reducible assumption) (by with_reducible assumption)).1 (right_none (by with_reducible assumption) (by with_reducible assumption) (by with_reducible assumption) (by with_reducible assumption) (by with_reducible assumption) (by with_reducible assumption)).2 rfl
        · exact lw_next (by with_reducible assumption) (by repeat (first | (with_reducible exact (kst3 _ _ _ _).1) | refine (if_neg (by decide +kernel)).trans ?_)) (by repeat (first | (with_reducible exact (kst3 _ _ _ _).2.1) | refine (if_neg (by decide +kernel)).trans ?_)) (by repeat (first | (with_reducible exact (kst3 _ _ _ _).2.2) | refine (if_neg (by decide +kernel)).trans ?_)) (by with_reducible assumption) (by with_reducible assumption) hI' hW hR hD hvr hvw hok hlen (right_some1 (by with_reducible assumption) (by with_reducible assumption) (by with_reducible assumption) (by with_reducible assumption) (by with_reducible assumption) (by with_reducible assumption) (by with_reducible assumption) (by with_reducible assumption) (by with_reducible assumption) (by with_reducible assumption) (by with_reducible assumption)).1 (right_some1 (by with_reducible assumption) (by with_reducible assumption) (by with_reducible assumption) (by with_reducible assumption) (by with_reducible assumption) (by with_reducible assumption) (by with_reducible assumption) (by with_reducible assumption) (by with_reducible assumption) (by with_reducible assumption) (by with_reducible assumption)).2 rfl
        · (exfalso; exact (by with_reducible assumption : _ ≠ (0 : Int)) (by with_reducible assumption))
        · (exfalso; exact (by with_reducible assumption : _ ≠ (0 : Int)) (by with_reducible assumption))
        · exact lw_next (by with_reducible assumption) (by repeat (first | (with_reducible exact (kst3 _ _ _ _).1) | refine (if_neg (by decide +kernel)).trans ?_)) (by repeat (first | (with_reducible exact (kst3 _ _ _ _).2.1) | refine (if_neg (by decide +kernel)).trans ?_)) (by repeat (first | (with_reducible exact (kst3 _ _ _ _).2.2) | refine (if_neg (by decide +kernel)).trans ?_)) (by with_reducible assumption) (by with_reducible assumption) hI' hW hR hD hvr hvw hok hlen (right_some0 (by with_reducible assumption) (by with_reducible assumption) (by with_reducible assumption) (by with_reducible assumption) (by with_reducible assumption) (by with_reducible assumption) (by with_reducible assumption) (by with_reducible assumption) (by with_reducible assumption) (by with_reducible assumption) (by with_reducible assumption)).1 (right_some0 (by with_reducible assumption) (by with_reducible assumption) (by with_reducible assumption) (by with_reducible assumption) (by with_reducible assumption) (by with_reducible assumption) (by with_reducible assumption) (by with_reducible assumption) (by with_reducible assumption) (by with_reducible assumption) (by with_reducible assumption)).2 rfl
      · unfold Hold
        intro rs its vr vw nr nw tl m₁ h tk hvr hvw hok hlen F₁ N₁
        have hn4 := rs_ne hlen (msF_len ns)
        have hjw2 := join_wt hok hn4
        try dsimp only
        k_steps
end Jb
end
theorem PySem.Challenge.cw_jb0020_01_holds : PySem.Challenge.rw_jb0020_01.Holds := by
  exact Jb.law_main
