import PyProof.Rows.All
import Wide.All
import OpenK.AllK
import Wide.FinOn
import PySem.Sre
import PySem.Challenge.RW_bf0005_01
set_option Elab.async false
set_option rowWalk.seconds 0

section TextHT
namespace Mine.Lay
open _root_.PySem _root_.PySem.W _root_.PyProof.Rows
/- This text only LAYS the head: running «k_head» under the throwaway theorem «hd» below makes the head's constants (heap_1_39, view_1_40, ..)
and the lemmas of its pieces, which the next text puts together under the theorem «Mine.hd», without «Lay.hd» itself. «Lay.hd» has an absurd
hypothesis, so it says nothing, and nothing uses it. The trivial theorems «hd.tw..» keep twin equations from being made (the compiled file would be 100 MB).
The stand-in below takes the place of the library's theorem of that name inside this namespace alone, so that the head is laid and then closed at once. -/
theorem PySem.W.holds_open {r : OpenRow} {q : Program} {loose : List Str} {Xt : Shared → Bool} {XP : (Str → Option Value) → Heap → Prop} {α : Type} {Yf : Shared → α} {Ya : World → α} {YP : World → Heap → Prop} {d : DefRec} {kwd : List (Str × Expr)} {N : Nat}
    (_left : LeftO r.prog q loose Xt Yf Ya N) (_hY : ∀ w s, Yf s = Ya w → YP w s.heap) (_hYk : ∀ w h h', YP w h → (∀ b o, h.get? b = some o → h'.get? b = some o) → YP w h')
    (_hX : ∀ s, Xt s = true → XP (s.heap.nsMap mainGlobals) s.heap) (_hXk : ∀ mg h h', XP mg h → (∀ b o, h.get? b = some o → h'.get? b = some o) → XP mg h')
    (_hdef : defOf q r.name = some (d, kwd)) (_hp : r.prog.theDef r.name = some (d.params, d.body, d.scope)) (_hk : kwWritten? d.params.kwonlyargs d.params.kw_defaults = some kwd) (_hRf : ∀ s, Xt s = true → RecFacts r.records s.heap) (_hwr : (!r.writes || r.records.isEmpty) = true)
    (_k1 : r.wellSaid = true) (_ok : Nat.ble 0 777 = true) (_hb : 1 = 1 ∧ 1 = 1 ∧ 1 = 1 ∧ 1 = 1 ∧ 1 = 1 ∧ Nat.ble 0 778 = true) (_hw : True)
    (_call : True) (h0 : ∀ P : Prop, P := by assumption) : r.Holds := h0 _
theorem hd.tw8878879263550228163 : True := trivial
theorem hd.tw6072475779827758871 : True := trivial
theorem hd.tw606655360597158702 : True := trivial
theorem hd.tw11299394056408635464 : True := trivial
theorem hd.tw4402825109724731589 : True := trivial
theorem hd.tw18230537340856335788 : True := trivial
theorem hd.tw10841345545354558988 : True := trivial
theorem hd.tw4467722911353488008 : True := trivial
theorem hd.tw9973378093787666568 : True := trivial
theorem hd.tw17777804976142977819 : True := trivial
theorem hd.tw11762428953336335387 : True := trivial
theorem hd.tw9432598914737114685 : True := trivial
theorem hd.tw14964833911493550405 : True := trivial
theorem hd.tw16059828163844336000 : True := trivial
theorem hd.tw10669951161819244831 : True := trivial
theorem hd.tw16310275008632980516 : True := trivial
theorem hd.tw13531482843648081090 : True := trivial
theorem hd.tw13168509944964545401 : True := trivial
theorem hd.tw8957935355063511210 : True := trivial
theorem hd.tw13350110109962431717 : True := trivial
theorem hd.tw14340239717350682827 : True := trivial
theorem hd.tw13994160363239638789 : True := trivial
theorem hd.tw6614665438935518172 : True := trivial
theorem hd.tw2363705894841771801 : True := trivial
theorem hd.tw7120616939407957851 : True := trivial
theorem hd.tw17109884345385340472 : True := trivial
theorem hd.tw1368200723064872795 : True := trivial
theorem hd.tw7296247733036215714 : True := trivial
theorem hd.tw17517893973720874770 : True := trivial
theorem hd.tw6299268151477823627 : True := trivial
theorem hd.tw1980211744946645991 : True := trivial
theorem hd.tw11994959341550951057 : True := trivial
theorem hd.tw17137210904300188440 : True := trivial
theorem hd.tw12058659976294947641 : True := trivial
theorem hd.tw5743537690338024951 : True := trivial
theorem hd.tw10783056774999277308 : True := trivial
theorem hd.tw16097634221277403358 : True := trivial
theorem hd.tw2551597342620080035 : True := trivial
theorem hd.tw18031216314333695774 : True := trivial
theorem hd.tw16771768439993033218 : True := trivial
theorem hd.tw16353400489439127120 : True := trivial
theorem hd.tw3858417882476884510 : True := trivial
theorem hd.tw15317148195678206476 : True := trivial
theorem hd.tw4812314455161182589 : True := trivial
theorem hd.tw12021440547461148180 : True := trivial
theorem hd.tw11323025542139075001 : True := trivial
theorem hd.tw5013709633314533301 : True := trivial
theorem hd.tw16187312711203490749 : True := trivial
theorem hd.tw6846725258764837724 : True := trivial
theorem hd.tw14471517808927295362 : True := trivial
theorem hd.tw7660119284908704113 : True := trivial
theorem hd.tw4059920142553839888 : True := trivial
theorem hd.tw17869854091204342660 : True := trivial
theorem hd.tw2372331108376872590 : True := trivial
theorem hd.tw7519192794186977597 : True := trivial
theorem hd.tw7679365818419441179 : True := trivial
theorem hd.tw10554347135935848518 : True := trivial
theorem hd.tw5074635493185275077 : True := trivial
theorem hd.tw4927773995423808480 : True := trivial
theorem hd.tw298848197814472815 : True := trivial
theorem hd.tw18119596199216682588 : True := trivial
theorem hd.tw18377023804778719464 : True := trivial
theorem hd.tw9052515387307416401 : True := trivial
theorem hd.tw1465588989520962368 : True := trivial
theorem hd.tw10467862546468477865 : True := trivial
theorem hd.tw3205494479425694197 : True := trivial
theorem hd.tw12127320829167430094 : True := trivial
theorem hd.tw3500202631357703056 : True := trivial
theorem hd.tw6118937508200323984 : True := trivial
theorem hd.tw3569932587838001723 : True := trivial
theorem hd.tw5826728565447826591 : True := trivial
theorem hd.tw7110824246356385189 : True := trivial
theorem hd.tw6999815592940006409 : True := trivial
theorem hd.tw10674471999832521443 : True := trivial
theorem hd.tw16533734505353288547 : True := trivial
theorem hd.tw3698115797351886536 : True := trivial
theorem hd.tw7103067749300672471 : True := trivial
theorem hd.tw4506154369914990082 : True := trivial
theorem hd.tw12980689086024271850 : True := trivial
theorem hd.tw14283287075178860795 : True := trivial
theorem hd.tw16544477483814146602 : True := trivial
theorem hd.tw9184072179354063868 : True := trivial
theorem hd.tw8646886685803437163 : True := trivial
theorem hd.tw9178261907000995207 : True := trivial
theorem hd.tw2668798625907213643 : True := trivial
theorem hd.tw16811230295827309560 : True := trivial
theorem hd.tw1633137593280258339 : True := trivial
theorem hd.tw12248070069264709880 : True := trivial
theorem hd.tw16921850207886901313 : True := trivial
theorem hd.tw5929813094664895669 : True := trivial
theorem hd.tw8096343942912624229 : True := trivial
theorem hd.tw2189221030243955274 : True := trivial
theorem hd.tw16308198483094813713 : True := trivial
theorem hd.tw11996289475556598092 : True := trivial
theorem hd.tw9948811497000713875 : True := trivial
theorem hd.tw15603461497745755753 : True := trivial
theorem hd.tw17721934410324691900 : True := trivial
theorem hd.tw861692870327850142 : True := trivial
theorem hd.tw12163441490260069562 : True := trivial
theorem hd.tw16203979660137178582 : True := trivial
theorem hd.tw11017736252754865535 : True := trivial
theorem hd.tw12771799143489483180 : True := trivial
theorem hd.tw14247212536927785827 : True := trivial
theorem hd.tw11640674421067398338 : True := trivial
theorem hd.tw18427662826430988468 : True := trivial
theorem hd.tw1011134907928077185 : True := trivial
theorem hd.tw2763800238355131430 : True := trivial
theorem hd.tw6520970258304111848 : True := trivial
theorem hd.tw14526734314645985330 : True := trivial
theorem hd.tw5881601345805970090 : True := trivial
theorem hd.tw6585296403818985601 : True := trivial
theorem hd.tw4772482360384341008 : True := trivial
theorem hd.tw12501929877609040934 : True := trivial
theorem hd.tw14464556168660139323 : True := trivial
theorem hd.tw15652454111830493742 : True := trivial
theorem hd.tw1071808556546296986 : True := trivial
theorem hd.tw12406766377652651027 : True := trivial
theorem hd.tw6359259615270490566 : True := trivial
theorem hd.tw11603098732977965616 : True := trivial
theorem hd.tw10349194809953735615 : True := trivial
theorem hd.tw13190522929055755364 : True := trivial
theorem hd.tw2310575464991323337 : True := trivial
theorem hd.tw11372472216167047752 : True := trivial
theorem hd.tw17501418074099598173 : True := trivial
theorem hd.tw12238441902693657001 : True := trivial
theorem hd.tw8276346678928590554 : True := trivial
theorem hd.tw859845663966039209 : True := trivial
theorem hd.tw4779314401326377388 : True := trivial
theorem hd.tw15159851577918626346 : True := trivial
theorem hd.tw6457740925720918235 : True := trivial
theorem hd.tw13701773751823812219 : True := trivial
theorem hd.tw1717632922494887653 : True := trivial
theorem hd.tw12610846924828038702 : True := trivial
theorem hd.tw4564289861885802871 : True := trivial
theorem hd.tw17518423219934849444 : True := trivial
theorem hd.tw13466531160476056699 : True := trivial
theorem hd.tw12630445676131305389 : True := trivial
theorem hd.tw17151547470801032474 : True := trivial
theorem hd.tw7895001952070426620 : True := trivial
theorem hd.tw13146778859888896304 : True := trivial
theorem hd.tw14842035612593365334 : True := trivial
theorem hd.tw10157640708366669280 : True := trivial
theorem hd.tw9053189593314015218 : True := trivial
theorem hd.tw6395296716266010126 : True := trivial
theorem hd.tw16119107264774450456 : True := trivial
theorem hd.tw14478652074934418084 : True := trivial
theorem hd.tw16715634503444578032 : True := trivial
theorem hd.tw13236844251356407964 : True := trivial
theorem hd.tw6746455437291774860 : True := trivial
theorem hd.tw9609264703215872098 : True := trivial
theorem hd.tw979644168476796205 : True := trivial
theorem hd.tw18093520387293773415 : True := trivial
theorem hd.tw125064901950222191 : True := trivial
theorem hd.tw12294288183875632653 : True := trivial
theorem hd.tw11058852442799210499 : True := trivial
theorem hd.tw5628392412313487712 : True := trivial
theorem hd.tw15313042359378099401 : True := trivial
theorem hd.tw4703338969534178867 : True := trivial
theorem hd.tw10661997406218991287 : True := trivial
theorem hd.tw8890136231063652147 : True := trivial
theorem hd.tw4226793697743928840 : True := trivial
theorem hd.tw5561514359485130199 : True := trivial
theorem hd.tw6207679657721496785 : True := trivial
theorem hd.tw3390257682446864913 : True := trivial
theorem hd.tw3311200259064679431 : True := trivial
theorem hd.tw14346502219749419737 : True := trivial
theorem hd.tw3849927885890817030 : True := trivial
theorem hd.tw13693364221231540115 : True := trivial
theorem hd.tw6397377408935170878 : True := trivial
theorem hd.tw1422622398067957251 : True := trivial
theorem hd.tw13270635802270923210 : True := trivial
theorem hd.tw12878532754678599905 : True := trivial
theorem hd.tw7804968072020976453 : True := trivial
theorem hd.tw17967296622286269860 : True := trivial
theorem hd.tw13569683417448684378 : True := trivial
theorem hd.tw17153043034482105737 : True := trivial
theorem hd.tw7518522822371476122 : True := trivial
theorem hd.tw1409902502854604303 : True := trivial
theorem hd.tw3546104222589355688 : True := trivial
theorem hd.tw2382566273961203831 : True := trivial
theorem hd.tw13583000242407372629 : True := trivial
theorem hd.tw14446605792876162396 : True := trivial
theorem hd.tw16437437736725859188 : True := trivial
theorem hd.tw7100966562193213867 : True := trivial
theorem hd.tw7038752882947131655 : True := trivial
theorem hd.tw1500106648468142817 : True := trivial
theorem hd.tw18404755114423391017 : True := trivial
theorem hd.tw17818123680681140255 : True := trivial
theorem hd.tw2573578175001993863 : True := trivial
theorem hd.tw15201405353687856148 : True := trivial
theorem hd.tw13897548451048084396 : True := trivial
theorem hd.tw16809387330494396242 : True := trivial
theorem hd.tw12953635679193019104 : True := trivial
theorem hd.tw1409616774022612865 : True := trivial
theorem hd.tw4929693997146805150 : True := trivial
theorem hd.tw6069773597193191835 : True := trivial
theorem hd.tw10940087315663611413 : True := trivial
theorem hd.tw14907016502954301456 : True := trivial
theorem hd.tw7162667229294848329 : True := trivial
theorem hd.tw1418543161803522313 : True := trivial
theorem hd.tw1904592839531036328 : True := trivial
theorem hd.tw18300393174950851547 : True := trivial
theorem hd.tw17416844864892528282 : True := trivial
theorem hd.tw8898029729650861848 : True := trivial
theorem hd.tw13537162271660946889 : True := trivial
theorem hd.tw12242061031312231197 : True := trivial
theorem hd.tw10037470882949875711 : True := trivial
theorem hd.tw610594319321551146 : True := trivial
theorem hd.tw10090527921048774592 : True := trivial
theorem hd.tw9160437539877336953 : True := trivial
theorem hd.tw11489410470787855286 : True := trivial
theorem hd.tw4524894317594398359 : True := trivial
theorem hd.tw4925023832917560117 : True := trivial
theorem hd.tw16963278556430563797 : True := trivial
theorem hd.tw16836673273779392442 : True := trivial
theorem hd.tw6624616001043035965 : True := trivial
theorem hd.tw4858439773065279115 : True := trivial
theorem hd.tw13771509550708767522 : True := trivial
theorem hd.tw12393647893178223040 : True := trivial
theorem hd.tw7143309734253846943 : True := trivial
theorem hd.tw11072998488083025889 : True := trivial
theorem hd.tw306988902559147707 : True := trivial
theorem hd.tw7455097671377080783 : True := trivial
theorem hd.tw13075831590137609400 : True := trivial
theorem hd.tw5156002785273272337 : True := trivial
theorem hd.tw4966171980193061729 : True := trivial
theorem hd.tw9397580844396333156 : True := trivial
theorem hd.tw832533404159121336 : True := trivial
theorem hd.tw16838743679877703367 : True := trivial
theorem hd.tw15498705613235013315 : True := trivial
theorem hd.tw3142043413267833082 : True := trivial
theorem hd.tw1721081861522388437 : True := trivial
theorem hd.tw17074762966711352054 : True := trivial
theorem hd.tw17647735554526294803 : True := trivial
theorem hd.tw13790844885997002630 : True := trivial
theorem hd.tw12649699034320256882 : True := trivial
theorem hd.tw645832571757437950 : True := trivial
theorem hd.tw2107446066598909211 : True := trivial
theorem hd.tw16866331539119120254 : True := trivial
theorem hd.tw1191657194746836706 : True := trivial
theorem hd.tw16395028020008202 : True := trivial
theorem hd.tw9301058045560321682 : True := trivial
theorem hd.tw1682913724896737656 : True := trivial
theorem hd.tw16765352769084414116 : True := trivial
theorem hd.tw14587262361723963593 : True := trivial
theorem hd.tw17775493092224193834 : True := trivial
theorem hd.tw12849248847264298075 : True := trivial
theorem hd.tw4115343992916987806 : True := trivial
theorem hd.tw14923260545527879524 : True := trivial
theorem hd.tw2178054201137997725 : True := trivial
theorem hd.tw17562202703380370287 : True := trivial
theorem hd.tw13932736772724831616 : True := trivial
theorem hd.tw12550235420036994713 : True := trivial
theorem hd.tw8332991121592572315 : True := trivial
theorem hd.tw7925342845707792998 : True := trivial
theorem hd.tw1896189436308607069 : True := trivial
theorem hd.tw15292989287792900228 : True := trivial
theorem hd.tw17055454760397338710 : True := trivial
theorem hd.tw7514972826088761617 : True := trivial
theorem hd.tw540195298769292645 : True := trivial
theorem hd.tw10893809439268865677 : True := trivial
theorem hd.tw13598742268958823563 : True := trivial
theorem hd.tw15541446010229336518 : True := trivial
theorem hd.tw7385564672427053997 : True := trivial
theorem hd.tw12990840227891725005 : True := trivial
theorem hd.tw10433129930799390578 : True := trivial
theorem hd.tw6669116582666539253 : True := trivial
theorem hd.tw4423200549778757335 : True := trivial
theorem hd.tw11310486728156331549 : True := trivial
theorem hd.tw11909576416928121516 : True := trivial
theorem hd.tw9249453641223808461 : True := trivial
theorem hd.tw8142588793587479262 : True := trivial
theorem hd.tw15749199184716331582 : True := trivial
theorem hd.tw14883678525748658233 : True := trivial
theorem hd.tw2581763370779379782 : True := trivial
theorem hd.tw7373781457510356272 : True := trivial
theorem hd.tw4331191173175687784 : True := trivial
theorem hd.tw15964451181125980149 : True := trivial
theorem hd.tw15400070308861106516 : True := trivial
theorem hd.tw4554106999758019100 : True := trivial
theorem hd.tw4514163070090366375 : True := trivial
theorem hd.tw525257626222701455 : True := trivial
theorem hd.tw4947753840605588792 : True := trivial
theorem hd.tw362266824885725926 : True := trivial
theorem hd.tw7227128438030514569 : True := trivial
theorem hd.tw3467463716914465407 : True := trivial
theorem hd.tw2525658536136869027 : True := trivial
theorem hd.tw13553441157927870408 : True := trivial
theorem hd.tw7154853650977324753 : True := trivial
theorem hd.tw12272056998187694848 : True := trivial
theorem hd.tw15059157765298654664 : True := trivial
theorem hd.tw11972347437512034974 : True := trivial
theorem hd.tw15364568870472529686 : True := trivial
theorem hd.tw15995281581266109624 : True := trivial
theorem hd.tw3049785149458396691 : True := trivial
theorem hd.tw13897524685946549268 : True := trivial
theorem hd.tw17749426632173254015 : True := trivial
theorem hd.tw9997604256794789409 : True := trivial
theorem hd.tw12986466116728476420 : True := trivial
theorem hd.tw14381052250217970508 : True := trivial
theorem hd.tw14887894431962876341 : True := trivial
theorem hd.tw3933828246146386179 : True := trivial
theorem hd.tw8322860202268801518 : True := trivial
theorem hd.tw3211772655591136966 : True := trivial
theorem hd.tw9135182398411250739 : True := trivial
theorem hd.tw12439794434578671758 : True := trivial
theorem hd.tw12003715031369083827 : True := trivial
theorem hd.tw6518302496109793040 : True := trivial
theorem hd.tw16794879590796825131 : True := trivial
theorem hd.tw18139988317594356464 : True := trivial
theorem hd.tw4582008592751390580 : True := trivial
theorem hd.tw8293520090990964301 : True := trivial
theorem hd.tw9828625944888655405 : True := trivial
theorem hd.tw14046532295118548289 : True := trivial
theorem hd.tw15129997420941907313 : True := trivial
theorem hd.tw783052085513036608 : True := trivial
theorem hd.tw4631151043696814850 : True := trivial
theorem hd.tw1308642960375272556 : True := trivial
theorem hd.tw8040690737460747628 : True := trivial
theorem hd.tw5784298780245719281 : True := trivial
theorem hd.tw6305148620631151033 : True := trivial
theorem hd.tw17649602613560220554 : True := trivial
theorem hd.tw17019571721781495543 : True := trivial
theorem hd.tw5060781828616699197 : True := trivial
theorem hd.tw14324660531731073063 : True := trivial
theorem hd.tw1179570717210063190 : True := trivial
theorem hd.tw6333939917367115464 : True := trivial
theorem hd.tw10072929276416263762 : True := trivial
theorem hd.tw12012876239809857206 : True := trivial
theorem hd.tw8702793547210605502 : True := trivial
theorem hd.tw6841617725690371938 : True := trivial
theorem hd.tw17694376685236246320 : True := trivial
theorem hd.tw3886957453568467856 : True := trivial
theorem hd.tw9279524670804219434 : True := trivial
theorem hd.tw13968468835887935490 : True := trivial
theorem hd.tw14779846880078494538 : True := trivial
theorem hd.tw8457914805503570982 : True := trivial
theorem hd.tw10725450617780335753 : True := trivial
theorem hd.tw1620831557305950626 : True := trivial
theorem hd.tw16410157775092895680 : True := trivial
theorem hd.tw10354715749707786121 : True := trivial
theorem hd.tw12887059275599813678 : True := trivial
theorem hd.tw14462776749176310932 : True := trivial
theorem hd.tw4906796664492899159 : True := trivial
theorem hd.tw10118502317072614420 : True := trivial
theorem hd.tw17679170968336562871 : True := trivial
theorem hd.tw2446214094179180176 : True := trivial
theorem hd.tw15839216184544813067 : True := trivial
theorem hd.tw8762929722373022685 : True := trivial
theorem hd.tw2625677323513411229 : True := trivial
theorem hd.tw14022700372072227588 : True := trivial
theorem hd.tw4933495194196219806 : True := trivial
theorem hd.tw4168277290985663494 : True := trivial
theorem hd.tw13828907370899823403 : True := trivial
theorem hd.tw5573729152472532826 : True := trivial
theorem hd.tw13720768332485145580 : True := trivial
theorem hd.tw3332752536806964374 : True := trivial
theorem hd.tw14841098992179075071 : True := trivial
theorem hd.tw6360438754598108024 : True := trivial
theorem hd.tw4299780010969299250 : True := trivial
theorem hd.tw4781038944740058871 : True := trivial
theorem hd.tw13264292842980683905 : True := trivial
theorem hd.tw14686574974036286276 : True := trivial
theorem hd.tw582955411370812860 : True := trivial
theorem hd.tw12970649838311865735 : True := trivial
theorem hd.tw10326491575621058319 : True := trivial
theorem hd.tw16164263324832033279 : True := trivial
theorem hd.tw14432953988167222025 : True := trivial
theorem hd.tw12002829756695216374 : True := trivial
theorem hd.tw10952688510379620654 : True := trivial
theorem hd.tw354544592264869259 : True := trivial
theorem hd.tw303582049805566851 : True := trivial
theorem hd.tw5136184352323730324 : True := trivial
theorem hd.tw10982101894705168570 : True := trivial
theorem hd.tw4517980751932764811 : True := trivial
theorem hd.tw8743149939438369606 : True := trivial
theorem hd.tw14488681280276271959 : True := trivial
theorem hd.tw1869843259974280885 : True := trivial
theorem hd.tw4576269389108732152 : True := trivial
theorem hd.tw14589301742692818516 : True := trivial
theorem hd.tw4885209512730869191 : True := trivial
theorem hd.tw12827281637151899544 : True := trivial
theorem hd.tw7524621982020103020 : True := trivial
theorem hd.tw1606661071135851255 : True := trivial
theorem hd.tw2176792433403916741 : True := trivial
theorem hd.tw7459993038559384670 : True := trivial
theorem hd.tw18143966198757113778 : True := trivial
theorem hd.tw809648946233985972 : True := trivial
theorem hd.tw16677801596594245860 : True := trivial
theorem hd.tw14820416010616222288 : True := trivial
theorem hd.tw7476218003771432016 : True := trivial
theorem hd.tw5164079025793636637 : True := trivial
theorem hd.tw2257948636940024131 : True := trivial
theorem hd.tw6818247941920438184 : True := trivial
theorem hd.tw2015617723404776684 : True := trivial
theorem hd.tw10769659324061727486 : True := trivial
theorem hd.tw17326580309123044117 : True := trivial
theorem hd.tw10376151379742684039 : True := trivial
theorem hd.tw13225024178882686398 : True := trivial
theorem hd.tw17564691812534875046 : True := trivial
theorem hd.tw4053088062613300685 : True := trivial
theorem hd.tw15422249721600749342 : True := trivial
theorem hd.tw17485742155415904784 : True := trivial
theorem hd.tw9710744168370176055 : True := trivial
theorem hd.tw10003158187486225444 : True := trivial
theorem hd.tw13933830403647938287 : True := trivial
theorem hd.tw16027575395051293351 : True := trivial
theorem hd.tw9369253709174420664 : True := trivial
theorem hd.tw3799356325964723496 : True := trivial
theorem hd.tw17716816022398324505 : True := trivial
theorem hd.tw421414005166840940 : True := trivial
theorem hd.tw14810084804572980788 : True := trivial
theorem hd.tw18250258081254189299 : True := trivial
theorem hd.tw4601371202864615762 : True := trivial
theorem hd.tw8140312626424119881 : True := trivial
theorem hd.tw17460167057841054971 : True := trivial
theorem hd.tw10082176056068939072 : True := trivial
theorem hd.tw16439950894194658771 : True := trivial
theorem hd.tw4578650932108641871 : True := trivial
theorem hd.tw6940403912496753642 : True := trivial
theorem hd.tw12930636719353394654 : True := trivial
theorem hd.tw5517206021671624930 : True := trivial
theorem hd.tw3382217830256967316 : True := trivial
theorem hd.tw1919210560337374467 : True := trivial
theorem hd.tw9137493372854832158 : True := trivial
theorem hd.tw14019235255270389355 : True := trivial
theorem hd.tw3321690941983196662 : True := trivial
theorem hd.tw11065104155840355492 : True := trivial
theorem hd.tw15562147728186468973 : True := trivial
theorem hd.tw17871153887918188835 : True := trivial
theorem hd.tw11877853899872659808 : True := trivial
theorem hd.tw9007290417304642995 : True := trivial
theorem hd.tw18028927645105507187 : True := trivial
theorem hd.tw2839290398559594440 : True := trivial
theorem hd.tw105264381802227859 : True := trivial
theorem hd.tw258028562731761312 : True := trivial
theorem hd.tw5805348727419071171 : True := trivial
theorem hd.tw16118571179908731398 : True := trivial
theorem hd.tw15540828560671574695 : True := trivial
theorem hd.tw7582514885493749628 : True := trivial
theorem hd.tw4926765716490530544 : True := trivial
theorem hd.tw8789605563884879145 : True := trivial
theorem hd.tw4174315100786829254 : True := trivial
theorem hd.tw17305612644944646054 : True := trivial
theorem hd.tw395364837132436033 : True := trivial
theorem hd.tw14561164886348539760 : True := trivial
theorem hd.tw16820186094070702811 : True := trivial
theorem hd.tw399187393367348606 : True := trivial
theorem hd.tw7797061398214857153 : True := trivial
theorem hd.tw16389074299746525923 : True := trivial
theorem hd.tw6845043373376698067 : True := trivial
theorem hd.tw15508551133142184787 : True := trivial
theorem hd.tw18021487923379321635 : True := trivial
theorem hd.tw9299241708872824622 : True := trivial
theorem hd.tw10163449672300518704 : True := trivial
theorem hd.tw3106594927274297820 : True := trivial
theorem hd.tw12415165019746663446 : True := trivial
theorem hd.tw1839067330119310508 : True := trivial
theorem hd.tw9038689731325748719 : True := trivial
theorem hd.tw982282709762629149 : True := trivial
theorem hd.tw15520570012925182907 : True := trivial
theorem hd.tw12365872786042972280 : True := trivial
theorem hd.tw6403838901999911796 : True := trivial
theorem hd.tw11098078916521545511 : True := trivial
theorem hd.tw13840549002551847892 : True := trivial
theorem hd.tw7572594438687469620 : True := trivial
theorem hd.tw2117745436674494626 : True := trivial
theorem hd.tw185561271512643536 : True := trivial
theorem hd.tw16670906824997677726 : True := trivial
theorem hd.tw111979259598059509 : True := trivial
theorem hd.tw17384408032764502295 : True := trivial
theorem hd.tw3961910670943549869 : True := trivial
theorem hd.tw11891191843076186779 : True := trivial
theorem hd.tw8493852526786993219 : True := trivial
theorem hd.tw12251963730349741394 : True := trivial
theorem hd.tw12538420318766348118 : True := trivial
theorem hd.tw14495292834727988265 : True := trivial
theorem hd.tw10674575265421970794 : True := trivial
theorem hd.tw2470140772956036637 : True := trivial
theorem hd.tw2840016156188798969 : True := trivial
theorem hd.tw12624179712754118911 : True := trivial
theorem hd.tw15530218689319409066 : True := trivial
theorem hd.tw7343558781442827411 : True := trivial
theorem hd.tw4333990177871202253 : True := trivial
theorem hd.tw12862143418654853108 : True := trivial
theorem hd.tw18297417426494411786 : True := trivial
theorem hd.tw7509465935216646422 : True := trivial
theorem hd.tw5522915597560420117 : True := trivial
theorem hd.tw2846862866557313463 : True := trivial
theorem hd.tw15336790452061045341 : True := trivial
theorem hd.tw16683403231423252379 : True := trivial
theorem hd.tw17202370074940920323 : True := trivial
theorem hd.tw5852355862095338749 : True := trivial
theorem hd.tw6022638527628335412 : True := trivial
theorem hd.tw7814453250084543563 : True := trivial
theorem hd.tw1084531565303376441 : True := trivial
theorem hd.tw2597198506343521771 : True := trivial
theorem hd.tw7350704618653309110 : True := trivial
theorem hd.tw12137281045120375273 : True := trivial
theorem hd.tw16569261411187590977 : True := trivial
theorem hd.tw369395589548883244 : True := trivial
theorem hd.tw1166096449393233917 : True := trivial
theorem hd.tw11626958409750176542 : True := trivial
theorem hd.tw2211360050796529422 : True := trivial
theorem hd.tw9174635586227292939 : True := trivial
theorem hd.tw2239205215728675862 : True := trivial
theorem hd.tw7292046773297735722 : True := trivial
theorem hd.tw15273156191863311323 : True := trivial
theorem hd.tw16154039129377244357 : True := trivial
theorem hd.tw5327095000066534273 : True := trivial
theorem hd.tw7565142210564989889 : True := trivial
theorem hd.tw5377562150621101372 : True := trivial
theorem hd.tw2265844074213281411 : True := trivial
theorem hd.tw2743486641611167165 : True := trivial
theorem hd.tw12468155333692747223 : True := trivial
theorem hd.tw18388860373852922640 : True := trivial
theorem hd.tw15410369820652303529 : True := trivial
theorem hd.tw2764728428253165758 : True := trivial
theorem hd.tw320083262260584696 : True := trivial
theorem hd.tw12426756020770585585 : True := trivial
theorem hd.tw6326926019078302387 : True := trivial
theorem hd.tw16921800399468325929 : True := trivial
theorem hd.tw1741036299933623423 : True := trivial
theorem hd.tw1812878723656557000 : True := trivial
theorem hd.tw4246921285833925391 : True := trivial
theorem hd.tw1866000705353968819 : True := trivial
theorem hd.tw5822356555633510978 : True := trivial
theorem hd.tw8680293690155896444 : True := trivial
theorem hd.tw12891485115795067009 : True := trivial
theorem hd.tw7916944193160586698 : True := trivial
theorem hd.tw4835605311109123941 : True := trivial
theorem hd.tw13882135070655812535 : True := trivial
theorem hd.tw8164665477308231484 : True := trivial
theorem hd.tw4404934349331045577 : True := trivial
theorem hd.tw7866079111769162207 : True := trivial
theorem hd.tw4695852854926900538 : True := trivial
theorem hd.tw6373168858556917421 : True := trivial
theorem hd.tw1064802035456816460 : True := trivial
theorem hd.tw8161014200166507332 : True := trivial
theorem hd.tw7827938155862497852 : True := trivial
theorem hd.tw10039877860220988898 : True := trivial
theorem hd.tw12580080934885003398 : True := trivial
theorem hd.tw117837189499397261 : True := trivial
theorem hd.tw14929558357149799464 : True := trivial
theorem hd.tw3614374999519123586 : True := trivial
theorem hd.tw15632203980376546631 : True := trivial
theorem hd.tw11790384186503849818 : True := trivial
theorem hd.tw8907550767910649589 : True := trivial
theorem hd.tw17004338569038943532 : True := trivial
theorem hd.tw16918451751010678146 : True := trivial
theorem hd.tw15292552763169393569 : True := trivial
theorem hd.tw3851913242846225009 : True := trivial
theorem hd.tw5845886687475065826 : True := trivial
theorem hd.tw2225234717151278376 : True := trivial
theorem hd.tw8524925188017467306 : True := trivial
theorem hd.tw13820206778836834021 : True := trivial
theorem hd.tw29446181239178296 : True := trivial
theorem hd.tw10267125781533510827 : True := trivial
theorem hd.tw2067386618563358974 : True := trivial
theorem hd.tw6685294445808380964 : True := trivial
theorem hd.tw15224656414924547589 : True := trivial
theorem hd.tw4074012584744008493 : True := trivial
theorem hd.tw9492634914549955089 : True := trivial
theorem hd.tw15766153345121685327 : True := trivial
theorem hd.tw6458551695251419492 : True := trivial
theorem hd.tw10527673478969318165 : True := trivial
theorem hd.tw6037875609945160631 : True := trivial
theorem hd.tw9725753174170476742 : True := trivial
theorem hd.tw1441251034606889896 : True := trivial
theorem hd.tw11857351251126352361 : True := trivial
theorem hd.tw15297670891565444956 : True := trivial
theorem hd.tw6160785308017033575 : True := trivial
theorem hd.tw847672190390562081 : True := trivial
theorem hd.tw9123421519742460619 : True := trivial
theorem hd.tw3685789730462376491 : True := trivial
theorem hd.tw10980737751352259067 : True := trivial
theorem hd.tw16154789077928638558 : True := trivial
theorem hd.tw16574198837285116988 : True := trivial
theorem hd.tw15212065781116589773 : True := trivial
theorem hd.tw3425814912473294635 : True := trivial
theorem hd.tw4715623531245465759 : True := trivial
theorem hd.tw1271040080182144051 : True := trivial
theorem hd.tw2149429872053365682 : True := trivial
theorem hd.tw6198534055904662853 : True := trivial
theorem hd.tw8860552835898035961 : True := trivial
theorem hd.tw11021460526536163132 : True := trivial
theorem hd.tw18258616872268222679 : True := trivial
theorem hd.tw16068675507751665329 : True := trivial
theorem hd.tw10756645558040948829 : True := trivial
theorem hd.tw16447036508962505162 : True := trivial
theorem hd.tw646172135832042153 : True := trivial
theorem hd.tw1920135050897786654 : True := trivial
theorem hd.tw5482631389453067437 : True := trivial
theorem hd.tw5891807662245746391 : True := trivial
theorem hd.tw8141970325925627558 : True := trivial
theorem hd.tw14349248033061256629 : True := trivial
theorem hd.tw6506683559209607158 : True := trivial
theorem hd.tw1889115861130896717 : True := trivial
theorem hd.tw8505698422080049121 : True := trivial
theorem hd.tw9356949618623164724 : True := trivial
theorem hd.tw17652670216728227708 : True := trivial
theorem hd.tw7412884386453456052 : True := trivial
theorem hd.tw13920072929844309678 : True := trivial
theorem hd.tw9412075175953729361 : True := trivial
theorem hd.tw1278571582698264921 : True := trivial
theorem hd.tw6689699775571250252 : True := trivial
theorem hd.tw2448177269562980978 : True := trivial
theorem hd.tw13252209876738148524 : True := trivial
theorem hd.tw14693455322075492402 : True := trivial
theorem hd.tw15003246305820415683 : True := trivial
theorem hd.tw7663256380836686661 : True := trivial
theorem hd.tw6930344051580360370 : True := trivial
theorem hd.tw8509562936233684924 : True := trivial
theorem hd.tw17647702279150824128 : True := trivial
theorem hd.tw17676720160079973609 : True := trivial
theorem hd.tw16843850081555641514 : True := trivial
theorem hd.tw14899102481749457512 : True := trivial
theorem hd.tw7081134252685061398 : True := trivial
theorem hd.tw15862571366154587835 : True := trivial
theorem hd.tw15491901020482161207 : True := trivial
theorem hd.tw10919824266155338436 : True := trivial
theorem hd.tw14361401346991321025 : True := trivial
theorem hd.tw9149606654600238330 : True := trivial
theorem hd.tw4815024875243036704 : True := trivial
theorem hd.tw9511261210766676306 : True := trivial
theorem hd.tw6493196885900218500 : True := trivial
theorem hd.tw18283572145582679829 : True := trivial
theorem hd.tw13488921475414549567 : True := trivial
theorem hd.tw8137199740048494852 : True := trivial
theorem hd.tw6402291046861552212 : True := trivial
theorem hd.tw10727533149976088168 : True := trivial
theorem hd.tw13597883078821603400 : True := trivial
theorem hd.tw12674345659203541290 : True := trivial
theorem hd.tw7416388114245740184 : True := trivial
theorem hd.tw10628891723917381169 : True := trivial
theorem hd.tw9460669662156967497 : True := trivial
theorem hd.tw8448354213884878549 : True := trivial
theorem hd.tw12018262332556112191 : True := trivial
theorem hd.tw8113851813922267254 : True := trivial
theorem hd.tw11481763957153523223 : True := trivial
theorem hd.tw12506779392655498191 : True := trivial
theorem hd.tw244457986390725851 : True := trivial
theorem hd.tw3722283991071859715 : True := trivial
theorem hd.tw15012506511780461818 : True := trivial
theorem hd.tw15679754541778886637 : True := trivial
theorem hd.tw17854124031327105418 : True := trivial
theorem hd.tw762240697512226931 : True := trivial
theorem hd.tw9342440636739461407 : True := trivial
theorem hd.tw7518140269777042567 : True := trivial
theorem hd.tw14633450850160196732 : True := trivial
theorem hd.tw3834595851422833517 : True := trivial
theorem hd.tw18150747611587515843 : True := trivial
theorem hd.tw4820932857373904627 : True := trivial
theorem hd.tw17068620045776302082 : True := trivial
theorem hd.tw9039381638131674859 : True := trivial
theorem hd.tw4256113278406585097 : True := trivial
theorem hd.tw11196924380595797181 : True := trivial
theorem hd.tw16365292264340483144 : True := trivial
theorem hd.tw582629480905152585 : True := trivial
theorem hd.tw1474550791195393637 : True := trivial
theorem hd.tw3644328350375270040 : True := trivial
theorem hd.tw9000565064598327598 : True := trivial
theorem hd.tw14873546557443568363 : True := trivial
theorem hd.tw8670918730751654512 : True := trivial
theorem hd.tw287306624491616677 : True := trivial
theorem hd.tw17510779585707517081 : True := trivial
theorem hd.tw10474003313133826370 : True := trivial
theorem hd.tw1146345822233054107 : True := trivial
theorem hd.tw10471972774640201347 : True := trivial
theorem hd.tw1404308480164332732 : True := trivial
theorem hd.tw11402526977185538572 : True := trivial
theorem hd.tw15127194870048426555 : True := trivial
theorem hd.tw16141710071717578778 : True := trivial
theorem hd.tw1992693591464206234 : True := trivial
theorem hd.tw3015339545630270564 : True := trivial
theorem hd.tw14285494322832414390 : True := trivial
theorem hd.tw5075594306983450185 : True := trivial
theorem hd.tw15286743076277847468 : True := trivial
theorem hd.tw9692400894825222894 : True := trivial
theorem hd.tw17354532043249587660 : True := trivial
theorem hd.tw334190940868156094 : True := trivial
theorem hd.tw10458315143868491069 : True := trivial
theorem hd.tw8416727485552208944 : True := trivial
theorem hd.tw17766596090753733722 : True := trivial
theorem hd.tw16815778156436096588 : True := trivial
theorem hd.tw9911628768813937195 : True := trivial
theorem hd.tw15607968808485288 : True := trivial
theorem hd.tw14004689494066453401 : True := trivial
theorem hd.tw1893397756635856143 : True := trivial
theorem hd.tw10742610033887447866 : True := trivial
theorem hd.tw6836889416232997926 : True := trivial
theorem hd.tw13509897295281834930 : True := trivial
theorem hd.tw14905011448026154381 : True := trivial
theorem hd.tw16048539489613852227 : True := trivial
theorem hd.tw4259391168821602782 : True := trivial
theorem hd.tw4454775383142799566 : True := trivial
theorem hd.tw14403176682758123241 : True := trivial
theorem hd.tw8747997373372223820 : True := trivial
local macro_rules | `(tactic| o_head (kHook $k $as $e)) => `(tactic| o_head (kmHook $k $as $e [428]))
set_option Elab.async true in
set_option maxRecDepth 100000 in
set_option maxHeartbeats 0 in
theorem hd (_h : ∀ P : Prop, P) : PySem.Challenge.rw_bf0005_01.Holds := by
  w_on
  have _n1 : Nat.ble 0 1 = true := by decide +kernel
  have _n2 : Nat.ble 0 2 = true := by decide +kernel
  have _n3 : Nat.ble 0 3 = true := by decide +kernel
  have _n4 : Nat.ble 0 4 = true := by decide +kernel
  have _n5 : Nat.ble 0 5 = true := by decide +kernel
  have _n6 : Nat.ble 0 6 = true := by decide +kernel
  have _n7 : Nat.ble 0 7 = true := by decide +kernel
  have _n8 : Nat.ble 0 8 = true := by decide +kernel
  have _n9 : Nat.ble 0 9 = true := by decide +kernel
  have _n10 : Nat.ble 0 10 = true := by decide +kernel
  have _n11 : Nat.ble 0 11 = true := by decide +kernel
  have _n12 : Nat.ble 0 12 = true := by decide +kernel
  have _n13 : Nat.ble 0 13 = true := by decide +kernel
  have _n14 : Nat.ble 0 14 = true := by decide +kernel
  have _n15 : Nat.ble 0 15 = true := by decide +kernel
  have _n16 : Nat.ble 0 16 = true := by decide +kernel
  have _n17 : Nat.ble 0 17 = true := by decide +kernel
  have _n18 : Nat.ble 0 18 = true := by decide +kernel
  have _n19 : Nat.ble 0 19 = true := by decide +kernel
  have _n20 : Nat.ble 0 20 = true := by decide +kernel
  have _n21 : Nat.ble 0 21 = true := by decide +kernel
  have _n22 : Nat.ble 0 22 = true := by decide +kernel
  have _n23 : Nat.ble 0 23 = true := by decide +kernel
  have _n24 : Nat.ble 0 24 = true := by decide +kernel
  have _n25 : Nat.ble 0 25 = true := by decide +kernel
  have _n26 : Nat.ble 0 26 = true := by decide +kernel
  have _n27 : Nat.ble 0 27 = true := by decide +kernel
  have _n28 : Nat.ble 0 28 = true := by decide +kernel
  have _n29 : Nat.ble 0 29 = true := by decide +kernel
  have _n30 : Nat.ble 0 30 = true := by decide +kernel
  have _n31 : Nat.ble 0 31 = true := by decide +kernel
  have _n32 : Nat.ble 0 32 = true := by decide +kernel
  have _n33 : Nat.ble 0 33 = true := by decide +kernel
  have _n34 : Nat.ble 0 34 = true := by decide +kernel
  have _n35 : Nat.ble 0 35 = true := by decide +kernel
  have _n36 : Nat.ble 0 36 = true := by decide +kernel
  have _n37 : Nat.ble 0 37 = true := by decide +kernel
  have _n38 : Nat.ble 0 38 = true := by decide +kernel
  have _n39 : Nat.ble 0 39 = true := by decide +kernel
  refine _root_.PySem.W.holds_law (_h _) fun _said => ?_
  k_head
  all_goals trivial
end Mine.Lay
end TextHT

section TextHD
open PySem PySem.W PyProof.Rows
namespace Mine
noncomputable abbrev loose39 : List PySem.Str := [Str.ofString "to_unicode", Str.ofString "_foldline", Str.ofString "NAME", Str.ofString "CaselessDict", Str.ofString "UNSAFE_CHAR", Str.ofString "QUNSAFE_CHAR", Str.ofString "validate_param_value", Str.ofString "q_split", Str.ofString "Parameters", Str.ofString "UFOLD", Str.ofString "NEWLINE", Str.ofString "_strip_ows_around_delimiters", Str.ofString "Contentline", Str.ofString "Contentlines"]
noncomputable abbrev as39 : List Addr := [2, 3, 32, 34, 35, 37, 38, 39, 40, 42, 43, 45, 46, 47, 48, 50, 51, 53, 54, 55, 57, 58, 60, 61, 62, 64, 65, 67, 68, 72, 73, 74, 76, 77, 79, 80, 81, 84, 89, 90, 92, 93, 95, 96, 97, 98, 100, 101, 103, 104, 105, 106, 108, 109, 111, 112, 113, 114, 116, 117, 119, 120, 121, 122, 124, 125, 127, 128, 129, 130, 131, 133, 134, 136, 137, 138, 139, 140, 142, 143, 145, 146, 147, 148, 149, 151, 152, 154, 155, 156, 158, 159, 161, 162, 163, 165, 166, 168, 169, 170, 172, 173, 175, 176, 177, 179, 180, 182, 183, 184, 186, 187, 189, 190, 191, 193, 194, 196, 197, 198, 200, 201, 203, 204, 205, 206, 207, 208, 209, 215, 216, 220, 221, 222, 223, 225, 226, 228, 229, 230, 231, 233, 234, 236, 237, 238, 241, 246, 247, 250, 251, 252, 253, 254, 256, 257, 259, 260, 261, 262, 264, 265, 267, 268, 269, 270, 272, 273, 275, 276, 277, 278, 279, 280, 282, 283, 285, 286, 287, 288, 289, 290, 293, 295, 296, 298, 299, 300, 303, 304, 305, 307, 308, 310, 311, 315, 316, 320, 321, 322, 324, 325, 327, 328, 329, 330, 332, 333, 335, 336, 337, 340, 345, 346, 347, 348, 350, 351, 353, 354, 355, 356, 358, 359, 361, 362, 363, 364, 365, 366, 368, 369, 371, 372, 373, 375, 376, 378, 379, 380, 382, 383, 385, 386, 387, 388, 390, 391, 393, 394, 395, 396, 397, 398, 400, 401, 403, 404, 405, 407, 408, 409, 410, 413, 420, 422, 423, 425, 426, 427, 429, 430, 432, 433, 434, 435, 436, 437, 438, 439, 440, 441, 444, 446, 447, 449, 450, 451, 453, 454, 456, 457, 458, 460, 461, 463, 464, 465, 467, 468, 470, 471, 472, 474, 475, 477, 478, 479, 482, 483]
theorem as39_eq : ∀ P, as39 = (Lay.hd.heap_1_39 P).map (·.1) := fun _ => by kernel_rfl
noncomputable abbrev H39 : Hook := kmHook Lay.hd.heap_1_39 as39 as39_eq [428]
theorem left39 : LeftO PySem.Challenge.rw_bf0005_01.row.toRowW.1 Lay.hd.view_1_40 loose39 (fun s => xlAt Lay.hd.view_1_40 [] s && recOk PySem.Challenge.rw_bf0005_01.row.records s) (Hook.obs H39) (Hook.val H39) 7246 := by
  refine LeftO.of_pieces (H₀ := Lay.hd.heap_1_71) (H₁ := Lay.hd.heap_1_784) (gs₀ := Array.mk []) (gs₁ := Array.mk []) (d₀ := {}) (d₁ := {}) (k₀ := 276) (k₁ := 1054) (open_cut (p := PySem.Challenge.rw_bf0005_01.row.toRowW.1) (N := 7246) (He := fun P => absHeap (Lay.hd.tree_1_892 P) 28 {}) (H₀ := Lay.hd.heap_1_71) (ge := Array.mk []) (g₀ := Array.mk []) (de := {}) (d₀ := {}) (ke := 276) (k₀ := 276) Lay.hd._proof_1_898 ?l1 Lay.hd._proof_1_900) Lay.hd._proof_1_902 Lay.hd._proof_1_787 ?l2 (fun w => funext fun os => Lay.hd._proof_1_933 w os)
  case l1 => exact Eq.refl true
  case l2 => exact Eq.refl true
theorem hd.tw4947753840605588792 : True := trivial
theorem hd.tw320083262260584696 : True := trivial
set_option Elab.async true in
set_option maxRecDepth 100000 in
set_option maxHeartbeats 0 in
theorem hd (walk : ∀ d kwd, defOf Lay.hd.view_1_40 (Str.ofString "law") = some (d, kwd) → WalkO Lay.hd.view_1_40 loose39 (XL Lay.hd.view_1_40 []) (Hook.says H39) PySem.Challenge.rw_bf0005_01.row.toRowW d kwd (fun f vs => PySem.call f vs)) : PySem.Challenge.rw_bf0005_01.Holds := by
  w_on
  o_law
  refine holds_open (q := Lay.hd.view_1_40) (loose := loose39) (Xt := fun s => xlAt Lay.hd.view_1_40 [] s && recOk PySem.Challenge.rw_bf0005_01.row.records s) (XP := XL Lay.hd.view_1_40 []) (Yf := Hook.obs H39) (Ya := Hook.val H39) (YP := Hook.says H39) (N := 7246) left39 (Hook.of H39) (Hook.keeps H39) (fun s e => xl_of s (Bool.and_eq_true_iff.mp e).1) XL.keeps (by rfl) (by rfl) (by rfl) (fun s e => recFacts_of (Bool.and_eq_true_iff.mp e).2) (by rfl) (by first | assumption | decide +kernel) (by decide +kernel) ⟨rfl, rfl, rfl, rfl, rfl, by decide +kernel⟩ ?hw (walk _ _ (by rfl))
  case hw => w_witness2
end Mine
end TextHD

section TextP1
open PySem PySem.W
namespace Mine
noncomputable def szc (c : Nat) : Int := ((1 + if decide (127 < (c : Int)) = true then 1 else 0) + if decide (2047 < (c : Int)) = true then 1 else 0) + if decide (65535 < (c : Int)) = true then 1 else 0
noncomputable def chs (l : List Nat) : PySem.Str := ⟨l.toArray⟩
noncomputable abbrev PSt := List (List Nat) × List Nat × Int
noncomputable def stepP (lim : Int) (st : PSt) (c : Nat) : PSt :=
  if st.2.1 ≠ [] ∧ lim ≤ st.2.2 + szc c then
    if 1 < st.2.1.length ∧ (st.2.1.getLastD 0 = 92 ∨ st.2.1.getLastD 0 = 94) then (st.1 ++ [st.2.1.dropLast], [st.2.1.getLastD 0, c], 1 + szc c)
    else (st.1 ++ [st.2.1], [c], 0 + szc c)
  else (st.1, st.2.1 ++ [c], st.2.2 + szc c)
noncomputable def runP (lim : Int) (l : List Nat) : PSt := l.foldl (stepP lim) ([], [], 0)
theorem runP_snoc (lim : Int) (l : List Nat) (c : Nat) : runP lim (l ++ [c]) = stepP lim (runP lim l) c := by simp [runP, List.foldl_append]
theorem runP_len (lim : Int) : ∀ l : List Nat, (runP lim l).1.length + 1 ≤ l.length + 1 ∧ (runP lim l).2.1.length ≤ l.length := by
  intro l
  induction h : l.length generalizing l with
  | zero => obtain rfl := List.length_eq_zero_iff.mp h; simp [runP]
  | succ n ih =>
    obtain ⟨l', c, rfl⟩ : ∃ l' c, l = l' ++ [c] := by
      refine ⟨l.dropLast, l.getLast (by intro e; simp [e] at h), ?_⟩
      exact (List.dropLast_concat_getLast _).symm
    have hl : l'.length = n := by simpa using h
    obtain ⟨a, b⟩ := ih l' hl
    rw [runP_snoc]
    generalize runP lim l' = st at a b
    unfold stepP
    split
    · split
      · rename_i h2; simp; omega
      · simp; omega
    · simp; omega
/-- the values are those texts, some token each -/
inductive Txts : List Value → List (List Nat) → Prop
  | nil : Txts [] []
  | cons {t l vs ls} : Txts vs ls → Txts (.str (chs l) t :: vs) (l :: ls)
theorem Txts.length {vs ls} (h : Txts vs ls) : vs.length = ls.length := by
  induction h with
  | nil => rfl
  | cons _ ih => simp [ih]
theorem Txts.snoc {vs ls t l} (h : Txts vs ls) : Txts (vs ++ [.str (chs l) t]) (ls ++ [l]) := by
  induction h with
  | nil => exact .cons .nil
  | cons _ ih => exact .cons ih
end Mine
end TextP1

section TextP2
open PySem PySem.W PyProof.Rows PySem.Builtin PySem.Builtin.Str
namespace Mine
theorem chs_inj {a b : List Nat} : chs a = chs b ↔ a = b := by
  constructor
  · intro h
    have := congrArg (fun x => x.cps.toList) h
    simpa [chs] using this
  · rintro rfl; rfl
theorem chs_str (x : PySem.Str) : chs x.cps.toList = x := by cases x; simp [chs]
theorem chs_len (l : List Nat) : (chs l).length = l.length := by simp [chs, PySem.Str.length]
theorem chs_app (a b : List Nat) : chs a ++ chs b = chs (a ++ b) := by
  refine PySem.Str.ext' (Array.toList_inj.mp ?_)
  rw [PySem.Str.cps_append]
  simp [chs]
theorem chs_one (c : Nat) : (⟨#[c]⟩ : PySem.Str) = chs [c] := rfl
theorem chs_nil : PySem.Str.ofString "" = chs [] := by decide +kernel
theorem item_last_chs {l : List Nat} (h : l ≠ []) : Txt.item (chs l) (-1) = chs [l.getLastD 0] := by
  unfold Txt.item Txt.charAt seqIndex?
  have hl : 0 < l.length := List.length_pos_iff.mpr h
  have e : (decide ((0 : Int) ≤ -1 + (chs l).length) && decide ((-1 : Int) + (chs l).length < (chs l).length)) = true := by
    rw [chs_len]
    simp only [Bool.and_eq_true, decide_eq_true_eq]
    omega
  simp only [show ((-1 : Int) < 0) from by decide, if_true, e]
  have e2 : ((-1 : Int) + ((chs l).length : Nat)).toNat = l.length - 1 := by rw [chs_len]; omega
  simp only [Option.bind_some]
  rw [e2]
  show (⟨#[((l.toArray)[l.length - 1]?).getD 0]⟩ : PySem.Str) = _
  rw [chs_one]
  congr 2
  simp [List.getLastD_eq_getLast?, List.getLast?_eq_getElem?]
theorem indices_to (n : Nat) {hi : Int} (h : Int) (h0 : 0 ≤ h) (h1 : h ≤ n) (e : (if hi < 0 then hi + n else hi) = h ∨ (h = n ∧ (n : Int) ≤ (if hi < 0 then hi + n else hi)) ∨ (h = 0 ∧ (if hi < 0 then hi + n else hi) ≤ 0)) : strSliceIndices none (some hi) 1 n = List.range h.toNat := by
  have key : (max 0 (min (if hi < 0 then hi + n else hi) (n : Int))) = h := by
    rcases e with e | ⟨rfl, e⟩ | ⟨rfl, e⟩ <;> omega
  unfold strSliceIndices sliceRange
  simp only [show ((1 : Int) > 0) from by decide, if_true, key]
  split
  · simp only [Int.ediv_one]
    have : (h - 0 + 1 - 1).toNat = h.toNat := by omega
    rw [this]
    conv => rhs; rw [← List.map_id (List.range h.toNat)]
    apply List.map_congr_left
    intro k _
    simp
  · have : h = 0 := by omega
    subst this
    rfl
theorem indices_from (n : Nat) {lo : Int} (h0 : 0 ≤ lo) (h1 : lo ≤ n) : strSliceIndices (some lo) none 1 n = (List.range (n - lo.toNat)).map (· + lo.toNat) := by
  have key : (max 0 (min (if lo < 0 then lo + n else lo) (n : Int))) = lo := by
    rw [if_neg (by omega)]; omega
  unfold strSliceIndices sliceRange
  simp only [show ((1 : Int) > 0) from by decide, if_true, key]
  split
  · simp only [Int.ediv_one]
    have : ((n : Int) - lo + 1 - 1).toNat = n - lo.toNat := by omega
    rw [this]
    apply List.map_congr_left
    intro k _
    omega
  · have : n - lo.toNat = 0 := by omega
    rw [this]
    rfl
theorem filterMap_range (l : List Nat) (k : Nat) (h : k ≤ l.length) : (List.range k).filterMap (fun i => l[i]?) = l.take k := by
  induction k with
  | zero => simp
  | succ k ih =>
    rw [List.range_succ, List.filterMap_append, ih (by omega), List.take_add_one]
    have : l[k]? = some l[k] := by simp
    simp [this]
theorem filterMap_range_from (l : List Nat) (j : Nat) (h : j ≤ l.length) : ((List.range (l.length - j)).map (· + j)).filterMap (fun i => l[i]?) = l.drop j := by
  have e := filterMap_range (l.drop j) (l.length - j) (by simp)
  rw [List.take_of_length_le (by simp)] at e
  rw [← e, List.filterMap_map]
  congr 1
  funext i
  simp [Nat.add_comm]
theorem slice_to_chs {l : List Nat} {hi : Int} (h : Int) (h0 : 0 ≤ h) (h1 : h ≤ l.length) (e : (if hi < 0 then hi + l.length else hi) = h ∨ (h = l.length ∧ (l.length : Int) ≤ (if hi < 0 then hi + l.length else hi)) ∨ (h = 0 ∧ (if hi < 0 then hi + l.length else hi) ≤ 0)) : Txt.slice (chs l) none (some hi) = chs (l.take h.toNat) := by
  unfold Txt.slice
  rw [chs_len, indices_to l.length h h0 h1 e]
  split
  · rename_i q
    simp only [List.length_range, Bool.and_eq_true, beq_iff_eq] at q
    rw [q.2, List.take_length]
  · have : (fun i : Nat => (chs l).cps[i]?) = fun i : Nat => l[i]? := by funext i; simp [chs]
    simp only [this]
    rw [filterMap_range _ _ (by omega)]
    rfl
theorem slice_from_chs {l : List Nat} {lo : Int} (h0 : 0 ≤ lo) (h1 : lo ≤ l.length) : Txt.slice (chs l) (some lo) none = chs (l.drop lo.toNat) := by
  unfold Txt.slice
  rw [chs_len, indices_from l.length h0 h1]
  split
  · rename_i q
    simp only [List.length_map, List.length_range, Bool.and_eq_true, beq_iff_eq] at q
    have : lo.toNat = 0 ∨ l.length = 0 := by omega
    rcases this with h | h
    · rw [h, List.drop_zero]
    · rw [List.length_eq_zero_iff.mp h, List.drop_nil]
  · have : (fun i : Nat => (chs l).cps[i]?) = fun i : Nat => l[i]? := by funext i; simp [chs]
    simp only [this]
    rw [filterMap_range_from _ _ (by omega)]
    rfl
theorem slice_butlast_chs {l : List Nat} (h : l ≠ []) : Txt.slice (chs l) none (some (-1)) = chs l.dropLast := by
  have hl : 0 < l.length := List.length_pos_iff.mpr h
  rw [slice_to_chs (h := (l.length : Int) - 1) (by omega) (by omega) (.inl (by rw [if_pos (by decide)]; omega))]
  congr 1
  rw [List.dropLast_eq_take]
  congr 1
  omega
theorem chs_ne_nil {l : List Nat} : (chs l != PySem.Str.ofString "") = true ↔ l ≠ [] := by
  rw [chs_nil]
  simp [chs_inj]
theorem bs_is : PySem.Str.ofString "\\" = chs [92] := by decide +kernel
theorem ca_is : PySem.Str.ofString "^" = chs [94] := by decide +kernel
theorem in_marks {c : Nat} : ([PySem.Str.ofString "\\", PySem.Str.ofString "^"].any fun x => x == chs [c]) = true ↔ c = 92 ∨ c = 94 := by
  rw [bs_is, ca_is]
  simp only [List.any_cons, List.any_nil, Bool.or_false, Bool.or_eq_true, beq_iff_eq, chs_inj, List.cons.injEq, and_true]
  constructor <;> rintro (h | h) <;> simp [h]
end Mine
end TextP2

section TextL1
open PySem PySem.W PySem.Calls PyProof.Rows PySem.Spec
namespace Mine
section
variable {prog : Program} {w : World} {A : Around} {E : Value → Shared → Prop} {s : Shared} {env : Env} {h₀ : Heap} {x : PySem.Str} {body : List Stmt} {Q : Flow → Shared → Prop}

noncomputable def TurnEnd (h₀ : Heap) (L : Addr) (I : Addr) (io : Obj) (J : (PySem.Str → Option Value) → List (Addr × Obj) → Prop) (s : Shared) (Q : Flow → Shared → Prop) (f : Flow) (s₂ : Shared) : Prop :=
  match f with
  | .ret v => Q (.ret v) s₂
  | .brk => Q .next s₂
  | _ => ∃ h' tk' m' news', s₂ = { s with heap := h', toks := tk' } ∧ Fr h₀ L h' m' ∧ News h₀ L h' ((I, io) :: news') ∧ (∀ p ∈ news', p.1 ≠ I) ∧ J m' news'

theorem TurnEnd.intro {h₀ : Heap} {L I : Addr} {io : Obj} {J : (PySem.Str → Option Value) → List (Addr × Obj) → Prop} {s : Shared} {Q : Flow → Shared → Prop} {h' : Heap} {tk' : Nat} {m' : PySem.Str → Option Value} {news' : List (Addr × Obj)}
    (F : Fr h₀ L h' m') (N : News h₀ L h' ((I, io) :: news')) (hne : ∀ p ∈ news', p.1 ≠ I) (hj : J m' news') : TurnEnd h₀ L I io J s Q .next { s with heap := h', toks := tk' } := ⟨h', tk', m', news', rfl, F, N, hne, hj⟩
/-- A loop over what an iterator hands out, by any word of the frame's map and the ledger. -/
theorem walk_loop {I : Addr} {n : Nat} {P : Nat → Value → Prop} {St : Nat → Heap → Prop} {m₀ : PySem.Str → Option Value} {news₀ : List (Addr × Obj)} (J : Nat → (PySem.Str → Option Value) → List (Addr × Obj) → Prop)
    (W : Walks prog w A I [I] [I] n P St) (hst : St 0 s.heap) (F : Fr h₀ env.locals s.heap m₀) (N : News h₀ env.locals s.heap news₀) (hI : env.locals ≠ I) (hn : h₀.get? I = none) (hoff : ∀ p ∈ news₀, p.1 ≠ I) (hio : ∀ i h, St i h → ∃ o, h.get? I = some o) (hj : J 0 m₀ news₀)
    (turn : ∀ i v m₁ news₁ h tk io, i < n → P i v → J i m₁ news₁ → (∀ p ∈ news₁, p.1 ≠ I) → Fr h₀ env.locals h (fun y => if y = x then some v else m₁ y) → News h₀ env.locals h ((I, io) :: news₁) →
      wpAny (model prog w) A (execs body env) (TurnEnd h₀ env.locals I io (J (i + 1)) s Q) E { s with heap := h, toks := tk })
    (done : ∀ m₁ news₁ h tk, J n m₁ news₁ → Fr h₀ env.locals h m₁ → News h₀ env.locals h news₁ → Q .next { s with heap := h, toks := tk }) :
    LoopAtV prog w A h₀ env x body Q E (.ref I) s := by
  refine ⟨I, [I], [I], n, P, St, m₀, news₀, J, rfl, W, ?_, ?_, ?_, hst, F, N, hj, ?_, ?_⟩
  · intro h; exact hI (List.mem_singleton.mp h)
  · intro b hb; rw [List.mem_singleton.mp hb]; exact hn
  · intro p hp h; exact hoff p hp (List.mem_singleton.mp h)
  · rintro i v m₁ news₁ s₁ own ⟨h, tk, rfl⟩ hi hP hJ hw ho hown hfp hst' F₁ N₁
    obtain ⟨io, hio'⟩ := hio _ _ hst'
    have hmem := hfp I (List.mem_singleton.mpr rfl) hn io hio'
    have N₂ : News h₀ env.locals h ((I, io) :: news₁) := fun p hp => by
      rcases List.mem_cons.mp hp with rfl | hp
      · exact N₁ _ (List.mem_append_left _ hmem)
      · exact N₁ _ (List.mem_append_right _ hp)
    refine wpAny_mono (turn i v m₁ news₁ h tk io hi hP hJ (fun p hp e => hw p hp (List.mem_singleton.mpr e)) F₁ N₂) (fun f s₂ q => ?_) fun _ _ e => e
    have fin : (∃ h' tk' m' news', s₂ = { s with heap := h', toks := tk' } ∧ Fr h₀ env.locals h' m' ∧ News h₀ env.locals h' ((I, io) :: news') ∧ (∀ p ∈ news', p.1 ≠ I) ∧ J (i + 1) m' news') → LoopStepU h₀ env.locals [I] own (J (i + 1)) { s with heap := h, toks := tk } .next s₂ := by
      rintro ⟨h', tk', m', news', rfl, F', N', hne, hJ'⟩
      refine ⟨rfl, h', tk', m', news', rfl, F', fun p hp => ?_, fun p hp hq => hne p hp (List.mem_singleton.mp hq), hJ'⟩
      rcases List.mem_append.mp hp with hp | hp
      · have e1 := List.mem_singleton.mp (ho p hp)
        have e2 := hown p hp
        obtain ⟨pa, po⟩ := p
        simp only at e1 e2
        subst e1
        have : po = io := Option.some.inj (e2.symm.trans hio')
        subst this
        exact N' _ (.head _)
      · exact N' _ (.tail _ hp)
    cases f with
    | ret v => exact .ret q
    | brk => exact .brk q
    | next => exact .next (fin q)
    | cont => exact .cont (fin q)
  · intro h' tk m' news' F' N' _ hJ
    exact done m' news' h' tk hJ F' N'

theorem off_size {h₀ h : Heap} {L : Addr} {news : List (Addr × Obj)} (N : News h₀ L h news) : ∀ p ∈ news, p.1 ≠ h.objs.size :=
  fun p hp e => absurd (Heap.lt_size (N p hp).1) (e ▸ Nat.lt_irrefl _)

/-- A loop over a text's signs. -/
theorem str_loop {xt : PySem.Str} {tx : Tok} {m₀ : PySem.Str → Option Value} {news₀ : List (Addr × Obj)} (J : List Nat → (PySem.Str → Option Value) → List (Addr × Obj) → Prop)
    (hh : A.handled = none) (F : Fr h₀ env.locals s.heap m₀) (N : News h₀ env.locals s.heap news₀) (hj : J [] m₀ news₀)
    (turn : ∀ pre c post t m₁ news₁ h tk I io, xt.cps.toList = pre ++ c :: post → J pre m₁ news₁ → (∀ p ∈ news₁, p.1 ≠ I) → Fr h₀ env.locals h (fun y => if y = x then some (.str ⟨#[c]⟩ t) else m₁ y) → News h₀ env.locals h ((I, io) :: news₁) →
      wpAny (model prog w) A (execs body env) (TurnEnd h₀ env.locals I io (J (pre ++ [c])) s Q) E { s with heap := h, toks := tk })
    (done : ∀ m₁ news₁ h tk, J xt.cps.toList m₁ news₁ → Fr h₀ env.locals h m₁ → News h₀ env.locals h news₁ → Q .next { s with heap := h, toks := tk }) :
    wpAny (model prog w) A (pyIter (.str xt tx)) (fun it s₂ => LoopAtV prog w A h₀ env x body Q E it s₂) E s := by
  have hlen : xt.cps.size = xt.cps.toList.length := (Array.length_toList).symm
  have main : ∀ (o : Obj) (St : Nat → Heap → Prop), Walks prog w A s.heap.objs.size [s.heap.objs.size] [s.heap.objs.size] xt.cps.size (SignAt xt) St → St 0 (s.heap.push o) → (∀ i h, St i h → ∃ o, h.get? s.heap.objs.size = some o) →
      LoopAtV prog w A h₀ env x body Q E (.ref s.heap.objs.size) { s with heap := s.heap.push o } := by
    intro o St W hst hio
    refine walk_loop (s := { s with heap := s.heap.push o }) (fun i m nx => J (xt.cps.toList.take i) m nx) W hst (F.push _) (fun p hp => ⟨Heap.get?_push_of_some _ (N p hp).1, (N p hp).2⟩) (fun e => absurd F.ns.lt (e ▸ Nat.lt_irrefl _)) (next_is_new F) (off_size N) hio (by simpa using hj) ?_ ?_
    · rintro i v m₁ news₁ h tk io hi ⟨c, u, hc, rfl⟩ hJ hne F₁ N₁
      have hc' : xt.cps.toList[i]? = some c := by simpa using hc
      have e : xt.cps.toList = xt.cps.toList.take i ++ c :: xt.cps.toList.drop (i + 1) := by
        have ht := List.take_append_drop (i + 1) xt.cps.toList
        rw [List.take_add_one, hc', List.append_assoc] at ht
        exact ht.symm
      have z := turn (xt.cps.toList.take i) c (xt.cps.toList.drop (i + 1)) u m₁ news₁ h tk _ io e hJ hne F₁ N₁
      have e2 : xt.cps.toList.take (i + 1) = xt.cps.toList.take i ++ [c] := by rw [List.take_add_one, hc']; rfl
      rw [← e2] at z
      exact wpAny_mono z (fun f s₂ q => by
        cases f <;> exact q) fun _ _ e => e
    · intro m₁ news₁ h tk hJ F₁ N₁
      rw [hlen, List.take_length] at hJ
      exact done m₁ news₁ h tk hJ F₁ N₁
  cases ha : xt.cps.all (· < 128)
  · exact wpAny_pyIter_wide ha (main _ _ (Walks.strWide hh _ xt tx) ⟨_, Heap.get?_push_size _ rfl, rfl, rfl⟩ fun _ _ st => ⟨_, st.choose_spec.1⟩)
  · exact wpAny_pyIter_ascii ha (main _ _ (Walks.strAscii hh _ xt tx) ⟨_, Heap.get?_push_size _ rfl, rfl, rfl⟩ fun _ _ st => ⟨_, st.choose_spec.1⟩)
end
noncomputable def Hold (p : Prop) : Prop := p
section
variable {M : Model} {A : Around} {E : Value → Shared → Prop} {s : Shared} {env : Env} {x : PySem.Str} {px pos : Pos} {iter : Expr} {body : List Stmt} {Q : Flow → Shared → Prop}
theorem for_hold (h : Hold (wpAny M A (exec (.For (.Name x px) iter body [] pos) env) Q E s)) : wpAny M A (exec (.For (.Name x px) iter body [] pos) env) Q E s := h
end
noncomputable def Has (m : PySem.Str → Option Value) (ps : List (PySem.Str × Value)) : Prop := ∀ p ∈ ps, m p.1 = some p.2
theorem Has.eq {m : PySem.Str → Option Value} {ps : List (PySem.Str × Value)} (h : Has m ps) : m = kstB m ps := funext fun _ => (kstB_eq h fun _ => rfl).symm
theorem Has.cons {m : PySem.Str → Option Value} {n : PySem.Str} {v : Value} {ps : List (PySem.Str × Value)} (h : m n = some v) (r : Has m ps) : Has m ((n, v) :: ps) := List.forall_mem_cons.mpr ⟨h, r⟩
theorem Has.nil {m : PySem.Str → Option Value} : Has m [] := List.forall_mem_nil _
end Mine
end TextL1

section TextL2
open PySem PySem.W PySem.Calls PyProof.Rows PySem.Spec
namespace Mine
section
variable {prog : Program} {w : World} {A : Around} {E : Value → Shared → Prop} {s : Shared} {h₀ : Heap} {L l : Addr} {m : PySem.Str → Option Value} {news news' : List (Addr × Obj)} {us : List Value} {v v' : Value} {e : Nat}
theorem item_last {value slice : PySem.Expr} {u : Tok} {Q : Value → Shared → Prop} (N : News h₀ L s.heap news) (hm : (l, listOf (us ++ [v]).toArray e) ∈ news) (h : Q v s)
    (hs : subscripted slice false (.ref l) (.int (-1) u) = operate [.ref l, .int (-1) u] (getItem (.ref l) (.int (-1) u)) := by with_unfolding_all rfl) :
    wpAny (model prog w) A (subscriptTail value slice (.ref l) (.int (-1) u)) Q E s := by
  have hl : s.heap.IsList l (us ++ [v]).toArray := ⟨_, (N _ hm).1, rfl, e, rfl⟩
  refine tail_any hl.typeIs slot_list_getitem.lookup (wpAny_getItem_list_neg hl (by decide) ?_ (by decide) ?_ h) hs
  · simp; omega
  · have : ((-1 : Int) + ((us ++ [v]).toArray.size : Nat)).toNat = us.length := by simp; omega
    rw [this]
    simp
theorem set_last {t : Tok} {Q : Unit → Shared → Prop} (F : Fr h₀ L s.heap m) (N : News h₀ L s.heap news) (U : Upd l (listOf (us ++ [v]).toArray e) (listOf (us ++ [v']).toArray e) news news')
    (h : ∀ h', Fr h₀ L h' m → News h₀ L h' news' → Q () { s with heap := h' }) : wpAny (model prog w) A (setItem (.ref l) (.int (-1) t) v') Q E s := by
  have hset : ∀ (us : List Value), ki_setL (us ++ [v]) us.length v' = some (us ++ [v']) := by
    intro us
    induction us with
    | nil => rfl
    | cons x r ih => simp only [List.cons_append, List.length_cons, ki_setL, ih]
  refine ki_setNeg (j := us.length) F N (by decide) (by decide) ?_ ?_ U h
  · rw [seqIndex_neg (by decide) (by simp; omega)]
    simp; omega
  · simpa using hset us
theorem append_last {xs : List Value} {x : Value} {n : Nat} {Q : Value → Shared → Prop} (F : Fr h₀ L s.heap m) (N : News h₀ L s.heap news) (U : Upd l (listOf xs.toArray n) (listOf (xs ++ [x]).toArray (n + 1)) news news') (hz : xs.length ≤ 8192)
    (h : ∀ h', Fr h₀ L h' m → News h₀ L h' news' → Q .none { s with heap := h' }) : wpAny (model prog w) A (call (.builtin "list.append") [.ref l, x]) Q E s := by
  refine append_K F N (its := xs.toArray) (by simpa using U) h ?_
  rw [sizeLine_eq, List.size_toArray]
  omega
end
end Mine
namespace Mine
section
variable {prog : Program} {w : World} {A : Around} {E : Value → Shared → Prop} {s : Shared} {h₀ : Heap} {L l : Addr} {m : PySem.Str → Option Value} {news news' : List (Addr × Obj)} {us : List Value} {v v' : Value} {e : Nat}
theorem truthy_snoc {Q : Bool → Shared → Prop} (N : News h₀ L s.heap news) (hm : (l, listOf (us ++ [v]).toArray e) ∈ news) (hz : us.length ≤ 8192) (h : ∀ k, Q true { s with toks := k }) : wpAny (model prog w) A (truthy (.ref l)) Q E s := by
  refine wpAny_truthy_list (items := (us ++ [v]).toArray) ⟨_, (N _ hm).1, rfl, e, rfl⟩ (by simp; omega) ?_
  have : (!(us ++ [v]).toArray.isEmpty) = true := by simp
  rw [this]; exact h _
theorem truthy_nil {Q : Bool → Shared → Prop} (N : News h₀ L s.heap news) (hm : (l, listOf #[] e) ∈ news) (h : ∀ k, Q false { s with toks := k }) : wpAny (model prog w) A (truthy (.ref l)) Q E s := by
  refine wpAny_truthy_list (items := #[]) ⟨_, (N _ hm).1, rfl, e, rfl⟩ (by decide) ?_
  exact h _
theorem len_snoc {Q : Value → Shared → Prop} (N : News h₀ L s.heap news) (hm : (l, listOf (us ++ [v]).toArray e) ∈ news) (hz : us.length ≤ 8192) (h : ∀ t k, Q (.int (us.length + 1 : Nat) t) { s with toks := k }) : wpAny (model prog w) A (call (.builtin "len") [.ref l]) Q E s :=
  kst_len (us := us ++ [v]) (k := us.length + 1) N hm (by simp) (by omega) (h _ _)
theorem pop_last {Q : Value → Shared → Prop} (F : Fr h₀ L s.heap m) (N : News h₀ L s.heap news) (U : Upd l (listOf (us ++ [v]).toArray e) (listOf us.toArray (e + 1)) news news') (hz : us.length ≤ 8192)
    (h : ∀ h', Fr h₀ L h' m → News h₀ L h' news' → Q v { s with heap := h' }) : wpAny (model prog w) A (call (.builtin "list.pop") [.ref l]) Q E s := by
  have hl : ∀ us : List Value, kl_last (us ++ [v]) = some (us, v) := by
    intro us
    induction us with
    | nil => rfl
    | cons x r ih => simp only [List.cons_append, kl_last, ih]
  refine kl_pop F N (p := us) (y := v) (by simpa using hl us) U ?_ h
  rw [sizeLine_eq]; simp; omega
theorem append_empty {x : Value} {n : Nat} {Q : Value → Shared → Prop} (F : Fr h₀ L s.heap m) (N : News h₀ L s.heap news) (U : Upd l (listOf #[] n) (listOf [x].toArray (n + 1)) news news')
    (h : ∀ h', Fr h₀ L h' m → News h₀ L h' news' → Q .none { s with heap := h' }) : wpAny (model prog w) A (call (.builtin "list.append") [.ref l, x]) Q E s :=
  append_last (xs := []) F N (by simpa using U) (by simp) h
end
end Mine
end TextL2

section TextL3
open PySem PySem.W PySem.Calls PyProof.Rows PySem.Spec
namespace Mine
theorem snoc_last {l : List Nat} (h : l ≠ []) : l.dropLast ++ [l.getLastD 0] = l := by
  have := List.dropLast_concat_getLast h
  rw [List.getLastD_eq_getLast?, List.getLast?_eq_some_getLast h]
  exact this
theorem runP_flat (lim : Int) : ∀ l : List Nat, (runP lim l).1.flatten ++ (runP lim l).2.1 = l := by
  intro l
  induction h : l.length generalizing l with
  | zero => obtain rfl := List.length_eq_zero_iff.mp h; rfl
  | succ n ih =>
    obtain ⟨l', c, rfl⟩ : ∃ l' c, l = l' ++ [c] := by
      refine ⟨l.dropLast, l.getLast (by intro e; simp [e] at h), ?_⟩
      exact (List.dropLast_concat_getLast _).symm
    have hl : l'.length = n := by simpa using h
    have a := ih l' hl
    rw [runP_snoc]
    generalize runP lim l' = st at a
    unfold stepP
    split
    · rename_i q
      split
      · simp only [List.flatten_append, List.flatten_cons, List.flatten_nil, List.append_nil]
        rw [← a]
        conv => rhs; rw [← snoc_last q.1]
        simp
      · simp only [List.flatten_append, List.flatten_cons, List.flatten_nil, List.append_nil]
        rw [a]
    · simp only [← List.append_assoc]
      rw [a]
theorem Txts.strs {vs ls} (h : Txts vs ls) : StrsAre vs (ls.map chs) := by
  induction h with
  | nil => exact .nil
  | cons _ ih => exact .cons _ _ ih
theorem sum_chs (ls : List (List Nat)) : ((ls.map chs).map (·.length)).sum = ls.flatten.length := by
  induction ls with
  | nil => rfl
  | cons l r ih =>
    simp only [List.map_cons, List.sum_cons, List.flatten_cons, List.length_append]
    rw [← ih, chs_len]
noncomputable def sg1 (l : List Nat) : List (List Nat) := l.map fun c => [c]
theorem sg1_flat (l : List Nat) : (sg1 l).flatten = l := by
  induction l with
  | nil => rfl
  | cons c r ih => simp only [sg1, List.map_cons, List.flatten_cons] at ih ⊢; rw [ih]; rfl
theorem sg1_snoc (l : List Nat) (c : Nat) : sg1 (l ++ [c]) = sg1 l ++ [[c]] := by simp [sg1]
open PySem.Builtin.Str in
theorem join_empty (ls : List (List Nat)) : Txt.join (PySem.Str.ofString "") (ls.map chs) = chs ls.flatten := by
  unfold Txt.join glued
  rw [chs_nil]
  cases ls with
  | nil => rfl
  | cons x r =>
    simp only [List.map_cons, List.drop_succ_cons, List.drop_zero, List.headD_cons, List.flatten_cons]
    have : ∀ (r : List (List Nat)) (acc : Array Nat), (r.map chs).foldl (fun acc p => acc ++ (chs []).cps ++ p.cps) acc = acc ++ (r.flatten).toArray := by
      intro r
      induction r with
      | nil => intro acc; simp
      | cons y r ih =>
        intro acc
        simp only [List.map_cons, List.foldl_cons, List.flatten_cons]
        rw [ih]
        simp [chs]
    rw [this]
    simp [chs]
section
variable {prog : Program} {w : World} {A : Around} {E : Value → Shared → Prop} {s : Shared} {h₀ : Heap} {L l : Addr} {m : PySem.Str → Option Value} {news news' : List (Addr × Obj)} {us : List Value} {v v' : Value} {e : Nat}
theorem join_texts {Q : Value → Shared → Prop} {sep : PySem.Str} {t : Tok} {ws : List (List Nat)} (N : News h₀ L s.heap news) (hm : (l, listOf us.toArray e) ∈ news) (hU : Txts us ws) (h1 : ws.flatten.length ≤ 8192) (h2 : ws.length ≤ 8192) (h3 : sep.length ≤ 100)
    (h : ∀ t' k, Q (.str (Txt.join sep (ws.map chs)) t') { s with toks := k }) : wpAny (model prog w) A (call (.builtin "str.join") [.str sep t, .ref l]) Q E s := by
  refine join_list (items := us.toArray) ⟨_, (N _ hm).1, rfl, e, rfl⟩ (by simpa using hU.strs) ?_ h
  rw [sum_chs, List.length_map]
  have : ws.length * sep.length ≤ 8192 * 100 := Nat.mul_le_mul h2 h3
  omega
theorem join_signs {Q : Value → Shared → Prop} {t : Tok} {cur : List Nat} (N : News h₀ L s.heap news) (hm : (l, listOf us.toArray e) ∈ news) (hV : Txts us (sg1 cur)) (h1 : cur.length ≤ 8192)
    (h : ∀ t' k, Q (.str (chs cur) t') { s with toks := k }) : wpAny (model prog w) A (call (.builtin "str.join") [.str (PySem.Str.ofString "") t, .ref l]) Q E s := by
  refine join_texts N hm hV (by rw [sg1_flat]; exact h1) (by simpa [sg1] using h1) (by decide +kernel) fun t' k => ?_
  rw [join_empty, sg1_flat]
  exact h t' k
end
theorem Txts.snoc_inv {vs ls l} (h : Txts vs (ls ++ [l])) : ∃ vs' t, vs = vs' ++ [.str (chs l) t] ∧ Txts vs' ls := by
  induction ls generalizing vs with
  | nil => cases h with | cons r => cases r; exact ⟨[], _, rfl, .nil⟩
  | cons x r ih =>
    cases h with
    | cons q =>
      obtain ⟨vs', t, rfl, h'⟩ := ih q
      exact ⟨_ :: vs', t, rfl, .cons h'⟩
theorem Txts.nil_inv {vs} (h : Txts vs []) : vs = [] := by cases h; rfl
end Mine
end TextL3

section TextC1
open PySem PySem.W PySem.Calls PyProof.Rows
namespace Mine
theorem fill (w : World) (h : Heap) : (Lay.hd.heap_1_39 w.params).In h → PySem.Challenge.rw_bf0005_01.row.prog = PySem.Challenge.rw_bf0005_01.row.prog := by
  k_fill
  intros
  rfl
local macro_rules | `(tactic| k_all) => `(tactic| assumption)
local macro_rules | `(tactic| walk_at "binaryOp FloorDiv int int") => `(tactic| (k_here; (refine' PyProof.Rows.floordiv_int ?fb ?_ (Or.inr (PySem.PylongRoom.of (PySem.Heap.NoLimit.keeps (PyProof.Rows.Top.nolimit (by assumption)) (PyProof.Rows.Fr.keep (by assumption))) ?fd)); (case fb => assumption); (case fd => (simp only [Builtin.pylongFrames]; ktr_room)))))

set_option maxRecDepth 100000 in
set_option maxHeartbeats 0 in
theorem draw_call {w : World} {loose : List PySem.Str} {mean : ExcName → Option Value} {mg mb : PySem.Str → Option Value} {dp un : Nat} {gd : Option (List Code)} {cn : PySem.Str} {cs : Scope} {a : Addr} {ccd : Value} {cl : List (PySem.Str × Addr)} {outer : List Env} {A₀ : Around} {base h₀ : Heap} {L : Addr} {m : PySem.Str → Option Value} {s : Shared} {Q E : Value → Shared → Prop}
    {news : List (Addr × Obj)} {bg : Addr} {b n : Int} {tb tn : Tok} {e0 : Nat}
    (B : Below A₀ base outer h₀) (F : Fr h₀ L s.heap m) (X : (Lay.hd.heap_1_39 w.params).In h₀) (N : News h₀ L s.heap ((bg, listOf #[.int b tb] e0) :: news)) (T : Top Lay.hd.view_1_40 loose mean mg mb h₀) (hk : cs.kind = .function)
    (hdp : dp + 200 < recursionLimit) (hu : un + 200 < cLine)
    (hoff : ∀ p ∈ news, p.1 ≠ bg) (hn : n ≠ 0)
    (ret : ∀ t1 t2 h' tk, Fr h₀ L h' m → News h₀ L h' ((bg, listOf #[.int (b.fdiv n) t1] e0) :: news) → Q (.int (b.fmod n) t2) { s with heap := h', toks := tk }) :
    wpAny (model PySem.Challenge.rw_bf0005_01.row.prog w) (ktrTop dp un gd cn cs L a ccd cl outer) (call (.ref 457) [.ref bg, .int n tn]) Q E s := by
  refine wpAny_call ?_
  ktr_enter
  k_steps
  exact ret _ _ _ _ (by assumption) (by assumption)

set_option maxRecDepth 100000 in
set_option maxHeartbeats 0 in
theorem size_call {w : World} {loose : List PySem.Str} {mean : ExcName → Option Value} {mg mb : PySem.Str → Option Value} {dp un : Nat} {gd : Option (List Code)} {cn : PySem.Str} {cs : Scope} {a : Addr} {ccd : Value} {cl : List (PySem.Str × Addr)} {outer : List Env} {A₀ : Around} {base h₀ : Heap} {L : Addr} {m : PySem.Str → Option Value} {s : Shared} {Q E : Value → Shared → Prop}
    {news : List (Addr × Obj)} {c : Nat} {tc : Tok}
    (B : Below A₀ base outer h₀) (F : Fr h₀ L s.heap m) (X : (Lay.hd.heap_1_39 w.params).In h₀) (N : News h₀ L s.heap (news)) (T : Top Lay.hd.view_1_40 loose mean mg mb h₀) (hk : cs.kind = .function)
    (hdp : dp + 200 < recursionLimit) (hu : un + 200 < cLine)
    (ret : ∀ t2 h' tk, Fr h₀ L h' m → News h₀ L h' news → Q (.int (szc c) t2) { s with heap := h', toks := tk }) :
    wpAny (model PySem.Challenge.rw_bf0005_01.row.prog w) (ktrTop dp un gd cn cs L a ccd cl outer) (call (.ref 464) [.str ⟨#[c]⟩ tc]) Q E s := by
  refine wpAny_call ?_
  ktr_enter
  k_steps
  exact ret _ _ _ (by assumption) (by assumption)
end Mine
end TextC1

section TextCB
open PySem PySem.W PySem.Calls PyProof.Rows PySem.Spec
namespace Mine
theorem is_464 {M : Model} {A : Around} {E : Value → Shared → Prop} {s : Shared} {v} {Q : Value → Shared → Prop} (h : wpAny M A (call (.ref 464) v) Q E s) : wpAny M A (call (.ref 464) v) Q E s := h
theorem cw_m1 {M : Model} {A : Around} {E : Value → Shared → Prop} {s : Shared} {env : Env} {pos : Pos} {id : String} {f0 : Value} {first : List Value} {e : PySem.Expr} {rest : List PySem.Expr} {Q : Value → Shared → Prop} (he : starEach (e :: rest) env = (false, eval e env) :: starEach rest env) (hplain : (backTo pos (starEach rest env)).any (·.1) = false)
    (h : wpAny M A (spliced (backTo pos (starEach (e :: rest) env))) (fun vs s₁ => wpAny M A (call (.builtin id) ((f0 :: first) ++ vs)) Q E s₁) E s) :
    wpAny M A (callWith pos (.builtin id) (f0 :: first) (backTo pos (starEach (e :: rest) env)) []) Q E s := callWith_method1 h he hplain
theorem cw_b1 {M : Model} {A : Around} {E : Value → Shared → Prop} {s : Shared} {env : Env} {pos : Pos} {id : String} {e : PySem.Expr} {rest : List PySem.Expr} {Q : Value → Shared → Prop} (he : starEach (e :: rest) env = (false, eval e env) :: starEach rest env) (hplain : (backTo pos (starEach rest env)).any (·.1) = false)
    (h : wpAny M A (spliced (backTo pos (starEach (e :: rest) env))) (fun vs s₁ => wpAny M A (call (.builtin id) vs) Q E s₁) E s) :
    wpAny M A (callWith pos (.builtin id) [] (backTo pos (starEach (e :: rest) env)) []) Q E s := PyProof.Rows.callWith_builtin1 h he hplain
noncomputable def BindsAt (K : Frag) (f : Addr) (s : Shared) (args : Args) (binds : List (PySem.Str × Value)) : Prop := ∀ oc od fd osl, K.lookup f = some ⟨oc, od, .func fd, osl⟩ → BindsTo s fd args binds
theorem binds_hyp {K : Frag} {f : Addr} {s : Shared} {args : Args} {binds : List (PySem.Str × Value)} {oc : Value} {od : Option Addr} {fd : FuncData} {osl : Array (Option Value)} (e : K.lookup f = some ⟨oc, od, .func fd, osl⟩) (h : BindsAt K f s args binds) : BindsTo s fd args binds := h _ _ _ _ e
end Mine
end TextCB

section TextC2
open PySem PySem.W PySem.Calls PyProof.Rows PySem.Spec
namespace Mine
theorem fillC2 (w : World) (h : Heap) : (Lay.hd.heap_1_39 w.params).In h → PySem.Challenge.rw_bf0005_01.row.prog = PySem.Challenge.rw_bf0005_01.row.prog := by
  k_fill
  intros
  rfl
local macro_rules | `(tactic| walk_at "exec For") => `(tactic| refine' for_hold ?_)
local macro_rules | `(tactic| walk_at "subscriptTail Name UnaryOp ref int") => `(tactic| k_dflt (k_here; (refine' item_last ?N ?hm ?_ (by with_unfolding_all rfl)); (case N => k_asm); (case hm => k_mem)))
local macro_rules | `(tactic| walk_at "setItem ref int") => `(tactic| k_dflt (k_here; (refine' set_last ?F ?N ?U ?_; (case F => k_asm); (case N => k_asm); (case U => k_upd)); intro h' F' N'; (try dsimp only [List.nil_append, List.cons_append] at N')))
local macro_rules | `(tactic| walk_at "call builtin:list.append") => `(tactic| k_dflt (k_here; (refine' append_last ?F ?N ?U ?z ?_; (case F => k_asm); (case N => k_asm); (case U => k_upd); (case z => (simp only [List.length_append, List.length_cons, List.length_nil]; omega))); intro h' F' N'; (try dsimp only [List.nil_append, List.cons_append] at N')))
local macro_rules | `(tactic| walk_at "call ref") => `(tactic| k_dflt (k_here; (refine' is_464 ?_); (with_unfolding_all refine' size_call ?B ?F ?X ?N ?T ?hk ?hdp ?hu ?_); (case B => k_asm); (case F => k_asm); (case X => k_asm); (case N => k_asm); (case T => k_asm); (case hk => exact rfl); (case hdp => ktr_room); (case hu => ktr_units); intro t' h' tk' F' N'))

noncomputable def JP (told : PySem.Str) (lim : Int) (t1 t2 : Tok) (pl : Addr) (news : List (Addr × Obj)) (pre : List Nat) (m : PySem.Str → Option Value) (nx : List (Addr × Obj)) : Prop :=
  ∃ us cur t n tn e, Txts us (runP lim pre).1 ∧ (runP lim pre).2 = (cur, n) ∧
    Has m [("told", .str told t1), ("limit", .int lim t2), ("pieces", .ref pl), ("size", .int n tn)] ∧ nx = (pl, listOf (us ++ [Value.str (chs cur) t]).toArray e) :: news
theorem JP_mk {told : PySem.Str} {lim : Int} {t1 t2 t' tn' : Tok} {pl : Addr} {news : List (Addr × Obj)} {pre : List Nat} {c : Nat} {m' : PySem.Str → Option Value} {ws : List (List Nat)} {cur' : List Nat} {n' : Int} {us' : List Value} {e' : Nat}
    (hs : stepP lim (runP lim pre) c = (ws, cur', n')) (hU : Txts us' ws) (hm : Has m' [("told", .str told t1), ("limit", .int lim t2), ("pieces", .ref pl), ("size", .int n' tn')]) :
    JP told lim t1 t2 pl news (pre ++ [c]) m' ((pl, listOf (us' ++ [Value.str (chs cur') t']).toArray e') :: news) :=
  ⟨us', cur', t', n', tn', e', by rw [runP_snoc, hs]; exact hU, by rw [runP_snoc, hs], hm, rfl⟩
set_option maxRecDepth 100000 in
set_option maxHeartbeats 0 in
theorem pieces_call {w : World} {loose : List PySem.Str} {mean : ExcName → Option Value} {mg mb : PySem.Str → Option Value} {dp un : Nat} {gd : Option (List Code)} {cn : PySem.Str} {cs : Scope} {a : Addr} {ccd : Value} {cl : List (PySem.Str × Addr)} {outer : List Env} {A₀ : Around} {base h₀ : Heap} {L : Addr} {m : PySem.Str → Option Value} {s : Shared} {Q E : Value → Shared → Prop}
    {news : List (Addr × Obj)} {told : PySem.Str} {lim : Int} {t1 t2 : Tok}
    (B : Below A₀ base outer h₀) (F : Fr h₀ L s.heap m) (X : (Lay.hd.heap_1_39 w.params).In h₀) (N : News h₀ L s.heap (news)) (T : Top Lay.hd.view_1_40 loose mean mg mb h₀) (hk : cs.kind = .function)
    (hdp : dp + 300 < recursionLimit) (hu : un + 300 < cLine)
    (hlen : told.cps.toList.length ≤ 4096)
    (ret : ∀ pl us ls t e h' tk, Txts us (runP lim told.cps.toList).1 → ls = (runP lim told.cps.toList).2.1 → Fr h₀ L h' m → News h₀ L h' ((pl, listOf (us ++ [Value.str (chs ls) t]).toArray e) :: news) → (∀ p ∈ news, p.1 ≠ pl) → Q (.ref pl) { s with heap := h', toks := tk }) :
    wpAny (model PySem.Challenge.rw_bf0005_01.row.prog w) (ktrTop dp un gd cn cs L a ccd cl outer) (call (.ref 471) [.str told t1, .int lim t2]) Q E s := by
  refine wpAny_call ?_
  ktr_enter
  k_steps
  rename Fr _ _ _ _ => F1
  rename News _ _ _ ((_, _) :: news) => N1
  rename_i pl _ l1 _ _
  unfold Hold
  with_unfolding_all refine' For_invVF F1 ?k1 ?k2 ?_
  case k1 => exact rfl
  case k2 => exact rfl
  k_steps
  refine str_loop (JP told lim t1 t2 pl news) rfl F1 N1 ?hj ?turn ?done
  case hj => exact ⟨[], [], _, 0, _, 0, .nil, rfl, .cons rfl (.cons rfl (.cons rfl (.cons rfl .nil))), rfl⟩
  case turn =>
    clear F1 N1
    rintro pre c post t m₁ news₁ h tk I io hsplit ⟨us, cur, t3, n, tn, e, hU, hst, hm, rfl⟩ hI F2 N2
    rw [hm.eq] at F2
    dsimp only [kstB] at F2
    have hI1 : I ≠ pl := (hI _ (.head _)).symm
    have hl := fun p hp => Nat.ne_of_lt (l1 p hp)
    have hpl : pre.length ≤ 4096 := by rw [hsplit, List.length_append] at hlen; omega
    have hb := runP_len lim pre
    have hus : us.length ≤ 4096 := by rw [hU.length]; omega
    have hcl' : cur.length ≤ 4096 := by rw [hst] at hb; exact Nat.le_trans hb.2 hpl
    have hcl : (chs cur).length ≤ 4096 := by simpa [chs, PySem.Str.length] using hcl'
    k_steps
    all_goals (rename Fr _ _ _ _ => F3; rename News _ _ _ _ => N3)
    all_goals (have hr1 : (runP lim pre).2.1 = cur := by rw [hst])
    all_goals (have hr2 : (runP lim pre).2.2 = n := by rw [hst])
    all_goals (have hne : ∀ o : Obj, ∀ p ∈ (pl, o) :: news, p.1 ≠ I := fun o => List.forall_mem_cons.mpr ⟨hI1.symm, fun p hp => hI p (.tail _ hp)⟩)
    · have q0 : cur ≠ [] := chs_ne_nil.mp ‹(chs cur != _) = true›
      have q1 : 1 < cur.length := by have := ‹1 < ((chs cur).length : Int)›; rw [chs_len] at this; omega
      have q2 := ‹(List.any _ _) = true›
      rw [item_last_chs q0, in_marks] at q2
      rw [item_last_chs q0, slice_butlast_chs q0, chs_one, chs_app] at N3
      refine TurnEnd.intro F3 (fun p hp => N3 p (.tail _ hp)) (hne _) (JP_mk ?_ hU.snoc (.cons rfl (.cons rfl (.cons rfl (.cons rfl .nil)))))
      unfold stepP
      rw [hr1, hr2, if_pos ⟨q0, ‹_›⟩, if_pos ⟨q1, q2⟩]
      rfl
    · have q0 : cur ≠ [] := chs_ne_nil.mp ‹(chs cur != _) = true›
      have q2 := ‹(List.any _ _) = false›
      rw [item_last_chs q0, ← Bool.not_eq_true, in_marks] at q2
      rw [chs_one, chs_nil, chs_app] at N3
      refine TurnEnd.intro F3 (fun p hp => N3 p (.tail _ hp)) (hne _) (JP_mk ?_ hU.snoc (.cons rfl (.cons rfl (.cons rfl (.cons rfl .nil)))))
      unfold stepP
      rw [hr1, hr2, if_pos ⟨q0, ‹_›⟩, if_neg (fun q => q2 q.2)]
      rfl
    · have q0 : cur ≠ [] := chs_ne_nil.mp ‹(chs cur != _) = true›
      have q1 : ¬ 1 < cur.length := by have := ‹¬ 1 < ((chs cur).length : Int)›; rw [chs_len] at this; omega
      rw [chs_one, chs_nil, chs_app] at N3
      refine TurnEnd.intro F3 N3 (hne _) (JP_mk ?_ hU.snoc (.cons rfl (.cons rfl (.cons rfl (.cons rfl .nil)))))
      unfold stepP
      rw [hr1, hr2, if_pos ⟨q0, ‹_›⟩, if_neg (fun q => q1 q.1)]
      rfl
    · rw [chs_one, chs_app] at N3
      refine TurnEnd.intro F3 N3 (hne _) (JP_mk ?_ hU (.cons rfl (.cons rfl (.cons rfl (.cons rfl .nil)))))
      unfold stepP
      rw [hr1, hr2, if_neg (fun q => ‹¬ lim ≤ n + szc c› q.2)]
    · have q0 : ¬ cur ≠ [] := fun q => absurd (chs_ne_nil.mpr q) (by rw [‹(chs cur != _) = false›]; decide)
      rw [chs_one, chs_app] at N3
      refine TurnEnd.intro F3 N3 (hne _) (JP_mk ?_ hU (.cons rfl (.cons rfl (.cons rfl (.cons rfl .nil)))))
      unfold stepP
      rw [hr1, hr2, if_neg (fun q => q0 q.1)]
  case done =>
    clear F1 N1
    rintro m₁ news₁ h tk ⟨us, cur, t3, n, tn, e, hU, hst, hm, rfl⟩ F2 N2
    rw [hm.eq] at F2
    dsimp only [kstB] at F2
    have hl := fun p hp => Nat.ne_of_lt (l1 p hp)
    k_steps
    exact ret _ _ _ _ _ _ _ hU (by rw [hst]) (by assumption) (by assumption) hl
end Mine
end TextC2

section TextE1
open PySem PySem.W PySem.W.X PySem.Calls PyProof.Rows PySem.Spec
namespace Mine
/-- the signs that the law draws, and the X -/
noncomputable def Sg (c : Nat) : Prop := c ∈ [88, 97, 127, 128, 2047, 2048, 65518, 65536, 92, 94, 37, 44, 59, 34, 61, 39, 110]
set_option maxRecDepth 100000 in
theorem skim_encode (c : Nat) (hc : Sg c) (t u : Tok) (g : Setting) : ((PySem.Str.utf8Of c).toArray.size : Int) = szc c ∧ skim g 400 (Builtin.«str.encode» ⟨[.str ⟨#[c]⟩ t, .str (PySem.Str.ofString "utf-8") u], []⟩) = Sem.fresh (fun t' => .pure (.done (.ret (.bytes (PySem.Str.utf8Of c).toArray t')))) := by
  unfold Sg at hc
  simp only [List.mem_cons, List.not_mem_nil, or_false] at hc
  rcases hc with rfl | rfl | rfl | rfl | rfl | rfl | rfl | rfl | rfl | rfl | rfl | rfl | rfl | rfl | rfl | rfl | rfl <;>
    exact ⟨by decide +kernel, by kernel_rfl⟩
section
variable {prog : Program} {w : World} {A : Around} {E : Value → Shared → Prop} {s : Shared}
theorem encode_sign {c : Nat} {t u : Tok} {Q : Value → Shared → Prop} (hc : Sg c) (h : ∀ b t' k, (b.size : Int) = szc c → Q (.bytes b t') { s with toks := k }) : wpAny (model prog w) A (call (.builtin "str.encode") [.str ⟨#[c]⟩ t, .str (PySem.Str.ofString "utf-8") u]) Q E s := by
  obtain ⟨hb, e⟩ := skim_encode c hc t u ⟨prog, w.params⟩
  refine wpAny_call_entry F.slot_str_encode (typeIs_str s ⟨#[c]⟩ t) F.entry_str_encode ?_ (F.args_str_encode_2 _ _)
  refine x_skim 400 ?_
  rw [e]
  exact x_fresh (x_pure ⟨_, rfl, h _ _ _ hb⟩)
end
end Mine
namespace Mine
section
variable {M : Model} {A : Around} {E : Value → Shared → Prop} {s : Shared}
theorem gm_encode {x : PySem.Str} {t : Tok} {pl : Sem Bool} {Q : Value × List Value → Shared → Prop} (h : Q (.builtin "str.encode", [.str x t]) s) : wpAny M A (getMethod (.str x t) "encode" pl) Q E s :=
  by with_reducible exact GM.of (.str x t) (typeIs_str _ _ _) F.slot_str_encode F.type_str_encode GM.noRef h
end
end Mine

namespace Mine
theorem szc_le (c : Nat) : 1 ≤ szc c ∧ szc c ≤ 4 := by
  unfold szc
  (repeat' split) <;> omega
section
variable {prog : Program} {w : World} {A : Around} {E : Value → Shared → Prop} {s : Shared}
theorem len_enc {b : Array UInt8} {t : Tok} {c : Nat} {Q : Value → Shared → Prop} (hb : (b.size : Int) = szc c) (h : ∀ t' k, Q (.int (szc c) t') { s with toks := k }) : wpAny (model prog w) A (call (.builtin "len") [.bytes b t]) Q E s := by
  have := szc_le c
  refine len_bytes (by omega) ?_
  rw [hb]
  exact h _ _
end
end Mine
end TextE1

section TextC3
open PySem PySem.W PySem.Calls PyProof.Rows PySem.Spec
namespace Mine
theorem fillC3 (w : World) (h : Heap) : (Lay.hd.heap_1_39 w.params).In h → PySem.Challenge.rw_bf0005_01.row.prog = PySem.Challenge.rw_bf0005_01.row.prog := by
  k_fill
  intros
  rfl
local macro_rules | `(tactic| k_all) => `(tactic| assumption)
local macro_rules | `(tactic| k_ne) => `(tactic| first | assumption | exact Ne.symm (by assumption))
local macro_rules | `(tactic| walk_at "exec For") => `(tactic| refine' for_hold ?_)
local macro_rules | `(tactic| walk_at "subscriptTail Name UnaryOp ref int") => `(tactic| k_dflt (k_here; (refine' item_last ?N ?hm ?_ (by with_unfolding_all rfl)); (case N => k_asm); (case hm => k_mem)))
local macro_rules | `(tactic| walk_at "call builtin:list.append") => `(tactic| k_dflt (k_here; (refine' append_last ?F ?N ?U ?z ?_; (case F => k_asm); (case N => k_asm); (case U => k_upd); (case z => first | omega | (simp; done) | (simp only [List.length_append, List.length_cons, List.length_nil]; omega))); intro h' F' N'; (try dsimp only [List.nil_append, List.cons_append] at N')))
local macro_rules | `(tactic| walk_at "callWith") => `(tactic| (with_reducible first | refine callWith_method0 ?_ | (refine' cw_m1 ?he ?hp ?_; (case he => k_dflt rfl); (case hp => k_dflt rfl)) | (refine' cw_b1 ?he ?hp ?_; (case he => k_dflt rfl); (case hp => k_dflt rfl))))
local macro_rules | `(tactic| walk_at "call builtin:str.encode") => `(tactic| k_dflt (k_here; (refine' encode_sign ?hc ?_); (case hc => assumption); intro b' t' k' hb'))
local macro_rules | `(tactic| walk_at "getMethod str") => `(tactic| refine' gm_encode ?_)
local macro_rules | `(tactic| walk_at "call builtin:len") => `(tactic| k_dflt (k_here; (refine' len_enc (b := _) ?hb ?_); (case hb => assumption); intro t' k'))
local macro_rules | `(tactic| walk_at "call builtin:len") => `(tactic| k_dflt (k_here; (refine' len_snoc ?N ?hm ?hz ?_); (case N => k_asm); (case hm => k_mem); (case hz => omega); intro t' k'))
local macro_rules | `(tactic| walk_at "truthy ref") => `(tactic| k_dflt (k_here; (refine' truthy_snoc ?N ?hm ?hz ?_); (case N => k_asm); (case hm => k_mem); (case hz => omega); intro k'))
local macro_rules | `(tactic| walk_at "call builtin:list.pop") => `(tactic| k_dflt (k_here; (refine' pop_last ?F ?N ?U ?hz ?_); (case F => k_asm); (case N => k_asm); (case U => k_upd); (case hz => omega); intro h' F' N'; (try dsimp only [List.nil_append, List.cons_append] at N')))
local macro_rules | `(tactic| walk_at "call builtin:str.join") => `(tactic| k_dflt (k_here; (refine' join_signs ?N ?hm ?hV ?hz ?_); (case N => k_asm); (case hm => k_mem); (case hV => assumption); (case hz => omega); intro t' k'))

theorem nl_is : PySem.Str.ofString "\n" = chs [10] := by decide +kernel
theorem no_nl {x : PySem.Str} : (PySem.Builtin.Str.occurrences x (PySem.Str.ofString "\n") 0 x.length 1).isEmpty = true ↔ 10 ∉ x.cps.toList := by
  have := StrLaws.found_one x 10
  rw [nl_is]
  cases h : (PySem.Builtin.Str.occurrences x (chs [10]) 0 x.length 1).isEmpty with
  | true => simp only [true_iff]; intro hm; have h2 : (PySem.Builtin.Str.occurrences x ⟨#[10]⟩ 0 x.length 1).isEmpty = true := h; rw [h2, decide_eq_true hm] at this; cases this
  | false => simp only [Bool.false_eq_true, false_iff]; intro hm; have h2 : (PySem.Builtin.Str.occurrences x ⟨#[10]⟩ 0 x.length 1).isEmpty = false := h; rw [h2, decide_eq_false hm] at this; cases this
theorem Sg.ne {c d : Nat} (h : Sg c) (hd : d ∉ [88, 97, 127, 128, 2047, 2048, 65518, 65536, 92, 94, 37, 44, 59, 34, 61, 39, 110]) : c ≠ d := fun e => hd (e ▸ h)
noncomputable def JF (line sep : PySem.Str) (lim : Int) (t1 t2 t3 : Tok) (fl : Addr) (news : List (Addr × Obj)) (pre : List Nat) (m : PySem.Str → Option Value) (nx : List (Addr × Obj)) : Prop :=
  ∃ us vs cl cur n tn e1 e2, Txts us (runP lim pre).1 ∧ (runP lim pre).2 = (cur, n) ∧ Txts vs (sg1 cur) ∧
    Has m [("line", .str line t1), ("limit", .int lim t2), ("fold_sep", .str sep t3), ("folded_lines", .ref fl), ("current_chars", .ref cl), ("byte_count", .int n tn)] ∧ nx = (cl, listOf vs.toArray e2) :: (fl, listOf us.toArray e1) :: news ∧ cl ≠ fl ∧ (∀ p ∈ news, p.1 ≠ cl) ∧ ∀ c ∈ cur, c ∈ pre
theorem JF_mk {line sep : PySem.Str} {lim : Int} {t1 t2 t3 tn' : Tok} {fl cl' : Addr} {news : List (Addr × Obj)} {pre : List Nat} {c : Nat} {m' : PySem.Str → Option Value} {ws : List (List Nat)} {cur' : List Nat} {n' : Int} {us' vs' : List Value} {e1' e2' : Nat}
    (hs : stepP lim (runP lim pre) c = (ws, cur', n')) (hU : Txts us' ws) (hV : Txts vs' (sg1 cur')) (hcf : cl' ≠ fl) (hcn : ∀ p ∈ news, p.1 ≠ cl') (hcp : ∀ c' ∈ cur', c' ∈ pre ++ [c])
    (hm : Has m' [("line", .str line t1), ("limit", .int lim t2), ("fold_sep", .str sep t3), ("folded_lines", .ref fl), ("current_chars", .ref cl'), ("byte_count", .int n' tn')]) :
    JF line sep lim t1 t2 t3 fl news (pre ++ [c]) m' ((cl', listOf vs'.toArray e2') :: (fl, listOf us'.toArray e1') :: news) :=
  ⟨us', vs', cl', cur', n', tn', e1', e2', by rw [runP_snoc, hs]; exact hU, by rw [runP_snoc, hs], hV, hm, rfl, hcf, hcn, hcp⟩
theorem in_esc {z : Nat} : (PySem.Builtin.Str.occurrences (PySem.Str.ofString "\\^") (chs [z]) 0 (PySem.Str.ofString "\\^").length 1).isEmpty = false ↔ z = 92 ∨ z = 94 := by
  have h := StrLaws.found_one (PySem.Str.ofString "\\^") z
  have e : (PySem.Str.ofString "\\^").cps.toList = [92, 94] := by decide +kernel
  rw [e] at h
  have h' : (!(PySem.Builtin.Str.occurrences (PySem.Str.ofString "\\^") (chs [z]) 0 (PySem.Str.ofString "\\^").length 1).isEmpty) = decide (z ∈ [92, 94]) := h
  cases hq : (PySem.Builtin.Str.occurrences (PySem.Str.ofString "\\^") (chs [z]) 0 (PySem.Str.ofString "\\^").length 1).isEmpty <;> rw [hq] at h' <;> simpa using h'
theorem runP_ne (lim : Int) {l : List Nat} (h : l ≠ []) : (runP lim l).2.1 ≠ [] := by
  have e := (List.dropLast_concat_getLast h).symm
  rw [e, runP_snoc]
  unfold stepP
  split
  · split <;> simp
  · simp
theorem swap3 {α : Type} {x a b i : α} {l : List α} {p : α} (h : p ∈ i :: x :: b :: l) : p ∈ x :: i :: a :: b :: l := by
  simp only [List.mem_cons] at h ⊢
  rcases h with h | h | h | h
  · exact .inr (.inl h)
  · exact .inl h
  · exact .inr (.inr (.inr (.inl h)))
  · exact .inr (.inr (.inr (.inr h)))
set_option maxRecDepth 100000 in
set_option maxHeartbeats 0 in
theorem fold_call {w : World} {loose : List PySem.Str} {mean : ExcName → Option Value} {mg mb : PySem.Str → Option Value} {dp un : Nat} {gd : Option (List Code)} {cn : PySem.Str} {cs : Scope} {a : Addr} {ccd : Value} {cl : List (PySem.Str × Addr)} {outer : List Env} {A₀ : Around} {base h₀ : Heap} {L : Addr} {m : PySem.Str → Option Value} {s : Shared} {Q E : Value → Shared → Prop}
    {news : List (Addr × Obj)} {line sep : PySem.Str} {lim : Int} {t1 t2 t3 : Tok}
    (B : Below A₀ base outer h₀) (F : Fr h₀ L s.heap m) (X : (Lay.hd.heap_1_39 w.params).In h₀) (N : News h₀ L s.heap (news)) (T : Top Lay.hd.view_1_40 loose mean mg mb h₀) (hk : cs.kind = .function)
    (hdp : dp + 300 < recursionLimit) (hu : un + 300 < cLine)
    {args : List Value} (hbinds : BindsAt (Lay.hd.heap_1_39 w.params) 54 s ⟨args, []⟩ [("line", .str line t1), ("limit", .int lim t2), ("fold_sep", .str sep t3)])
    (hlen : line.cps.toList.length ≤ 4096) (hsg : ∀ c ∈ line.cps.toList, Sg c) (hne : line.cps.toList ≠ []) (hsep : sep.length ≤ 100)
    (ret : ∀ t h' tk, Fr h₀ L h' m → News h₀ L h' news → Q (.str (Txt.join sep (((runP lim line.cps.toList).1 ++ [(runP lim line.cps.toList).2.1]).map chs)) t) { s with heap := h', toks := tk }) :
    wpAny (model PySem.Challenge.rw_bf0005_01.row.prog w) (ktrTop dp un gd cn cs L a ccd cl outer) (call (.ref 54) args) Q E s := by
  have hno : 10 ∉ line.cps.toList := fun hm => (hsg _ hm).ne (by decide) rfl
  refine wpAny_call ?_
  (refine' code_def ?k1 ?k2 ?k3 ?k4 ?k5 ?kA ?kF ?kK ?k6 ?k7 ?k8 ?k9 ?kB ?_ ?c2 ?c3 ?c4 ?c5; (case kA => exact rfl); (case kF => exact rfl); (case kK => assumption); (case k1 => k_asm); (case k2 => k_asm); (case k3 => k_asm); (case k4 => k_asm); (case k5 => k_asm); (case k6 => k_is); (case k7 => k_is); (case k8 => ktr_room); (case k9 => first | exact BindsTo.of_eq rfl | exact binds_K (by k_in) rfl (by k_is) rfl rfl rfl | (refine' binds_hyp ?be ?bh; (case bh => assumption); (case be => k_is))); (case c5 => decide); (case kB => exact locs rfl); (case c2 => exact rfl); (case c3 => exact rfl); (case c4 => exact rfl); k_whole; intro _ _ _ _ _ _ _ _ _; (try dsimp only); (try k_fold))
  k_steps
  rotate_right
  · have hx := ‹(PySem.Builtin.Str.occurrences line _ 0 line.length 1).isEmpty = false›
    rw [no_nl.mpr hno] at hx
    cases hx
  rename Fr _ _ _ _ => F1
  rename News _ _ _ ((_, _) :: (_, _) :: news) => N1
  first
    | (rename_i fl _ l1 _ _ cl0 _ l2 _ _; have hx : (∀ p ∈ news, p.1 < fl) ∧ fl < cl0 ∧ AllLt cl0 news := ⟨l1, l2.1, l2.2⟩; clear hx)
    | (rename_i fl l1 _ _ cl0 _ l2 _ _; have hx : (∀ p ∈ news, p.1 < fl) ∧ fl < cl0 ∧ AllLt cl0 news := ⟨l1, l2.1, l2.2⟩; clear hx)
    | (rename_i fl _ l1 _ cl0 _ l2 _ _; have hx : (∀ p ∈ news, p.1 < fl) ∧ fl < cl0 ∧ AllLt cl0 news := ⟨l1, l2.1, l2.2⟩; clear hx)
    | (rename_i fl _ l1 _ _ cl0 l2 _ _; have hx : (∀ p ∈ news, p.1 < fl) ∧ fl < cl0 ∧ AllLt cl0 news := ⟨l1, l2.1, l2.2⟩; clear hx)
    | (rename_i fl _ l1 _ _ cl0 _ l2 _; have hx : (∀ p ∈ news, p.1 < fl) ∧ fl < cl0 ∧ AllLt cl0 news := ⟨l1, l2.1, l2.2⟩; clear hx)
    | (rename_i fl _ l1 _ _ cl0 _ l2 _ _ _; have hx : (∀ p ∈ news, p.1 < fl) ∧ fl < cl0 ∧ AllLt cl0 news := ⟨l1, l2.1, l2.2⟩; clear hx)
    | (rename_i fl _ l1 _ _ cl0 _ _ l2 _ _; have hx : (∀ p ∈ news, p.1 < fl) ∧ fl < cl0 ∧ AllLt cl0 news := ⟨l1, l2.1, l2.2⟩; clear hx)
    | (rename_i fl _ l1 _ _ _ cl0 _ l2 _ _; have hx : (∀ p ∈ news, p.1 < fl) ∧ fl < cl0 ∧ AllLt cl0 news := ⟨l1, l2.1, l2.2⟩; clear hx)
    | (rename_i fl _ _ l1 _ _ cl0 _ l2 _ _; have hx : (∀ p ∈ news, p.1 < fl) ∧ fl < cl0 ∧ AllLt cl0 news := ⟨l1, l2.1, l2.2⟩; clear hx)
    | (rename_i fl l1 _ cl0 _ l2 _ _; have hx : (∀ p ∈ news, p.1 < fl) ∧ fl < cl0 ∧ AllLt cl0 news := ⟨l1, l2.1, l2.2⟩; clear hx)
    | (rename_i fl l1 _ _ cl0 l2 _ _; have hx : (∀ p ∈ news, p.1 < fl) ∧ fl < cl0 ∧ AllLt cl0 news := ⟨l1, l2.1, l2.2⟩; clear hx)
    | (rename_i fl l1 _ _ cl0 _ l2 _; have hx : (∀ p ∈ news, p.1 < fl) ∧ fl < cl0 ∧ AllLt cl0 news := ⟨l1, l2.1, l2.2⟩; clear hx)
    | (rename_i fl l1 _ _ cl0 _ l2 _ _ _; have hx : (∀ p ∈ news, p.1 < fl) ∧ fl < cl0 ∧ AllLt cl0 news := ⟨l1, l2.1, l2.2⟩; clear hx)
    | (rename_i fl l1 _ _ cl0 _ _ l2 _ _; have hx : (∀ p ∈ news, p.1 < fl) ∧ fl < cl0 ∧ AllLt cl0 news := ⟨l1, l2.1, l2.2⟩; clear hx)
    | (rename_i fl l1 _ _ _ cl0 _ l2 _ _; have hx : (∀ p ∈ news, p.1 < fl) ∧ fl < cl0 ∧ AllLt cl0 news := ⟨l1, l2.1, l2.2⟩; clear hx)
    | (rename_i fl _ l1 cl0 _ l2 _ _; have hx : (∀ p ∈ news, p.1 < fl) ∧ fl < cl0 ∧ AllLt cl0 news := ⟨l1, l2.1, l2.2⟩; clear hx)
    | (rename_i fl _ l1 _ cl0 l2 _ _; have hx : (∀ p ∈ news, p.1 < fl) ∧ fl < cl0 ∧ AllLt cl0 news := ⟨l1, l2.1, l2.2⟩; clear hx)
    | (rename_i fl _ l1 _ cl0 _ l2 _; have hx : (∀ p ∈ news, p.1 < fl) ∧ fl < cl0 ∧ AllLt cl0 news := ⟨l1, l2.1, l2.2⟩; clear hx)
    | (rename_i fl _ l1 _ cl0 _ l2 _ _ _; have hx : (∀ p ∈ news, p.1 < fl) ∧ fl < cl0 ∧ AllLt cl0 news := ⟨l1, l2.1, l2.2⟩; clear hx)
    | (rename_i fl _ l1 _ cl0 _ _ l2 _ _; have hx : (∀ p ∈ news, p.1 < fl) ∧ fl < cl0 ∧ AllLt cl0 news := ⟨l1, l2.1, l2.2⟩; clear hx)
    | (rename_i fl _ l1 _ _ cl0 l2 _; have hx : (∀ p ∈ news, p.1 < fl) ∧ fl < cl0 ∧ AllLt cl0 news := ⟨l1, l2.1, l2.2⟩; clear hx)
    | (rename_i fl _ l1 _ _ cl0 l2 _ _ _; have hx : (∀ p ∈ news, p.1 < fl) ∧ fl < cl0 ∧ AllLt cl0 news := ⟨l1, l2.1, l2.2⟩; clear hx)
    | (rename_i fl _ l1 _ _ cl0 _ l2; have hx : (∀ p ∈ news, p.1 < fl) ∧ fl < cl0 ∧ AllLt cl0 news := ⟨l1, l2.1, l2.2⟩; clear hx)
    | (rename_i fl _ l1 _ _ cl0 _ l2 _ _ _ _; have hx : (∀ p ∈ news, p.1 < fl) ∧ fl < cl0 ∧ AllLt cl0 news := ⟨l1, l2.1, l2.2⟩; clear hx)
    | (rename_i fl _ l1 _ _ cl0 _ _ l2 _; have hx : (∀ p ∈ news, p.1 < fl) ∧ fl < cl0 ∧ AllLt cl0 news := ⟨l1, l2.1, l2.2⟩; clear hx)
    | (rename_i fl _ l1 _ _ cl0 _ _ l2 _ _ _; have hx : (∀ p ∈ news, p.1 < fl) ∧ fl < cl0 ∧ AllLt cl0 news := ⟨l1, l2.1, l2.2⟩; clear hx)
    | (rename_i fl _ l1 _ _ _ cl0 l2 _ _; have hx : (∀ p ∈ news, p.1 < fl) ∧ fl < cl0 ∧ AllLt cl0 news := ⟨l1, l2.1, l2.2⟩; clear hx)
    | (rename_i fl _ l1 _ _ _ cl0 _ l2 _; have hx : (∀ p ∈ news, p.1 < fl) ∧ fl < cl0 ∧ AllLt cl0 news := ⟨l1, l2.1, l2.2⟩; clear hx)
    | (rename_i fl _ l1 _ _ _ cl0 _ l2 _ _ _; have hx : (∀ p ∈ news, p.1 < fl) ∧ fl < cl0 ∧ AllLt cl0 news := ⟨l1, l2.1, l2.2⟩; clear hx)
    | (rename_i fl _ l1 _ _ _ cl0 _ _ l2 _ _; have hx : (∀ p ∈ news, p.1 < fl) ∧ fl < cl0 ∧ AllLt cl0 news := ⟨l1, l2.1, l2.2⟩; clear hx)
    | (rename_i fl _ l1 _ _ _ _ cl0 _ l2 _ _; have hx : (∀ p ∈ news, p.1 < fl) ∧ fl < cl0 ∧ AllLt cl0 news := ⟨l1, l2.1, l2.2⟩; clear hx)
    | (rename_i fl _ _ l1 _ cl0 _ l2 _ _; have hx : (∀ p ∈ news, p.1 < fl) ∧ fl < cl0 ∧ AllLt cl0 news := ⟨l1, l2.1, l2.2⟩; clear hx)
    | (rename_i fl _ _ l1 _ _ cl0 l2 _ _; have hx : (∀ p ∈ news, p.1 < fl) ∧ fl < cl0 ∧ AllLt cl0 news := ⟨l1, l2.1, l2.2⟩; clear hx)
    | (rename_i fl _ _ l1 _ _ cl0 _ l2 _; have hx : (∀ p ∈ news, p.1 < fl) ∧ fl < cl0 ∧ AllLt cl0 news := ⟨l1, l2.1, l2.2⟩; clear hx)
    | (rename_i fl _ _ l1 _ _ cl0 _ l2 _ _ _; have hx : (∀ p ∈ news, p.1 < fl) ∧ fl < cl0 ∧ AllLt cl0 news := ⟨l1, l2.1, l2.2⟩; clear hx)
    | (rename_i fl _ _ l1 _ _ cl0 _ _ l2 _ _; have hx : (∀ p ∈ news, p.1 < fl) ∧ fl < cl0 ∧ AllLt cl0 news := ⟨l1, l2.1, l2.2⟩; clear hx)
    | (rename_i fl _ _ l1 _ _ _ cl0 _ l2 _ _; have hx : (∀ p ∈ news, p.1 < fl) ∧ fl < cl0 ∧ AllLt cl0 news := ⟨l1, l2.1, l2.2⟩; clear hx)
    | (rename_i fl l1 cl0 _ l2 _ _; have hx : (∀ p ∈ news, p.1 < fl) ∧ fl < cl0 ∧ AllLt cl0 news := ⟨l1, l2.1, l2.2⟩; clear hx)
    | (rename_i fl l1 _ cl0 l2 _ _; have hx : (∀ p ∈ news, p.1 < fl) ∧ fl < cl0 ∧ AllLt cl0 news := ⟨l1, l2.1, l2.2⟩; clear hx)
    | (rename_i fl l1 _ cl0 _ l2 _; have hx : (∀ p ∈ news, p.1 < fl) ∧ fl < cl0 ∧ AllLt cl0 news := ⟨l1, l2.1, l2.2⟩; clear hx)
    | (rename_i fl l1 _ cl0 _ l2 _ _ _; have hx : (∀ p ∈ news, p.1 < fl) ∧ fl < cl0 ∧ AllLt cl0 news := ⟨l1, l2.1, l2.2⟩; clear hx)
    | (rename_i fl l1 _ cl0 _ _ l2 _ _; have hx : (∀ p ∈ news, p.1 < fl) ∧ fl < cl0 ∧ AllLt cl0 news := ⟨l1, l2.1, l2.2⟩; clear hx)
    | (rename_i fl l1 _ _ cl0 l2 _; have hx : (∀ p ∈ news, p.1 < fl) ∧ fl < cl0 ∧ AllLt cl0 news := ⟨l1, l2.1, l2.2⟩; clear hx)
    | (rename_i fl l1 _ _ cl0 l2 _ _ _; have hx : (∀ p ∈ news, p.1 < fl) ∧ fl < cl0 ∧ AllLt cl0 news := ⟨l1, l2.1, l2.2⟩; clear hx)
    | (rename_i fl l1 _ _ cl0 _ l2; have hx : (∀ p ∈ news, p.1 < fl) ∧ fl < cl0 ∧ AllLt cl0 news := ⟨l1, l2.1, l2.2⟩; clear hx)
    | (rename_i fl l1 _ _ cl0 _ l2 _ _ _ _; have hx : (∀ p ∈ news, p.1 < fl) ∧ fl < cl0 ∧ AllLt cl0 news := ⟨l1, l2.1, l2.2⟩; clear hx)
    | (rename_i fl l1 _ _ cl0 _ _ l2 _; have hx : (∀ p ∈ news, p.1 < fl) ∧ fl < cl0 ∧ AllLt cl0 news := ⟨l1, l2.1, l2.2⟩; clear hx)
    | (rename_i fl l1 _ _ cl0 _ _ l2 _ _ _; have hx : (∀ p ∈ news, p.1 < fl) ∧ fl < cl0 ∧ AllLt cl0 news := ⟨l1, l2.1, l2.2⟩; clear hx)
    | (rename_i fl l1 _ _ _ cl0 l2 _ _; have hx : (∀ p ∈ news, p.1 < fl) ∧ fl < cl0 ∧ AllLt cl0 news := ⟨l1, l2.1, l2.2⟩; clear hx)
    | (rename_i fl l1 _ _ _ cl0 _ l2 _; have hx : (∀ p ∈ news, p.1 < fl) ∧ fl < cl0 ∧ AllLt cl0 news := ⟨l1, l2.1, l2.2⟩; clear hx)
    | (rename_i fl l1 _ _ _ cl0 _ l2 _ _ _; have hx : (∀ p ∈ news, p.1 < fl) ∧ fl < cl0 ∧ AllLt cl0 news := ⟨l1, l2.1, l2.2⟩; clear hx)
    | (rename_i fl l1 _ _ _ cl0 _ _ l2 _ _; have hx : (∀ p ∈ news, p.1 < fl) ∧ fl < cl0 ∧ AllLt cl0 news := ⟨l1, l2.1, l2.2⟩; clear hx)
    | (rename_i fl l1 _ _ _ _ cl0 _ l2 _ _; have hx : (∀ p ∈ news, p.1 < fl) ∧ fl < cl0 ∧ AllLt cl0 news := ⟨l1, l2.1, l2.2⟩; clear hx)
    | (rename_i fl _ l1 cl0 l2 _ _; have hx : (∀ p ∈ news, p.1 < fl) ∧ fl < cl0 ∧ AllLt cl0 news := ⟨l1, l2.1, l2.2⟩; clear hx)
    | (rename_i fl _ l1 cl0 _ l2 _; have hx : (∀ p ∈ news, p.1 < fl) ∧ fl < cl0 ∧ AllLt cl0 news := ⟨l1, l2.1, l2.2⟩; clear hx)
    | (rename_i fl _ l1 cl0 _ l2 _ _ _; have hx : (∀ p ∈ news, p.1 < fl) ∧ fl < cl0 ∧ AllLt cl0 news := ⟨l1, l2.1, l2.2⟩; clear hx)
    | (rename_i fl _ l1 cl0 _ _ l2 _ _; have hx : (∀ p ∈ news, p.1 < fl) ∧ fl < cl0 ∧ AllLt cl0 news := ⟨l1, l2.1, l2.2⟩; clear hx)
    | (rename_i fl _ l1 _ cl0 l2 _; have hx : (∀ p ∈ news, p.1 < fl) ∧ fl < cl0 ∧ AllLt cl0 news := ⟨l1, l2.1, l2.2⟩; clear hx)
    | (rename_i fl _ l1 _ cl0 l2 _ _ _; have hx : (∀ p ∈ news, p.1 < fl) ∧ fl < cl0 ∧ AllLt cl0 news := ⟨l1, l2.1, l2.2⟩; clear hx)
    | (rename_i fl _ l1 _ cl0 _ l2; have hx : (∀ p ∈ news, p.1 < fl) ∧ fl < cl0 ∧ AllLt cl0 news := ⟨l1, l2.1, l2.2⟩; clear hx)
  unfold Hold
  with_unfolding_all refine' For_invVF F1 ?k1 ?k2 ?_
  case k1 => exact rfl
  case k2 => exact rfl
  k_steps
  refine str_loop (JF line sep lim t1 t2 t3 fl news) rfl F1 N1 ?hj ?turn ?done
  case hj => exact ⟨[], [], cl0, [], 0, _, 0, 0, .nil, rfl, .nil, .cons rfl (.cons rfl (.cons rfl (.cons rfl (.cons rfl (.cons rfl .nil))))), rfl, Nat.ne_of_gt l2.1, fun p hp => Nat.ne_of_lt (kst_ltOf l2.2 p hp), by intro c hc; cases hc⟩
  case turn =>
    clear F1 N1
    rintro pre c post t m₁ news₁ h tk I io hsplit ⟨us, vs, cl, cur, n, tn, e1, e2, hU, hst, hV, hm, rfl, hcf, hcn, hcp⟩ hI F2 N2
    rw [hm.eq] at F2
    dsimp only [kstB] at F2
    have hI1 : I ≠ cl := (hI _ (.head _)).symm
    have hI2 : I ≠ fl := (hI _ (.tail _ (.head _))).symm
    have hI3 : ∀ p ∈ news, p.1 ≠ I := fun p hp => hI _ (.tail _ (.tail _ hp))
    have hl := fun p hp => Nat.ne_of_lt (l1 p hp)
    have hpl : pre.length ≤ 4096 := by rw [hsplit, List.length_append] at hlen; omega
    have hb := runP_len lim pre
    have hus : us.length ≤ 4096 := by rw [hU.length]; omega
    have hcl' : cur.length ≤ 4096 := by rw [hst] at hb; exact Nat.le_trans hb.2 hpl
    have hvl : vs.length = cur.length := by rw [hV.length, sg1, List.length_map]
    have hc : Sg c := hsg c (by rw [hsplit]; simp)
    have hcur : ∀ c ∈ cur, Sg c := fun c hc => hsg c (by rw [hsplit]; exact List.mem_append_left _ (hcp c hc))
    have hr1 : (runP lim pre).2.1 = cur := by rw [hst]
    have hr2 : (runP lim pre).2.2 = n := by rw [hst]
    have hneI : ∀ (x : Addr) (o o' : Obj), x ≠ I → ∀ p ∈ (x, o) :: (fl, o') :: news, p.1 ≠ I := fun x o o' hx => List.forall_mem_cons.mpr ⟨hx, List.forall_mem_cons.mpr ⟨hI2.symm, hI3⟩⟩
    rcases List.eq_nil_or_concat cur with rfl | ⟨cur, z, rfl⟩
    · obtain rfl := hV.nil_inv
      k_steps
      rename Fr _ _ _ _ => F3
      rename News _ _ _ _ => N3
      refine TurnEnd.intro F3 N3 (hneI _ _ _ hI1.symm) (JF_mk (cur' := [c]) ?_ hU (show Txts [Value.str (chs [c]) t] (sg1 [c]) from .cons .nil) hcf hcn (by simp) (.cons rfl (.cons rfl (.cons rfl (.cons rfl (.cons rfl (.cons rfl .nil)))))))
      unfold stepP
      rw [hr1, hr2, if_neg (fun q => q.1 rfl)]
      rfl
    · rw [List.concat_eq_append] at hr1 hcp
      rw [List.concat_eq_append, sg1_snoc] at hV
      obtain ⟨vs, tz, rfl, hV1⟩ := hV.snoc_inv
      simp only [List.concat_eq_append, List.length_append, List.length_cons, List.length_nil] at hcl' hvl
      have hz : Sg z := hcur z (by simp)
      have hV2 : Txts (vs ++ [Value.str (chs [z]) tz]) (sg1 (cur ++ [z])) := by rw [sg1_snoc]; exact hV
      have hcl2 : (cur ++ [z]).length ≤ 8192 := by simp; omega
      have hnn : cur ++ [z] ≠ [] := by simp
      have hld : (cur ++ [z]).getLastD 0 = z := by simp [List.getLastD_eq_getLast?]
      have hdl : (cur ++ [z]).dropLast = cur := by simp
      k_steps
      all_goals (rename Fr _ _ _ _ => F3; rename News _ _ _ _ => N3)
      · rename (I < _ ∧ _) => l1
        have hlc : ∀ p ∈ news, p.1 ≠ _ := fun p hp => Nat.ne_of_lt (kst_ltOf l1.2.2.2 p hp)
        have hq := ‹(PySem.Builtin.Str.occurrences _ (chs [z]) 0 _ 1).isEmpty = true›
        have hq' : ¬ (z = 92 ∨ z = 94) := fun q => by rw [in_esc.mpr q] at hq; cases hq
        refine TurnEnd.intro F3 (fun p hp => N3 p (swap3 hp)) (hneI _ _ _ (Nat.ne_of_gt l1.1)) (JF_mk (cur' := [c]) ?_ hU.snoc (show Txts [Value.str (chs [c]) t] (sg1 [c]) from .cons .nil) (Nat.ne_of_gt l1.2.2.1) hlc (by simp) (.cons rfl (.cons rfl (.cons rfl (.cons rfl (.cons rfl (.cons rfl .nil)))))))
        unfold stepP
        rw [hr1, hr2, if_pos ⟨hnn, ‹_›⟩, if_neg (fun q => hq' (by rw [hld] at q; exact q.2))]
      · rename (I < _ ∧ _) => l1
        have hlc : ∀ p ∈ news, p.1 ≠ _ := fun p hp => Nat.ne_of_lt (kst_ltOf l1.2.2.2 p hp)
        have hq := in_esc.mp ‹(PySem.Builtin.Str.occurrences _ (chs [z]) 0 _ 1).isEmpty = false›
        have hs1 : szc z = 1 := by rcases hq with rfl | rfl <;> decide +kernel
        have hlen1 : 1 < (cur ++ [z]).length := by have := ‹1 < ((vs.length + 1 : Nat) : Int)›; simp; omega
        refine TurnEnd.intro F3 (fun p hp => N3 p (swap3 hp)) (hneI _ _ _ (Nat.ne_of_gt l1.1)) (JF_mk (cur' := [z, c]) (n' := szc z + szc c) ?_ hU.snoc (show Txts [Value.str (chs [z]) tz, Value.str (chs [c]) t] (sg1 [z, c]) from .cons (.cons .nil)) (Nat.ne_of_gt l1.2.2.1) hlc ?_ (.cons rfl (.cons rfl (.cons rfl (.cons rfl (.cons rfl (.cons rfl .nil)))))))
        · unfold stepP
          rw [hr1, hr2, if_pos ⟨hnn, ‹_›⟩, if_pos ⟨hlen1, by rw [hld]; exact hq⟩, hld, hdl, hs1]
        · intro c' hc'
          rcases List.mem_cons.mp hc' with rfl | hc'
          · exact List.mem_append_left _ (hcp _ (by simp))
          · exact List.mem_append_right _ hc'
      · rename (I < _ ∧ _) => l1
        have hlc : ∀ p ∈ news, p.1 ≠ _ := fun p hp => Nat.ne_of_lt (kst_ltOf l1.2.2.2 p hp)
        have hlen1 : ¬ 1 < (cur ++ [z]).length := by have := ‹¬ 1 < ((vs.length + 1 : Nat) : Int)›; rw [List.length_append]; simp only [List.length_cons, List.length_nil]; omega
        refine TurnEnd.intro F3 (fun p hp => N3 p (swap3 hp)) (hneI _ _ _ (Nat.ne_of_gt l1.1)) (JF_mk (cur' := [c]) ?_ hU.snoc (show Txts [Value.str (chs [c]) t] (sg1 [c]) from .cons .nil) (Nat.ne_of_gt l1.2.2.1) hlc (by simp) (.cons rfl (.cons rfl (.cons rfl (.cons rfl (.cons rfl (.cons rfl .nil)))))))
        unfold stepP
        rw [hr1, hr2, if_pos ⟨hnn, ‹_›⟩, if_neg (fun q => hlen1 q.1)]
      · have hV3 : Txts (vs ++ [Value.str (chs [z]) tz] ++ [Value.str (chs [c]) t]) (sg1 (cur ++ [z] ++ [c])) := by rw [sg1_snoc (cur ++ [z])]; exact hV2.snoc
        refine TurnEnd.intro F3 N3 (hneI _ _ _ hI1.symm) (JF_mk (cur' := cur ++ [z] ++ [c]) ?_ hU hV3 hcf hcn ?_ (.cons rfl (.cons rfl (.cons rfl (.cons rfl (.cons rfl (.cons rfl .nil)))))))
        · unfold stepP
          rw [hr1, hr2, if_neg (fun q => ‹¬ lim ≤ n + szc c› q.2)]
        · intro c' hc'
          rcases List.mem_append.mp hc' with hc' | hc'
          · exact List.mem_append_left _ (hcp _ hc')
          · exact List.mem_append_right _ hc'
  case done =>
    clear F1 N1
    rintro m₁ news₁ h tk ⟨us, vs, cl, cur, n, tn, e1, e2, hU, hst, hV, hm, rfl, hcf, hcn, hcp⟩ F2 N2
    rw [hm.eq] at F2
    dsimp only [kstB] at F2
    have hl := fun p hp => Nat.ne_of_lt (l1 p hp)
    have hb := runP_len lim line.cps.toList
    have hr1 : (runP lim line.cps.toList).2.1 = cur := by rw [hst]
    have hfl := runP_flat lim line.cps.toList
    have hus : us.length ≤ 4096 := by rw [hU.length]; omega
    have hcl' : cur.length ≤ 4096 := by rw [← hr1]; omega
    have hnn : cur ≠ [] := by rw [← hr1]; exact runP_ne lim hne
    obtain ⟨cur, z, rfl⟩ := (List.eq_nil_or_concat cur).resolve_left hnn
    rw [List.concat_eq_append] at hr1 hcp hcl'
    rw [List.concat_eq_append, sg1_snoc] at hV
    obtain ⟨vs, tz, rfl, hV1⟩ := hV.snoc_inv
    have hvl : vs.length ≤ 4096 := by
      have := hV1.length
      rw [sg1, List.length_map] at this
      simp only [List.length_append, List.length_cons, List.length_nil] at hcl'
      omega
    have hV2 : Txts (vs ++ [Value.str (chs [z]) tz]) (sg1 (cur ++ [z])) := by rw [sg1_snoc]; exact hV
    have hcl2 : (cur ++ [z]).length ≤ 8192 := by omega
    k_steps
    rename Fr _ _ _ _ => F3
    rename News _ _ _ _ => N3
    refine join_texts (ws := (runP lim line.cps.toList).1 ++ [cur ++ [z]]) N3 (.tail _ (.head _)) hU.snoc ?_ ?_ hsep ?_
    · rw [List.flatten_append, List.flatten_cons, List.flatten_nil, List.append_nil, ← hr1, hfl]; omega
    · rw [List.length_append]; simp only [List.length_cons, List.length_nil]; omega
    intro t' k'
    k_steps
    rw [hr1] at ret
    rename News _ _ _ _ => N9
    exact ret _ _ _ (by assumption) (fun p hp => N9 p (.tail _ (.tail _ hp)))
end Mine
end TextC3

section TextR1
open PySem PySem.W PySem.Calls PyProof.Rows PySem.Spec
namespace Mine
theorem fillR1 (w : World) (h : Heap) : (Lay.hd.heap_1_39 w.params).In h → PySem.Challenge.rw_bf0005_01.row.prog = PySem.Challenge.rw_bf0005_01.row.prog := by
  k_fill
  intros
  rfl
local macro_rules | `(tactic| k_room) => `(tactic| ktr_room)


theorem nl_isR : PySem.Str.ofString "\n" = chs [10] := by decide +kernel
set_option maxRecDepth 100000 in
set_option maxHeartbeats 0 in
theorem refuses_call {w : World} {loose : List PySem.Str} {mean : ExcName → Option Value} {mg mb : PySem.Str → Option Value} {dp un : Nat} {gd : Option (List Code)} {cn : PySem.Str} {cs : Scope} {a : Addr} {ccd : Value} {A₀ : Around} {base h₀ : Heap} {L : Addr} {m : PySem.Str → Option Value} {s : Shared} {Q E : Value → Shared → Prop}
    {news : List (Addr × Obj)} {told : PySem.Str} {t1 : Tok}
    (B : Below A₀ base [] h₀) (F : Fr h₀ L s.heap m) (X : (Lay.hd.heap_1_39 w.params).In h₀) (N : News h₀ L s.heap news) (T : Top Lay.hd.view_1_40 loose mean mg mb h₀) (hk : cs.kind = .function)
    (hdp : dp + 300 < recursionLimit) (hu : un + 300 < cLine) (XB : (Lay.hd.heap_1_39 w.params).In base) (TB : Top Lay.hd.view_1_40 loose mean mg mb base)
    (hno : (PySem.Builtin.Str.occurrences told (PySem.Str.ofString "\n") 0 told.length 1).isEmpty = false)
    (ret : ∀ h' tk, Fr h₀ L h' m → News h₀ L h' news → Q (.bool true) { s with heap := h', toks := tk }) :
    wpAny (model PySem.Challenge.rw_bf0005_01.row.prog w) ({ handled := none, depth := dp, frames := some [envOf cn cs L a ccd], guards := gd, units := un }) (call (.ref 478) [.str told t1]) Q E s := by
  refine wpAny_call ?_
  refine' code_defS0 ?k1 ?k2 ?k3 ?k4 ?k5 ?kA ?k6 ?k7 ?k8 ?k9 ?kB ?_ ?cK ?c2 ?c3 ?c4 ?c5
  case kA => exact rfl
  case k2 => k_asm
  case k1 => k_asm
  case k3 => k_asm
  case k4 => k_asm
  case k5 => k_asm
  case k6 => k_is
  case k7 => k_is
  case k8 => ktr_room
  case k9 => exact BindsTo.of_eq rfl
  case kB => exact locs rfl
  case cK => assumption
  case c2 => exact rfl
  case c3 => exact rfl
  case c4 => exact rfl
  case c5 => decide
  intro g' L' h' FG' F' N' B' X' T' D'
  try k_fold
  k_steps
  exact ret _ _ (by assumption) (by assumption)
end Mine
end TextR1

section TextB1
open PySem PySem.W PySem.Calls PyProof.Rows PySem.Spec
namespace Mine
theorem fillB1 (w : World) (h : Heap) : (Lay.hd.heap_1_39 w.params).In h → PySem.Challenge.rw_bf0005_01.row.prog = PySem.Challenge.rw_bf0005_01.row.prog := by
  k_fill
  intros
  rfl


set_option maxRecDepth 100000 in
set_option maxHeartbeats 0 in
theorem bag_call {w : World} {loose : List PySem.Str} {mean : ExcName → Option Value} {mg mb : PySem.Str → Option Value} {dp un : Nat} {gd : Option (List Code)} {cn : PySem.Str} {cs : Scope} {a : Addr} {ccd : Value} {cl : List (PySem.Str × Addr)} {outer : List Env} {A₀ : Around} {base h₀ : Heap} {L : Addr} {m : PySem.Str → Option Value} {s : Shared} {Q E : Value → Shared → Prop}
    {news : List (Addr × Obj)} {l : Addr} {vs : List Value} {ns : List Int}
    (B : Below A₀ base outer h₀) (F : Fr h₀ L s.heap m) (X : (Lay.hd.heap_1_39 w.params).In h₀) (N : News h₀ L s.heap (news)) (T : Top Lay.hd.view_1_40 loose mean mg mb h₀) (hk : cs.kind = .function)
    (hdp : dp + 300 < recursionLimit) (hu : un + 300 < cLine)
    (hL : h₀.IsList l vs.toArray) (hI : IntsAre vs ns) (hns : ns.length ≤ 63)
    (ret : ∀ bg b t h' tk, 0 ≤ b → Fr h₀ L h' m → News h₀ L h' ((bg, listOf #[.int b t] 0) :: news) → (∀ p ∈ news, p.1 < bg) → Q (.ref bg) { s with heap := h', toks := tk }) :
    wpAny (model PySem.Challenge.rw_bf0005_01.row.prog w) (ktrTop dp un gd cn cs L a ccd cl outer) (call (.ref 450) [.ref l]) Q E s := by
  k_with "pyIter ref" => (k_of "s" => k_state (fun (pre : List Int) (n : Int) => True) "n")
  refine wpAny_call ?_
  (refine' code_def ?k1 ?k2 ?k3 ?k4 ?k5 ?kA ?kF ?kK ?k6 ?k7 ?k8 ?k9 ?kB ?_ ?c2 ?c3 ?c4 ?c5; (case kA => exact rfl); (case kF => exact rfl); (case kK => assumption); (case k1 => k_asm); (case k2 => k_asm); (case k3 => k_asm); (case k4 => k_asm); (case k5 => k_asm); (case k6 => k_is); (case k7 => k_is); (case k8 => ktr_room); (case k9 => first | exact BindsTo.of_eq rfl | exact binds_K (by k_in) rfl (by k_is) rfl rfl rfl | (refine' binds_hyp ?be ?bh; (case bh => assumption); (case be => k_is))); (case c5 => decide); (case kB => exact locs rfl); (case c2 => exact rfl); (case c3 => exact rfl); (case c4 => exact rfl); k_whole; intro _ _ _ _ _ _ _ _ _; (try dsimp only); (try k_fold))
  rename Fr h₀ L _ m => FG
  have hLg := hL.at fun o e => FG.keep l o e
  k_steps
  rename News _ _ _ _ => N9
  rename Fr _ _ _ _ => F9
  rename (_ < _ ∧ AllLt _ news) => l9
  refine ret _ _ _ _ _ ?_ F9 (fun p hp => N9 p ((List.mem_cons.mp hp).elim (fun h => h ▸ .head _) fun h => .tail _ (.tail _ h))) ?_
  · exact Int.fmod_nonneg_of_pos _ (Int.pow_pos (by decide))
  · exact fun p hp => kst_ltOf l9.2 p hp
end Mine
end TextB1

section TextLD
open PySem PySem.W PySem.Calls PyProof.Rows PySem.Spec
namespace Mine
theorem draw_any {w : World} {loose : List PySem.Str} {mean : ExcName → Option Value} {mg mb : PySem.Str → Option Value} {dp un : Nat} {gd : Option (List Code)} {cn : PySem.Str} {cs : Scope} {a : Addr} {ccd : Value} {cl : List (PySem.Str × Addr)} {outer : List Env} {A₀ : Around} {base h₀ : Heap} {L : Addr} {m : PySem.Str → Option Value} {s : Shared} {Q E : Value → Shared → Prop}
    {news : List (Addr × Obj)} {g : Obj → List (Addr × Obj)} {bg : Addr} {b n : Int} {tb tn : Tok} {e0 : Nat}
    (B : Below A₀ base outer h₀) (F : Fr h₀ L s.heap m) (X : (Lay.hd.heap_1_39 w.params).In h₀) (N : News h₀ L s.heap news) (T : Top Lay.hd.view_1_40 loose mean mg mb h₀) (hk : cs.kind = .function)
    (hdp : dp + 200 < recursionLimit) (hu : un + 200 < cLine)
    (U : UpdF bg (listOf #[.int b tb] e0) news g) (hn : 0 < n) (hb : 0 ≤ b)
    (ret : ∀ t1 t2 b' d h' tk, 0 ≤ b' → 0 ≤ d → d < n → Fr h₀ L h' m → News h₀ L h' (g (listOf #[.int b' t1] e0)) → Q (.int d t2) { s with heap := h', toks := tk }) :
    wpAny (model PySem.Challenge.rw_bf0005_01.row.prog w) (ktrTop dp un gd cn cs L a ccd cl outer) (call (.ref 457) [.ref bg, .int n tn]) Q E s := by
  obtain ⟨own, rest, rfl, hg, h1, h2⟩ := U.split
  refine draw_call (news := own ++ rest) (b := b) (tb := tb) (e0 := e0) B F X (fun p hp => N p ?_) T hk hdp hu (fun p hp => ?_) (by omega) fun t1 t2 h' tk F' N' => ?_
  · rcases List.mem_cons.mp hp with rfl | hp
    · exact List.mem_append_right _ (.head _)
    · rcases List.mem_append.mp hp with hp | hp
      · exact List.mem_append_left _ hp
      · exact List.mem_append_right _ (.tail _ hp)
  · rcases List.mem_append.mp hp with hp | hp
    · exact h1 p hp
    · exact h2 p hp
  · refine ret t1 t2 _ _ h' tk (Int.fdiv_nonneg hb (Int.le_of_lt hn)) (Int.fmod_nonneg_of_pos _ hn) (Int.fmod_lt_of_pos _ hn) F' (hg _ ▸ fun p hp => N' p ?_)
    rcases List.mem_append.mp hp with hp | hp
    · exact .tail _ (List.mem_append_left _ hp)
    · rcases List.mem_cons.mp hp with rfl | hp
      · exact .head _
      · exact .tail _ (List.mem_append_right _ hp)
end Mine
end TextLD

section TextHI
open PySem PySem.W PySem.Calls PyProof.Rows PySem.Spec
namespace Mine
noncomputable abbrev tab (ps : Array Value) : Obj := { cls := .none, data := .fields ps }
noncomputable def tabFar (K : Frag) (n : PySem.Str) : Bool := match nsIn K mainGlobals n with
  | some (some (.ref a)) => (match K.lookup a with
    | some ⟨_, _, .func fd, _⟩ => (match fd.code with
      | .ref c => (match K.lookup c with
        | some ⟨_, _, .fields vs, _⟩ => (match (vs[11]? : Option Value) with | some (Value.ref P) => P != 428 | _ => true)
        | _ => false)
      | _ => false)
    | _ => false)
  | _ => false
theorem fillHI (w : World) (h : Heap) : (Lay.hd.heap_1_39 w.params).In h → (recsOf Lay.hd.view_1_40).all (fun d => tabFar (Lay.hd.heap_1_39 w.params) d.name) = true := by
  intro _
  kernel_rfl
theorem tabFar_ne {K : Frag} {h : Heap} {mg : PySem.Str → Option Value} {n : PySem.Str} (X : K.In h) (G : h.Ns mainGlobals mg) (e : tabFar K n = true) {a c P : Addr} {o : Obj} {fd : FuncData} {ps : Array Value}
    (h1 : mg n = some (.ref a)) (h2 : h.get? a = some o) (h3 : o.data = .func fd) (h4 : fd.code = .ref c) (h5 : h.TableAt c P ps) : P ≠ 428 := by
  unfold tabFar at e
  split at e
  · rename_i a' e1
    have := mg_of X G e1
    rw [h1] at this; cases this
    split at e
    · rename_i fd' _ e2
      have := X _ _ e2
      rw [h2] at this; cases this
      cases h3
      split at e
      · rename_i c' e3
        rw [h4] at e3; cases e3
        split at e
        · rename_i vs _ e4
          obtain ⟨⟨oc, vs', q1, q2, q3, q4⟩, _⟩ := h5
          have := X _ _ e4
          rw [q1] at this; cases this
          cases q3
          rw [q4] at e
          exact fun r => by rw [r] at e; cases e
        · cases e
      · cases e
    · cases e
  · cases e
theorem hide_keep {h : Heap} {a b : Addr} {o : Obj} (e : h.get? b = some o) (hb : b ≠ a) : (h.hide a).get? b = some o := by rw [Heap.hide_ne _ hb]; exact e
theorem ns_hide {h : Heap} {a b : Addr} {m : PySem.Str → Option Value} (x : h.Ns b m) (hb : b ≠ a) : (h.hide a).Ns b m := x.extBut (b := a) (fun _ _ hb e => hide_keep e hb) hb
theorem rec_hide {h : Heap} {a : Addr} {ps : Array Value} {cd : Value} {q : PySem.Str} (x : h.CodeRec cd q) (h4 : h.get? a = some (tab #[])) : (h.hide a).CodeRec cd q :=
  let ⟨c, o, vs, t, e, g, r1, r2⟩ := x
  ⟨c, o, vs, t, e, hide_keep g (fun q => by rw [q, h4] at g; cases g; cases r1; cases r2), r1, r2⟩
theorem top_hide {w : World} {loose : List PySem.Str} {mean : ExcName → Option Value} {mg mb : PySem.Str → Option Value} {h : Heap} (T : Top Lay.hd.view_1_40 loose mean mg mb h) (X : (Lay.hd.heap_1_39 w.params).In h)
    (h4 : h.get? 428 = some (tab #[])) : Top Lay.hd.view_1_40 loose mean mg mb (h.hide 428) where
  g := ns_hide T.g (by decide)
  b := ns_hide T.b (by decide)
  nolimit := let ⟨mc, a, b⟩ := T.nolimit; ⟨mc, ns_hide a (by decide), b⟩
  nodigits := let ⟨mc, h1, h2⟩ := T.nodigits; ⟨mc, ns_hide h1 (by decide), h2⟩
  fn := fun d hd => let ⟨a, o, pm, code, doc, h1, h2, h3, h5⟩ := T.fn d hd; ⟨a, o, pm, code, doc, h1, hide_keep h2 (fun q => by rw [q, h4] at h2; cases h2; cases h3), h3, rec_hide (ps := #[]) h5 h4⟩
  own := fun o ho => nomatch ((show ownsOf Lay.hd.view_1_40 = [] by with_unfolding_all rfl) ▸ ho)
  const := T.const
  free := T.free
  builtins := T.builtins
  tab := fun d hd => by
    obtain ⟨a, o, fd, c, P, h1, h2, h3, h5, h6, h7⟩ := T.tab d hd
    have hP : P ≠ 428 := tabFar_ne X T.g (List.all_eq_true.mp (fillHI w h X) d hd) h1 h2 h3 h5 h7
    have ha : a ≠ 428 := fun q => by rw [q, h4] at h2; cases h2; cases h3
    have hc : c ≠ 428 := fun q => by
      obtain ⟨⟨oc, vs', q1, q2, q3, q4⟩, _⟩ := h7
      rw [q, h4] at q1; cases q1; cases q2
    have K : Heap.ExtBut 428 h (h.hide 428) := fun _ _ hb e => hide_keep e hb
    exact ⟨a, o, fd, c, P, h1, hide_keep h2 ha, h3, h5, h6.extBut K hc hP, h7.extBut K hc hP⟩
  bmain := let ⟨bm, ob, h1, h2, h3, h5, r⟩ := T.bmain; ⟨bm, ob, h1, h2, hide_keep h3 (fun q => by rw [q, h4] at h3; cases h3; cases h5), h5, r⟩
  seer := fun hi => by
    have x := T.seer hi
    exact ⟨let ⟨mc, a, b⟩ := x.statics; ⟨mc, ns_hide a (by decide), b⟩, let ⟨mm, a, b⟩ := x.mods; ⟨mm, ns_hide a (by decide), b⟩, let ⟨mb, a, b⟩ := x.imp; ⟨mb, ns_hide a (by decide), b⟩,
      let ⟨mg, bm, ob, a, b, c, d, e⟩ := x.main; ⟨mg, bm, ob, ns_hide a (by decide), b, hide_keep c (fun q => by rw [q, h4] at c; cases c; cases d), d, e⟩⟩
theorem in_hide {K : Frag} {h : Heap} (X : K.In h) (e : K.lookup 428 = none) : K.In (h.hide 428) := fun b o q => hide_keep (X b o q) fun r => by rw [r, e] at q; cases q
end Mine
end TextHI

section TextCT
open PySem PySem.W PySem.Calls PyProof.Rows PySem.Spec
namespace Mine
/-- a def called from the outside; its table 428 is laid into the ledger -/
theorem code_top {w : World} {A : Around} {s : Shared} {mg mb : PySem.Str → Option Value} {loose : List PySem.Str} {mean : ExcName → Option Value}
    {R : Result → Shared → Prop} {name qual : PySem.Str} {params : Arguments} {body : List Stmt} {scope : Scope} {dV kV doc pm cdv ct oc : Value} {an od : Option Addr} {osl : Array (Option Value)} {f : Addr} {args : Args} {binds : List (PySem.Str × Value)}
    (X : (Lay.hd.heap_1_39 w.params).In s.heap) (T : Top Lay.hd.view_1_40 loose mean mg mb s.heap) (h4 : s.heap.get? 428 = some (tab #[])) (hA : A.frames = some [])
    (ho : (Lay.hd.heap_1_39 w.params).lookup f = some ⟨oc, od, .func (fnOf name qual params body scope dV kV doc pm an cdv ct), osl⟩) (hcd : codeIn (Lay.hd.heap_1_39 w.params) cdv qual = true) (hroom : A.depth < recursionLimit)
    (hbind : BindsTo s (fnOf name qual params body scope dV kV doc pm an cdv ct) args binds) (hloc : ∀ y ∈ binds, scope.names.lookup y.1 = some .local)
    (h : ∀ g h₁, g = s.heap.hide 428 → Fr g s.heap.objs.size h₁ (fun y => binds.reverse.lookup y) → News g s.heap.objs.size h₁ [(428, tab #[])] → Below A g [] g → (Lay.hd.heap_1_39 w.params).In g → Top Lay.hd.view_1_40 loose mean mg mb g →
      wpAny (model PySem.Challenge.rw_bf0005_01.row.prog w) (A.deeper (envOf qual scope s.heap.objs.size f cdv)) (execs body (envOf qual scope s.heap.objs.size f cdv))
        (fun fl s' => R (.ok (.ret (match fl with | .ret v => v | _ => .none))) s')
        (fun e s' => wpAny (model PySem.Challenge.rw_bf0005_01.row.prog w) (A.deeper (envOf qual scope s.heap.objs.size f cdv)) (leaving (envOf qual scope s.heap.objs.size f cdv) e) (fun _ s'' => R (.error e) s'') (fun e' s'' => R (.error e') s'') s')
        { s with heap := h₁, toks := s.toks + binds.length })
    (hcell : ∀ x ∈ scope.names, x.2 ≠ .cell) (hco : scope.isCoroutine = false) (hgen : scope.isGenerator = false) (hk : scope.kind = .function) : codeAny (model PySem.Challenge.rw_bf0005_01.row.prog w) A (.call (.ref f) args) R s := by
  refine codeAny_call_def (fd := fnX name qual params body scope [] dV kV doc pm an cdv ct) (body := body) (binds := binds) hroom (X _ _ ho) rfl T.nolimit (codeRec_of X hcd) rfl hbind hcell hloc (fun h₁ hns hk₁ => ?_) hco hgen hk
  refine h _ h₁ rfl ⟨hns, fun b o e => hk₁ b o (Heap.of_hide e), by rw [Heap.hide_size]; exact Nat.le_refl _⟩ (fun p hp => ?_) ⟨hA, fun _ _ e => e, trivial⟩ (in_hide X (by kernel_rfl)) (top_hide T X h4)
  rw [List.mem_singleton.mp hp]
  exact ⟨hk₁ _ _ h4, Nat.ne_of_lt (Heap.lt_size h4), Heap.hide_self _ _⟩
theorem list_hide {a : Addr} {its : Array Value} {h : Heap} (x : h.IsList a its) (h4 : h.get? 428 = some (tab #[])) : (h.hide 428).IsList a its := by
  obtain ⟨o, e, hc, r⟩ := x
  exact ⟨o, hide_keep e (fun q => by rw [q, h4] at e; cases e; cases hc), hc, r⟩
end Mine
end TextCT

section TextX1
namespace Mine
open PySem
open PySem.Sre (M Seen Loop Kept Wait ops)
noncomputable abbrev SF := PySem.Sre.Frame
/-- k steps lead there -/
noncomputable def Reach (k : Nat) (m m' : M) : Prop := ∀ n, m.runFor (n + k) = m'.runFor n
theorem Reach.trans {c d : Nat} {x y z : M} (h : Reach c x y) (g : Reach d y z) : Reach (c + d) x z := fun n => by
  rw [show n + (c + d) = (n + d) + c from by omega, h, g]
theorem Reach.one {m m' : M} (h : m.outcome = none) (e : m.step = m') : Reach 1 m m' := fun n => by
  show (if m.outcome.isSome then m else M.runFor n m.step) = _
  rw [h, e]; rfl
theorem Reach.refl (m : M) : Reach 0 m m := fun _ => rfl
theorem runFor_done {m : M} (h : m.outcome.isSome = true) : ∀ n, m.runFor n = m
  | 0 => rfl
  | n + 1 => by show (if m.outcome.isSome then m else M.runFor n m.step) = m; rw [h]; rfl
/-- what an instruction does, where nothing stands in the way -/
theorem step_exec {m : M} (ho : m.outcome = none) (ha : m.answer = none) (hp : m.pc < m.code.size) : m.step = m.exec := by
  unfold M.step
  rw [ho, ha]
  simp only [Option.isSome_none, Bool.false_eq_true, if_false, if_pos hp]
theorem step_back {m : M} {f : SF} {r : List SF} {yes : Bool} (ho : m.outcome = none) (ha : m.answer = some yes) (hf : m.frames = f :: r) :
    m.step = M.resume { m with answer := none, frames := r, weight := m.weight - (1 + f.kept.marks.size), pc := f.pc, pos := f.pos, outermost := f.outermost } f yes := by
  unfold M.step
  rw [ho, ha, hf]
  simp only [Option.isSome_none, Bool.false_eq_true, if_false]
theorem attempt_ok {m : M} {f : SF} {t p : Nat} {om : Bool} (h : m.weight + 1 + f.kept.marks.size ≤ 16777216) :
    m.attempt f t p om = { m with frames := f :: m.frames, weight := m.weight + 1 + f.kept.marks.size, pc := t, pos := p, handed := p, outermost := om } := by
  unfold M.attempt
  rw [if_neg (by omega)]
theorem exec_lit {m : M} (hop : ops[m.code.getD m.pc 0]? = some .LITERAL) :
    m.exec = if m.pos ≥ m.lim then { m with seen := m.seen.add (m.code.getD m.pc 0), answer := some false } else
      if m.text.getD m.pos 0 = m.code.getD (m.pc + 1) 0 then { m with seen := m.seen.add (m.code.getD m.pc 0), pc := m.pc + 2, pos := m.pos + 1 } else { m with seen := m.seen.add (m.code.getD m.pc 0), answer := some false } := by
  have e1 : m.word 0 = m.code.getD m.pc 0 := rfl
  unfold M.exec
  rw [e1, hop]
  dsimp only
  split
  · rfl
  · have e2 : PySem.Sre.accepts m.code m.pc (m.text.getD m.pos 0) (m.seen.add (m.code.getD m.pc 0)) = .ok (m.text.getD m.pos 0 == m.code.getD (m.pc + 1) 0, m.seen.add (m.code.getD m.pc 0)) := by
      unfold PySem.Sre.accepts
      rw [hop]
    rw [e2]
    have e3 : PySem.Sre.itemWidth m.code m.pc = 2 := by
      unfold PySem.Sre.itemWidth
      rw [hop]
    by_cases h : m.text.getD m.pos 0 = m.code.getD (m.pc + 1) 0
    · rw [if_pos h, beq_iff_eq.mpr h]
      dsimp only
      rw [e3]
    · rw [if_neg h, beq_eq_false_iff_ne.mpr h]
      rfl
theorem exec_success {m : M} (hop : ops[m.code.getD m.pc 0]? = some .SUCCESS) (h1 : m.wholeText = false) (h2 : m.pos ≠ m.start) :
    m.exec = { m with seen := m.seen.add (m.code.getD m.pc 0), handed := m.pos, answer := some true } := by
  have e1 : m.word 0 = m.code.getD m.pc 0 := rfl
  unfold M.exec
  rw [e1, hop]
  dsimp only
  rw [if_neg]
  · rfl
  · simp [h1, h2]
/-- the run of one literal, at most once -/
theorem run_one {code text : Array Nat} {i p k : Nat} {seen : Seen} (hop : ops[code.getD i 0]? = some .LITERAL) (hk : k ≤ 1) :
    PySem.Sre.run code text i k p 0 seen = .ok (if k = 1 ∧ text.getD p 0 = code.getD (i + 1) 0 then 1 else 0, seen) := by
  rcases Nat.le_one_iff_eq_zero_or_eq_one.mp hk with rfl | rfl
  · rfl
  · unfold PySem.Sre.run
    have e2 : PySem.Sre.accepts code i (text.getD p 0) seen = .ok (text.getD p 0 == code.getD (i + 1) 0, seen) := by
      unfold PySem.Sre.accepts
      rw [hop]
    rw [e2]
    by_cases h : text.getD p 0 = code.getD (i + 1) 0
    · rw [beq_iff_eq.mpr h, if_pos ⟨rfl, h⟩]
      rfl
    · rw [beq_eq_false_iff_ne.mpr h, if_neg (fun q => h q.2)]
      rfl
theorem exec_rep1 {m : M} (hop : ops[m.code.getD m.pc 0]? = some .REPEAT_ONE) (h2 : m.code.getD (m.pc + 2) 0 = 0) (h3 : m.code.getD (m.pc + 3) 0 = 1) (hl : ops[m.code.getD (m.pc + 4) 0]? = some .LITERAL) (hp : m.pos ≤ m.lim) :
    ∃ seen', m.exec = M.afterRun { m with seen := seen', pos := m.pos + (if m.pos < m.lim ∧ m.text.getD m.pos 0 = m.code.getD (m.pc + 5) 0 then 1 else 0) } .giveBack (if m.pos < m.lim ∧ m.text.getD m.pos 0 = m.code.getD (m.pc + 5) 0 then 1 else 0 : Nat) (m.keep m.inner.isSome) := by
  refine ⟨(m.seen.add (m.code.getD m.pc 0)).add (m.code.getD (m.pc + 4) 0), ?_⟩
  have e1 : m.word 0 = m.code.getD m.pc 0 := rfl
  unfold M.exec
  rw [e1, hop]
  dsimp only
  have w2 : M.word { m with seen := m.seen.add (m.code.getD m.pc 0) } 2 = 0 := h2
  have w3 : M.word { m with seen := m.seen.add (m.code.getD m.pc 0) } 3 = 1 := h3
  have w4 : M.word { m with seen := m.seen.add (m.code.getD m.pc 0) } 4 = m.code.getD (m.pc + 4) 0 := rfl
  rw [w2, w3, w4]
  rw [if_neg (by omega)]
  have hmin : min 1 ((m.lim : Int) - m.pos).toNat = if m.pos < m.lim then 1 else 0 := by
    split <;> omega
  simp only [Bool.false_eq_true, if_false]
  rw [hmin, run_one hl (by split <;> omega)]
  have key : (if (if m.pos < m.lim then 1 else 0) = 1 ∧ m.text.getD m.pos 0 = m.code.getD (m.pc + 4 + 1) 0 then 1 else 0) = (if m.pos < m.lim ∧ m.text.getD m.pos 0 = m.code.getD (m.pc + 5) 0 then 1 else 0 : Nat) := by
    by_cases h : m.pos < m.lim <;> simp [h]
  dsimp only
  rw [key, if_neg (Nat.not_lt_zero _)]
  rfl
end Mine
end TextX1

section TextX2
namespace Mine
open PySem
open PySem.Sre (M Seen Loop Kept Wait ops)
noncomputable def UC : Array Nat := #[14, 4, 0, 2, 4294967295, 23, 12, 1, 4294967295, 24, 6, 0, 1, 16, 13, 1, 16, 10, 18, 13, 6, 16, 32, 16, 9, 0, 1]
/-- the machine at the start of an attempt at place s -/
noncomputable def A0 (text : Array Nat) (ls s : Nat) (om must : Bool) (seen : Seen) : M :=
  { code := UC, text, lim := text.size, start := s, lastStart := ls, mustAdvance := must, pc := 5, pos := s, handed := s, outermost := om, marks := #[],
    frames := [{ wait := .nextStart, pc := 5, pos := s, outermost := om }], weight := 1, seen }
noncomputable def KW : PySem.Sre.Kept := { whole := true }
noncomputable def fNext (s : Nat) (om : Bool) : SF := { wait := .nextStart, pc := 5, pos := s, outermost := om }
noncomputable def fClose (s : Nat) (om : Bool) : SF := { wait := .closeLoop, pc := 5, pos := s, outermost := om, loop := 0 }
noncomputable def fBelow (s : Nat) (om : Bool) : SF := { wait := .maxBelow, pc := 19, pos := s, outermost := om, loop := 0, count := 0, began := none }
noncomputable def fGive (p : Nat) (c : Nat) (om : Bool) : SF := { wait := .giveBack, pc := 9, pos := p, outermost := om, count := c, kept := KW }
noncomputable def fMore (p : Nat) (c : Int) (bg : Option Nat) (om : Bool) : SF := { wait := .maxMore, pc := 19, pos := p, outermost := om, loop := 0, count := c, kept := KW, began := bg }
noncomputable def fTail (p : Nat) (c : Int) (om : Bool) : SF := { wait := .maxTail, pc := 19, pos := p, outermost := om, loop := 0, count := c, kept := {} }
structure MS where
  text : Array Nat
  ls : Nat
  s : Nat
  om : Bool
  must : Bool
/-- the machine in the loop -/
noncomputable def U (e : MS) (inn : Option Nat) (count : Int) (bg : Option Nat) (pc pos hd : Nat) (frames : List SF) (wt : Nat) (ans : Option Bool) (seen : Seen) : M :=
  { code := UC, text := e.text, lim := e.text.size, start := e.s, lastStart := e.ls, mustAdvance := e.must, pc := pc, pos := pos, handed := hd, outermost := e.om, marks := #[], loops := #[{ pc := 5, count := count, began := bg, outer := none }],
    «inner» := inn, frames := frames, weight := wt, answer := ans, seen := seen }
theorem ex_nil (i j : Nat) : (#[] : Array (Option Nat)).extract i j = #[] := by simp
theorem u_start (e : MS) (seen : Seen) : ∃ seen', Reach 1 (A0 e.text e.ls e.s e.om e.must seen) (U e (some 0) (-1) none 18 e.s e.s [fClose e.s e.om, fNext e.s e.om] 2 none seen') :=
  ⟨seen.add 23, Reach.one rfl (by kernel_rfl)⟩
section
variable {e : MS} {fs : List SF} {wt : Nat} {seen : Seen} {p hd : Nat} {c : Int} {bg : Option Nat}
theorem u_until0 (hw : wt + 1 ≤ 16777216) : ∃ seen', Reach 1 (U e (some 0) (-1) none 18 e.s hd fs wt none seen) (U e (some 0) 0 none 9 e.s e.s (fBelow e.s e.om :: fs) (wt + 1) none seen') := by
  refine ⟨seen.add 18, Reach.one rfl ?_⟩
  rw [step_exec rfl rfl (by show 18 < 27; decide)]
  have e1 : M.exec (U e (some 0) (-1) none 18 e.s hd fs wt none seen) = M.attempt (U e (some 0) 0 none 19 e.s hd fs wt none (seen.add 18)) (fBelow e.s e.om) 9 e.s e.om := by kernel_rfl
  rw [e1, attempt_ok (by exact hw)]
  rfl
theorem u_untilN (hw : wt + 1 ≤ 16777216) (h1 : 0 ≤ c) (hb : bg ≠ some p) : ∃ seen', Reach 1 (U e (some 0) c bg 18 p hd fs wt none seen) (U e (some 0) (c + 1) (some p) 9 p p (fMore p (c + 1) bg e.om :: fs) (wt + 1) none seen') := by
  refine ⟨seen.add 18, Reach.one rfl ?_⟩
  rw [step_exec rfl rfl (by show 18 < 27; decide)]
  have e1 : M.exec (U e (some 0) c bg 18 p hd fs wt none seen) = M.until_ (U e (some 0) c bg 19 p hd fs wt none (seen.add 18)) true := by kernel_rfl
  rw [e1]
  unfold M.until_
  have i1 : (U e (some 0) c bg 19 p hd fs wt none (seen.add 18)).inner = some 0 := rfl
  rw [i1]
  dsimp only
  have l1 : M.loopAt (U e (some 0) c bg 19 p hd fs wt none (seen.add 18)) 0 = { pc := 5, count := c, began := bg, outer := none } := rfl
  rw [l1]
  have c1 : (U e (some 0) c bg 19 p hd fs wt none (seen.add 18)).code.getD (5 + 2) 0 = 1 := rfl
  have c2 : (U e (some 0) c bg 19 p hd fs wt none (seen.add 18)).code.getD (5 + 3) 0 = 4294967295 := rfl
  have p1 : (U e (some 0) c bg 19 p hd fs wt none (seen.add 18)).pos = p := rfl
  dsimp only
  rw [c1, c2, if_neg (by omega)]
  simp only [Bool.not_true, Bool.false_eq_true, if_false]
  rw [if_pos (by rw [p1]; simp [PySem.Sre.maxRepeat, hb])]
  unfold M.round
  dsimp only
  rw [attempt_ok (by exact hw)]
  kernel_rfl
theorem u_rep (hp : p ≤ e.text.size) (hw : wt + 1 ≤ 16777216) : ∃ seen', Reach 1 (U e (some 0) c bg 9 p hd fs wt none seen)
    (U e (some 0) c bg 16 (p + if p < e.text.size ∧ e.text.getD p 0 = 13 then 1 else 0) (p + if p < e.text.size ∧ e.text.getD p 0 = 13 then 1 else 0) (fGive (p + if p < e.text.size ∧ e.text.getD p 0 = 13 then 1 else 0) (if p < e.text.size ∧ e.text.getD p 0 = 13 then 1 else 0) e.om :: fs) (wt + 1) none seen') := by
  obtain ⟨seen', h⟩ := exec_rep1 (m := U e (some 0) c bg 9 p hd fs wt none seen) rfl rfl rfl rfl hp
  refine ⟨seen', Reach.one rfl ?_⟩
  rw [step_exec rfl rfl (by show 9 < 27; decide), h]
  unfold M.afterRun
  rw [attempt_ok (by exact hw)]
  rfl
theorem u_nl (hp : p < e.text.size) (hc : e.text.getD p 0 = 10) : ∃ seen', Reach 1 (U e (some 0) c bg 16 p hd fs wt none seen) (U e (some 0) c bg 18 (p + 1) hd fs wt none seen') := by
  refine ⟨seen.add 16, Reach.one rfl ?_⟩
  rw [step_exec rfl rfl (by show 16 < 27; decide), exec_lit rfl, if_neg (by show ¬ p ≥ e.text.size; omega), if_pos (by show e.text.getD p 0 = 10; exact hc)]
  rfl
theorem u_nlNo (hc : ¬ (p < e.text.size ∧ e.text.getD p 0 = 10)) : ∃ seen', Reach 1 (U e (some 0) c bg 16 p hd fs wt none seen) (U e (some 0) c bg 16 p hd fs wt (some false) seen') := by
  refine ⟨seen.add 16, Reach.one rfl ?_⟩
  rw [step_exec rfl rfl (by show 16 < 27; decide), exec_lit rfl]
  by_cases hp : p < e.text.size
  · rw [if_neg (by show ¬ p ≥ e.text.size; omega), if_neg (by show ¬ e.text.getD p 0 = 10; exact fun q => hc ⟨hp, q⟩)]
    rfl
  · rw [if_pos (by show p ≥ e.text.size; omega)]
    rfl
/-- the set of blank and tab -/
theorem in_ws {x : Nat} {sn : Seen} : ∃ sn', PySem.Sre.inSet UC x UC.size 21 true sn = .ok (x == 32 || x == 9, sn') := by
  by_cases h1 : x = 32
  · subst h1; exact ⟨_, rfl⟩
  · by_cases h2 : x = 9
    · subst h2; exact ⟨_, rfl⟩
    · have e1 : (x == 32) = false := beq_eq_false_iff_ne.mpr h1
      have e2 : (x == 9) = false := beq_eq_false_iff_ne.mpr h2
      refine ⟨((sn.add 16).add 16).add 0, ?_⟩
      rw [e1, e2]
      show (if (x == 32) = true then Except.ok (true, _) else if (x == 9) = true then Except.ok (true, _) else Except.ok (false, _)) = _
      rw [e1, e2]
      rfl
theorem exec_in {inn : Option Nat} : ∃ seen', (U e inn c bg 19 p hd fs wt none seen).exec =
    if p < e.text.size ∧ (e.text.getD p 0 = 32 ∨ e.text.getD p 0 = 9) then U e inn c bg 26 (p + 1) hd fs wt none seen' else U e inn c bg 19 p hd fs wt (some false) seen' := by
  by_cases hp : p < e.text.size
  · obtain ⟨sn', h⟩ := in_ws (x := e.text.getD p 0) (sn := seen.add 13)
    refine ⟨sn', ?_⟩
    have hex : (U e inn c bg 19 p hd fs wt none seen).exec = (if p ≥ e.text.size then M.say (U e inn c bg 19 p hd fs wt none (seen.add 13)) false else
        match PySem.Sre.inSet UC (e.text.getD p 0) UC.size 21 true (seen.add 13) with
        | .error why => M.stick (U e inn c bg 19 p hd fs wt none (seen.add 13)) why
        | .ok (false, sn) => M.say (U e inn c bg 19 p hd fs wt none sn) false
        | .ok (true, sn) => { U e inn c bg 19 p hd fs wt none sn with pc := 26, pos := p + 1 }) := by kernel_rfl
    rw [hex, if_neg (by omega), h]
    by_cases hq : e.text.getD p 0 = 32 ∨ e.text.getD p 0 = 9
    · rw [if_pos ⟨hp, hq⟩]
      have : (e.text.getD p 0 == 32 || e.text.getD p 0 == 9) = true := by simpa using hq
      rw [this]
      rfl
    · rw [if_neg (fun q => hq q.2)]
      have : (e.text.getD p 0 == 32 || e.text.getD p 0 == 9) = false := by simpa using hq
      rw [this]
      rfl
  · refine ⟨seen.add 13, ?_⟩
    have hex : (U e inn c bg 19 p hd fs wt none seen).exec = (if p ≥ e.text.size then M.say (U e inn c bg 19 p hd fs wt none (seen.add 13)) false else
        match PySem.Sre.inSet UC (e.text.getD p 0) UC.size 21 true (seen.add 13) with
        | .error why => M.stick (U e inn c bg 19 p hd fs wt none (seen.add 13)) why
        | .ok (false, sn) => M.say (U e inn c bg 19 p hd fs wt none sn) false
        | .ok (true, sn) => { U e inn c bg 19 p hd fs wt none sn with pc := 26, pos := p + 1 }) := by kernel_rfl
    rw [hex, if_pos (by omega), if_neg (fun q => hp q.1)]
    rfl
theorem u_in {inn : Option Nat} (hp : p < e.text.size) (hc : e.text.getD p 0 = 32 ∨ e.text.getD p 0 = 9) : ∃ seen', Reach 1 (U e inn c bg 19 p hd fs wt none seen) (U e inn c bg 26 (p + 1) hd fs wt none seen') := by
  obtain ⟨sn, h⟩ := exec_in (e := e) (fs := fs) (wt := wt) (seen := seen) (p := p) (hd := hd) (c := c) (bg := bg) (inn := inn)
  exact ⟨sn, Reach.one rfl (by rw [step_exec rfl rfl (by show 19 < 27; decide), h, if_pos ⟨hp, hc⟩])⟩
theorem u_inNo {inn : Option Nat} (hc : ¬ (p < e.text.size ∧ (e.text.getD p 0 = 32 ∨ e.text.getD p 0 = 9))) : ∃ seen', Reach 1 (U e inn c bg 19 p hd fs wt none seen) (U e inn c bg 19 p hd fs wt (some false) seen') := by
  obtain ⟨sn, h⟩ := exec_in (e := e) (fs := fs) (wt := wt) (seen := seen) (p := p) (hd := hd) (c := c) (bg := bg) (inn := inn)
  exact ⟨sn, Reach.one rfl (by rw [step_exec rfl rfl (by show 19 < 27; decide), h, if_neg hc])⟩
theorem u_success {inn : Option Nat} (hp : p ≠ e.s) : ∃ seen', Reach 1 (U e inn c bg 26 p hd fs wt none seen) (U e inn c bg 26 p p fs wt (some true) seen') :=
  ⟨seen.add 1, Reach.one rfl (by rw [step_exec rfl rfl (by show 26 < 27; decide), exec_success rfl rfl hp]; rfl)⟩
-- the frames, upon no
theorem r_give0 {inn : Option Nat} {pc p' q : Nat} : Reach 1 (U e inn c bg pc p' hd (fGive q 0 e.om :: fs) (wt + 1) (some false) seen) (U e inn c bg 9 q hd fs wt (some false) seen) :=
  Reach.one rfl (by rw [step_back rfl rfl rfl]; kernel_rfl)
theorem r_give1 {pc p' q : Nat} (hw : wt + 1 ≤ 16777216) : Reach 1 (U e (some 0) c bg pc p' hd (fGive (q + 1) 1 e.om :: fs) (wt + 1) (some false) seen) (U e (some 0) c bg 16 q q (fGive q 0 e.om :: fs) (wt + 1) none seen) :=
  Reach.one rfl (by
    rw [step_back rfl rfl rfl]
    have e1 : M.resume { U e (some 0) c bg pc p' hd (fGive (q + 1) 1 e.om :: fs) (wt + 1) (some false) seen with answer := none, frames := fs, weight := (wt + 1) - (1 + (fGive (q + 1) 1 e.om).kept.marks.size), pc := 9, pos := q + 1, outermost := e.om } (fGive (q + 1) 1 e.om) false
      = M.attempt (U e (some 0) c bg 9 q hd fs wt none seen) (fGive q 0 e.om) 16 q e.om := by kernel_rfl
    refine Eq.trans e1 ?_
    rw [attempt_ok (by exact hw)]
    rfl)
theorem r_below {pc p' : Nat} {inn : Option Nat} : Reach 1 (U e inn c bg pc p' hd (fBelow e.s e.om :: fs) (wt + 1) (some false) seen) (U e inn (-1) bg 19 e.s hd fs wt (some false) seen) :=
  Reach.one rfl (by rw [step_back rfl rfl rfl]; kernel_rfl)
theorem r_more {pc p' q : Nat} {k : Int} {b0 : Option Nat} (hw : wt + 1 ≤ 16777216) : Reach 1 (U e (some 0) c bg pc p' hd (fMore q (k + 1) b0 e.om :: fs) (wt + 1) (some false) seen) (U e none (k + 1 - 1) b0 19 q q (fTail q (k + 1) e.om :: fs) (wt + 1) none seen) :=
  Reach.one rfl (by
    rw [step_back rfl rfl rfl]
    have e1 : M.resume { U e (some 0) c bg pc p' hd (fMore q (k + 1) b0 e.om :: fs) (wt + 1) (some false) seen with answer := none, frames := fs, weight := (wt + 1) - (1 + (fMore q (k + 1) b0 e.om).kept.marks.size), pc := 19, pos := q, outermost := e.om } (fMore q (k + 1) b0 e.om) false
      = M.attempt (U e none (k + 1 - 1) b0 19 q hd fs wt none seen) (fTail q (k + 1) e.om) 19 q e.om := by kernel_rfl
    refine Eq.trans e1 ?_
    rw [attempt_ok (by exact hw)]
    rfl)
theorem r_tail {pc p' q : Nat} {k : Int} : Reach 1 (U e none c bg pc p' hd (fTail q k e.om :: fs) (wt + 1) (some false) seen) (U e (some 0) c bg 19 q hd fs wt (some false) seen) :=
  Reach.one rfl (by rw [step_back rfl rfl rfl]; kernel_rfl)
-- the frames, upon yes
theorem y_give {inn : Option Nat} {pc p' q k : Nat} : Reach 1 (U e inn c bg pc p' hd (fGive q k e.om :: fs) (wt + 1) (some true) seen) (U e inn c bg 9 q hd fs wt (some true) seen) :=
  Reach.one rfl (by rw [step_back rfl rfl rfl]; kernel_rfl)
theorem y_below {inn : Option Nat} {pc p' : Nat} : Reach 1 (U e inn c bg pc p' hd (fBelow e.s e.om :: fs) (wt + 1) (some true) seen) (U e inn c bg 19 e.s hd fs wt (some true) seen) :=
  Reach.one rfl (by rw [step_back rfl rfl rfl]; kernel_rfl)
theorem y_more {inn : Option Nat} {pc p' q : Nat} {k : Int} {b0 : Option Nat} : Reach 1 (U e inn c bg pc p' hd (fMore q k b0 e.om :: fs) (wt + 1) (some true) seen) (U e inn c b0 19 q hd fs wt (some true) seen) :=
  Reach.one rfl (by rw [step_back rfl rfl rfl]; kernel_rfl)
theorem y_tail {pc p' q : Nat} {k : Int} : Reach 1 (U e none c bg pc p' hd (fTail q k e.om :: fs) (wt + 1) (some true) seen) (U e (some 0) c bg 19 q hd fs wt (some true) seen) :=
  Reach.one rfl (by rw [step_back rfl rfl rfl]; kernel_rfl)
end
end Mine
end TextX2

section TextX3
namespace Mine
open PySem
open PySem.Sre (M Seen Loop Wait ops)
/-- behind the loop's frame -/
noncomputable def V (e : MS) (pc pos hd : Nat) (frames : List SF) (wt : Nat) (ans : Option Bool) (seen : Seen) : M :=
  { code := UC, text := e.text, lim := e.text.size, start := e.s, lastStart := e.ls, mustAdvance := e.must, pc := pc, pos := pos, handed := hd, outermost := e.om, marks := #[], loops := #[],
    frames := frames, weight := wt, answer := ans, seen := seen }
noncomputable def Vout (e : MS) (hd : Nat) (o : PySem.Sre.Outcome) (yes : Bool) (seen : Seen) : M :=
  { code := UC, text := e.text, lim := e.text.size, start := e.s, lastStart := e.ls, mustAdvance := e.must, pc := 5, pos := e.s, handed := hd, outermost := e.om, marks := #[], loops := #[],
    frames := [], weight := 0, answer := some yes, seen := seen, outcome := some o }
/-- stacks of the frames that a loop lays -/
inductive Stk (e : MS) : List SF → Nat → Prop
  | base : Stk e [fClose e.s e.om, fNext e.s e.om] 2
  | lo (gs : List SF) (v : Nat) : Stk e gs v → Stk e (fBelow e.s e.om :: gs) (v + 1)
  | give (gs : List SF) (v q k : Nat) : Stk e gs v → Stk e (fGive q k e.om :: gs) (v + 1)
  | more (gs : List SF) (v q : Nat) (k : Int) (b0 : Option Nat) : Stk e gs v → Stk e (fMore q k b0 e.om :: gs) (v + 1)
section
variable {e : MS} {fs : List SF} {wt : Nat} {seen : Seen} {p hd : Nat} {c : Int} {bg : Option Nat}
theorem r_close {pc : Nat} {yes : Bool} : Reach 1 (U e (some 0) c bg pc p hd [fClose e.s e.om, fNext e.s e.om] 2 (some yes) seen) (V e 5 e.s hd [fNext e.s e.om] 1 (some yes) seen) :=
  Reach.one rfl (by rw [step_back rfl rfl rfl]; kernel_rfl)
theorem v_next (h : e.s < e.ls) : Reach 1 (V e 5 e.s hd [fNext e.s e.om] 1 (some false) seen) (A0 e.text e.ls (e.s + 1) false false seen) :=
  Reach.one rfl (by
    rw [step_back rfl rfl rfl]
    have e1 : M.resume { V e 5 e.s hd [fNext e.s e.om] 1 (some false) seen with answer := none, frames := [], weight := 1 - (1 + (fNext e.s e.om).kept.marks.size), pc := 5, pos := e.s, outermost := e.om } (fNext e.s e.om) false
      = if e.s < e.ls then A0 e.text e.ls (e.s + 1) false false seen else M.say { V e 5 e.s hd [] 0 none seen with answer := none } false := by kernel_rfl
    refine Eq.trans e1 ?_
    rw [if_pos h])
theorem v_end (h : ¬ e.s < e.ls) : Reach 2 (V e 5 e.s hd [fNext e.s e.om] 1 (some false) seen) (Vout e hd .failed false seen) := by
  have a : Reach 1 (V e 5 e.s hd [fNext e.s e.om] 1 (some false) seen) (V e 5 e.s hd [] 0 (some false) seen) := Reach.one rfl (by
    rw [step_back rfl rfl rfl]
    have e1 : M.resume { V e 5 e.s hd [fNext e.s e.om] 1 (some false) seen with answer := none, frames := [], weight := 1 - (1 + (fNext e.s e.om).kept.marks.size), pc := 5, pos := e.s, outermost := e.om } (fNext e.s e.om) false
      = if e.s < e.ls then A0 e.text e.ls (e.s + 1) false false seen else V e 5 e.s hd [] 0 (some false) seen := by kernel_rfl
    refine Eq.trans e1 ?_
    rw [if_neg h])
  exact a.trans (Reach.one rfl (by kernel_rfl))
theorem v_yes : Reach 2 (V e 5 e.s hd [fNext e.s e.om] 1 (some true) seen) (Vout e hd .matched true seen) := by
  have a : Reach 1 (V e 5 e.s hd [fNext e.s e.om] 1 (some true) seen) (V e 5 e.s hd [] 0 (some true) seen) := Reach.one rfl (by
    rw [step_back rfl rfl rfl]
    kernel_rfl)
  exact a.trans (Reach.one rfl (by kernel_rfl))
/-- no line end at p -/
noncomputable def NoNl (e : MS) (p : Nat) : Prop := ¬ (p < e.text.size ∧ e.text.getD p 0 = 13) ∧ ¬ (p < e.text.size ∧ e.text.getD p 0 = 10)
theorem round_no (hp : p ≤ e.text.size) (hw : wt + 1 ≤ 16777216) (h : NoNl e p) : ∃ hd' seen', Reach 3 (U e (some 0) c bg 9 p hd fs wt none seen) (U e (some 0) c bg 9 p hd' fs wt (some false) seen') := by
  obtain ⟨s1, h1⟩ := u_rep (c := c) (bg := bg) (hd := hd) (fs := fs) (seen := seen) hp hw
  rw [if_neg h.1] at h1
  obtain ⟨s2, h2⟩ := u_nlNo (e := e) (fs := fGive p 0 e.om :: fs) (wt := wt + 1) (seen := s1) (p := p) (hd := p) (c := c) (bg := bg) h.2
  exact ⟨p, s2, (h1.trans h2).trans r_give0⟩
/-- the end of an attempt that fails before its first unit is whole -/
theorem attempt_no (hp : e.s ≤ e.text.size) (h : NoNl e e.s) : ∃ hd' seen' k, k ≤ 20 ∧ Reach k (A0 e.text e.ls e.s e.om e.must seen) (V e 5 e.s hd' [fNext e.s e.om] 1 (some false) seen') := by
  obtain ⟨s1, h1⟩ := u_start e seen
  obtain ⟨s2, h2⟩ := u_until0 (e := e) (fs := [fClose e.s e.om, fNext e.s e.om]) (wt := 2) (seen := s1) (hd := e.s) (by omega)
  obtain ⟨hd', s3, h3⟩ := round_no (e := e) (c := 0) (bg := none) (hd := e.s) (fs := [fBelow e.s e.om, fClose e.s e.om, fNext e.s e.om]) (seen := s2) (wt := 3) hp (by omega) h
  exact ⟨hd', s3, _, by omega, (((h1.trans h2).trans h3).trans (r_below (wt := 2))).trans r_close⟩
/-- a line end -/
noncomputable def isUnit (u : List Nat) : Prop := u = [10] ∨ u = [13, 10]
/-- the text holds l at p -/
noncomputable def At (t : Array Nat) (p : Nat) (l : List Nat) : Prop := ∀ i (h : i < l.length), p + i < t.size ∧ t.getD (p + i) 0 = l[i]
theorem At.head {t : Array Nat} {p x : Nat} {l : List Nat} (h : At t p (x :: l)) : p < t.size ∧ t.getD p 0 = x := h 0 (by simp)
theorem At.tail {t : Array Nat} {p x : Nat} {l : List Nat} (h : At t p (x :: l)) : At t (p + 1) l := fun i hi => by
  have := h (i + 1) (by simp; omega)
  rw [show p + 1 + i = p + (i + 1) from by omega]
  simpa using this
theorem At.left {t : Array Nat} {p : Nat} {a b : List Nat} (h : At t p (a ++ b)) : At t p a := fun i hi => by
  have := h i (by simp; omega)
  rw [List.getElem_append_left hi] at this
  exact this
theorem At.right {t : Array Nat} {p : Nat} {a b : List Nat} (h : At t p (a ++ b)) : At t (p + a.length) b := fun i hi => by
  have := h (a.length + i) (by simp; omega)
  rw [List.getElem_append_right (by omega)] at this
  rw [show p + a.length + i = p + (a.length + i) from by omega]
  simpa using this
theorem round_unit {u : List Nat} (hu : isUnit u) (h : At e.text p u) (hw : wt + 1 ≤ 16777216) : ∃ seen', Reach 2 (U e (some 0) c bg 9 p hd fs wt none seen) (U e (some 0) c bg 18 (p + u.length) (p + (u.length - 1)) (fGive (p + (u.length - 1)) (u.length - 1) e.om :: fs) (wt + 1) none seen') := by
  rcases hu with rfl | rfl
  · have h0 := h.head
    obtain ⟨s1, h1⟩ := u_rep (c := c) (bg := bg) (hd := hd) (fs := fs) (seen := seen) (Nat.le_of_lt h0.1) hw
    rw [if_neg (by rw [h0.2]; omega)] at h1
    obtain ⟨s2, h2⟩ := u_nl (e := e) (fs := fGive p 0 e.om :: fs) (wt := wt + 1) (seen := s1) (hd := p) (c := c) (bg := bg) h0.1 h0.2
    exact ⟨s2, h1.trans h2⟩
  · have h0 := h.head
    have h1' := h.tail.head
    obtain ⟨s1, h1⟩ := u_rep (c := c) (bg := bg) (hd := hd) (fs := fs) (seen := seen) (Nat.le_of_lt h0.1) hw
    rw [if_pos h0] at h1
    obtain ⟨s2, h2⟩ := u_nl (e := e) (fs := fGive (p + 1) 1 e.om :: fs) (wt := wt + 1) (seen := s1) (hd := p + 1) (c := c) (bg := bg) h1'.1 h1'.2
    exact ⟨s2, h1.trans h2⟩
theorem Stk.yes {fs : List SF} {wt : Nat} (h : Stk e fs wt) : ∀ {c : Int} {bg : Option Nat} {pc p : Nat}, ∃ k, k + 1 ≤ wt ∧ Reach k (U e (some 0) c bg pc p hd fs wt (some true) seen) (V e 5 e.s hd [fNext e.s e.om] 1 (some true) seen) := by
  induction h with
  | base => intros; exact ⟨1, by omega, r_close⟩
  | lo _ _ _ ih => intro c bg _ _; obtain ⟨k, hk, r⟩ := @ih c bg 19 e.s; exact ⟨1 + k, by omega, y_below.trans r⟩
  | give _ _ q _ _ ih => intro c bg _ _; obtain ⟨k, hk, r⟩ := @ih c bg 9 q; exact ⟨1 + k, by omega, y_give.trans r⟩
  | more _ _ q _ b0 _ ih => intro c _ _ _; obtain ⟨k, hk, r⟩ := @ih c b0 19 q; exact ⟨1 + k, by omega, y_more.trans r⟩
/-- from the loop's end on: more units, then a blank or a tab -/
theorem units_yes : ∀ (us : List (List Nat)) {p : Nat} {c : Int} {bg : Option Nat} {fs : List SF} {wt hd : Nat} {seen : Seen} {x : Nat}, (∀ u ∈ us, isUnit u) → At e.text p (us.flatten ++ [x]) → (x = 32 ∨ x = 9) → Stk e fs wt → wt + 2 * us.length + 2 ≤ 16777216 → 0 ≤ c → (∀ q, bg = some q → q < p) → e.s < p →
    ∃ seen' k, k ≤ wt + 6 * us.length + 20 ∧ Reach k (U e (some 0) c bg 18 p hd fs wt none seen) (V e 5 e.s (p + us.flatten.length + 1) [fNext e.s e.om] 1 (some true) seen')
  | [], p, c, bg, fs, wt, hd, seen, x, _, hA, hx, hS, hw, hc, hb, hs => by
    have h0 := hA.head
    simp only [List.flatten_nil, List.length_nil, Nat.mul_zero, Nat.add_zero] at hw ⊢
    obtain ⟨s1, h1⟩ := u_untilN (e := e) (c := c) (bg := bg) (p := p) (hd := hd) (fs := fs) (wt := wt) (seen := seen) (by omega) hc (fun q => Nat.lt_irrefl _ (hb _ q))
    obtain ⟨hd', s2, h2⟩ := round_no (e := e) (c := c + 1) (bg := some p) (hd := p) (fs := fMore p (c + 1) bg e.om :: fs) (seen := s1) (wt := wt + 1) (p := p) (by omega) (by omega) ⟨by rw [h0.2]; omega, by rw [h0.2]; omega⟩
    have h3 : Reach 1 (U e (some 0) (c + 1) (some p) 9 p hd' (fMore p (c + 1) bg e.om :: fs) (wt + 1) (some false) s2) _ := r_more (by omega)
    obtain ⟨s4, h4⟩ := u_in (e := e) (c := c + 1 - 1) (bg := bg) (p := p) (hd := p) (fs := fTail p (c + 1) e.om :: fs) (wt := wt + 1) (seen := s2) (inn := none) h0.1 (by rw [h0.2]; exact hx)
    obtain ⟨s5, h5⟩ := u_success (e := e) (c := c + 1 - 1) (bg := bg) (p := p + 1) (hd := p) (fs := fTail p (c + 1) e.om :: fs) (wt := wt + 1) (seen := s4) (inn := none) (by omega)
    obtain ⟨k, hk, h7⟩ := hS.yes (hd := p + 1) (seen := s5) (c := c + 1 - 1) (bg := bg) (pc := 19) (p := p)
    exact ⟨s5, _, by omega, (((((h1.trans h2).trans h3).trans h4).trans h5).trans y_tail).trans h7⟩
  | u :: us, p, c, bg, fs, wt, hd, seen, x, hu, hA, hx, hS, hw, hc, hb, hs => by
    have hu0 := hu u (.head _)
    rw [List.flatten_cons, List.append_assoc] at hA
    have hul : 1 ≤ u.length := by rcases hu0 with rfl | rfl <;> simp
    simp only [List.length_cons] at hw
    obtain ⟨s1, h1⟩ := u_untilN (e := e) (c := c) (bg := bg) (p := p) (hd := hd) (fs := fs) (wt := wt) (seen := seen) (by omega) hc (fun q => Nat.lt_irrefl _ (hb _ q))
    obtain ⟨s2, h2⟩ := round_unit (e := e) (c := c + 1) (bg := some p) (hd := p) (fs := fMore p (c + 1) bg e.om :: fs) (seen := s1) (wt := wt + 1) hu0 hA.left (by omega)
    obtain ⟨s3, k, hk, h3⟩ := units_yes us (p := p + u.length) (c := c + 1) (bg := some p) (hd := p + (u.length - 1)) (seen := s2) (fun v hv => hu v (.tail _ hv)) hA.right hx (.give _ _ _ _ (.more _ _ _ _ _ hS)) (by omega) (by omega) (fun q hq => by cases hq; omega) (by omega)
    refine ⟨s3, 1 + 2 + k, by simp only [List.length_cons]; omega, ?_⟩
    have := (h1.trans h2).trans h3
    rw [List.flatten_cons, List.length_append, ← Nat.add_assoc p]
    exact this
end
/-- a fold at the attempt's own place is found -/
theorem attempt_yes {e : MS} {seen : Seen} {us : List (List Nat)} {x : Nat} (hne : us ≠ []) (hu : ∀ u ∈ us, isUnit u) (hA : At e.text e.s (us.flatten ++ [x])) (hx : x = 32 ∨ x = 9) (hl : us.length ≤ 1000) :
    ∃ seen' k, k ≤ 10000 ∧ Reach k (A0 e.text e.ls e.s e.om e.must seen) (Vout e (e.s + us.flatten.length + 1) .matched true seen') := by
  obtain ⟨u, us, rfl⟩ := List.exists_cons_of_ne_nil hne
  have hu0 := hu u (.head _)
  have hul : 1 ≤ u.length := by rcases hu0 with rfl | rfl <;> simp
  rw [List.flatten_cons, List.append_assoc] at hA
  simp only [List.length_cons] at hl
  obtain ⟨s1, h1⟩ := u_start e seen
  obtain ⟨s2, h2⟩ := u_until0 (e := e) (fs := [fClose e.s e.om, fNext e.s e.om]) (wt := 2) (seen := s1) (hd := e.s) (by omega)
  obtain ⟨s3, h3⟩ := round_unit (e := e) (c := 0) (bg := none) (hd := e.s) (fs := [fBelow e.s e.om, fClose e.s e.om, fNext e.s e.om]) (seen := s2) (wt := 3) hu0 hA.left (by omega)
  obtain ⟨s4, k, hk, h4⟩ := units_yes us (e := e) (p := e.s + u.length) (c := 0) (bg := none) (hd := e.s + (u.length - 1)) (seen := s3) (fun v hv => hu v (.tail _ hv)) hA.right hx (.give _ _ _ _ (.lo _ _ .base)) (by omega) (by omega) (fun q hq => by cases hq) (by omega)
  refine ⟨s4, 1 + 1 + 2 + k + 2, by omega, ?_⟩
  have := (((h1.trans h2).trans h3).trans h4).trans v_yes
  rw [List.flatten_cons, List.length_append, ← Nat.add_assoc e.s]
  exact this
/-- a line end with no blank behind it: the attempt falls -/
theorem attempt_unit_no {e : MS} {seen : Seen} {u : List Nat} (hu : isUnit u) (hA : At e.text e.s u) (hn : NoNl e (e.s + u.length)) (hw : ¬ (e.s + u.length < e.text.size ∧ (e.text.getD (e.s + u.length) 0 = 32 ∨ e.text.getD (e.s + u.length) 0 = 9))) :
    ∃ hd' seen' k, k ≤ 20 ∧ Reach k (A0 e.text e.ls e.s e.om e.must seen) (V e 5 e.s hd' [fNext e.s e.om] 1 (some false) seen') := by
  have hul : 1 ≤ u.length := by rcases hu with rfl | rfl <;> simp
  have hsz : e.s + u.length ≤ e.text.size := by
    have := (hA (u.length - 1) (by omega)).1
    omega
  obtain ⟨s1, h1⟩ := u_start e seen
  obtain ⟨s2, h2⟩ := u_until0 (e := e) (fs := [fClose e.s e.om, fNext e.s e.om]) (wt := 2) (seen := s1) (hd := e.s) (by omega)
  obtain ⟨s3, h3⟩ := round_unit (e := e) (c := 0) (bg := none) (hd := e.s) (fs := [fBelow e.s e.om, fClose e.s e.om, fNext e.s e.om]) (seen := s2) (wt := 3) hu hA (by omega)
  obtain ⟨s4, h4⟩ := u_untilN (e := e) (c := 0) (bg := none) (p := e.s + u.length) (hd := e.s + (u.length - 1)) (fs := [fGive (e.s + (u.length - 1)) (u.length - 1) e.om, fBelow e.s e.om, fClose e.s e.om, fNext e.s e.om]) (wt := 4) (seen := s3) (by omega) (by omega) (fun q => by cases q)
  obtain ⟨hd', s5, h5⟩ := round_no (e := e) (c := 0 + 1) (bg := some (e.s + u.length)) (hd := e.s + u.length) (fs := [fMore (e.s + u.length) (0 + 1) none e.om, fGive (e.s + (u.length - 1)) (u.length - 1) e.om, fBelow e.s e.om, fClose e.s e.om, fNext e.s e.om]) (seen := s4) (wt := 5) (p := e.s + u.length) hsz (by omega) hn
  have h6 : Reach 1 (U e (some 0) (0 + 1) (some (e.s + u.length)) 9 (e.s + u.length) hd' [fMore (e.s + u.length) (0 + 1) none e.om, fGive (e.s + (u.length - 1)) (u.length - 1) e.om, fBelow e.s e.om, fClose e.s e.om, fNext e.s e.om] (4 + 1) (some false) s5) _ := r_more (by omega)
  obtain ⟨s7, h7⟩ := u_inNo (e := e) (c := 0 + 1 - 1) (bg := none) (p := e.s + u.length) (hd := e.s + u.length) (fs := [fTail (e.s + u.length) (0 + 1) e.om, fGive (e.s + (u.length - 1)) (u.length - 1) e.om, fBelow e.s e.om, fClose e.s e.om, fNext e.s e.om]) (wt := 5) (seen := s5) (inn := none) hw
  have h8 := (((((h1.trans h2).trans h3).trans h4).trans h5).trans h6).trans h7
  have h9 := h8.trans (r_tail (wt := 4))
  rcases hu with rfl | rfl
  · exact ⟨_, _, _, by omega, ((h9.trans (r_give0 (wt := 3))).trans (r_below (wt := 2))).trans r_close⟩
  · have h10 := h9.trans (r_give1 (wt := 3) (q := e.s) (by omega))
    obtain ⟨s11, h11⟩ := u_nlNo (e := e) (fs := [fGive e.s 0 e.om, fBelow e.s e.om, fClose e.s e.om, fNext e.s e.om]) (wt := 4) (seen := s7) (p := e.s) (hd := e.s) (c := 0 + 1 - 1) (bg := none) (by rw [hA.head.2]; omega)
    exact ⟨_, _, _, by omega, (((h10.trans h11).trans (r_give0 (wt := 3))).trans (r_below (wt := 2))).trans r_close⟩
/-- what a search gives -/
noncomputable def Finds (code text : Array Nat) (pos : Nat) (r : Option (Nat × Nat)) : Prop :=
  ∃ m k, k ≤ 100 * text.size + 100000 ∧ Reach k (PySem.Sre.forSearch code text 0 pos text.size false) m ∧ match r with
    | some (a, b) => m.outcome = some .matched ∧ m.start = a ∧ m.handed = b
    | none => m.outcome = some .failed
theorem search_start {text : Array Nat} {pos : Nat} (h : pos + 2 ≤ text.size) : PySem.Sre.forSearch UC text 0 pos text.size false = A0 text (max pos (text.size - 1)) pos true false (({} : Seen).add 14) := by
  unfold PySem.Sre.forSearch
  have hh : PySem.Sre.header UC = (2, 5) := rfl
  simp only [hh]
  rw [if_neg (by simp; omega)]
  kernel_rfl
theorem search_short {text : Array Nat} {pos : Nat} (h : text.size < pos + 2) : Finds UC text pos none := by
  have : ∃ m, PySem.Sre.forSearch UC text 0 pos text.size false = m ∧ m.outcome = none ∧ m.answer = some false ∧ m.frames = [] := by
    unfold PySem.Sre.forSearch
    have hh : PySem.Sre.header UC = (2, 5) := rfl
    simp only [hh]
    rw [if_pos (by simp; omega)]
    exact ⟨_, rfl, rfl, rfl, rfl⟩
  obtain ⟨m, e, ho, ha, hf⟩ := this
  refine ⟨m.step, 1, by omega, by rw [e]; exact Reach.one ho rfl, ?_⟩
  unfold M.step
  rw [ho, ha, hf]
  rfl
end Mine
end TextX3

section TextX4
namespace Mine
open PySem
open PySem.Sre (M Seen Loop Wait ops)
noncomputable def FailsAt (t : Array Nat) (s : Nat) : Prop := ∀ ls om must seen, ∃ hd' seen' k, k ≤ 20 ∧ Reach k (A0 t ls s om must seen) (V ⟨t, ls, s, om, must⟩ 5 s hd' [fNext s om] 1 (some false) seen')
theorem fails_plain {t : Array Nat} {s : Nat} (hs : s ≤ t.size) (h1 : ¬ (s < t.size ∧ t.getD s 0 = 13)) (h2 : ¬ (s < t.size ∧ t.getD s 0 = 10)) : FailsAt t s := fun ls om must _ =>
  attempt_no (e := ⟨t, ls, s, om, must⟩) hs ⟨h1, h2⟩
theorem fails_unit {t : Array Nat} {s : Nat} {u : List Nat} (hu : isUnit u) (hA : At t s u) (hn : ∀ c ∈ [13, 10, 32, 9], ¬ (s + u.length < t.size ∧ t.getD (s + u.length) 0 = c)) : FailsAt t s := fun ls om must _ =>
  attempt_unit_no (e := ⟨t, ls, s, om, must⟩) hu hA ⟨hn 13 (by simp), hn 10 (by simp)⟩ (fun q => q.2.elim (fun h => hn 32 (by simp) ⟨q.1, h⟩) fun h => hn 9 (by simp) ⟨q.1, h⟩)
theorem skip {t : Array Nat} {ls : Nat} : ∀ (k s : Nat) (om must : Bool) (seen : Seen), (∀ i, s ≤ i → i < s + k → FailsAt t i) → s + k ≤ ls → ∃ om' must' seen' j, j ≤ 30 * k ∧ Reach j (A0 t ls s om must seen) (A0 t ls (s + k) om' must' seen')
  | 0, s, om, must, seen, _, _ => ⟨om, must, seen, 0, by omega, Reach.refl _⟩
  | k + 1, s, om, must, seen, h, hl => by
    obtain ⟨hd', s1, k1, hk1, h1⟩ := h s (Nat.le_refl _) (by omega) ls om must seen
    have h2 := h1.trans (v_next (e := ⟨t, ls, s, om, must⟩) (by show s < ls; omega))
    obtain ⟨om', must', s2, k2, hk2, h3⟩ := skip (t := t) (ls := ls) k (s + 1) false false s1 (fun i a b => h i (Nat.le_of_succ_le a) (by omega)) (by omega)
    exact ⟨om', must', s2, k1 + 1 + k2, by omega, by rw [show s + (k + 1) = s + 1 + k from by omega]; exact h2.trans h3⟩
theorem finds_none {t : Array Nat} {pos : Nat} (h : ∀ i, pos ≤ i → i < t.size → FailsAt t i) : Finds UC t pos none := by
  by_cases hs : t.size < pos + 2
  · exact search_short hs
  · have e := search_start (text := t) (pos := pos) (by omega)
    have hm : max pos (t.size - 1) = t.size - 1 := by omega
    obtain ⟨om', must', s1, k1, hk1, h1⟩ := skip (t := t) (ls := max pos (t.size - 1)) (t.size - 1 - pos) pos true false (({} : Seen).add 14) (fun i a b => h i a (by omega)) (by omega)
    rw [show pos + (t.size - 1 - pos) = t.size - 1 from by omega] at h1
    obtain ⟨hd', s2, k2, hk2, h2⟩ := h (t.size - 1) (by omega) (by omega) (max pos (t.size - 1)) om' must' s1
    have h3 := (h1.trans h2).trans (v_end (e := ⟨t, max pos (t.size - 1), t.size - 1, om', must'⟩) (by show ¬ t.size - 1 < max pos (t.size - 1); omega))
    exact ⟨_, k1 + k2 + 2, by omega, by rw [e]; exact h3, rfl⟩
theorem finds_fold {t : Array Nat} {pos k : Nat} {us : List (List Nat)} {x : Nat} (h : ∀ i, pos ≤ i → i < pos + k → FailsAt t i) (hne : us ≠ []) (hu : ∀ u ∈ us, isUnit u) (hA : At t (pos + k) (us.flatten ++ [x])) (hx : x = 32 ∨ x = 9) (hl : us.length ≤ 1000) :
    Finds UC t pos (some (pos + k, pos + k + us.flatten.length + 1)) := by
  have hlast := (hA us.flatten.length (by simp)).1
  have hpos : 1 ≤ us.flatten.length := by
    obtain ⟨u, r, rfl⟩ := List.exists_cons_of_ne_nil hne
    have := hu u (.head _)
    rw [List.flatten_cons, List.length_append]
    rcases this with rfl | rfl <;> simp <;> omega
  have e := search_start (text := t) (pos := pos) (by omega)
  obtain ⟨om', must', s1, k1, hk1, h1⟩ := skip (t := t) (ls := max pos (t.size - 1)) k pos true false (({} : Seen).add 14) h (by omega)
  obtain ⟨s2, k2, hk2, h2⟩ := attempt_yes (e := ⟨t, max pos (t.size - 1), pos + k, om', must'⟩) (seen := s1) hne hu hA hx hl
  exact ⟨_, k1 + k2, by omega, by rw [e]; exact h1.trans h2, rfl, rfl, rfl⟩
end Mine
end TextX4

section TextX5
namespace Mine
open PySem
open PySem.Sre (M Seen Loop Wait ops)
noncomputable def NC : Array Nat := #[14, 4, 0, 1, 2, 24, 6, 0, 1, 16, 13, 1, 16, 10, 1]
noncomputable def KN : PySem.Sre.Kept := {}
noncomputable def gGive (p : Nat) (c : Nat) (om : Bool) : SF := { wait := .giveBack, pc := 5, pos := p, outermost := om, count := c, kept := KN }
noncomputable def W (e : MS) (pc pos hd : Nat) (frames : List SF) (wt : Nat) (ans : Option Bool) (seen : Seen) : M :=
  { code := NC, text := e.text, lim := e.text.size, start := e.s, lastStart := e.ls, mustAdvance := e.must, pc := pc, pos := pos, handed := hd, outermost := e.om, marks := #[], loops := #[],
    frames := frames, weight := wt, answer := ans, seen := seen }
noncomputable def A1 (text : Array Nat) (ls s : Nat) (om must : Bool) (seen : Seen) : M := W ⟨text, ls, s, om, must⟩ 5 s s [fNext s om] 1 none seen
noncomputable def Wout (e : MS) (hd : Nat) (o : PySem.Sre.Outcome) (yes : Bool) (seen : Seen) : M :=
  { code := NC, text := e.text, lim := e.text.size, start := e.s, lastStart := e.ls, mustAdvance := e.must, pc := 5, pos := e.s, handed := hd, outermost := e.om, marks := #[], loops := #[],
    frames := [], weight := 0, answer := some yes, seen := seen, outcome := some o }
section
variable {e : MS} {fs : List SF} {wt : Nat} {seen : Seen} {p hd : Nat}
theorem n_rep (hp : p ≤ e.text.size) (hw : wt + 1 ≤ 16777216) : ∃ seen', Reach 1 (W e 5 p hd fs wt none seen)
    (W e 12 (p + if p < e.text.size ∧ e.text.getD p 0 = 13 then 1 else 0) (p + if p < e.text.size ∧ e.text.getD p 0 = 13 then 1 else 0) (gGive (p + if p < e.text.size ∧ e.text.getD p 0 = 13 then 1 else 0) (if p < e.text.size ∧ e.text.getD p 0 = 13 then 1 else 0) e.om :: fs) (wt + 1) none seen') := by
  obtain ⟨seen', h⟩ := exec_rep1 (m := W e 5 p hd fs wt none seen) rfl rfl rfl rfl hp
  refine ⟨seen', Reach.one rfl ?_⟩
  rw [step_exec rfl rfl (by show 5 < 15; decide), h]
  unfold M.afterRun
  rw [attempt_ok (by exact hw)]
  rfl
theorem n_nl (hp : p < e.text.size) (hc : e.text.getD p 0 = 10) : ∃ seen', Reach 1 (W e 12 p hd fs wt none seen) (W e 14 (p + 1) hd fs wt none seen') := by
  refine ⟨seen.add 16, Reach.one rfl ?_⟩
  rw [step_exec rfl rfl (by show 12 < 15; decide), exec_lit rfl, if_neg (by show ¬ p ≥ e.text.size; omega), if_pos (by show e.text.getD p 0 = 10; exact hc)]
  rfl
theorem n_nlNo (hc : ¬ (p < e.text.size ∧ e.text.getD p 0 = 10)) : ∃ seen', Reach 1 (W e 12 p hd fs wt none seen) (W e 12 p hd fs wt (some false) seen') := by
  refine ⟨seen.add 16, Reach.one rfl ?_⟩
  rw [step_exec rfl rfl (by show 12 < 15; decide), exec_lit rfl]
  by_cases hp : p < e.text.size
  · rw [if_neg (by show ¬ p ≥ e.text.size; omega), if_neg (by show ¬ e.text.getD p 0 = 10; exact fun q => hc ⟨hp, q⟩)]
    rfl
  · rw [if_pos (by show p ≥ e.text.size; omega)]
    rfl
theorem n_success (hp : p ≠ e.s) : ∃ seen', Reach 1 (W e 14 p hd fs wt none seen) (W e 14 p p fs wt (some true) seen') :=
  ⟨seen.add 1, Reach.one rfl (by rw [step_exec rfl rfl (by show 14 < 15; decide), exec_success rfl rfl hp]; rfl)⟩
theorem n_give0 {pc p' q : Nat} : Reach 1 (W e pc p' hd (gGive q 0 e.om :: fs) (wt + 1) (some false) seen) (W e 5 q hd fs wt (some false) seen) :=
  Reach.one rfl (by rw [step_back rfl rfl rfl]; kernel_rfl)
theorem n_yes {pc p' q k : Nat} : Reach 3 (W e pc p' hd [gGive q k e.om, fNext e.s e.om] 2 (some true) seen) (Wout e hd .matched true seen) := by
  have a : Reach 1 (W e pc p' hd [gGive q k e.om, fNext e.s e.om] 2 (some true) seen) (W e 5 q hd [fNext e.s e.om] 1 (some true) seen) := Reach.one rfl (by rw [step_back rfl rfl rfl]; kernel_rfl)
  have b : Reach 1 (W e 5 q hd [fNext e.s e.om] 1 (some true) seen) (W e 5 e.s hd [] 0 (some true) seen) := Reach.one rfl (by rw [step_back rfl rfl rfl]; kernel_rfl)
  exact (a.trans b).trans (Reach.one rfl (by kernel_rfl))
theorem n_next {q : Nat} (h : e.s < e.ls) : Reach 1 (W e 5 q hd [fNext e.s e.om] 1 (some false) seen) (A1 e.text e.ls (e.s + 1) false false seen) :=
  Reach.one rfl (by
    rw [step_back rfl rfl rfl]
    have e1 : M.resume { W e 5 q hd [fNext e.s e.om] 1 (some false) seen with answer := none, frames := [], weight := 1 - (1 + (fNext e.s e.om).kept.marks.size), pc := 5, pos := e.s, outermost := e.om } (fNext e.s e.om) false
      = if e.s < e.ls then A1 e.text e.ls (e.s + 1) false false seen else W e 5 e.s hd [] 0 (some false) seen := by kernel_rfl
    refine Eq.trans e1 ?_
    rw [if_pos h])
end
noncomputable def NFailsAt (t : Array Nat) (s : Nat) : Prop := ∀ ls om must seen, ∃ q hd' seen', Reach 3 (A1 t ls s om must seen) (W ⟨t, ls, s, om, must⟩ 5 q hd' [fNext s om] 1 (some false) seen')
theorem nfails_plain {t : Array Nat} {s : Nat} (hs : s ≤ t.size) (h1 : ¬ (s < t.size ∧ t.getD s 0 = 13)) (h2 : ¬ (s < t.size ∧ t.getD s 0 = 10)) : NFailsAt t s := fun ls om must seen => by
  obtain ⟨s1, r1⟩ := n_rep (e := ⟨t, ls, s, om, must⟩) (p := s) (hd := s) (fs := [fNext s om]) (wt := 1) (seen := seen) hs (by omega)
  simp only [if_neg h1, Nat.add_zero] at r1
  obtain ⟨s2, r2⟩ := n_nlNo (e := ⟨t, ls, s, om, must⟩) (fs := [gGive s 0 om, fNext s om]) (wt := 2) (seen := s1) (p := s) (hd := s) h2
  exact ⟨_, _, _, (r1.trans r2).trans (n_give0 (wt := 1))⟩
theorem nyes {t : Array Nat} {s ls : Nat} {om must : Bool} {seen : Seen} {u : List Nat} (hu : isUnit u) (hA : At t s u) : ∃ seen', Reach 6 (A1 t ls s om must seen) (Wout ⟨t, ls, s, om, must⟩ (s + u.length) .matched true seen') := by
  rcases hu with rfl | rfl
  · have h0 := hA.head
    obtain ⟨s1, r1⟩ := n_rep (e := ⟨t, ls, s, om, must⟩) (p := s) (hd := s) (fs := [fNext s om]) (wt := 1) (seen := seen) (Nat.le_of_lt h0.1) (by omega)
    rw [if_neg (by show ¬ (s < t.size ∧ t.getD s 0 = 13); rw [h0.2]; omega)] at r1
    obtain ⟨s2, r2⟩ := n_nl (e := ⟨t, ls, s, om, must⟩) (fs := [gGive s 0 om, fNext s om]) (wt := 2) (seen := s1) (p := s) (hd := s) h0.1 h0.2
    obtain ⟨s3, r3⟩ := n_success (e := ⟨t, ls, s, om, must⟩) (fs := [gGive s 0 om, fNext s om]) (wt := 2) (seen := s2) (p := s + 1) (hd := s) (by show s + 1 ≠ s; omega)
    exact ⟨_, ((r1.trans r2).trans r3).trans n_yes⟩
  · have h0 := hA.head
    have h1 := hA.tail.head
    obtain ⟨s1, r1⟩ := n_rep (e := ⟨t, ls, s, om, must⟩) (p := s) (hd := s) (fs := [fNext s om]) (wt := 1) (seen := seen) (Nat.le_of_lt h0.1) (by omega)
    rw [if_pos (show s < t.size ∧ t.getD s 0 = 13 from h0)] at r1
    obtain ⟨s2, r2⟩ := n_nl (e := ⟨t, ls, s, om, must⟩) (fs := [gGive (s + 1) 1 om, fNext s om]) (wt := 2) (seen := s1) (p := s + 1) (hd := s + 1) h1.1 h1.2
    obtain ⟨s3, r3⟩ := n_success (e := ⟨t, ls, s, om, must⟩) (fs := [gGive (s + 1) 1 om, fNext s om]) (wt := 2) (seen := s2) (p := s + 1 + 1) (hd := s + 1) (by show s + 1 + 1 ≠ s; omega)
    exact ⟨_, ((r1.trans r2).trans r3).trans n_yes⟩
theorem nskip {t : Array Nat} {ls : Nat} : ∀ (k s : Nat) (om must : Bool) (seen : Seen), (∀ i, s ≤ i → i < s + k → NFailsAt t i) → s + k ≤ ls → ∃ om' must' seen', Reach (4 * k) (A1 t ls s om must seen) (A1 t ls (s + k) om' must' seen')
  | 0, s, om, must, seen, _, _ => ⟨om, must, seen, Reach.refl _⟩
  | k + 1, s, om, must, seen, h, hl => by
    obtain ⟨q, hd', s1, h1⟩ := h s (Nat.le_refl _) (by omega) ls om must seen
    have h2 := h1.trans (n_next (e := ⟨t, ls, s, om, must⟩) (by show s < ls; omega))
    obtain ⟨om', must', s2, h3⟩ := nskip (t := t) (ls := ls) k (s + 1) false false s1 (fun i a b => h i (Nat.le_of_succ_le a) (by omega)) (by omega)
    exact ⟨om', must', s2, by rw [show s + (k + 1) = s + 1 + k from by omega, show 4 * (k + 1) = 3 + 1 + 4 * k from by omega]; exact h2.trans h3⟩
theorem nsearch_start {text : Array Nat} {pos : Nat} (h : pos + 1 ≤ text.size) : PySem.Sre.forSearch NC text 0 pos text.size false = A1 text text.size pos true false (({} : Seen).add 14) := by
  unfold PySem.Sre.forSearch
  have hh : PySem.Sre.header NC = (1, 5) := rfl
  simp only [hh]
  rw [if_neg (by simp; omega)]
  kernel_rfl
theorem nfinds_end {t : Array Nat} : Finds NC t t.size none := by
  have : ∃ m, PySem.Sre.forSearch NC t 0 t.size t.size false = m ∧ m.outcome = none ∧ m.answer = some false ∧ m.frames = [] := by
    unfold PySem.Sre.forSearch
    have hh : PySem.Sre.header NC = (1, 5) := rfl
    simp only [hh]
    rw [if_pos (by simp)]
    exact ⟨_, rfl, rfl, rfl, rfl⟩
  obtain ⟨m, e, ho, ha, hf⟩ := this
  refine ⟨m.step, 1, by omega, by rw [e]; exact Reach.one ho rfl, ?_⟩
  unfold M.step
  rw [ho, ha, hf]
  rfl
theorem nfinds {t : Array Nat} {pos k : Nat} {u : List Nat} (h : ∀ i, pos ≤ i → i < pos + k → NFailsAt t i) (hu : isUnit u) (hA : At t (pos + k) u) : Finds NC t pos (some (pos + k, pos + k + u.length)) := by
  have hul : 1 ≤ u.length := by rcases hu with rfl | rfl <;> simp
  have hlast := (hA 0 (by omega)).1
  have e := nsearch_start (text := t) (pos := pos) (by omega)
  obtain ⟨om', must', s1, h1⟩ := nskip (t := t) (ls := t.size) k pos true false (({} : Seen).add 14) h (by omega)
  obtain ⟨s2, h2⟩ := nyes (t := t) (ls := t.size) (om := om') (must := must') (seen := s1) hu hA
  exact ⟨_, 4 * k + 6, by omega, by rw [e]; exact h1.trans h2, rfl, rfl, rfl⟩
end Mine
end TextX5

section TextSB
open PySem PySem.W PySem.W.X PySem.Calls PyProof.Rows PySem.Spec
namespace Mine
open PySem.Sre (M)
theorem runFor_add : ∀ (a b : Nat) (m : PySem.Sre.M), (m.runFor a).runFor b = m.runFor (a + b)
  | 0, b, m => by rw [Nat.zero_add]; rfl
  | a + 1, b, m => by
    rw [show a + 1 + b = (a + b) + 1 from by omega]
    show (if m.outcome.isSome then m else PySem.Sre.M.runFor a m.step).runFor b = if m.outcome.isSome then m else PySem.Sre.M.runFor (a + b) m.step
    cases h : m.outcome.isSome with
    | true => simp only [if_true]; exact runFor_done h b
    | false => simp only [Bool.false_eq_true, if_false]; exact runFor_add a b m.step
noncomputable def Res (r : Option (Nat × Nat)) (m : Option PySem.Sre.M) : Prop := match r with
  | some (a, b) => ∃ m', m = some m' ∧ m'.start = a ∧ m'.handed = b
  | none => m = none
section
variable {MM : Model} {A : Around} {E : Value → Shared → Prop} {s : Shared}
open PySem.Builtin.Re in
theorem drive {Q : PySem.Sre.M → Shared → Prop} {m' : PySem.Sre.M} (ho : m'.outcome.isSome = true) (hq : Q m' s) : ∀ (turns k : Nat) (m : PySem.Sre.M), k ≤ 4 * turns → 0 < turns → Reach k m m' → wpAny MM A (reDrive turns m) Q E s
  | 0, k, m, _, h0, _ => by omega
  | turns + 1, k, m, hk, _, r => by
    have r0 : m.runFor k = m' := by have := r 0; rwa [Nat.zero_add] at this
    show wpAny MM A (if (m.runFor 4).outcome.isSome then pure (m.runFor 4) else (do rule "sre.turn"; reDrive turns (m.runFor 4))) Q E s
    by_cases h4 : k ≤ 4
    · have : m.runFor 4 = m' := by
        have h := r (4 - k)
        rw [show 4 - k + k = 4 from by omega, runFor_done ho] at h
        exact h
      rw [this, if_pos ho]
      exact wpAny_pure hq
    · cases h : (m.runFor 4).outcome.isSome with
      | true =>
        have : m.runFor 4 = m' := by
          rw [← r0, show k = 4 + (k - 4) from by omega, ← runFor_add, runFor_done h]
        rw [this] at h ⊢
        exact wpAny_pure hq
      | false =>
        simp only [Bool.false_eq_true, if_false]
        refine wpAny_bind (wpAny_rule (drive ho hq turns (k - 4) _ (by omega) (by omega) fun n => ?_))
        rw [runFor_add, show 4 + (n + (k - 4)) = n + k from by omega]
        exact r n
open PySem.Builtin.Re in
theorem to_end {Q : Option PySem.Sre.M → Shared → Prop} {m m' : PySem.Sre.M} {k : Nat} (ho : m'.outcome = some .matched ∨ m'.outcome = some .failed) (hk : k ≤ 100 * 16777216 + 100000) (r : Reach k m m')
    (hq : Q (match m'.outcome with | some .matched => some m' | _ => none) s) : wpAny MM A (reRunToEnd m) Q E s := by
  unfold reRunToEnd
  have hs : m'.outcome.isSome = true := by rcases ho with h | h <;> rw [h] <;> rfl
  have ht : k ≤ 4 * 2 ^ 64 := Nat.le_trans hk (by decide)
  refine wpAny_bind (drive hs ?_ _ k m ht (by decide) r)
  refine wpAny_bind (wpAny_forIn_list _ (fun _ _ s' => s' = s) _ ?_ ?_ _ _ rfl)
  · rintro x rest b s' rfl
    split
    · exact wpAny_bind (wpAny_rule (wpAny_pure rfl))
    · exact wpAny_pure rfl
  · rintro _ _ rfl
    rcases ho with h | h
    · simp only [h] at hq ⊢
      exact wpAny_pure hq
    · simp only [h] at hq ⊢
      exact wpAny_pure hq
open PySem.Builtin.Re in
theorem next_found {Q : Option PySem.Sre.M → Shared → Prop} {P : Value} {x : PySem.Str} {t : Tok} {code : Array Nat} {p : Nat} {r : Option (Nat × Nat)} (h : Finds code x.cps p r) (hz : x.cps.size ≤ 8192)
    (hq : ∀ m : Option PySem.Sre.M, Res r m → Q m s) :
    wpAny MM A (reNextFound { pattern := P, string := .str x t, code := code, text := x.cps, kind := 0, groups := 0, pos := 0, lim := x.cps.size } p false) Q E s := by
  obtain ⟨m, k, hk, hr, ho⟩ := h
  unfold reNextFound
  match r, ho with
  | some (a, b), ho => refine to_end (.inl ho.1) (Nat.le_trans hk (by omega)) hr (hq _ ?_); rw [ho.1]; exact ⟨m, rfl, ho.2⟩
  | none, ho => refine to_end (.inr ho) (Nat.le_trans hk (by omega)) hr (hq _ ?_); rw [ho]; rfl
theorem push_K {xs : List Value} {x : Value} {n : Nat} {h₀ : Heap} {L a : Addr} {m : PySem.Str → Option Value} {news : List (Addr × Obj)} {Q : Unit → Shared → Prop} (F : Fr h₀ L s.heap m) (N : News h₀ L s.heap ((a, listOf xs.toArray n) :: news)) (hap : ∀ p ∈ news, p.1 ≠ a) (hz : xs.length ≤ 16384)
    (h : ∀ h', Fr h₀ L h' m → News h₀ L h' ((a, listOf (xs ++ [x]).toArray (n + 1)) :: news) → Q () { s with heap := h' }) : wpAny MM A (updateSeq a (·.push x)) Q E s := by
  have z := N _ (.head _)
  refine wpAny_updateSeq (o := listOf xs.toArray n) z.1 rfl ?_ (hz := by rw [sizeLine_eq, List.size_toArray]; omega) (_hz' := by rw [sizeLine_eq, Array.size_push, List.size_toArray]; omega)
  have e : (s.heap.update a (Obj.mapSeq (·.push x))).get? a = some (listOf (xs ++ [x]).toArray (n + 1)) := by
    rw [Heap.get?_update_self _ z.1 (by rw [mapSeq_push]; rfl), mapSeq_push, List.push_toArray]
  exact h _ (F.change (Heap.SameBut.update ..) z.2.1 z.2.2) (N.setHead hap (Heap.SameBut.update ..) e)
end
theorem fillS (w : World) (h : Heap) : (Lay.hd.heap_1_39 w.params).In h → PySem.Challenge.rw_bf0005_01.row.prog = PySem.Challenge.rw_bf0005_01.row.prog := by
  k_fill
  intros
  rfl
open PySem.Builtin.Re in
theorem look_U {prog : Program} {w : World} {h : Heap} (X : (Lay.hd.heap_1_39 w.params).In h) (x : PySem.Str) (t : Tok) :
    Looks (model prog w) h (reWholeTarget (.ref 316) (.str x t)) { pattern := .ref 316, string := .str x t, code := UC, text := x.cps, kind := 0, groups := 0, pos := 0, lim := x.cps.size } :=
  Looks.of_peek X (by kernel_rfl)
open PySem.Builtin.Re in
theorem look_N {prog : Program} {w : World} {h : Heap} (X : (Lay.hd.heap_1_39 w.params).In h) (x : PySem.Str) (t : Tok) :
    Looks (model prog w) h (reWholeTarget (.ref 321) (.str x t)) { pattern := .ref 321, string := .str x t, code := NC, text := x.cps, kind := 0, groups := 0, pos := 0, lim := x.cps.size } :=
  Looks.of_peek X (by kernel_rfl)
open PySem.Builtin.Re in
theorem look_lit {prog : Program} {w : World} {h : Heap} (x : PySem.Str) (t : Tok) : Looks (model prog w) h (reLiteralCannotBeTurned (.str x t)) () :=
  Looks.of_pure (by kernel_rfl)
/-- the pieces from p on -/
inductive Subs (code t : Array Nat) (rep : List Nat) : Nat → List (List Nat) → Prop
  | done (p : Nat) : Finds code t p none → Subs code t rep p (if p < t.size then [(t.extract p t.size).toList] else [])
  | more (p a b : Nat) (ls : List (List Nat)) : Finds code t p (some (a, b)) → a < b → Subs code t rep b ls → Subs code t rep p ((if p < a then [(t.extract p a).toList] else []) ++ (rep :: ls))
theorem entry_sub_loop : entryFor table "re.Pattern.sub.loop" = some Builtin.«re.Pattern.sub.loop» := entryFor_of_tree (by kernel_rfl)
theorem sub_plain : plainId "re.Pattern.sub.loop" = true := by decide +kernel
theorem entry_sub : entryFor table "re.Pattern.sub" = some Builtin.«re.Pattern.sub» := entryFor_of_tree (by kernel_rfl)
section
variable {prog : Program} {w : World} {A : Around} {h₀ : Heap} {L a : Addr} {m : PySem.Str → Option Value} {news : List (Addr × Obj)} {R : Result → Shared → Prop}
open PySem.Builtin.Re in
theorem slice_K {M : Model} {E : Value → Shared → Prop} {s : Shared} {cps : Array Nat} {b e : Nat} {Q : Value → Shared → Prop} (hz : cps.size ≤ 8192) (h : Q (.str (chs (cps.extract b e).toList) s.toks) { s with toks := s.toks + 1 }) : wpAny M A (reSlice cps 0 b e) Q E s := by
  show wpAny M A (mkStr ⟨cps.extract b e⟩) Q E s
  have e1 : (⟨cps.extract b e⟩ : PySem.Str) = chs (cps.extract b e).toList := by rw [chs, Array.toArray_toList]
  rw [e1]
  refine wpAny_mkStr h ?_
  rw [chs_len, sizeLine_eq, Array.length_toList, Array.size_extract]
  omega
open PySem.Builtin.Re in
theorem sub_tail {E : Value → Shared → Prop} {s : Shared} {cps : Array Nat} {us : List Value} {ls0 : List (List Nat)} {e : Nat} {Q : PySem.Fin → Shared → Prop} (hz : cps.size ≤ 8192) (F : Fr h₀ L s.heap m) (N : News h₀ L s.heap ((a, listOf us.toArray e) :: news)) (hU : Txts us ls0)
    (hb1 : ls0.length ≤ 8192) (hb2 : ls0.flatten.length ≤ 8192) (ret : ∀ t' k, Q (.done (.ret (.str (chs ls0.flatten) t'))) { s with toks := k }) :
    wpAny (model prog w) A (do
      let joiner ← reSlice cps 0 0 0
      let __do_lift ← seqItems? (Value.ref a)
      if (__do_lift.getD #[]).isEmpty = true then do
          let __do_lift ← pure joiner
          PySem.ret __do_lift
        else do
          let __do_lift ←
            call (Value.builtin (if (0 == 0) = true then "str.join" else "bytes.join")) [joiner, Value.ref a]
          PySem.ret __do_lift) Q E s := by
  refine wpAny_bind (slice_K hz ?_)
  have z := N _ (.head _)
  have e0 : chs (cps.extract 0 0).toList = PySem.Str.ofString "" := by rw [Array.extract_zero]; exact chs_nil.symm
  rw [e0]
  refine wpAny_bind (wpAny_seqItems (o := listOf us.toArray e) z.1 rfl ?_)
  dsimp only [Option.getD]
  cases us with
  | nil =>
    cases hU with
    | nil =>
      rw [if_pos (by rfl)]
      refine wpAny_bind (wpAny_pure (wpAny_pure ?_))
      exact ret _ _
  | cons u us =>
    rw [if_neg (by simp), if_pos (by rfl)]
    refine wpAny_bind ?_
    refine join_texts (ws := ls0) (news := (a, listOf (u :: us).toArray e) :: news) N (.head _) hU hb2 hb1 (by decide +kernel) fun t' k => ?_
    rw [join_empty]
    exact wpAny_pure (ret _ _)
open PySem.Builtin.Re in
theorem sub_loop {P : Addr} {code : Array Nat} {x : PySem.Str} {tt tr : Tok} {rep : List Nat}
    (look : ∀ {h : Heap}, (∀ b o, h₀.get? b = some o → h.get? b = some o) → Looks (model prog w) h (reWholeTarget (.ref P) (.str x tt)) { pattern := .ref P, string := .str x tt, code := code, text := x.cps, kind := 0, groups := 0, pos := 0, lim := x.cps.size })
    (hz : x.cps.size ≤ 8192) (hap : ∀ p ∈ news, p.1 ≠ a) {p : Nat} {ls : List (List Nat)} (S : Subs code x.cps rep p ls) : ∀ {s : Shared} {us : List Value} {ls0 : List (List Nat)} {e : Nat} {n : Int}, Fr h₀ L s.heap m → News h₀ L s.heap ((a, listOf us.toArray e) :: news) → Txts us ls0 →
    ls0.length + ls.length ≤ 8192 → (ls0 ++ ls).flatten.length ≤ 8192 → (∀ h' t' k, Fr h₀ L h' m → News h₀ L h' news → R (.ok (.ret (.str (chs (ls0 ++ ls).flatten) t'))) { s with heap := h', toks := k }) →
    codeAny (model prog w) A (.builtin "re.Pattern.sub.loop" ⟨[.ref P, .str x tt, .str (chs rep) tr, rawInt 0, rawInt 0, rawInt n, rawInt p, rawInt p, .bool false, .ref a, .bool false], []⟩) R s := by
  induction S with
  | done p hf =>
    intro s us ls0 e n F N hU hb1 hb2 ret
    refine codeAny_builtin entry_sub_loop ?_
    unfold Builtin.«re.Pattern.sub.loop» rawInt
    dsimp only
    refine wpAny_bind (Looks.here (look F.keep) ?_)
    simp only [show ((0 : Int) == 0) = true from rfl, if_true]
    refine wpAny_bind (Looks.here (look_lit _ _) ?_)
    simp only [show (((0 : Int) != 0) = false) from rfl, Bool.false_and, Bool.false_eq_true, if_false, Int.toNat_natCast]
    refine wpAny_bind (next_found hf hz fun m' hm => ?_)
    cases hm
    dsimp only
    split
    · rename_i hp
      rw [if_pos hp] at hb1 hb2 ret
      refine wpAny_bind (slice_K hz ?_)
      refine wpAny_bind (push_K F N hap (by have := hU.length; simp at hb1; omega) fun h' F' N' => ?_)
      exact sub_tail hz F' N' hU.snoc (by simpa using hb1) hb2 fun t' k => ret _ _ _ F' N'.tail'
    · rename_i hp
      rw [if_neg hp] at hb1 hb2 ret
      exact sub_tail hz F N hU (by simpa using hb1) (by simpa using hb2) fun t' k => by simpa using ret _ t' k F N.tail'
  | more p a' b ls hf hab S ih =>
    intro s us ls0 e n F N hU hb1 hb2 ret
    refine codeAny_builtin entry_sub_loop ?_
    unfold Builtin.«re.Pattern.sub.loop» rawInt
    dsimp only
    refine wpAny_bind (Looks.here (look F.keep) ?_)
    simp only [show ((0 : Int) == 0) = true from rfl, if_true]
    refine wpAny_bind (Looks.here (look_lit _ _) ?_)
    simp only [show (((0 : Int) != 0) = false) from rfl, Bool.false_and, Bool.false_eq_true, if_false, Int.toNat_natCast]
    refine wpAny_bind (next_found hf hz fun m' hm => ?_)
    obtain ⟨m', rfl, hs, hh⟩ := hm
    dsimp only
    rw [hs, hh, show (b == a') = false from by simp; omega]
    have hlen := hU.length
    split
    · rename_i hp
      rw [if_pos hp] at hb1 hb2 ret
      simp only [List.length_append, List.length_cons, List.length_nil] at hb1
      refine wpAny_bind (slice_K hz ?_)
      refine wpAny_bind (push_K F N hap (by omega) fun h1 F1 N1 => ?_)

      refine wpAny_bind (wpAny_pure ?_)
      rw [if_pos (by rfl)]
      refine wpAny_bind (push_K F1 N1 hap (by simp; omega) fun h2 F2 N2 => ?_)
      refine wpAny_pure ⟨plainId_quiet sub_plain _, ih (n := n + 1) F2 N2 hU.snoc.snoc (by simp; omega) (by simpa using hb2) ?_⟩
      simpa using ret
    · rename_i hp
      rw [if_neg hp] at hb1 hb2 ret
      simp only [List.length_append, List.length_cons, List.length_nil] at hb1
      refine wpAny_bind (wpAny_pure ?_)
      rw [if_pos (by rfl)]
      refine wpAny_bind (push_K F N hap (by omega) fun h2 F2 N2 => ?_)
      refine wpAny_pure ⟨plainId_quiet sub_plain _, ih (n := n + 1) F2 N2 hU.snoc (by simp; omega) (by simpa using hb2) ?_⟩
      simpa using ret
end
end Mine
end TextSB

section TextS2
open PySem PySem.W PySem.W.X PySem.Calls PyProof.Rows PySem.Spec
namespace Mine
theorem fillS2 (w : World) (h : Heap) : (Lay.hd.heap_1_39 w.params).In h → PySem.Challenge.rw_bf0005_01.row.prog = PySem.Challenge.rw_bf0005_01.row.prog := by
  k_fill
  intros
  rfl
theorem sub_plain0 : plainId "re.Pattern.sub" = true := by decide +kernel
theorem look_check {prog : Program} {w : World} {h : Heap} (X : (Lay.hd.heap_1_39 w.params).In h) (x y : PySem.Str) (t u : Tok) :
    Looks (model prog w) h (checkBuiltinCall "re.Pattern.sub" ⟨[.ref 316, .str x t, .str y u], []⟩) () ∧ Looks (model prog w) h (checkBuiltinCall "re.Pattern.sub" ⟨[.ref 321, .str x t, .str y u], []⟩) () :=
  ⟨Looks.of_peek X (by kernel_rfl), Looks.of_peek X (by kernel_rfl)⟩
theorem look_nocall {prog : Program} {w : World} {h : Heap} (x : PySem.Str) (t : Tok) :
    Looks (model prog w) h (specialOf (.str x t) "__call__") none :=
  Looks.of_pure (by kernel_rfl)
section
variable {prog : Program} {w : World} {A : Around} {E : Value → Shared → Prop} {s : Shared} {h₀ : Heap} {L a : Addr} {m : PySem.Str → Option Value} {news : List (Addr × Obj)} {Q : Value → Shared → Prop}
open PySem.Builtin.Re in
theorem sub_gen {P : Addr} {code : Array Nat} {x : PySem.Str} {tt tr : Tok} {rep : List Nat}
    (look : ∀ {h : Heap}, (∀ b o, h₀.get? b = some o → h.get? b = some o) → Looks (model prog w) h (reWholeTarget (.ref P) (.str x tt)) { pattern := .ref P, string := .str x tt, code := code, text := x.cps, kind := 0, groups := 0, pos := 0, lim := x.cps.size })
    (chk : ∀ {h : Heap}, (∀ b o, h₀.get? b = some o → h.get? b = some o) → Looks (model prog w) h (checkBuiltinCall "re.Pattern.sub" ⟨[.ref P, .str (chs rep) tr, .str x tt], []⟩) ())
    (hrep : rep.contains 92 = false) (hz : x.cps.size ≤ 8192) {ls : List (List Nat)} (S : Subs code x.cps rep 0 ls) (F : Fr h₀ L s.heap m) (N : News h₀ L s.heap news)
    (hb1 : ls.length ≤ 8192) (hb2 : ls.flatten.length ≤ 8192) (ret : ∀ h' t' k, Fr h₀ L h' m → News h₀ L h' news → Q (.str (chs ls.flatten) t') { s with heap := h', toks := k }) :
    wpAny (model prog w) A (call (.builtin "re.Pattern.sub") [.ref P, .str (chs rep) tr, .str x tt]) Q E s := by
  refine wpAny_call (codeAny_call_builtin sub_plain0 entry_sub (Looks.here (chk F.keep) ?_))
  unfold Builtin.«re.Pattern.sub» reSubstitute
  dsimp only
  have e0 : ∀ id : String, reNamed id "sub" ["repl", "string", "count"] 2 [.str (chs rep) tr, .str x tt] [] = pure [some (.str (chs rep) tr), some (.str x tt), none] := fun _ => by kernel_rfl
  refine wpAny_bind (Looks.here (Looks.of_pure (e0 _)) ?_)
  dsimp only
  refine wpAny_bind (wpAny_pure ?_)
  refine wpAny_bind (Looks.here (look_nocall _ _) ?_)
  have e1 : asStr? (.str (chs rep) tr) = pure (some (chs rep)) := rfl
  simp only [Option.isSome_none, Bool.false_eq_true, if_false, e1, pure_bind]
  rw [if_pos (by rw [show (chs rep).cps.contains 92 = false from by rw [chs]; simpa using hrep]; rfl)]
  refine wpAny_bind (wpAny_holding (Looks.here (look F.keep) ?_))
  rw [if_neg (by decide)]
  refine wpAny_bind (wpAny_newList ?_ (by decide))
  refine wpAny_pure ⟨plainId_quiet sub_plain _, ?_⟩
  exact sub_loop (ls0 := []) (us := []) (n := 0) look hz (fun p hp => Nat.ne_of_lt (Heap.lt_size (N p hp).1)) S (F.push _) (N.push F _) .nil (by simpa using hb1) (by simpa using hb2) fun h' t' k F' N' => by simpa using ret h' t' k F' N'
theorem sub_U {x : PySem.Str} {tt tr : Tok} (X : (Lay.hd.heap_1_39 w.params).In h₀) (hz : x.cps.size ≤ 8192) {ls : List (List Nat)} (S : Subs UC x.cps [] 0 ls) (F : Fr h₀ L s.heap m) (N : News h₀ L s.heap news)
    (hb1 : ls.length ≤ 8192) (hb2 : ls.flatten.length ≤ 8192) (ret : ∀ h' t' k, Fr h₀ L h' m → News h₀ L h' news → Q (.str (chs ls.flatten) t') { s with heap := h', toks := k }) :
    wpAny (model prog w) A (call (.builtin "re.Pattern.sub") [.ref 316, .str (PySem.Str.ofString "") tr, .str x tt]) Q E s := by
  rw [chs_nil]
  exact sub_gen (rep := []) (fun k => look_U (X.keeps k) _ _) (fun k => (look_check (X.keeps k) _ _ _ _).1) rfl hz S F N hb1 hb2 ret
theorem sub_N {x : PySem.Str} {tt tr : Tok} (X : (Lay.hd.heap_1_39 w.params).In h₀) (hz : x.cps.size ≤ 8192) {ls : List (List Nat)} (S : Subs NC x.cps [10] 0 ls) (F : Fr h₀ L s.heap m) (N : News h₀ L s.heap news)
    (hb1 : ls.length ≤ 8192) (hb2 : ls.flatten.length ≤ 8192) (ret : ∀ h' t' k, Fr h₀ L h' m → News h₀ L h' news → Q (.str (chs ls.flatten) t') { s with heap := h', toks := k }) :
    wpAny (model prog w) A (call (.builtin "re.Pattern.sub") [.ref 321, .str (PySem.Str.ofString "\n") tr, .str x tt]) Q E s := by
  have e : PySem.Str.ofString "\n" = chs [10] := by decide +kernel
  rw [e]
  exact sub_gen (rep := [10]) (fun k => look_N (X.keeps k) _ _) (fun k => (look_check (X.keeps k) _ _ _ _).2) rfl hz S F N hb1 hb2 ret
end
end Mine
end TextS2

section TextP3
open PySem PySem.W PySem.Calls PyProof.Rows PySem.Spec
namespace Mine
noncomputable def calm (c : Nat) : Prop := c ≠ 10 ∧ c ≠ 13 ∧ c ≠ 32 ∧ c ≠ 9
inductive Folded : List Nat → List Nat → Prop
  | nil : Folded [] []
  | sign (c : Nat) (a b : List Nat) : calm c → Folded a b → Folded (c :: a) (c :: b)
  | fold (us : List (List Nat)) (x : Nat) (a b : List Nat) : us ≠ [] → (∀ u ∈ us, isUnit u) → us.length ≤ 1000 → (x = 32 ∨ x = 9) → Folded a b → Folded (us.flatten ++ [x] ++ a) b
theorem Folded.same : ∀ {l : List Nat}, (∀ c ∈ l, calm c) → Folded l l
  | [], _ => .nil
  | c :: l, h => .sign c l l (h c (.head _)) (Folded.same fun d hd => h d (.tail _ hd))
theorem Folded.before : ∀ {l a b : List Nat}, (∀ c ∈ l, calm c) → Folded a b → Folded (l ++ a) (l ++ b)
  | [], _, _, _, h => h
  | c :: l, a, b, hc, h => .sign c _ _ (hc c (.head _)) (Folded.before (fun d hd => hc d (.tail _ hd)) h)
theorem ext_append {t : Array Nat} {q p e : Nat} (hq : q ≤ p) (hp : p ≤ e) : (t.extract q e).toList = (t.extract q p).toList ++ (t.extract p e).toList := by
  rw [← Array.toList_append]
  congr 1
  rw [Array.extract_append_extract, Nat.min_eq_left hq, Nat.max_eq_right hp]
theorem ext_snoc {t : Array Nat} {q p c : Nat} (hq : q ≤ p) (hp : p < t.size) (hc : t.getD p 0 = c) : (t.extract q (p + 1)).toList = (t.extract q p).toList ++ [c] := by
  rw [ext_append hq (Nat.le_succ p)]
  congr 1
  have e : t.toList[p]? = some c := by
    rw [← hc, Array.getElem?_toList]
    simp [Array.getD, hp]
  rw [Array.toList_extract, List.extract_eq_take_drop]
  obtain ⟨h1, h2⟩ := List.getElem?_eq_some_iff.mp e
  rw [show p + 1 - p = 1 from by omega, List.drop_eq_getElem_cons h1, h2]
  rfl
theorem ext_self {t : Array Nat} {p : Nat} : (t.extract p p).toList = [] := by simp
/-- what the first sub leaves -/
theorem subs_U {t : Array Nat} {e : Nat} (he : e ≤ t.size) (hrest : ∀ i, e ≤ i → i < t.size → FailsAt t i) {a b : List Nat} (H : Folded a b) : ∀ (q p : Nat), q ≤ p → (∀ i, q ≤ i → i < p → FailsAt t i) → At t p a → p + a.length = e →
    ∃ ls, Subs UC t [] q ls ∧ ls.flatten = (t.extract q p).toList ++ b ++ (t.extract e t.size).toList ∧ ls.length ≤ 2 * a.length + 1 := by
  induction H with
  | nil =>
    intro q p hqp hf hA hpe
    simp only [List.length_nil, Nat.add_zero] at hpe
    subst hpe
    refine ⟨_, .done q (finds_none fun i h1 h2 => if hi : i < p then hf i h1 hi else hrest i (by omega) h2), ?_, by split <;> simp⟩
    rw [List.append_nil, ← ext_append hqp he]
    split
    · simp
    · rename_i h
      simp; omega
  | sign c a b hc H ih =>
    intro q p hqp hf hA hpe
    have h0 := hA.head
    simp only [List.length_cons] at hpe ⊢
    obtain ⟨ls, S, hl, hb⟩ := ih q (p + 1) (by omega) (fun i h1 h2 => if hi : i < p then hf i h1 hi else by
      have : i = p := by omega
      subst this
      exact fails_plain (by omega) (by rw [h0.2]; exact fun q => hc.2.1 q.2) (by rw [h0.2]; exact fun q => hc.1 q.2)) hA.tail (by omega)
    refine ⟨ls, S, ?_, by omega⟩
    rw [hl, ext_snoc hqp h0.1 h0.2]
    simp
  | fold us x a b hne hu hl hx H ih =>
    intro q p hqp hf hA hpe
    have hpos : 1 ≤ us.flatten.length := by
      obtain ⟨u, r, rfl⟩ := List.exists_cons_of_ne_nil hne
      have := hu u (.head _)
      rw [List.flatten_cons, List.length_append]
      rcases this with rfl | rfl <;> simp <;> omega
    have hk : q + (p - q) = p := by omega
    have hF := finds_fold (t := t) (pos := q) (k := p - q) (us := us) (x := x) (by rw [hk]; exact hf) hne hu (by rw [hk]; exact hA.left) hx hl
    rw [hk] at hF
    simp only [List.length_append, List.length_cons, List.length_nil] at hpe ⊢
    have hA' := hA.right
    simp only [List.length_append, List.length_cons, List.length_nil, ← Nat.add_assoc, Nat.add_zero] at hA'
    obtain ⟨ls, S, hls, hb⟩ := ih (p + us.flatten.length + 1) (p + us.flatten.length + 1) (Nat.le_refl _) (fun i h1 h2 => absurd h2 (by omega)) hA' (by omega)
    refine ⟨_, .more q p _ ls hF (by omega) S, ?_, ?_⟩
    · rw [ext_self, List.nil_append] at hls
      rw [List.flatten_append, List.flatten_cons, hls]
      split
      · simp
      · rename_i h
        have : p = q := by omega
        subst this
        simp
    · rw [List.length_append, List.length_cons]
      split <;> simp <;> omega
theorem At.of_append {l a r : List Nat} : At (l ++ a ++ r).toArray l.length a := fun i hi => by
  have h1 : l.length + i < (l ++ a ++ r).length := by simp; omega
  refine ⟨by simpa using h1, ?_⟩
  rw [Array.getD_eq_getD_getElem?]
  simp [List.getElem?_append_right, List.getElem?_append_left, hi]
theorem ext_tail {a r : List Nat} : ((a ++ r).toArray.extract a.length (a ++ r).toArray.size).toList = r := by
  simp
theorem subs_near {a b : List Nat} (H : Folded a b) : ∃ ls, Subs UC a.toArray [] 0 ls ∧ ls.flatten = b ∧ ls.length ≤ 2 * a.length + 1 := by
  obtain ⟨ls, S, h1, h2⟩ := subs_U (t := a.toArray) (e := a.length) (by simp) (fun i h1 h2 => absurd h2 (by simp; omega)) H 0 0 (Nat.le_refl _) (fun i h1 h2 => absurd h2 (by omega)) (by
    have := At.of_append (l := []) (a := a) (r := [])
    simpa using this) (by omega)
  refine ⟨ls, S, ?_, h2⟩
  rw [h1]
  simp
noncomputable def END : List Nat := [13, 10, 69, 78, 68, 58, 65, 10]
theorem fails_END {a : List Nat} (i : Nat) (h1 : a.length ≤ i) (h2 : i < (a ++ END).toArray.size) : FailsAt (a ++ END).toArray i := by
  have A0 := At.of_append (l := a) (a := END) (r := [])
  rw [List.append_nil] at A0
  have hz : (a ++ END).toArray.size = a.length + 8 := by simp [END]
  have g : ∀ k (hk : k < 8), (a ++ END).toArray.getD (a.length + k) 0 = END[k]'(hk) := fun k hk => (A0 k hk).2
  have one : ∀ k (hk : k < 8), END[k]'hk ≠ 10 → END[k]'hk ≠ 13 → FailsAt (a ++ END).toArray (a.length + k) := fun k hk e1 e2 =>
    fails_plain (by omega) (by rw [g k hk]; exact fun q => e2 q.2) (by rw [g k hk]; exact fun q => e1 q.2)
  obtain ⟨k, rfl⟩ : ∃ k, i = a.length + k := ⟨i - a.length, by omega⟩
  have hk : k < 8 := by omega
  match k, hk with
  | 0, _ =>
    refine fails_unit (u := [13, 10]) (.inr rfl) (by simpa [END] using A0.left (a := [13, 10])) ?_
    intro c hc
    have := g 2 (by omega)
    show ¬ (a.length + 2 < _ ∧ (a ++ END).toArray.getD (a.length + 2) 0 = c)
    rw [this]
    intro q
    have q2 : 69 = c := q.2
    subst q2
    simp at hc
  | 1, _ =>
    refine fails_unit (u := [10]) (.inl rfl) (by simpa [END] using (A0.right (a := [13]) (b := [10, 69, 78, 68, 58, 65, 10])).left (a := [10])) ?_
    intro c hc
    have := g 2 (by omega)
    show ¬ (a.length + 1 + 1 < _ ∧ (a ++ END).toArray.getD (a.length + 2) 0 = c)
    rw [this]
    intro q
    have q2 : 69 = c := q.2
    subst q2
    simp at hc
  | 2, _ => exact one 2 (by omega) (by simp [END]) (by simp [END])
  | 3, _ => exact one 3 (by omega) (by simp [END]) (by simp [END])
  | 4, _ => exact one 4 (by omega) (by simp [END]) (by simp [END])
  | 5, _ => exact one 5 (by omega) (by simp [END]) (by simp [END])
  | 6, _ => exact one 6 (by omega) (by simp [END]) (by simp [END])
  | 7, _ =>
    refine fails_unit (u := [10]) (.inl rfl) (by simpa [END] using A0.right (a := [13, 10, 69, 78, 68, 58, 65]) (b := [10])) ?_
    intro c hc
    show ¬ (a.length + 7 + 1 < _ ∧ _)
    omega
theorem subs_nearE {a b : List Nat} (H : Folded a b) : ∃ ls, Subs UC (a ++ END).toArray [] 0 ls ∧ ls.flatten = b ++ END ∧ ls.length ≤ 2 * a.length + 1 := by
  obtain ⟨ls, S, h1, h2⟩ := subs_U (t := (a ++ END).toArray) (e := a.length) (by simp) fails_END H 0 0 (Nat.le_refl _) (fun i h1 h2 => absurd h2 (by omega)) (by
    have := At.of_append (l := []) (a := a) (r := END)
    simpa using this) (by omega)
  refine ⟨ls, S, ?_, h2⟩
  rw [h1, ext_tail]
  simp
theorem subs_N {b : List Nat} (hb : ∀ c ∈ b, calm c) (hne : b ≠ []) : Subs NC (b ++ END).toArray [10] 0 [b, [10], [69, 78, 68, 58, 65], [10]] := by
  have hz : (b ++ END).toArray.size = b.length + 8 := by simp [END]
  have hpos : 0 < b.length := List.length_pos_iff.mpr hne
  have A0 := At.of_append (l := b) (a := END) (r := [])
  rw [List.append_nil] at A0
  have AB := At.of_append (l := []) (a := b) (r := END)
  simp only [List.nil_append, List.length_nil] at AB
  have pl : ∀ i (c : Nat), i < b.length + 8 → (b ++ END).toArray.getD i 0 = c → c ≠ 10 → c ≠ 13 → NFailsAt (b ++ END).toArray i := fun i c hi e e1 e2 =>
    nfails_plain (by omega) (by rw [e]; exact fun q => e2 q.2) (by rw [e]; exact fun q => e1 q.2)
  have F1 : Finds NC (b ++ END).toArray 0 (some (0 + b.length, 0 + b.length + 2)) := nfinds (t := (b ++ END).toArray) (pos := 0) (k := b.length) (u := [13, 10]) (fun i _ hi => by
    have hi : i < b.length := by omega
    have h := AB i hi
    rw [Nat.zero_add] at h
    have hc := hb b[i] (List.getElem_mem hi)
    exact pl i _ (by omega) h.2 hc.1 hc.2.1) (.inr rfl) (by rw [Nat.zero_add]; simpa [END] using A0.left (a := [13, 10]))
  rw [Nat.zero_add] at F1
  have A2 := A0.right (a := [13, 10]) (b := [69, 78, 68, 58, 65, 10])
  have F2 : Finds NC (b ++ END).toArray (b.length + 2) (some (b.length + 7, b.length + 8)) := nfinds (t := (b ++ END).toArray) (pos := b.length + 2) (k := 5) (u := [10]) (fun i h1 h2 => by
    obtain ⟨k, rfl⟩ : ∃ k, i = b.length + 2 + k := ⟨i - (b.length + 2), by omega⟩
    have hk : k < 5 := by omega
    have hA := fun (h : k < 6) => (A2 k h).2
    match k, hk, hA with
    | 0, _, h => exact pl _ 69 (by omega) (h (by omega)) (by decide) (by decide)
    | 1, _, h => exact pl _ 78 (by omega) (h (by omega)) (by decide) (by decide)
    | 2, _, h => exact pl _ 68 (by omega) (h (by omega)) (by decide) (by decide)
    | 3, _, h => exact pl _ 58 (by omega) (h (by omega)) (by decide) (by decide)
    | 4, _, h => exact pl _ 65 (by omega) (h (by omega)) (by decide) (by decide)) (.inl rfl) (by simpa using A2.right (a := [69, 78, 68, 58, 65]) (b := [10]))
  have F3 : Finds NC (b ++ END).toArray (b.length + 8) none := by
    have := nfinds_end (t := (b ++ END).toArray)
    rwa [hz] at this
  have S3 := Subs.done (rep := [10]) _ F3
  have S2 := Subs.more _ _ _ _ F2 (by omega) S3
  have S1 := Subs.more _ _ _ _ F1 (by omega) S2
  have e1 : ((b ++ END).toArray.extract 0 b.length).toList = b := by simp
  have e2 : ((b ++ END).toArray.extract (b.length + 2) (b.length + 7)).toList = [69, 78, 68, 58, 65] := by
    rw [show (b ++ END).toArray = (b ++ [13, 10] ++ ([69, 78, 68, 58, 65] ++ [10])).toArray from by simp [END]]
    simp [List.extract_eq_take_drop, List.drop_append, List.take_append]
  rw [if_neg (show ¬ b.length + 8 < (b ++ END).toArray.size by omega), if_pos (show b.length + 2 < b.length + 7 by omega), if_pos hpos, e1, e2] at S1
  exact S1
end Mine
end TextP3

section TextSK
open PySem PySem.W PySem.W.X PySem.Calls PyProof.Rows PySem.Spec
namespace Mine
/-- on along a tree, through what only reads the written part -/
noncomputable def skimK {α : Type} (K : Frag) (g : Setting) : Nat → Sem α → Sem α
  | 0, t => t
  | n + 1, .rule _ k => skimK K g n (k ())
  | n + 1, .at _ k => skimK K g n (k ())
  | n + 1, .point _ k => skimK K g n (k ())
  | n + 1, .ask k => skimK K g n (k g)
  | n + 1, .load a q k => (match K.lookup a with
    | some o => skimK K g n (k o)
    | none => .load a q k)
  | _ + 1, t => t
section
variable {α : Type}
noncomputable def nAlloc : Sem α → Option Obj | .alloc o _ => some o | _ => none
noncomputable def kAlloc : Sem α → Addr → Sem α | .alloc _ k, a => k a | t, _ => t
noncomputable def nLoad : Sem α → Option Addr | .load a _ _ => some a | _ => none
noncomputable def kLoad : Sem α → Obj → Sem α | .load _ _ k, o => k o | t, _ => t
noncomputable def nUpd : Sem α → Option Addr | .update a _ _ _ => some a | _ => none
noncomputable def fUpd : Sem α → Obj → Obj | .update _ _ f _, o => f o | _, o => o
noncomputable def kUpd : Sem α → Sem α | .update _ _ _ k => k () | t => t
noncomputable def nFresh : Sem α → Bool | .fresh _ => true | _ => false
noncomputable def kFresh : Sem α → Tok → Sem α | .fresh k, a => k a | t, _ => t
noncomputable def nHand : Sem α → Bool | .handled false _ => true | _ => false
noncomputable def kHand : Sem α → Option Value → Sem α | .handled _ k, a => k a | t, _ => t
noncomputable def nCall : Sem α → Option (Code × Option Value) | .call c hd _ _ _ => some (c, hd) | _ => none
noncomputable def kCall : Sem α → Result → Sem α | .call _ _ _ _ k, a => k a | t, _ => t
noncomputable def nPure : Sem α → Option α | .pure a => some a | _ => none
end
/-- the frame, the objects made here (newest first), and the ledger -/
structure Lg (h₀ : Heap) (L : Addr) (m : PySem.Str → Option Value) (h : Heap) (own news : List (Addr × Obj)) : Prop where
  fr : Fr h₀ L h m
  nw : News h₀ L h (own ++ news)
  ord : (own.map (·.1)).Pairwise (· > ·)
  lt : ∀ q ∈ own, ∀ p ∈ news, p.1 < q.1
theorem Lg.start {h₀ h : Heap} {L : Addr} {m : PySem.Str → Option Value} {news : List (Addr × Obj)} (F : Fr h₀ L h m) (N : News h₀ L h news) : Lg h₀ L m h [] news := ⟨F, N, .nil, fun _ hq => nomatch hq⟩
theorem Lg.at {h₀ h : Heap} {L : Addr} {m : PySem.Str → Option Value} {own news : List (Addr × Obj)} (D : Lg h₀ L m h own news) (i : Nat) {a : Addr} {o : Obj} (hi : own[i]? = some (a, o)) : h.get? a = some o := D.nw.get (List.mem_append_left _ (List.mem_of_getElem? hi))
theorem Lg.push {h₀ h : Heap} {L : Addr} {m : PySem.Str → Option Value} {own news : List (Addr × Obj)} (D : Lg h₀ L m h own news) {o : Obj} (hf : o.isFreed = false) : Lg h₀ L m (h.push o) ((h.objs.size, o) :: own) news := by
  refine ⟨D.fr.push o, D.nw.push D.fr o hf, .cons (fun b hb => ?_) D.ord, fun q hq p hp => ?_⟩
  · obtain ⟨⟨b', ob⟩, hp, rfl⟩ := List.mem_map.mp hb
    exact Heap.lt_size (D.nw.get (List.mem_append_left _ hp))
  · rcases List.mem_cons.mp hq with rfl | hq
    · exact Heap.lt_size (D.nw.get (List.mem_append_right _ hp))
    · exact D.lt q hq p hp
theorem Lg.upd {h₀ h : Heap} {L : Addr} {m : PySem.Str → Option Value} {own news : List (Addr × Obj)} (D : Lg h₀ L m h own news) {i : Nat} {a : Addr} {o : Obj} {f : Obj → Obj} (hi : own[i]? = some (a, o)) (hf : (f o).isFreed = false) : Lg h₀ L m (h.update a f) (own.set i (a, f o)) news := by
  have ho := D.at i hi
  have hs : Heap.SameBut a h (h.update a f) := Heap.SameBut.update ..
  have ge : (h.update a f).get? a = some (f o) := by first | exact Heap.get?_update_self f ho hf | exact Heap.get?_update_self _ ho hf | (rw [Heap.get?_update_self _ ho]; exact hf)
  have z := D.nw (a, o) (List.mem_append_left _ (List.mem_of_getElem? hi))
  obtain ⟨hl, he⟩ := List.getElem?_eq_some_iff.mp hi
  have sp : own = own.take i ++ (a, o) :: own.drop (i + 1) := by rw [← he, ← List.drop_eq_getElem_cons hl, List.take_append_drop]
  have e : own.set i (a, f o) = own.take i ++ (a, f o) :: own.drop (i + 1) := List.set_eq_take_append_cons_drop.trans (if_pos hl)
  have ord' := D.ord
  rw [sp, List.map_append, List.map_cons] at ord'
  have p1 : ∀ p ∈ own.take i, p.1 ≠ a := fun p hp => Nat.ne_of_gt ((List.pairwise_append.mp ord').2.2 p.1 (List.mem_map_of_mem hp) a (.head _))
  have p2 : ∀ p ∈ own.drop (i + 1) ++ news, p.1 ≠ a := fun p hp => by
    rcases List.mem_append.mp hp with hp | hp
    · exact Nat.ne_of_lt ((List.pairwise_cons.mp (List.pairwise_append.mp ord').2.1).1 p.1 (List.mem_map_of_mem hp))
    · exact Nat.ne_of_lt (D.lt _ (List.mem_of_getElem? hi) p hp)
  have N := D.nw
  rw [sp, List.append_assoc, List.cons_append] at N
  refine ⟨D.fr.change hs z.2.1 z.2.2, ?_, ?_, ?_⟩
  · rw [e, List.append_assoc, List.cons_append]; exact news_set N p1 p2 hs ge
  · rw [e, List.map_append, List.map_cons]; exact ord'
  · intro q hq p hp
    rw [e] at hq
    rcases List.mem_append.mp hq with hq | hq
    · exact D.lt q (by rw [sp]; exact List.mem_append_left _ hq) p hp
    · rcases List.mem_cons.mp hq with rfl | hq
      · exact D.lt (a, o) (List.mem_of_getElem? hi) p hp
      · exact D.lt q (by rw [sp]; exact List.mem_append_right _ (.tail _ hq)) p hp
section
variable {α : Type} {prog : Program} {w : World} {A : Around} {E : Value → Shared → Prop} {s : Shared} {Q : α → Shared → Prop} {h₀ : Heap} {L : Addr} {m : PySem.Str → Option Value} {own news : List (Addr × Obj)} {K : Frag} {t : Sem α}
theorem x_skimK (X : K.In s.heap) : ∀ (n : Nat) {t : Sem α}, wpAny (model prog w) A (skimK K ⟨prog, w.params⟩ n t) Q E s → wpAny (model prog w) A t Q E s
  | 0, _, h => h
  | n + 1, .rule _ _, h => x_rule (x_skimK X n h)
  | n + 1, .at _ _, h => x_at (x_skimK X n h)
  | n + 1, .point _ _, h => x_point (x_skimK X n h)
  | n + 1, .ask _, h => x_ask (x_skimK X n h)
  | n + 1, .load a q k, h => by
    simp only [skimK] at h
    split at h
    · rename_i o ho
      exact x_load (X _ _ ho) (x_skimK X n h)
    · exact h
  | _ + 1, .pure _, h => h
  | _ + 1, .raise _, h => h
  | _ + 1, .unsupported _, h => h
  | _ + 1, .finish _, h => h
  | _ + 1, .update .., h => h
  | _ + 1, .alloc .., h => h
  | _ + 1, .loadIfAlive .., h => h
  | _ + 1, .register .., h => h
  | _ + 1, .fresh _, h => h
  | _ + 1, .choose .., h => h
  | _ + 1, .os .., h => h
  | _ + 1, .call .., h => h
  | _ + 1, .handled .., h => h
  | _ + 1, .newGen .., h => h
  | _ + 1, .genState .., h => h
  | _ + 1, .resume .., h => h
  | _ + 1, .yield .., h => h
  | _ + 1, .stack _, h => h
  | _ + 1, .fork .., h => h
  | _ + 1, .thread _, h => h
  | _ + 1, .await .., h => h
theorem s_pure {a : α} (X : K.In s.heap) (n : Nat) (e : nPure (skimK K ⟨prog, w.params⟩ n t) = some a) (h : Q a s) : wpAny (model prog w) A t Q E s := by
  refine x_skimK X n ?_
  generalize skimK K ⟨prog, w.params⟩ n t = T at *
  cases T with
  | pure b => cases e; exact x_pure h
  | _ => cases e
theorem s_alloc {o : Obj} (X : K.In s.heap) (n : Nat) (e : nAlloc (skimK K ⟨prog, w.params⟩ n t) = some o) (hf : o.isFreed = false) (D : Lg h₀ L m s.heap own news)
    (h : ∀ a h', Lg h₀ L m h' ((a, o) :: own) news → wpAny (model prog w) A (kAlloc (skimK K ⟨prog, w.params⟩ n t) a) Q E { s with heap := h' }) : wpAny (model prog w) A t Q E s := by
  refine x_skimK X n ?_
  generalize skimK K ⟨prog, w.params⟩ n t = T at *
  cases T with
  | alloc b k => cases e; exact wpAny_bind (m := alloc o) (f := k) (wpAny_alloc (h _ _ (D.push hf)))
  | _ => cases e
theorem s_load {a : Addr} {o : Obj} (X : K.In s.heap) (n : Nat) (e : nLoad (skimK K ⟨prog, w.params⟩ n t) = some a) (ho : s.heap.get? a = some o)
    (h : wpAny (model prog w) A (kLoad (skimK K ⟨prog, w.params⟩ n t) o) Q E s) : wpAny (model prog w) A t Q E s := by
  refine x_skimK X n ?_
  generalize skimK K ⟨prog, w.params⟩ n t = T at *
  cases T with
  | load b q k => cases e; exact x_load ho h
  | _ => cases e
theorem s_upd {a : Addr} {o o' : Obj} (X : K.In s.heap) (n : Nat) (e : nUpd (skimK K ⟨prog, w.params⟩ n t) = some a) (D : Lg h₀ L m s.heap own news) (i : Nat) (hi : own[i]? = some (a, o)) (e2 : fUpd (skimK K ⟨prog, w.params⟩ n t) o = o') (hf : o'.isFreed = false)
    (h : ∀ h', Lg h₀ L m h' (own.set i (a, o')) news → wpAny (model prog w) A (kUpd (skimK K ⟨prog, w.params⟩ n t)) Q E { s with heap := h' }) : wpAny (model prog w) A t Q E s := by
  refine x_skimK X n ?_
  generalize skimK K ⟨prog, w.params⟩ n t = T at *
  cases T with
  | update b q f k => cases e; cases e2; exact wpAny_bind (m := updatePart a q f) (f := k) (wpAny_updatePart (D.at i hi) (h _ (D.upd hi hf)))
  | _ => cases e
theorem s_fresh (X : K.In s.heap) (n : Nat) (e : nFresh (skimK K ⟨prog, w.params⟩ n t) = true)
    (h : wpAny (model prog w) A (kFresh (skimK K ⟨prog, w.params⟩ n t) s.toks) Q E { s with toks := s.toks + 1 }) : wpAny (model prog w) A t Q E s := by
  refine x_skimK X n ?_
  generalize skimK K ⟨prog, w.params⟩ n t = T at *
  cases T with
  | fresh k => exact x_fresh h
  | _ => cases e
theorem s_hand (X : K.In s.heap) (n : Nat) (e : nHand (skimK K ⟨prog, w.params⟩ n t) = true)
    (h : wpAny (model prog w) A (kHand (skimK K ⟨prog, w.params⟩ n t) A.handled) Q E s) : wpAny (model prog w) A t Q E s := by
  refine x_skimK X n ?_
  generalize skimK K ⟨prog, w.params⟩ n t = T at *
  cases T with
  | handled own k =>
    cases own with
    | false => exact x_handled h
    | true => cases e
  | _ => cases e
theorem s_call {c : Code} {hd : Option Value} (X : K.In s.heap) (n : Nat) (e : nCall (skimK K ⟨prog, w.params⟩ n t) = some (c, hd)) (hnb : hd ≠ some byPass)
    (h : codeAny (model prog w) (A.mark hd) c (fun r s' => wpAny (model prog w) A (kCall (skimK K ⟨prog, w.params⟩ n t) r) Q E s') s) : wpAny (model prog w) A t Q E s := by
  refine x_skimK X n ?_
  generalize skimK K ⟨prog, w.params⟩ n t = T at *
  cases T with
  | call c' hd' g l k => cases e; exact x_call h hnb
  | _ => cases e
end
end Mine
end TextSK

section TextSP
open PySem PySem.W PySem.W.X PySem.Calls PyProof.Rows PySem.Spec
set_option maxHeartbeats 0
set_option maxRecDepth 100000
namespace Mine
theorem fillSP (w : World) (h : Heap) : (Lay.hd.heap_1_39 w.params).In h → PySem.Challenge.rw_bf0005_01.row.prog = PySem.Challenge.rw_bf0005_01.row.prog := by
  k_fill
  intros
  rfl
section
variable {w : World} {A : Around} {E : Value → Shared → Prop} {s : Shared} {h₀ : Heap} {L : Addr} {m : PySem.Str → Option Value} {own news : List (Addr × Obj)}


theorem sup_init {Q : PySem.Fin → Shared → Prop} {so : Addr} (X : (Lay.hd.heap_1_39 w.params).In h₀) (D : Lg h₀ L m s.heap ((so, { cls := .type "super", data := .fields #[.none, .none, .none] }) :: own) news)
    (h : ∀ h', Lg h₀ L m h' ((so, { cls := .type "super", data := .fields #[.ref 408, .ref 408, .ref 408] }) :: own) news → Q (.done (.ret .none)) { s with heap := h' }) : wpAny (model PySem.Challenge.rw_bf0005_01.row.prog w) A (Builtin.«super.__init__» ⟨[.ref so, .ref 408, .ref 408], []⟩) Q E s := by
  have XS := X.keeps D.fr.keep
  refine s_load XS 3 (by kernel_rfl) (D.at 0 rfl) ?_
  refine s_upd XS 0 (by kernel_rfl) D 0 rfl (o' := { cls := .type "super", data := .fields #[.ref 408, .none, .none] }) (by kernel_rfl) rfl fun h1 D1 => ?_
  have X1 := X.keeps D1.fr.keep
  refine s_load X1 0 (by kernel_rfl) (D1.at 0 rfl) ?_
  refine s_upd X1 0 (by kernel_rfl) D1 0 rfl (o' := { cls := .type "super", data := .fields #[.ref 408, .ref 408, .none] }) (by kernel_rfl) rfl fun h2 D2 => ?_
  have X2 := X.keeps D2.fr.keep
  refine s_load X2 0 (by kernel_rfl) (D2.at 0 rfl) ?_
  refine s_upd X2 0 (by kernel_rfl) D2 0 rfl (o' := { cls := .type "super", data := .fields #[.ref 408, .ref 408, .ref 408] }) (by kernel_rfl) rfl fun h3 D3 => ?_
  have X3 := X.keeps D3.fr.keep
  exact s_pure X3 0 (by kernel_rfl) (h _ D3)
theorem sup_get {Q : Value × List Value → Shared → Prop} {so : Addr} {pl : Sem Bool} (XS : (Lay.hd.heap_1_39 w.params).In s.heap) (ho : s.heap.get? so = some { cls := .type "super", data := .fields #[.ref 408, .ref 408, .ref 408] }) (h : ∀ k, Q (.builtin "str.__new__", []) { s with toks := k }) : wpAny (model PySem.Challenge.rw_bf0005_01.row.prog w) A (getMethod (.ref so) "__new__" pl) Q E s := by
  refine s_load XS 0 (by kernel_rfl) ho ?_
  refine s_fresh XS 400 (by kernel_rfl) ?_
  refine s_load XS 0 (by kernel_rfl) ho ?_
  refine s_call (c := .call (.builtin "super.__getattribute__") ⟨[.ref so, .str (PySem.Str.ofString "__new__") s.toks], []⟩) (hd := none) XS 400 (by kernel_rfl) (by intro h; cases h) ?_
  refine codeAny_call_builtin F.ks_slot_super_ga.plain F.ks_entry_super_ga ?_
  refine s_load XS 0 (by kernel_rfl) ho ?_
  refine s_pure (a := ()) XS 400 (by kernel_rfl) ?_
  refine s_load XS 0 (by kernel_rfl) ho ?_
  refine s_load XS 0 (by kernel_rfl) ho ?_
  refine s_load XS 0 (by kernel_rfl) ho ?_
  refine s_pure (a := .done (.ret (.builtin "str.__new__"))) XS 400 (by kernel_rfl) ?_
  exact s_pure XS 400 (by kernel_rfl) (h _)
theorem no_past {x : PySem.Str} {t : Tok} (hx : x.length ≤ 8192) : (Data.prim (.str x t)).pastItsLine = none := by
  show (if x.length > sizeLine then some "str:memory" else none) = none
  rw [if_neg (by rw [sizeLine_eq]; omega)]
theorem new_end {Q : PySem.Fin → Shared → Prop} {x : PySem.Str} {t : Tok} {d : Addr} (hx : x.length ≤ 8192) (X : (Lay.hd.heap_1_39 w.params).In h₀) (D : Lg h₀ L m s.heap own news) (h : ∀ o h' k, Lg h₀ L m h' ((o, {cls := .ref 408, dict := some d, data := .prim (.str x t)}) :: own) news → Q (.done (.ret (.ref o))) { s with heap := h', toks := k }) : wpAny (model PySem.Challenge.rw_bf0005_01.row.prog w) A (do ret (← newObj (.ref 408) (.prim (.str x t)) (some d))) Q E s := by
  have XS := X.keeps D.fr.keep
  have e : newObj (.ref 408) (.prim (.str x t)) (some d) = newObjAsIs (.ref 408) (.prim (.str x t)) (some d) := by
    unfold newObj
    simp only [no_past hx]
  rw [e]
  refine s_alloc XS 400 (o := {cls := .ref 408, dict := some d, data := .prim (.str x t)}) (by kernel_rfl) rfl D fun o h1 D1 => ?_
  have X1 := X.keeps D1.fr.keep
  exact s_pure X1 400 (by kernel_rfl) (h _ _ _ D1)
theorem mset_plain : plainId "member_descriptor.__set__" = true := by decide +kernel
theorem mset_entry : entryFor table "member_descriptor.__set__" = some Builtin.«member_descriptor.__set__» := entryFor_of_tree (by kernel_rfl)
theorem pset_plain : plainId "proto.slot#set" = true := by decide +kernel
theorem pset_entry : entryFor table "proto.slot#set" = some Builtin.«proto.slot#set» := entryFor_of_tree (by kernel_rfl)
theorem oset_plain : plainId "object.__setattr__" = true := by decide +kernel
theorem oset_entry : entryFor table "object.__setattr__" = some Builtin.«object.__setattr__» := entryFor_of_tree (by kernel_rfl)
theorem set_strict {Q : Unit → Shared → Prop} {o d : Addr} {x : PySem.Str} {t : Tok} (X : (Lay.hd.heap_1_39 w.params).In h₀) (D : Lg h₀ L m s.heap ((o, {cls := .ref 408, dict := some d, data := .prim (.str x t)}) :: (d, {cls := .type "dict", data := .dict #[]}) :: own) news) (h : ∀ h' k, Lg h₀ L m h' ((o, {cls := .ref 408, dict := some d, data := .prim (.str x t), slots := #[some (.bool false)]}) :: (d, {cls := .type "dict", data := .dict #[]}) :: own) news → Q () { s with heap := h', toks := k }) : wpAny (model PySem.Challenge.rw_bf0005_01.row.prog w) A (setAttr (.ref o) "strict" (.bool false)) Q E s := by
  have XS := X.keeps D.fr.keep
  refine s_fresh XS 400 (by kernel_rfl) ?_
  refine s_load XS 0 (by kernel_rfl) (D.at 0 rfl) ?_
  refine s_call (c := .call (.builtin "object.__setattr__") ⟨[.ref o, .str (PySem.Str.ofString "strict") s.toks, .bool false], []⟩) (hd := none) XS 400 (by kernel_rfl) (by intro h; cases h) ?_
  refine codeAny_call_builtin oset_plain oset_entry ?_
  refine s_load XS 0 (by kernel_rfl) (D.at 0 rfl) ?_
  refine s_pure (a := ()) XS 400 (by kernel_rfl) ?_
  refine s_load XS 0 (by kernel_rfl) (D.at 0 rfl) ?_
  refine s_load XS 1 (by kernel_rfl) (D.at 0 rfl) ?_
  refine s_call (c := .call (.builtin "member_descriptor.__set__") ⟨[.ref 410, .ref o, .bool false], []⟩) (hd := none) XS 400 (by kernel_rfl) (by intro h; cases h) ?_
  refine codeAny_call_builtin mset_plain mset_entry ?_
  refine s_pure (a := ()) XS 400 (by kernel_rfl) ?_
  refine s_load XS 2 (by kernel_rfl) (D.at 0 rfl) ?_
  refine s_pure (a := .again (.builtin "proto.slot#set" ⟨[.ref o, .bool false, .ref 410], []⟩)) XS 400 (by kernel_rfl) ⟨plainId_quiet pset_plain _, ?_⟩
  refine codeAny_builtin pset_entry ?_
  refine s_load XS 2 (by kernel_rfl) (D.at 0 rfl) ?_
  refine s_upd XS 400 (by kernel_rfl) D 0 rfl (o' := { cls := .ref 408, dict := some d, data := .prim (.str x t), slots := #[some (.bool false)] }) (by kernel_rfl) rfl fun h1 D => ?_
  have XS := X.keeps D.fr.keep
  refine s_pure (a := .done (.ret .none)) XS 400 (by kernel_rfl) ?_
  refine s_pure (a := .done (.ret .none)) XS 400 (by kernel_rfl) ?_
  refine s_pure (a := ()) XS 400 (by kernel_rfl) ?_
  exact h _ _ D
theorem strnew_plain : plainId "str.__new__" = true := by decide +kernel
theorem strnew_entry : entryFor table "str.__new__" = some Builtin.«str.__new__» := entryFor_of_tree (by kernel_rfl)
theorem str_new {Q : Value → Shared → Prop} {x : PySem.Str} {t : Tok} (hx : x.length ≤ 8192) (X : (Lay.hd.heap_1_39 w.params).In h₀) (D : Lg h₀ L m s.heap own news)
    (h : ∀ o d h' k t', Lg h₀ L m h' ((o, {cls := .ref 408, dict := some d, data := .prim (.str x t')}) :: (d, {cls := .type "dict", data := .dict #[]}) :: own) news → Q (.ref o) { s with heap := h', toks := k }) : wpAny (model PySem.Challenge.rw_bf0005_01.row.prog w) A (call (.builtin "str.__new__") [.ref 408, .str x t]) Q E s := by
  have XS := X.keeps D.fr.keep
  refine wpAny_call (codeAny_call_builtin strnew_plain strnew_entry ?_)
  refine s_pure (a := ()) XS 400 (by kernel_rfl) ?_
  refine s_alloc XS 400 (o := {cls := .type "dict", data := .dict #[]}) (by kernel_rfl) rfl D fun d h1 D => ?_
  have e : kAlloc (skimK (Lay.hd.heap_1_39 w.params) ⟨PySem.Challenge.rw_bf0005_01.row.prog, w.params⟩ 400 (Builtin.«str.__new__» ⟨[.ref 408, .str x t], []⟩)) d = (do ret (← newObj (.ref 408) (.prim (← mkStr x)) (some d))) := by kernel_rfl
  rw [e]
  refine wpAny_bind (wpAny_mkStr ?_ (by rw [sizeLine_eq]; omega))
  exact new_end hx X D fun o h' k D => h _ _ _ _ _ D
theorem sup_call {Q : Value → Shared → Prop} (X : (Lay.hd.heap_1_39 w.params).In h₀) (D : Lg h₀ L m s.heap own news)
    (h : ∀ so h', Lg h₀ L m h' ((so, { cls := .type "super", data := .fields #[.ref 408, .ref 408, .ref 408] }) :: own) news → Q (.ref so) { s with heap := h' }) : wpAny (model PySem.Challenge.rw_bf0005_01.row.prog w) A (call (.type "super") [.ref 408, .ref 408]) Q E s := by
  have XS := X.keeps D.fr.keep
  refine ks_callType_codesW (Q₁ := fun obj s₁ => ∃ so h', obj = .ref so ∧ s₁ = { s with heap := h' } ∧ Lg h₀ L m h' ((so, { cls := .type "super", data := .fields #[.none, .none, .none] }) :: own) news) F.ks_called_super (fun q => s_pure (a := ()) XS 400 (by kernel_rfl) q) F.ks_entry_super_init
    (ks_code_super_new _ _ ⟨_, _, rfl, rfl, D.push rfl⟩) fun obj s₁ h₁ => ?_
  obtain ⟨so, h1, rfl, rfl, D⟩ := h₁
  refine ⟨⟨_, D.at 0 rfl, rfl⟩, F.ks_initArgs_super _ _ _, ?_⟩
  exact sup_init X D fun h' D => ⟨rfl, h _ _ D⟩
/-- `super()` where the first argument is the class itself -/
theorem node_cls {K : Frag} {p : Program} {loose : List PySem.Str} {mean : ExcName → Option Value} {mg mb : PySem.Str → Option Value} {f cc cda : Addr} {prog : Program} {body : List Stmt} {q : PySem.Str} {scope : Scope} {p0 p1 : Pos} {attr : PySem.Str} {whole : Sem Value} {fd : FuncData} {ar : PySem.Arg} {vs : Array Value} {file : PySem.Str} {tf : Tok} {oc ccl cl : Value} {od cdd cld : Option Addr} {osl ccs csl : Array (Option Value)} {Q : Value → Shared → Prop}
    (F : Fr h₀ L s.heap m) (X₀ : K.In h₀) (N : News h₀ L s.heap news) (T : Top p loose mean mg mb h₀)
    (hf : K.lookup f = some ⟨oc, od, .func fd, osl⟩) (hp : (fd.params.posonlyargs ++ fd.params.args).head? = some ar) (hv : m ar.arg = some (.ref 408))
    (hcode : K.lookup cda = some ⟨ccl, cdd, .fields vs, ccs⟩) (hvs : vs[2]? = some (.str file tf)) (hfile : ((prog.main.file : PySem.Str) == file) = true)
    (hcell : K.lookup cc = some ⟨cl, cld, .cell (some (.ref 408)), csl⟩) (hsuper : nsIn K mainGlobals "super" = some none)
    (hat : (attr == ("__class__" : PySem.Str)) = false) (hks : scope.names.lookup ("super" : PySem.Str) = some .globalImplicit) (hkc : scope.names.lookup ("__class__" : PySem.Str) = some .free) (hka : scope.names.lookup ar.arg = some .local) (hk : scope.kind = .function)
    (htop : (prog.main.scope.names.lookup ("super" : PySem.Str)).isSome = false) (hboot : bootBuiltins "super" = some (.type "super"))
    (hty : Looks (model prog w) h₀ (isType (.ref 408)) true)
    (h : wpAny (model prog w) A (call (.type "super") [.ref 408, .ref 408]) Q E s) :
    PySem.wpAt (model prog w) A (.func body (ksEnv q scope L f (.ref cda) cc)) (attributeBase (.Call (.Name "super" p0) [] [] p1) attr (ksEnv q scope L f (.ref cda) cc) whole) Q E s := by
  have X : K.In s.heap := X₀.keeps F.keep
  refine ks_wpAt_super_base (env := ksEnv q scope L f (.ref cda) cc) hks hkc hat rfl (X _ _ hf) rfl hp rfl (X _ _ hcode) rfl hvs hfile htop ?_
  refine ks_loadName_global hk hks (loadGlobal_builtin (env := ksEnv q scope L f (.ref cda) cc) (T.g.keeps F.keep) (mg_none_of X₀ T.g hsuper) (T.b.keeps F.keep) ((T.builtins _ (by decide +kernel)).trans hboot) ⟨rfl, ?_⟩)
  refine wpAny_loadName_free hk hkc rfl ⟨_, X _ _ hcell, rfl⟩ ?_
  refine wpAny_loadName_local hk hka F.ns hv ?_
  exact (hty.keeps F.keep).here ⟨rfl, h⟩
theorem look_408 {prog : Program} {w : World} {h : Heap} (X : (Lay.hd.heap_1_39 w.params).In h) : Looks (model prog w) h (isType (.ref 408)) true := Looks.of_peek X (by kernel_rfl)
end
end Mine
end TextSP

section TextN1
open PySem PySem.W PySem.W.X PySem.Calls PyProof.Rows PySem.Spec
namespace Mine
theorem fillN1 (w : World) (h : Heap) : (Lay.hd.heap_1_39 w.params).In h → PySem.Challenge.rw_bf0005_01.row.prog = PySem.Challenge.rw_bf0005_01.row.prog := by
  k_fill
  intros
  rfl
local macro_rules | `(tactic| k_room) => `(tactic| ktr_room)


theorem nl_is2 : PySem.Str.ofString "\n" = chs [10] := by decide +kernel
theorem no_nl2 {x : PySem.Str} : (PySem.Builtin.Str.occurrences x (PySem.Str.ofString "\n") 0 x.length 1).isEmpty = true ↔ 10 ∉ x.cps.toList := by
  have := StrLaws.found_one x 10
  rw [nl_is2]
  cases h : (PySem.Builtin.Str.occurrences x (chs [10]) 0 x.length 1).isEmpty with
  | true => simp only [true_iff]; intro hm; have h2 : (PySem.Builtin.Str.occurrences x ⟨#[10]⟩ 0 x.length 1).isEmpty = true := h; rw [h2, decide_eq_true hm] at this; cases this
  | false => simp only [Bool.false_eq_true, false_iff]; intro hm; have h2 : (PySem.Builtin.Str.occurrences x ⟨#[10]⟩ 0 x.length 1).isEmpty = false := h; rw [h2, decide_eq_false hm] at this; cases this
set_option maxRecDepth 100000 in
set_option maxHeartbeats 0 in
theorem uni_call {w : World} {loose : List PySem.Str} {mean : ExcName → Option Value} {mg mb : PySem.Str → Option Value} {dp un : Nat} {gd : Option (List Code)} {pv : Program} {env : Env} {outer : List Env} {A₀ : Around} {base h₀ : Heap} {L : Addr} {m : PySem.Str → Option Value} {s : Shared} {Q E : Value → Shared → Prop}
    {news : List (Addr × Obj)} {x enc : PySem.Str} {t t2 : Tok}
    (B : Below A₀ base outer h₀) (F : Fr h₀ L s.heap m) (X : (Lay.hd.heap_1_39 w.params).In h₀) (N : News h₀ L s.heap (news)) (T : Top pv loose mean mg mb h₀) (hef : env.frame = some L) (hk : env.scope.kind = .function)
    (hdp : dp + 300 < recursionLimit) (hu : un + 300 < cLine)
    {args : List Value} {kws : List (PySem.Str × Value)} (hbinds : BindsAt (Lay.hd.heap_1_39 w.params) 46 s ⟨args, kws⟩ [("value", .str x t), ("encoding", .str enc t2)])
    (ret : ∀ h' tk, Fr h₀ L h' m → News h₀ L h' news → Q (.str x t) { s with heap := h', toks := tk }) :
    wpAny (model PySem.Challenge.rw_bf0005_01.row.prog w) { handled := none, depth := dp, frames := some (env :: outer), guards := gd, units := un } (call (.ref 46) args kws) Q E s := by
  refine wpAny_call ?_
  (refine' code_def ?k1 ?k2 ?k3 ?k4 ?k5 ?kA ?kF ?kK ?k6 ?k7 ?k8 ?k9 ?kB ?_ ?c2 ?c3 ?c4 ?c5; (case kA => exact rfl); (case kF => first | exact rfl | assumption); (case kK => first | assumption | exact rfl); (case k1 => k_asm); (case k2 => k_asm); (case k3 => k_asm); (case k4 => k_asm); (case k5 => k_asm); (case k6 => k_is); (case k7 => k_is); (case k8 => ktr_room); (case k9 => first | exact BindsTo.of_eq rfl | exact binds_K (by k_in) rfl (by k_is) rfl rfl rfl | (refine' binds_hyp ?be ?bh; (case bh => assumption); (case be => k_is))); (case c5 => decide); (case kB => exact locs rfl); (case c2 => exact rfl); (case c3 => exact rfl); (case c4 => exact rfl); k_whole; intro _ _ _ _ _ _ _ _ _; (try dsimp only); (try k_fold))
  k_steps
  exact ret _ _ (by assumption) (by assumption)
noncomputable def AtHold (p : Prop) : Prop := p
theorem at_hold {p : Prop} (h : AtHold p) : p := h
local macro_rules | `(tactic| walk_at "wpAt") => `(tactic| (k_dflt (refine ks_wpAt_execs_cons ?_)))
local macro_rules | `(tactic| walk_at "wpAt") => `(tactic| (ks_step "exec Assign"; refine at_hold ?_))
set_option maxRecDepth 100000 in
set_option maxHeartbeats 0 in
theorem new_code {w : World} {loose : List PySem.Str} {mean : ExcName → Option Value} {mg mb : PySem.Str → Option Value} {dp un : Nat} {gd : Option (List Code)} {pv : Program} {env : Env} {outer : List Env} {A₀ : Around} {base h₀ : Heap} {L : Addr} {m : PySem.Str → Option Value} {s : Shared} {R : Result → Shared → Prop}
    {news : List (Addr × Obj)} {x enc : PySem.Str} {t t2 : Tok}
    (B : Below A₀ base outer h₀) (F : Fr h₀ L s.heap m) (X : (Lay.hd.heap_1_39 w.params).In h₀) (N : News h₀ L s.heap (news)) (T : Top pv loose mean mg mb h₀) (hef : env.frame = some L) (hk : env.scope.kind = .function)
    (hdp : dp + 200 < recursionLimit) (hu : un + 200 < cLine)
    {args : List Value} {kws : List (PySem.Str × Value)} (hbinds : BindsAt (Lay.hd.heap_1_39 w.params) 354 s ⟨args, kws⟩ [("cls", .ref 408), ("value", .str x t), ("strict", .bool false), ("encoding", .str enc t2)])
    (hno : 10 ∉ x.cps.toList) (hx8 : x.length ≤ 8192)
    (ret : ∀ a d t' h' tk, Fr h₀ L h' m → News h₀ L h' ((a, { cls := .ref 408, dict := some d, data := .prim (.str x t'), slots := #[some (.bool false)] }) :: (d, { cls := .type "dict", data := .dict #[] }) :: news) → d < a → (∀ p ∈ news, p.1 < d) → R (.ok (.ret (.ref a))) { s with heap := h', toks := tk }) :
    codeAny (model PySem.Challenge.rw_bf0005_01.row.prog w) { handled := none, depth := dp, frames := some (env :: outer), guards := gd, units := un } (.call (.ref 354) ⟨args, kws⟩) R s := by
  refine' ks_code_super ?k1 ?k2 ?k3 ?k4 ?k5 ?kA ?kF ?kK ?k6 ?k7 ?k8 ?k9 ?kB ?_ ?c1 ?c2 ?c3 ?c4
  case kA => exact rfl
  case kF => assumption
  case kK => assumption
  case k1 => k_asm
  case k2 => k_asm
  case k3 => k_asm
  case k4 => k_asm
  case k5 => k_asm
  case k6 => k_is
  case k7 => k_is
  case k8 => ktr_room
  case k9 => exact binds_hyp (by k_is) hbinds
  case kB => exact locs rfl
  case c1 => decide
  case c2 => exact rfl
  case c3 => exact rfl
  case c4 => exact rfl
  intro g' L' h' FG' F' N' B' X' T' l1
  try dsimp only
  try k_lift B'
  k_steps
  rotate_right
  · exfalso
    have hx := ‹(PySem.Builtin.Str.occurrences x _ 0 x.length 1).isEmpty = false›
    have hy := (no_nl2 (x := x)).mpr hno
    rw [hy] at hx
    cases hx
  unfold AtHold
  refine ks_wpAt_Assign_Name ?_ (by kernel_rfl)
  refine ks_wpAt_MethodCall ?_
  refine node_cls (by k_asm) (by k_asm) (by k_asm) (by k_asm) (by k_is) (by rfl) (by rfl) (by k_is) (by rfl) (by first | rfl | decide +kernel) (by k_is) (by k_is) (by decide) (by rfl) (by rfl) (by rfl) (by rfl) (by decide +kernel) (by first | boot_by_name | rfl | kernel_rfl) (look_408 (by assumption)) ?_
  rename Fr _ _ _ _ => F1
  rename News _ _ _ _ => N1
  have D1 := Lg.start F1 N1
  clear F1 N1
  refine sup_call (by assumption) D1 fun so h2 D2 => ?_
  clear D1
  have X2 : (Lay.hd.heap_1_39 w.params).In h2 := Frag.In.keeps (by assumption) D2.fr.keep
  refine sup_get X2 (D2.at 0 rfl) fun k2 => ?_
  dsimp only
  have F2 := D2.fr
  have N2 := D2.nw
  dsimp only [List.cons_append, List.nil_append] at N2
  k_steps
  refine str_new hx8 (by assumption) D2 fun o d h3 k3 t3 D3 => ?_
  have F3 := D3.fr
  have N3 := D3.nw
  dsimp only [List.cons_append, List.nil_append] at N3
  clear F2 N2 X2
  k_steps
  rename Fr _ _ _ _ => F4
  rename News _ _ _ _ => N4
  refine set_strict (own := [(so, _)]) (by assumption) ⟨F4, N4, D3.ord, D3.lt⟩ fun h5 k5 D5 => ?_
  have F5 := D5.fr
  have N5 := D5.nw
  dsimp only [List.cons_append, List.nil_append] at N5
  clear F4 N4
  k_steps
  rename Fr _ _ _ _ => F6
  clear N5
  rename News _ _ _ _ => N6
  have lo := (List.pairwise_cons.mp D5.ord).1 d (.head _)
  exact ret o d t3 h5 k5 F6 (fun p hp => N6 p (by rcases List.mem_cons.mp hp with h | hp; exact h ▸ .head _; rcases List.mem_cons.mp hp with h | hp; exact h ▸ .tail _ (.head _); exact .tail _ (.tail _ (.tail _ hp)))) lo (fun p hp => D5.lt (d, _) (.tail _ (.head _)) p hp)
end Mine
end TextN1

section TextN2
open PySem PySem.W PySem.W.X PySem.Calls PyProof.Rows PySem.Spec
set_option maxHeartbeats 0
set_option maxRecDepth 100000
namespace Mine
theorem fillN2 (w : World) (h : Heap) : (Lay.hd.heap_1_39 w.params).In h → PySem.Challenge.rw_bf0005_01.row.prog = PySem.Challenge.rw_bf0005_01.row.prog := by
  k_fill
  intros
  rfl
theorem tcall_entry : entryFor table "type.__call__" = some Builtin.«type.__call__» := entryFor_of_tree (by kernel_rfl)
theorem tcall_quiet (args : Args) : (Code.builtin "type.__call__" args).quiet = true := Code.quiet_builtin _ (by decide +kernel)
theorem binds_at {K : Frag} {f : Addr} {s : Shared} {args : Args} {binds : List (PySem.Str × Value)} {oc : Value} {od : Option Addr} {fd : FuncData} {osl : Array (Option Value)} (e0 : K.lookup f = some ⟨oc, od, .func fd, osl⟩) (h : BindsTo s fd args binds) : BindsAt K f s args binds :=
  fun oc' od' fd' osl' e => by
    rw [e0] at e
    cases e
    exact h
theorem oin_plain : plainId "object.__init__" = true := by decide +kernel
theorem oin_entry : entryFor table "object.__init__" = some Builtin.«object.__init__» := entryFor_of_tree (by kernel_rfl)
theorem smg_plain : plainId "staticmethod.__get__" = true := by decide +kernel
theorem smg_entry : entryFor table "staticmethod.__get__" = some Builtin.«staticmethod.__get__» := entryFor_of_tree (by kernel_rfl)
theorem tga_plain : plainId "type.__getattribute__" = true := by decide +kernel
theorem tga_entry : entryFor table "type.__getattribute__" = some Builtin.«type.__getattribute__» := entryFor_of_tree (by kernel_rfl)
theorem cls_call {w : World} {loose : List PySem.Str} {mean : ExcName → Option Value} {mg mb : PySem.Str → Option Value} {dp un : Nat} {gd : Option (List Code)} {pv : Program} {env : Env} {outer : List Env} {A₀ : Around} {base h₀ : Heap} {L : Addr} {m : PySem.Str → Option Value} {s : Shared} {Q E : Value → Shared → Prop}
    {news : List (Addr × Obj)} {x : PySem.Str} {t : Tok}
    (B : Below A₀ base outer h₀) (F : Fr h₀ L s.heap m) (X : (Lay.hd.heap_1_39 w.params).In h₀) (N : News h₀ L s.heap (news)) (T : Top pv loose mean mg mb h₀) (hef : env.frame = some L) (hk : env.scope.kind = .function)
    (hdp : dp + 250 < recursionLimit) (hu : un + 250 < cLine)
    {kws : List (PySem.Str × Value)} (hkw : kws = [(PySem.Str.ofString "strict", Value.bool false)] ∨ kws = [])
    (hno : 10 ∉ x.cps.toList) (hx8 : x.length ≤ 8192)
    (ret : ∀ a d t' h' tk, Fr h₀ L h' m → News h₀ L h' ((a, { cls := .ref 408, dict := some d, data := .prim (.str x t'), slots := #[some (.bool false)] }) :: (d, { cls := .type "dict", data := .dict #[] }) :: news) → d < a → (∀ p ∈ news, p.1 < d) → Q (.ref a) { s with heap := h', toks := tk }) :
    wpAny (model PySem.Challenge.rw_bf0005_01.row.prog w) { handled := none, depth := dp, frames := some (env :: outer), guards := gd, units := un } (call (.ref 408) [.str x t] kws) Q E s := by
  have D := Lg.start F N
  have XS := X.keeps F.keep
  refine wpAny_call (codeAny_of_tree ?_)
  show wpAny _ _ (callAny (.ref 408) _) _ _ _
  refine s_pure (a := .again (.call (.builtin "type.__call__") ⟨.ref 408 :: [.str x t], kws⟩)) XS 400 (by rcases hkw with rfl | rfl <;> kernel_rfl) ⟨rfl, ?_⟩
  refine codeAny_call_builtin_at (tcall_quiet _) tcall_entry ?_
  rcases hkw with rfl | rfl
  · refine s_pure (a := ()) XS 400 (by kernel_rfl) ?_
    refine s_fresh XS 400 (by kernel_rfl) ?_
    refine s_call (c := .call (.builtin "type.__getattribute__") ⟨[.ref 408, .str (PySem.Str.ofString "__new__") s.toks], []⟩) (hd := none) XS 400 (by kernel_rfl) (by intro h; cases h) ?_
    refine codeAny_call_builtin tga_plain tga_entry ?_
    refine s_pure (a := ()) XS 400 (by kernel_rfl) ?_
    refine s_call (c := .call (.builtin "staticmethod.__get__") ⟨[.ref 409, .none, .ref 408], []⟩) (hd := none) XS 400 (by kernel_rfl) (by intro h; cases h) ?_
    refine codeAny_call_builtin smg_plain smg_entry ?_
    refine s_pure (a := ()) XS 400 (by kernel_rfl) ?_
    refine s_pure (a := .done (.ret (.ref 354))) XS 400 (by kernel_rfl) ?_
    refine s_pure (a := .done (.ret (.ref 354))) XS 400 (by kernel_rfl) ?_
    refine s_call (c := .call (.ref 354) ⟨[.ref 408, .str x t], [(PySem.Str.ofString "strict", Value.bool false)]⟩) (hd := none) XS 400 (by kernel_rfl) (by intro h; cases h) ?_
    show codeAny _ { handled := none, depth := dp + 1, frames := some (env :: outer), guards := gd, units := un + 1 } _ _ _
    refine' new_code (s := { s with toks := s.toks + 1 }) (dp := dp + 1) (un := un + 1) B F X N T hef hk (by omega) (by omega) ?hb hno hx8 fun o d t' h1 k1 F1 N1 l1 l2 => ?_
    case hb =>
      refine' binds_at ?e0 ?h0
      case e0 => k_is
      case h0 => first | exact BindsTo.of_eq rfl | exact binds_K (by k_in) rfl (by k_is) rfl rfl rfl
    have D : Lg h₀ L m h1 [(o, _), (d, _)] news := ⟨F1, N1, .cons (fun b hb => by simp only [List.map_cons, List.map_nil, List.mem_singleton] at hb; subst hb; exact l1) (.cons (fun b hb => nomatch hb) .nil), fun q hq p hp => by
      rcases List.mem_cons.mp hq with rfl | hq
      · exact Nat.lt_trans (l2 p hp) l1
      · rcases List.mem_cons.mp hq with rfl | hq
        · exact l2 p hp
        · cases hq⟩
    have XS := X.keeps D.fr.keep
    refine s_load XS 0 (by kernel_rfl) (D.at 0 rfl) ?_
    refine s_load XS 1 (by kernel_rfl) (D.at 0 rfl) ?_
    refine s_call (c := .call (.builtin "object.__init__") ⟨[.ref o, .str x t], [(PySem.Str.ofString "strict", Value.bool false)]⟩) (hd := none) XS 400 (by kernel_rfl) (by intro h; cases h) ?_
    refine codeAny_call_builtin oin_plain oin_entry ?_
    refine s_load XS 0 (by kernel_rfl) (D.at 0 rfl) ?_
    refine s_pure (a := ()) XS 400 (by kernel_rfl) ?_
    refine s_load XS 0 (by kernel_rfl) (D.at 0 rfl) ?_
    refine s_pure (a := .done (.ret .none)) XS 400 (by kernel_rfl) ?_
    refine s_pure (a := .done (.ret (.ref o))) XS 400 (by kernel_rfl) ?_
    exact ret _ _ _ _ _ F1 N1 l1 l2
  · refine s_pure (a := ()) XS 400 (by kernel_rfl) ?_
    refine s_fresh XS 400 (by kernel_rfl) ?_
    refine s_call (c := .call (.builtin "type.__getattribute__") ⟨[.ref 408, .str (PySem.Str.ofString "__new__") s.toks], []⟩) (hd := none) XS 400 (by kernel_rfl) (by intro h; cases h) ?_
    refine codeAny_call_builtin tga_plain tga_entry ?_
    refine s_pure (a := ()) XS 400 (by kernel_rfl) ?_
    refine s_call (c := .call (.builtin "staticmethod.__get__") ⟨[.ref 409, .none, .ref 408], []⟩) (hd := none) XS 400 (by kernel_rfl) (by intro h; cases h) ?_
    refine codeAny_call_builtin smg_plain smg_entry ?_
    refine s_pure (a := ()) XS 400 (by kernel_rfl) ?_
    refine s_pure (a := .done (.ret (.ref 354))) XS 400 (by kernel_rfl) ?_
    refine s_pure (a := .done (.ret (.ref 354))) XS 400 (by kernel_rfl) ?_
    refine s_call (c := .call (.ref 354) ⟨[.ref 408, .str x t], []⟩) (hd := none) XS 400 (by kernel_rfl) (by intro h; cases h) ?_
    show codeAny _ { handled := none, depth := dp + 1, frames := some (env :: outer), guards := gd, units := un + 1 } _ _ _
    refine' new_code (s := { s with toks := s.toks + 1 }) (dp := dp + 1) (un := un + 1) B F X N T hef hk (by omega) (by omega) ?hb hno hx8 fun o d t' h1 k1 F1 N1 l1 l2 => ?_
    case hb =>
      refine' binds_at ?e0 ?h0
      case e0 => k_is
      case h0 => first | exact BindsTo.of_eq rfl | exact binds_K (by k_in) rfl (by k_is) rfl rfl rfl
    have D : Lg h₀ L m h1 [(o, _), (d, _)] news := ⟨F1, N1, .cons (fun b hb => by simp only [List.map_cons, List.map_nil, List.mem_singleton] at hb; subst hb; exact l1) (.cons (fun b hb => nomatch hb) .nil), fun q hq p hp => by
      rcases List.mem_cons.mp hq with rfl | hq
      · exact Nat.lt_trans (l2 p hp) l1
      · rcases List.mem_cons.mp hq with rfl | hq
        · exact l2 p hp
        · cases hq⟩
    have XS := X.keeps D.fr.keep
    refine s_load XS 0 (by kernel_rfl) (D.at 0 rfl) ?_
    refine s_load XS 1 (by kernel_rfl) (D.at 0 rfl) ?_
    refine s_call (c := .call (.builtin "object.__init__") ⟨[.ref o, .str x t], []⟩) (hd := none) XS 400 (by kernel_rfl) (by intro h; cases h) ?_
    refine codeAny_call_builtin oin_plain oin_entry ?_
    refine s_load XS 0 (by kernel_rfl) (D.at 0 rfl) ?_
    refine s_pure (a := ()) XS 400 (by kernel_rfl) ?_
    refine s_load XS 0 (by kernel_rfl) (D.at 0 rfl) ?_
    refine s_pure (a := .done (.ret .none)) XS 400 (by kernel_rfl) ?_
    refine s_pure (a := .done (.ret (.ref o))) XS 400 (by kernel_rfl) ?_
    exact ret _ _ _ _ _ F1 N1 l1 l2
end Mine
end TextN2

section TextN3
open PySem PySem.W PySem.W.X PySem.Calls PyProof.Rows PySem.Spec
namespace Mine
theorem fillB1x (w : World) (h : Heap) : (Lay.hd.heap_1_39 w.params).In h → PySem.Challenge.rw_bf0005_01.row.prog = PySem.Challenge.rw_bf0005_01.row.prog := by
  k_fill
  intros
  rfl
local macro_rules | `(tactic| k_room) => `(tactic| ktr_room)


theorem gm_U {w : World} {A : Around} {E : Value → Shared → Prop} {s : Shared} {h₀ : Heap} {L : Addr} {m : PySem.Str → Option Value} {pl : Sem Bool} {Q : Value × List Value → Shared → Prop} (F : Fr h₀ L s.heap m) (X : (Lay.hd.heap_1_39 w.params).In h₀) (h : Q (.builtin "re.Pattern.sub", [.ref 316]) s) :
    wpAny (model PySem.Challenge.rw_bf0005_01.row.prog w) A (getMethod (.ref 316) "sub" pl) Q E s := s_pure (X.keeps F.keep) 400 (by kernel_rfl) h
theorem gm_N {w : World} {A : Around} {E : Value → Shared → Prop} {s : Shared} {h₀ : Heap} {L : Addr} {m : PySem.Str → Option Value} {pl : Sem Bool} {Q : Value × List Value → Shared → Prop} (F : Fr h₀ L s.heap m) (X : (Lay.hd.heap_1_39 w.params).In h₀) (h : Q (.builtin "re.Pattern.sub", [.ref 321]) s) :
    wpAny (model PySem.Challenge.rw_bf0005_01.row.prog w) A (getMethod (.ref 321) "sub" pl) Q E s := s_pure (X.keeps F.keep) 400 (by kernel_rfl) h
local macro_rules | `(tactic| walk_at "getMethod ref") => `(tactic| k_dflt (k_here; (refine' gm_U ?F ?X ?_); (case F => k_asm); (case X => k_asm)))
theorem is_408 {M : Model} {A : Around} {E : Value → Shared → Prop} {s : Shared} {v kw} {Q : Value → Shared → Prop} (h : wpAny M A (call (.ref 408) v kw) Q E s) : wpAny M A (call (.ref 408) v kw) Q E s := h
local macro_rules | `(tactic| walk_at "call ref") => `(tactic| k_dflt (k_here; (refine' is_408 ?_); (with_unfolding_all refine' cls_call ?B ?F ?X ?N ?T ?hef ?hk ?hdp ?hu ?hkw ?hno ?hx8 ?_); (case B => k_asm); (case F => k_asm); (case X => k_asm); (case N => k_asm); (case T => k_asm); (case hef => first | exact rfl | assumption); (case hk => first | exact rfl | assumption); (case hdp => ktr_room); (case hu => ktr_units); (case hkw => first | exact Or.inr rfl | exact Or.inl (by kernel_rfl)); (case hno => assumption); (case hx8 => assumption); intro a' d' t' h' tk' F' N' l1' l2'))
theorem chs_cps (l : List Nat) : (chs l).cps = l.toArray := rfl
theorem Folded.lens {a b : List Nat} (h : Folded a b) : b.length ≤ a.length := by
  induction h with
  | nil => exact Nat.le_refl _
  | sign c a b _ _ ih => simp only [List.length_cons]; omega
  | fold us x a b _ _ _ _ _ ih => simp only [List.length_append, List.length_cons, List.length_nil]; omega
theorem sub_near {w : World} {A : Around} {E : Value → Shared → Prop} {s : Shared} {h₀ : Heap} {L : Addr} {m : PySem.Str → Option Value} {news : List (Addr × Obj)} {Q : Value → Shared → Prop} {near told : List Nat} {tt tr : Tok} (X : (Lay.hd.heap_1_39 w.params).In h₀) (H : Folded near told) (hz : near.length ≤ 1024) (F : Fr h₀ L s.heap m) (N : News h₀ L s.heap news)
    (ret : ∀ h' t' k, Fr h₀ L h' m → News h₀ L h' news → Q (.str (chs told) t') { s with heap := h', toks := k }) :
    wpAny (model PySem.Challenge.rw_bf0005_01.row.prog w) A (call (.builtin "re.Pattern.sub") [.ref 316, .str (PySem.Str.ofString "") tr, .str (chs near) tt]) Q E s := by
  obtain ⟨ls, S, e, hb⟩ := subs_near H
  have hl := H.lens
  refine sub_U (x := chs near) X (by rw [chs_cps, List.size_toArray]; omega) S F N (by omega) (by rw [e]; omega) ?_
  rw [e]
  exact ret
theorem sub_nearE {w : World} {A : Around} {E : Value → Shared → Prop} {s : Shared} {h₀ : Heap} {L : Addr} {m : PySem.Str → Option Value} {news : List (Addr × Obj)} {Q : Value → Shared → Prop} {near told : List Nat} {tt tr : Tok} (X : (Lay.hd.heap_1_39 w.params).In h₀) (H : Folded near told) (hz : near.length ≤ 1024) (F : Fr h₀ L s.heap m) (N : News h₀ L s.heap news)
    (ret : ∀ h' t' k, Fr h₀ L h' m → News h₀ L h' news → Q (.str (chs (told ++ END)) t') { s with heap := h', toks := k }) :
    wpAny (model PySem.Challenge.rw_bf0005_01.row.prog w) A (call (.builtin "re.Pattern.sub") [.ref 316, .str (PySem.Str.ofString "") tr, .str (chs (near ++ END)) tt]) Q E s := by
  obtain ⟨ls, S, e, hb⟩ := subs_nearE H
  have hl := H.lens
  have h8 : END.length = 8 := rfl
  refine sub_U (x := chs (near ++ END)) X (by rw [chs_cps, List.size_toArray, List.length_append]; omega) S F N (by omega) (by rw [e, List.length_append]; omega) ?_
  rw [e]
  exact ret
theorem sub_lines {w : World} {A : Around} {E : Value → Shared → Prop} {s : Shared} {h₀ : Heap} {L : Addr} {m : PySem.Str → Option Value} {news : List (Addr × Obj)} {Q : Value → Shared → Prop} {told : List Nat} {tt tr : Tok} (X : (Lay.hd.heap_1_39 w.params).In h₀) (hc : ∀ c ∈ told, calm c) (hne : told ≠ []) (hz : told.length ≤ 1024) (F : Fr h₀ L s.heap m) (N : News h₀ L s.heap news)
    (ret : ∀ h' t' k, Fr h₀ L h' m → News h₀ L h' news → Q (.str (chs (told ++ [10, 69, 78, 68, 58, 65, 10])) t') { s with heap := h', toks := k }) :
    wpAny (model PySem.Challenge.rw_bf0005_01.row.prog w) A (call (.builtin "re.Pattern.sub") [.ref 321, .str (PySem.Str.ofString "\n") tr, .str (chs (told ++ END)) tt]) Q E s := by
  have S := subs_N hc hne
  have h8 : END.length = 8 := rfl
  have e : [told, [10], [69, 78, 68, 58, 65], [10]].flatten = told ++ [10, 69, 78, 68, 58, 65, 10] := by simp
  refine sub_N (x := chs (told ++ END)) X (by rw [chs_cps, List.size_toArray, List.length_append]; omega) S F N (by simp) (by rw [e, List.length_append]; simp; omega) ?_
  rw [e]
  exact ret
local macro_rules | `(tactic| walk_at "call builtin:re.Pattern.sub") => `(tactic| k_dflt (k_here; (refine' sub_near ?X ?H ?hz ?F ?N ?_); (case X => k_asm); (case H => assumption); (case hz => assumption); (case F => k_asm); (case N => k_asm); intro h' t' k' F' N'))
set_option maxRecDepth 100000 in
set_option maxHeartbeats 0 in
theorem fi_code {w : World} {loose : List PySem.Str} {mean : ExcName → Option Value} {mg mb : PySem.Str → Option Value} {dp un : Nat} {gd : Option (List Code)} {pv : Program} {env : Env} {outer : List Env} {A₀ : Around} {base h₀ : Heap} {L : Addr} {m : PySem.Str → Option Value} {s : Shared} {Q E : Value → Shared → Prop}
    {news : List (Addr × Obj)} {near told : List Nat} {t : Tok}
    (B : Below A₀ base outer h₀) (F : Fr h₀ L s.heap m) (X : (Lay.hd.heap_1_39 w.params).In h₀) (N : News h₀ L s.heap (news)) (T : Top pv loose mean mg mb h₀) (hef : env.frame = some L) (hk : env.scope.kind = .function)
    (hdp : dp + 300 < recursionLimit) (hu : un + 300 < cLine)
    (H : Folded near told) (hz : near.length ≤ 1024) (hno : 10 ∉ (chs told).cps.toList) (hx8 : (chs told).length ≤ 8192)
    (ret : ∀ a d t' h' tk, Fr h₀ L h' m → News h₀ L h' ((a, { cls := .ref 408, dict := some d, data := .prim (.str (chs told) t'), slots := #[some (.bool false)] }) :: (d, { cls := .type "dict", data := .dict #[] }) :: news) → d < a → (∀ p ∈ news, p.1 < d) → Q (.ref a) { s with heap := h', toks := tk }) :
    codeAny (model PySem.Challenge.rw_bf0005_01.row.prog w) { handled := none, depth := dp, frames := some (env :: outer), guards := gd, units := un } (.call (.ref 394) ⟨[.ref 408, .str (chs near) t], []⟩) (fun r s' => match r with | .ok (.ret v) => Q v s' | .ok _ => False | .error e => E e s') s := by
  (refine' code_def ?k1 ?k2 ?k3 ?k4 ?k5 ?kA ?kF ?kK ?k6 ?k7 ?k8 ?k9 ?kB ?_ ?c2 ?c3 ?c4 ?c5; (case kA => exact rfl); (case kF => first | exact rfl | assumption); (case kK => first | assumption | exact rfl); (case k1 => k_asm); (case k2 => k_asm); (case k3 => k_asm); (case k4 => k_asm); (case k5 => k_asm); (case k6 => k_is); (case k7 => k_is); (case k8 => ktr_room); (case k9 => first | exact BindsTo.of_eq rfl | exact binds_K (by k_in) rfl (by k_is) rfl rfl rfl | (refine' binds_hyp ?be ?bh; (case bh => assumption); (case be => k_is))); (case c5 => decide); (case kB => exact locs rfl); (case c2 => exact rfl); (case c3 => exact rfl); (case c4 => exact rfl); k_whole; intro _ _ _ _ _ _ _ _ _; (try dsimp only); (try k_fold))
  k_steps
  clear F N
  rename Fr _ _ _ _ => F9
  rename News _ _ _ _ => N9
  exact ret _ _ _ _ _ F9 N9 (by assumption) (by assumption)
end Mine
end TextN3

section TextSK2
open PySem PySem.W PySem.W.X PySem.Calls PyProof.Rows PySem.Spec
namespace Mine
/-- all of a base heap stands, and the objects made since (newest first) -/
structure Lk (base h : Heap) (own : List (Addr × Obj)) : Prop where
  keep : ∀ b o, base.get? b = some o → h.get? b = some o
  obj : ∀ p ∈ own, h.get? p.1 = some p.2 ∧ base.get? p.1 = none
  ord : (own.map (·.1)).Pairwise (· > ·)
  sz : base.objs.size ≤ h.objs.size
  far : ∀ p ∈ own, base.objs.size ≤ p.1
theorem Lk.start (h : Heap) : Lk h h [] := ⟨fun _ _ e => e, fun _ hp => (nomatch hp), .nil, Nat.le_refl _, fun _ hp => (nomatch hp)⟩
theorem Lk.at {base h : Heap} {own : List (Addr × Obj)} (D : Lk base h own) (i : Nat) {a : Addr} {o : Obj} (hi : own[i]? = some (a, o)) : h.get? a = some o := (D.obj _ (List.mem_of_getElem? hi)).1
theorem Lk.push {base h : Heap} {own : List (Addr × Obj)} (D : Lk base h own) {o : Obj} (hf : o.isFreed = false) : Lk base (h.push o) ((h.objs.size, o) :: own) := by
  refine ⟨fun b x e => Heap.get?_push_of_some _ (D.keep b x e), fun p hp => ?_, .cons (fun b hb => ?_) D.ord, by rw [Heap.size_push]; exact Nat.le_succ_of_le D.sz, fun p hp => ?_⟩
  · rcases List.mem_cons.mp hp with rfl | hp
    · refine ⟨Heap.get?_push_at rfl hf, ?_⟩
      cases z : base.get? h.objs.size with
      | none => rfl
      | some x => exact absurd (Heap.lt_size (D.keep _ _ z)) (Nat.lt_irrefl _)
    · exact ⟨Heap.get?_push_of_some _ (D.obj p hp).1, (D.obj p hp).2⟩
  · obtain ⟨⟨b', ob⟩, hp, rfl⟩ := List.mem_map.mp hb
    exact Heap.lt_size (D.obj _ hp).1
  · rcases List.mem_cons.mp hp with rfl | hp
    · exact D.sz
    · exact D.far p hp
theorem Lk.upd {base h : Heap} {own : List (Addr × Obj)} (D : Lk base h own) {i : Nat} {a : Addr} {o : Obj} {f : Obj → Obj} (hi : own[i]? = some (a, o)) (hf : (f o).isFreed = false) : Lk base (h.update a f) (own.set i (a, f o)) := by
  have ho := D.at i hi
  have ge : (h.update a f).get? a = some (f o) := by first | exact Heap.get?_update_self f ho hf | exact Heap.get?_update_self _ ho hf | (rw [Heap.get?_update_self _ ho]; exact hf)
  have z := D.obj (a, o) (List.mem_of_getElem? hi)
  obtain ⟨hl, he⟩ := List.getElem?_eq_some_iff.mp hi
  have sp : own = own.take i ++ (a, o) :: own.drop (i + 1) := by rw [← he, ← List.drop_eq_getElem_cons hl, List.take_append_drop]
  have e : own.set i (a, f o) = own.take i ++ (a, f o) :: own.drop (i + 1) := List.set_eq_take_append_cons_drop.trans (if_pos hl)
  have ord' := D.ord
  rw [sp, List.map_append, List.map_cons] at ord'
  have p1 : ∀ p ∈ own.take i, p.1 ≠ a := fun p hp => Nat.ne_of_gt ((List.pairwise_append.mp ord').2.2 p.1 (List.mem_map_of_mem hp) a (.head _))
  have p2 : ∀ p ∈ own.drop (i + 1), p.1 ≠ a := fun p hp => Nat.ne_of_lt ((List.pairwise_cons.mp (List.pairwise_append.mp ord').2.1).1 p.1 (List.mem_map_of_mem hp))
  refine ⟨fun b x eb => ?_, fun p hp => ?_, ?_, Nat.le_trans D.sz (Nat.le_of_eq (Heap.SameBut.update h a f).1.symm), fun p hp => ?_⟩
  · have hb : a ≠ b := fun q => by subst q; rw [z.2] at eb; cases eb
    exact (Heap.get?_update_other _ _ hb).trans (D.keep b x eb)
  · rw [e] at hp
    rcases List.mem_append.mp hp with hp | hp
    · have := D.obj p (by rw [sp]; exact List.mem_append_left _ hp)
      exact ⟨(Heap.get?_update_other _ _ (Ne.symm (p1 p hp))).trans this.1, this.2⟩
    · rcases List.mem_cons.mp hp with rfl | hp
      · exact ⟨ge, z.2⟩
      · have := D.obj p (by rw [sp]; exact List.mem_append_right _ (.tail _ hp))
        exact ⟨(Heap.get?_update_other _ _ (Ne.symm (p2 p hp))).trans this.1, this.2⟩
  · rw [e, List.map_append, List.map_cons]; exact ord'
  · rw [e] at hp
    rcases List.mem_append.mp hp with hp | hp
    · exact D.far p (by rw [sp]; exact List.mem_append_left _ hp)
    · rcases List.mem_cons.mp hp with rfl | hp
      · exact D.far (a, o) (List.mem_of_getElem? hi)
      · exact D.far p (by rw [sp]; exact List.mem_append_right _ (.tail _ hp))
section
variable {α : Type} {prog : Program} {w : World} {A : Around} {E : Value → Shared → Prop} {s : Shared} {Q : α → Shared → Prop} {base : Heap} {own : List (Addr × Obj)} {K : Frag} {t : Sem α}
theorem t_alloc {o : Obj} (X : K.In s.heap) (n : Nat) (e : nAlloc (skimK K ⟨prog, w.params⟩ n t) = some o) (hf : o.isFreed = false) (D : Lk base s.heap own)
    (h : ∀ a h', Lk base h' ((a, o) :: own) → wpAny (model prog w) A (kAlloc (skimK K ⟨prog, w.params⟩ n t) a) Q E { s with heap := h' }) : wpAny (model prog w) A t Q E s := by
  refine x_skimK X n ?_
  generalize skimK K ⟨prog, w.params⟩ n t = T at *
  cases T with
  | alloc b k => cases e; exact wpAny_bind (m := alloc o) (f := k) (wpAny_alloc (h _ _ (D.push hf)))
  | _ => cases e
theorem t_upd {a : Addr} {o o' : Obj} (X : K.In s.heap) (n : Nat) (e : nUpd (skimK K ⟨prog, w.params⟩ n t) = some a) (D : Lk base s.heap own) (i : Nat) (hi : own[i]? = some (a, o)) (e2 : fUpd (skimK K ⟨prog, w.params⟩ n t) o = o') (hf : o'.isFreed = false)
    (h : ∀ h', Lk base h' (own.set i (a, o')) → wpAny (model prog w) A (kUpd (skimK K ⟨prog, w.params⟩ n t)) Q E { s with heap := h' }) : wpAny (model prog w) A t Q E s := by
  refine x_skimK X n ?_
  generalize skimK K ⟨prog, w.params⟩ n t = T at *
  cases T with
  | update b q f k => cases e; cases e2; exact wpAny_bind (m := updatePart a q f) (f := k) (wpAny_updatePart (D.at i hi) (h _ (D.upd hi hf)))
  | _ => cases e
end
end Mine
end TextSK2

section TextG1
open PySem PySem.W PySem.Calls PyProof.Rows PySem.Spec
namespace Mine
/-- what is told at a yield: F speaks of the heap too -/
noncomputable def hProto (C : Addr) (fp wr : List Addr) (F : Nat → Value → Heap → Prop) : Protocol := fun m s₀ v s kap =>
  F m v s.heap ∧ GenSince C wr s₀ s ∧ ∀ s'' : Shared, (∀ b ∈ C :: fp, ∀ o, s.heap.get? b = some o → s''.heap.get? b = some o) → kap (.send .none) s''
noncomputable abbrev hEnd (C : Addr) (wr : List Addr) : GenEnd := fun n s₀ r s₁ => r = .ok .next ∧ (n = 0 ∧ GenSince C wr s₀ s₁)
section
variable {prog : Program} {w : World} {A : Around} {elt iter : PySem.Expr} {x : PySem.Str} {px : Pos} {ifs : List PySem.Expr} {scope : Scope} {pos : Pos} {I : Addr} {fp wr : List Addr} {n₀ : Nat} {P : Nat → Value → Prop} {St₀ : Nat → Heap → Prop} {cenv : Env} {F : Nat → Value → Heap → Prop} {href : Heap}
noncomputable abbrev gLoop (elt iter : PySem.Expr) (x : PySem.Str) (px : Pos) (ifs : List PySem.Expr) (scope : Scope) (pos : Pos) (I : Addr) (cenv : Env) : Code := .compLoop (.GeneratorExp elt [⟨.Name x px, iter, ifs, 0⟩] scope pos) 0 (.ref I) .none cenv
theorem g_done (hh : A.handled = none) (W₀ : ∀ A' : Around, A'.handled = none → Walks prog w A' I fp wr n₀ P St₀) {s₀ s : Shared} (hst : St₀ n₀ s.heap) (hs : GenSince cenv.locals wr s₀ s) :
    Seg (model prog w) A (hEnd cenv.locals wr) (hProto cenv.locals fp wr F) 0 s₀ (gLoop elt iter x px ifs scope pos I cenv) ((model prog w).den (gLoop elt iter x px ifs scope pos I cenv)) [] s := by
  have hh' : (A.over (gLoop elt iter x px ifs scope pos I cenv) []).handled = none := hh
  show Seg _ A _ _ _ s₀ _ ((compTurn (.GeneratorExp elt [⟨.Name x px, iter, ifs, 0⟩] scope pos) 0 (.ref I) .none cenv).onRaise (leaving cenv)) [] s
  rw [compTurn_gen, Sem.onRaise_eq_wrap]
  refine seg_bind_wrap (wpAny_standAt (seg_bind_wrap ((W₀ _ hh').done s _ _ hst fun h' tk hk => ?_)))
  exact seg_end (.ok .next) ⟨rfl, rfl, hs.step fun b o _ hw e => hk b o hw e⟩
/-- a turn up to the test's answer -/
theorem g_turn (hh : A.handled = none) (W₀ : ∀ A' : Around, A'.handled = none → Walks prog w A' I fp wr n₀ P St₀) (hx : cenv.kindOf x = some .local) (hp : (cenv.scope.kind == .class || (cenv.scope.kind == .module && cenv.locals != cenv.globals)) = false)
    (hco : cenv.scope.isCoroutine = false) (hCf : cenv.locals ∉ fp) {i r : Nat} {ok : Bool} {s₀ s : Shared} {m : PySem.Str → Option Value} (hi : i < n₀) (hst : St₀ i s.heap) (hn : s.heap.Ns cenv.locals m) (hs : GenSince cenv.locals wr s₀ s)
    (hk : ∀ b ∈ fp, b ∉ wr → ∀ o, href.get? b = some o → s.heap.get? b = some o)
    (htest : ∀ E' v (s₂ : Shared) m₂, P i v → s₂.heap.Ns cenv.locals m₂ → m₂ x = some v → wpAny (model prog w) (A.over (gLoop elt iter x px ifs scope pos I cenv) []) (forIn ifs true fun c r => if r = true then do let ok ← isTrue c cenv (eval c cenv); pure (ForInStep.yield ok) else pure (ForInStep.yield r)) (fun b s₃ => b = ok ∧ Keeps s₂ s₃) E' s₂)
    (hno : ok = false → ∀ (s₂ : Shared) m₂, St₀ (i + 1) s₂.heap → s₂.heap.Ns cenv.locals m₂ → GenSince cenv.locals wr s₀ s₂ → (∀ b ∈ fp, b ∉ wr → ∀ o, href.get? b = some o → s₂.heap.get? b = some o) →
      Seg (model prog w) A (hEnd cenv.locals wr) (hProto cenv.locals fp wr F) r s₀ (gLoop elt iter x px ifs scope pos I cenv) ((model prog w).den (gLoop elt iter x px ifs scope pos I cenv)) [] s₂)
    (helt : ok = true → ∀ E' v (s₂ : Shared) m₂, P i v → St₀ (i + 1) s₂.heap → s₂.heap.Ns cenv.locals m₂ → m₂ x = some v → (∀ b ∈ fp, b ∉ wr → ∀ o, href.get? b = some o → s₂.heap.get? b = some o) →
      wpAny (model prog w) (A.over (gLoop elt iter x px ifs scope pos I cenv) []) (eval elt cenv) (fun y s₃ => (∃ r', r = r' + 1 ∧ F r' y s₃.heap) ∧ ∃ h' tk, s₃ = { s₂ with heap := h', toks := tk } ∧ h'.Ns cenv.locals m₂ ∧ ∀ b o, b ≠ cenv.locals → s₂.heap.get? b = some o → h'.get? b = some o) E' s₂)
    (hyes : ok = true → ∀ r', r = r' + 1 → ∀ (s₂ : Shared) m₂, St₀ (i + 1) s₂.heap → s₂.heap.Ns cenv.locals m₂ → (∀ b ∈ fp, b ∉ wr → ∀ o, href.get? b = some o → s₂.heap.get? b = some o) →
      Seg (model prog w) A (hEnd cenv.locals wr) (hProto cenv.locals fp wr F) r' s₂ (gLoop elt iter x px ifs scope pos I cenv) ((model prog w).den (gLoop elt iter x px ifs scope pos I cenv)) [] s₂) :
    Seg (model prog w) A (hEnd cenv.locals wr) (hProto cenv.locals fp wr F) r s₀ (gLoop elt iter x px ifs scope pos I cenv) ((model prog w).den (gLoop elt iter x px ifs scope pos I cenv)) [] s := by
  have hh' : (A.over (gLoop elt iter x px ifs scope pos I cenv) []).handled = none := hh
  have hCw : cenv.locals ∉ wr := fun h => hCf ((W₀ A hh).sub _ h)
  show Seg _ A _ _ _ s₀ _ ((compTurn (.GeneratorExp elt [⟨.Name x px, iter, ifs, 0⟩] scope pos) 0 (.ref I) .none cenv).onRaise (leaving cenv)) [] s
  rw [compTurn_gen, Sem.onRaise_eq_wrap]
  refine seg_bind_wrap (wpAny_standAt (seg_bind_wrap ((W₀ _ hh').item i s _ _ hi hst fun v h1 tk1 hv st1 k1 => ?_)))
  refine seg_bind_wrap (wpAny_of_eq (rfl : letOwnedTupleGo (.Name x px) (.ref I) v = pure ()) ?_)
  refine seg_bind_wrap (wpAny_assign_Name (wpAny_storeName_local hx (hn.at' fun o e => k1 _ o hCw e) (fun h2 n2 sb => ?_) hp))
  have up : ∀ b o, b ≠ cenv.locals → b ∉ wr → s.heap.get? b = some o → h2.get? b = some o := fun b o hb hw e => sb.extBut b o hb (k1 b o hw e)
  have st2 : St₀ (i + 1) h2 := (W₀ A hh).frame _ _ _ st1 fun b hb o e => sb.extBut b o (fun h => hCf (h ▸ hb)) e
  have kp2 : ∀ b ∈ fp, b ∉ wr → ∀ o, href.get? b = some o → h2.get? b = some o := fun b hb hw o e => up b o (fun h => hCf (h ▸ hb)) hw (hk b hb hw o e)
  refine seg_bind_wrap (wpAny_mono (htest _ v _ _ hv n2 (by simp)) (fun b s3 h3 => ?_) fun _ _ e => e)
  obtain ⟨rfl, h3, tk3, rfl, k3⟩ := h3
  have st3 : St₀ (i + 1) h3 := (W₀ A hh).frame _ _ _ st2 fun b _ o e => k3 b o e
  have n3 := n2.keeps k3
  have sc3 : GenSince cenv.locals wr s₀ { s with heap := h3, toks := tk3 } := hs.step fun b o hb hw e => k3 b o (up b o hb hw e)
  have kp3 : ∀ b ∈ fp, b ∉ wr → ∀ o, href.get? b = some o → h3.get? b = some o := fun b hb hw o e => k3 b o (kp2 b hb hw o e)
  cases b with
  | false =>
    simp only [Bool.false_eq_true, if_false]
    exact seg_again rfl (hno rfl _ _ st3 n3 sc3 kp3)
  | true =>
    simp only [if_true]
    have hy : ∀ v, yieldOut cenv v = yieldValue v := fun v => by simp only [yieldOut, hco, Bool.false_eq_true, if_false]
    simp only [hy]
    rw [Sem.bind_eq_wrap', Sem.bind_eq_wrap', Sem.wrap_wrap, Sem.wrap_wrap]
    refine seg_wrap (wpAny_mono (helt rfl _ v _ _ hv st3 n3 (by simp) kp3) (fun y s4 h4 => ?_) fun _ _ e => e)
    obtain ⟨⟨r', rfl, hF⟩, h4, tk4, rfl, n4, k4⟩ := h4
    refine seg_at (seg_yield rfl rfl rfl ⟨hF, sc3.step fun b o hb _ e => k4 b o hb e, fun s'' al => ?_⟩)
    exact seg_again rfl (hyes rfl r' rfl s'' _ ((W₀ A hh).frame _ _ _ st3 fun b hb o e => al b (List.mem_cons_of_mem _ hb) o (k4 b o (fun h => hCf (h ▸ hb)) e)) (n4.at' fun o e => al _ (List.mem_cons_self ..) o e) fun b hb hw o e => al b (List.mem_cons_of_mem _ hb) o (k4 b o (fun h => hCf (h ▸ hb)) (kp3 b hb hw o e)))
end
end Mine
end TextG1

section TextG2
open PySem PySem.W PySem.Calls PyProof.Rows PySem.Spec
namespace Mine
theorem g_start {prog : Program} {w : World} {A : Around} {elt iter : PySem.Expr} {x : PySem.Str} {px : Pos} {ifs : List PySem.Expr} {scope : Scope} {pos : Pos} {I : Addr} {fp wr : List Addr} {n₀ : Nat} {P : Nat → Value → Prop} {St₀ : Nat → Heap → Prop} {cenv : Env} {F : Nat → Value → Heap → Prop} {r i : Nat} {s₀ s : Shared}
    (hh : A.handled = none) (W₀ : ∀ A' : Around, A'.handled = none → Walks prog w A' I fp wr n₀ P St₀) (hst : St₀ i s.heap)
    (h : Seg (model prog w) A (hEnd cenv.locals wr) (hProto cenv.locals fp wr F) r s₀ (gLoop elt iter x px ifs scope pos I cenv) ((model prog w).den (gLoop elt iter x px ifs scope pos I cenv)) [] s) :
    Seg (model prog w) A (hEnd cenv.locals wr) (hProto cenv.locals fp wr F) r s₀ (.compStart (.GeneratorExp elt [⟨.Name x px, iter, ifs, 0⟩] scope pos) 0 (.ref I) .none cenv)
      ((model prog w).den (.compStart (.GeneratorExp elt [⟨.Name x px, iter, ifs, 0⟩] scope pos) 0 (.ref I) .none cenv)) [] s := by
  have hh' : (A.over (.compStart (.GeneratorExp elt [⟨.Name x px, iter, ifs, 0⟩] scope pos) 0 (.ref I) .none cenv) []).handled = none := hh
  show Seg _ A _ _ _ s₀ _ ((compStart (.GeneratorExp elt [⟨.Name x px, iter, ifs, 0⟩] scope pos) 0 (.ref I) .none cenv).onRaise (leaving cenv)) [] s
  unfold compStart
  rw [Sem.onRaise_eq_wrap]
  show Seg _ A _ _ _ s₀ _ ((ask >>= _).wrap _ _ _ _) [] s
  refine seg_bind_wrap (wpAny_askSetting ?_)
  split
  · exact seg_again rfl h
  · first
      | exact seg_bind_wrap (wpAny_rule (seg_bind_wrap (wpAny_standAt (seg_bind_wrap ((W₀ _ hh').self i s _ _ hst (seg_again rfl h))))))
      | (refine seg_bind_wrap (wpAny_rule ?_); show Seg _ A _ _ _ s₀ _ ((standAt iter.pos >>= _).wrap _ _ _ _) [] s; exact seg_bind_wrap (wpAny_standAt (seg_bind_wrap ((W₀ _ hh').self i s _ _ hst (seg_again rfl h)))))
/-- a generator that has k items left -/
noncomputable def Held (prog : Program) (w : World) (A : Around) (a : Addr) (g : Nat) (C : Addr) (fp wr : List Addr) (F : Nat → Value → Heap → Prop) (k : Nat) (s : Shared) : Prop :=
  s.heap.IsGen a g ∧ s.heap.NoLimit ∧ ∃ gs, s.gens[g]? = some gs ∧ ∀ s'' : Shared, (∀ b ∈ C :: fp, ∀ o, s.heap.get? b = some o → s''.heap.get? b = some o) → gs.Goes (model prog w) A.in1 (hEnd C wr) (hProto C fp wr F) k (.send .none) s''
theorem bare_set {l : Array GenState} (h : AllBare l) (g : Nat) {x : GenState} (hx : x.bare = true) : AllBare (l.setIfInBounds g x) := by
  intro y hy
  rcases Array.mem_or_eq_of_mem_setIfInBounds hy with h' | h'
  · exact h y h'
  · exact h' ▸ hx
section
variable {prog : Program} {w : World} {A : Around} {E : Value → Shared → Prop} {s : Shared} {a C : Addr} {g k : Nat} {fp wr : List Addr} {F : Nat → Value → Heap → Prop} {Q : Option Value → Shared → Prop}
theorem g_next (hh : A.handled = none) (hroom : A.depth < recursionLimit) (haC : a ≠ C) (haw : a ∉ wr) (hcC : cStatics ≠ C) (hcw : cStatics ∉ wr) (H : Held prog w A a g C fp wr F (k + 1) s) (hb : AllBare s.gens)
    (hQ : ∀ v h' tk gens', F k v h' → (∀ b o, b ≠ C → b ∉ wr → s.heap.get? b = some o → h'.get? b = some o) → AllBare gens' → Held prog w A a g C fp wr F k { s with heap := h', toks := tk, gens := gens' } → Q (some v) { s with heap := h', toks := tk, gens := gens' }) :
    wpAny (model prog w) A (pyNext (.ref a)) Q E s := by
  obtain ⟨hg, hl, gs, hgs, hgo⟩ := H
  refine wpAny_pyNext_genexpQ (P := fun n s₀ s₁ => n = 0 ∧ GenSince C wr s₀ s₁) hh hl hroom hg hgs (hgo _ fun _ _ _ e => e) (fun v s₁ gs' hbare hv => ?_) (fun s₁ hp h' hk => ?_)
  · obtain ⟨hF, ⟨h₁, tk₁, rfl, hk₁⟩, hkap⟩ := hv
    refine hQ v h₁ tk₁ _ hF hk₁ (bare_set (bare_set hb g rfl) g hbare) ⟨let ⟨o, nm, qn, ho, r⟩ := hg; ⟨o, nm, qn, hk₁ a o haC haw ho, r⟩, (let ⟨mc, hns, hnn⟩ := hl; ⟨mc, hns.at' fun o e => hk₁ cStatics o hcC hcw e, hnn⟩), gs', setGen_self (gs := .running) (setGen_self hgs), fun s'' hal => ?_⟩
    exact hkap s'' hal
  · exact absurd hp.1 (Nat.succ_ne_zero k)
theorem g_last (hh : A.handled = none) (hroom : A.depth < recursionLimit) (H : Held prog w A a g C fp wr F 0 s) (hb : AllBare s.gens)
    (hQ : ∀ h' tk gens', (∀ b o, b ≠ C → b ∉ wr → s.heap.get? b = some o → h'.get? b = some o) → AllBare gens' → Q none { s with heap := h', toks := tk, gens := gens' }) :
    wpAny (model prog w) A (pyNext (.ref a)) Q E s := by
  obtain ⟨hg, hl, gs, hgs, hgo⟩ := H
  refine wpAny_pyNext_genexpQ (P := fun n s₀ s₁ => n = 0 ∧ GenSince C wr s₀ s₁) hh hl hroom hg hgs (hgo _ fun _ _ _ e => e) (fun v s₁ gs' hbare hv => ?_) (fun s₁ hp h' hk => ?_)
  · obtain ⟨_, _, hkap⟩ := hv
    exact False.elim (hkap s₁ fun _ _ _ e => e)
  · obtain ⟨_, h₁, tk₁, rfl, hk₁⟩ := hp
    exact hQ _ _ _ (fun b o h1 h2 e => hk b o (hk₁ b o h1 h2 e)) (bare_set (bare_set hb g rfl) g rfl)
end
end Mine
end TextG2

section TextG3
open PySem PySem.W PySem.Calls PyProof.Rows PySem.Spec
namespace Mine
section
variable {prog : Program} {w : World} {A : Around} {s : Shared} {a C S : Addr} {g k : Nat} {fp wr : List Addr} {Fw : Nat → Value → Heap → Prop} {R : Result → Shared → Prop} {cS res : Value} {dS : Option Addr} {sl : Array (Option Value)}
theorem mapSeq_any {acc : List Value} {v : Value} {c : Nat} : Obj.mapSeq (·.push v) { cls := cS, dict := dS, data := .seq acc.toArray c, slots := sl } = { cls := cS, dict := dS, data := .seq (acc ++ [v]).toArray (c + 1), slots := sl } := by
  simp [Obj.mapSeq]
theorem Held.frame {s' : Shared} (H : Held prog w A a g C fp wr Fw k s) (haS : a ≠ S) (hcS : cStatics ≠ S) (hSC : S ≠ C) (hSf : S ∉ fp) (hg : s'.gens = s.gens) (hk : ∀ b o, b ≠ S → s.heap.get? b = some o → s'.heap.get? b = some o) : Held prog w A a g C fp wr Fw k s' := by
  obtain ⟨⟨o, nm, qn, ho, r⟩, ⟨mc, hns, hnn⟩, gs, hgs, hgo⟩ := H
  refine ⟨⟨o, nm, qn, hk a o haS ho, r⟩, ⟨mc, hns.at' fun o e => hk cStatics o hcS e, hnn⟩, gs, by rw [hg]; exact hgs, fun s'' hal => hgo s'' fun b hb o e => hal b hb o (hk b o (fun h => ?_) e)⟩
  subst h
  rcases List.mem_cons.mp hb with h | h
  · exact hSC h
  · exact hSf h
theorem ext_one {acc : List Value} {c : Nat} (hh : A.handled = none) (hroom : A.depth < recursionLimit) (haC : a ≠ C) (haw : a ∉ wr) (hcC : cStatics ≠ C) (hcw : cStatics ∉ wr) (haS : a ≠ S) (hcS : cStatics ≠ S) (hSC : S ≠ C) (hSw : S ∉ wr) (hSf : S ∉ fp)
    (H : Held prog w A.in1 a g C fp wr Fw (k + 1) s) (hb : AllBare s.gens) (hS : s.heap.get? S = some { cls := cS, dict := dS, data := .seq acc.toArray c, slots := sl }) (hz : acc.length ≤ 100)
    (hR : ∀ v h0 h' tk gens', Fw k v h0 → h0.get? S = some { cls := cS, dict := dS, data := .seq acc.toArray c, slots := sl } → (∀ b o, b ≠ S → h0.get? b = some o → h'.get? b = some o) → (∀ b o, b ≠ S → b ≠ C → b ∉ wr → s.heap.get? b = some o → h'.get? b = some o) → AllBare gens' →
      Held prog w A.in1 a g C fp wr Fw k { s with heap := h', toks := tk, gens := gens' } → h'.get? S = some { cls := cS, dict := dS, data := .seq (acc ++ [v]).toArray (c + 1), slots := sl } →
      codeAny (model prog w) A (.builtin "list.extend.loop" ⟨[.ref S, .ref a, res], []⟩) R { s with heap := h', toks := tk, gens := gens' }) :
    codeAny (model prog w) A (.builtin "list.extend.loop" ⟨[.ref S, .ref a, res], []⟩) R s := by
  refine codeAny_builtin F.entry_extend_loop ?_
  rw [Around.under_plainId F.plain_extend_loop _]
  show wpAny _ A.in1 (pyNext (.ref a) >>= _) _ _ s
  refine wpAny_bind (g_next hh hroom haC haw hcC hcw H hb fun v h0 tk gens' hF hk0 hb' H' => ?_)
  show wpAny _ A.in1 (updateSeq S (·.push v) >>= _) _ _ _
  have hS' := hk0 S _ hSC hSw hS
  have e : (h0.update S (Obj.mapSeq (·.push v))).get? S = some { cls := cS, dict := dS, data := .seq (acc ++ [v]).toArray (c + 1), slots := sl } := by
    rw [Heap.get?_update_self _ hS' (by rw [mapSeq_any]; rfl), mapSeq_any]
  have oth : ∀ b o, b ≠ S → h0.get? b = some o → (h0.update S (Obj.mapSeq (·.push v))).get? b = some o := fun b o hb e => (Heap.get?_update_other _ _ (Ne.symm hb)).trans e
  refine wpAny_bind (wpAny_updateSeq (s := { s with heap := h0, toks := tk, gens := gens' }) hS' rfl ?_ (by rw [sizeLine_eq, List.size_toArray]; omega) (by rw [sizeLine_eq, Array.size_push, List.size_toArray]; omega))
  refine wpAny_pure ⟨plainId_quiet F.plain_extend_loop _, ?_⟩
  exact hR v h0 _ tk gens' hF hS' oth (fun b o h1 h2 h3 e => oth b o h1 (hk0 b o h2 h3 e)) hb' (H'.frame haS hcS hSC hSf rfl oth) e
theorem ext_end (hh : A.handled = none) (hroom : A.depth < recursionLimit) (H : Held prog w A.in1 a g C fp wr Fw 0 s) (hb : AllBare s.gens)
    (hR : ∀ h' tk gens', (∀ b o, b ≠ C → b ∉ wr → s.heap.get? b = some o → h'.get? b = some o) → AllBare gens' → R (.ok (.ret res)) { s with heap := h', toks := tk, gens := gens' }) :
    codeAny (model prog w) A (.builtin "list.extend.loop" ⟨[.ref S, .ref a, res], []⟩) R s := by
  refine codeAny_builtin F.entry_extend_loop ?_
  rw [Around.under_plainId F.plain_extend_loop _]
  show wpAny _ A.in1 (pyNext (.ref a) >>= _) _ _ s
  exact wpAny_bind (g_last hh hroom H hb fun h' tk gens' hk hb' => wpAny_pure (hR h' tk gens' hk hb'))
end
end Mine
end TextG3

section TextG5
open PySem PySem.W PySem.Calls PyProof.Rows PySem.Spec
namespace Mine
theorem ext_start {prog : Program} {w : World} {B : Around} {s : Shared} {a S : Addr} {g c : Nat} {Q : PySem.Fin → Shared → Prop} {E : Value → Shared → Prop} {cS res : Value} {dS : Option Addr} {sl : Array (Option Value)}
    (hg : s.heap.IsGen a g) (hSa : S ≠ a) (hS : s.heap.get? S = some { cls := cS, dict := dS, data := .seq #[] c, slots := sl })
    (h : ∀ h' c', h'.get? S = some { cls := cS, dict := dS, data := .seq #[] c', slots := sl } → (∀ b o, b ≠ S → s.heap.get? b = some o → h'.get? b = some o) →
      Q (.again (.builtin "list.extend.loop" ⟨[.ref S, .ref a, res], []⟩)) { s with heap := h' }) :
    wpAny (model prog w) B (Builtin.List.listExtendWith (.ref S) (.ref a) res) Q E s := by
  have hT : s.TypeIs (.ref a) "generator" := hg.typeIs
  unfold Builtin.List.listExtendWith
  refine wpAny_bind (wpAny_typeOf hT ?_)
  have h1 : Builtin.List.listSameRef (.ref S) (.ref a) = false := by simp [Builtin.List.listSameRef, hSa]
  have h2 : (Value.type "generator" == Value.type "list") = false := by decide
  have h3 : (Value.type "generator" == Value.type "tuple") = false := by decide
  simp only [h1, h2, h3, Bool.or_false, Bool.false_eq_true, if_false]
  refine wpAny_bind (wpAny_pyIter_gen hg ?_)
  refine wpAny_bind (wpAny_holding ?_)
  unfold Builtin.List.listLengthHint
  refine wpAny_bind (wpAny_specialOf hT F.gen_no_len ?_)
  show wpAny _ B (specialOf (Value.ref a) (PySem.Str.ofString "__length_hint__") >>= _) _ _ _
  refine wpAny_bind (wpAny_specialOf hT F.gen_no_hint ?_)
  refine wpAny_pure ?_
  show wpAny _ B (rule "list.extend.makes-room" >>= fun _ => Builtin.List.listTouch (.ref S) >>= fun _ => again (.builtin "list.extend.loop" ⟨[.ref S, .ref a, res], []⟩)) _ _ _
  refine wpAny_bind (wpAny_rule (wpAny_bind ?_))
  show wpAny _ B (updateSeq S (·.push .none) >>= fun _ => updateSeq S (·.pop)) _ _ _
  refine wpAny_bind (wpAny_updateSeq hS rfl ?_ (by decide) (by decide))
  have hS2 := Heap.get?_update_self (Obj.mapSeq (·.push Value.none)) hS rfl
  refine wpAny_updateSeq (hz := by decide) (_hz' := by decide) hS2 rfl ?_
  have hS3 := Heap.get?_update_self (Obj.mapSeq (·.pop)) hS2 rfl
  refine wpAny_pure (h _ _ hS3 fun b o hb e => ?_)
  exact (Heap.get?_update_other _ _ (Ne.symm hb)).trans ((Heap.get?_update_other _ _ (Ne.symm hb)).trans e)
end Mine
end TextG5

section TextG4
open PySem PySem.W PySem.W.X PySem.Calls PyProof.Rows PySem.Spec
set_option maxHeartbeats 0
set_option maxRecDepth 100000
namespace Mine
theorem fillG4 (w : World) (h : Heap) : (Lay.hd.heap_1_39 w.params).In h → PySem.Challenge.rw_bf0005_01.row.prog = PySem.Challenge.rw_bf0005_01.row.prog := by
  k_fill
  intros
  rfl
theorem s_is {α : Type} {M : Model} {A : Around} {E : Value → Shared → Prop} {s : Shared} {Q : α → Shared → Prop} {t t' : Sem α} (e : t = t') (h : wpAny M A t' Q E s) : wpAny M A t Q E s := e ▸ h
section
variable {w : World} {A : Around} {E : Value → Shared → Prop} {s : Shared} {h₀ : Heap} {L : Addr} {m : PySem.Str → Option Value} {own news : List (Addr × Obj)}
theorem lines_call {Q : Value → Shared → Prop} {a : Addr} {g : Nat} (XS : (Lay.hd.heap_1_39 w.params).In s.heap) (hg : s.heap.IsGen a g)
    (loop : ∀ d S h' tk c', Lk s.heap h' [(S, {cls := .ref 439, dict := some d, data := .seq #[] c'}), (d, {cls := .type "dict", data := .dict #[]})] →
      codeAny (model PySem.Challenge.rw_bf0005_01.row.prog w) ((A.under (.builtin "type.__call__" ⟨[.ref 439, .ref a], []⟩)).mark none) (.builtin "list.extend.loop" ⟨[.ref S, .ref a, .none], []⟩)
        (fun r s' => r = .ok (.ret .none) ∧ (Lay.hd.heap_1_39 w.params).In s'.heap ∧ Q (.ref S) s') { s with heap := h', toks := tk }) :
    wpAny (model PySem.Challenge.rw_bf0005_01.row.prog w) A (call (.ref 439) [.ref a]) Q E s := by
  have X := XS
  have D := Lk.start s.heap
  refine wpAny_call (codeAny_of_tree ?_)
  show wpAny _ _ (callAny (.ref 439) _) _ _ _
  refine s_pure (a := .again (.call (.builtin "type.__call__") ⟨.ref 439 :: [.ref a], []⟩)) XS 400 (by kernel_rfl) ⟨rfl, ?_⟩
  refine codeAny_call_builtin_at (tcall_quiet _) tcall_entry ?_
  refine s_pure (a := ()) XS 400 (by kernel_rfl) ?_
  show wpAny _ _ _ _ _ _
  refine s_call (c := .call (.builtin "list.__new__") ⟨[.ref 439, .ref a], []⟩) (hd := none) XS 400 (by kernel_rfl) (by intro h; cases h) ?_
  refine codeAny_call_builtin_code (plainId_quiet F.plain_list_new _) ?_
  refine s_pure (a := ()) XS 400 (by kernel_rfl) ?_
  refine codeAny_builtin_stack F.entry_list_new rfl fun p st => ?_
  rw [Around.under_plainId F.plain_list_new _]
  dsimp only
  rw [owner_list_new]
  refine t_alloc XS 400 (o := {cls := .type "dict", data := .dict #[]}) (by kernel_rfl) rfl D fun d h1 D => ?_
  have XS := X.keeps D.keep
  refine t_alloc XS 400 (o := {cls := .ref 439, dict := some d, data := .seq #[]}) (by kernel_rfl) rfl D fun S h2 D => ?_
  have XS := X.keeps D.keep
  refine s_pure (a := .done (.ret (.ref S))) XS 400 (by kernel_rfl) ?_
  show wpAny _ _ _ _ _ _
  refine s_load XS 0 (by kernel_rfl) (D.at 0 rfl) ?_
  refine s_load XS 1 (by kernel_rfl) (D.at 0 rfl) ?_
  refine s_call (c := .call (.builtin "list.__init__") ⟨[.ref S, .ref a], []⟩) (hd := none) XS 400 (by kernel_rfl) (by intro h; cases h) ?_
  refine codeAny_call_builtin F.slot_list_init.plain F.entry_list_init ?_
  refine s_load XS 0 (by kernel_rfl) (D.at 0 rfl) ?_
  refine s_pure (a := ()) XS 400 (by kernel_rfl) ?_
  refine s_load XS 0 (by kernel_rfl) (D.at 0 rfl) ?_
  refine s_load XS 0 (by kernel_rfl) (D.at 0 rfl) ?_
  refine t_upd XS 400 (by kernel_rfl) D 0 rfl (o' := {cls := .ref 439, dict := some d, data := .seq #[] 0}) (by kernel_rfl) rfl fun h3 D => ?_
  have XS := X.keeps D.keep
  refine s_load XS 0 (by kernel_rfl) (D.at 0 rfl) ?_
  refine s_is (t' := Builtin.List.listExtendWith (.ref S) (.ref a) .none) (by kernel_rfl) ?_
  have hSa : S ≠ a := by
    rintro rfl
    obtain ⟨o, nm, qn, ho, r⟩ := hg
    have := (D.obj _ (.head _)).2
    dsimp only at this
    rw [ho] at this
    cases this
  refine ext_start (s := { s with heap := h3 }) (hg.keeps D.keep) hSa (D.at 0 rfl) fun h4 c' e4 k4 => ?_
  have D4 : Lk s.heap h4 [(S, {cls := .ref 439, dict := some d, data := .seq #[] c'}), (d, {cls := .type "dict", data := .dict #[]})] := by
    have nS := (D.obj _ (.head _)).2
    refine ⟨fun b o e => k4 b o (fun q => by subst q; dsimp only at nS; rw [nS] at e; cases e) (D.keep b o e), fun p hp => ?_, D.ord, Nat.le_trans (D.far _ (.head _)) (Nat.le_of_lt (Heap.lt_size e4)), fun p hp => ?_⟩
    · rcases List.mem_cons.mp hp with rfl | hp
      · exact ⟨e4, nS⟩
      · have z := D.obj p (.tail _ hp)
        refine ⟨k4 _ _ (Nat.ne_of_lt ((List.pairwise_cons.mp D.ord).1 p.1 (List.mem_map_of_mem hp))) z.1, z.2⟩
    · rcases List.mem_cons.mp hp with rfl | hp
      · exact D.far (S, {cls := .ref 439, dict := some d, data := .seq #[]}) (.head _)
      · exact D.far p (.tail _ hp)
  refine ⟨plainId_quiet F.plain_extend_loop _, ?_⟩
  refine codeAny_mono (loop d S h4 _ c' D4) fun r s' hr => ?_
  obtain ⟨rfl, X5, hq⟩ := hr
  refine s_pure (a := .done (.ret (.ref S))) X5 400 (by kernel_rfl) ?_
  exact hq
end
end Mine
end TextG4

section TextP4
open PySem PySem.W PySem.Calls PyProof.Rows PySem.Spec
namespace Mine
theorem cnt_app (c : Nat) : ∀ a b : List Nat, cnt c (a ++ b) = cnt c a + cnt c b
  | [], b => by rw [List.nil_append, cnt_nil]; omega
  | n :: a, b => by rw [List.cons_append, cnt_cons, cnt_cons, cnt_app c a b]; omega
theorem cnt_nonneg (c : Nat) : ∀ a : List Nat, 0 ≤ cnt c a
  | [] => by rw [cnt_nil]; omega
  | n :: a => by rw [cnt_cons]; have := cnt_nonneg c a; split <;> omega
theorem cnt_zero (c : Nat) : ∀ a : List Nat, cnt c a = 0 ↔ c ∉ a
  | [] => by simp [cnt_nil]
  | n :: a => by
    rw [cnt_cons]
    have := cnt_nonneg c a
    have ih := cnt_zero c a
    by_cases h : n = c
    · subst h; simp; omega
    · rw [if_neg h]; simp [Ne.symm h]; omega
theorem cut_uniq (c : Nat) : ∀ (a a' b b' : List Nat), c ∉ a → c ∉ a' → a ++ c :: b = a' ++ c :: b' → a = a' ∧ b = b'
  | [], [], b, b', _, _, h => ⟨rfl, by simpa using h⟩
  | [], x :: a', b, b', _, h2, h => by simp at h; exact absurd (h.1 ▸ List.mem_cons_self) h2
  | x :: a, [], b, b', h1, _, h => by simp at h; exact absurd (h.1 ▸ List.mem_cons_self) h1
  | x :: a, y :: a', b, b', h1, h2, h => by
    simp only [List.cons_append, List.cons.injEq] at h
    have := cut_uniq c a a' b b' (fun q => h1 (.tail _ q)) (fun q => h2 (.tail _ q)) h.2
    exact ⟨by rw [h.1, this.1], this.2⟩
theorem split_told {told : List Nat} (hn : 10 ∉ told) : Txt.split (chs (told ++ [10, 69, 78, 68, 58, 65, 10])) (chs [10]) = [chs told, chs [69, 78, 68, 58, 65], chs []] := by
  have h1 := split_len (chs (told ++ [10, 69, 78, 68, 58, 65, 10])) 10
  have h2 := StrLaws.join_split (chs (told ++ [10, 69, 78, 68, 58, 65, 10])) (chs [10])
  have hc : cnt 10 (chs (told ++ [10, 69, 78, 68, 58, 65, 10])).cps.toList = 2 := by
    show cnt 10 (told ++ [10, 69, 78, 68, 58, 65, 10]) = 2
    rw [cnt_app, (cnt_zero 10 told).mpr hn]
    rfl
  rw [hc] at h1
  have h3 : (Txt.split (chs (told ++ [10, 69, 78, 68, 58, 65, 10])) (chs [10])).length = 3 := by
    have : (chs [10]) = ⟨#[10]⟩ := rfl
    rw [this]; omega
  revert h2 h3
  generalize Txt.split (chs (told ++ [10, 69, 78, 68, 58, 65, 10])) (chs [10]) = ps
  intro h2 h3
  match ps, h3 with
  | [⟨⟨p⟩⟩, ⟨⟨q⟩⟩, ⟨⟨r⟩⟩], _ =>
    have e : p ++ 10 :: (q ++ 10 :: r) = told ++ 10 :: ([69, 78, 68, 58, 65] ++ 10 :: []) := by
      have := congrArg (fun x : PySem.Str => x.cps.toList) h2
      have e1 : (PySem.Str.join (chs [10]) [⟨⟨p⟩⟩, ⟨⟨q⟩⟩, ⟨⟨r⟩⟩]).cps.toList = (p ++ [10]) ++ ((q ++ [10]) ++ r) := by
        simp only [PySem.Str.join]
        show ((⟨p⟩ ++ #[10] : Array Nat) ++ ((⟨q⟩ ++ #[10] : Array Nat) ++ (⟨r⟩ : Array Nat))).toList = _
        simp
      have e2 : (p ++ [10]) ++ ((q ++ [10]) ++ r) = told ++ [10, 69, 78, 68, 58, 65, 10] := e1.symm.trans this
      simpa using e2
    have ec : cnt 10 (p ++ 10 :: (q ++ 10 :: r)) = 2 := by
      rw [e]; exact hc
    rw [cnt_app, cnt_cons, cnt_app, cnt_cons] at ec
    have n1 := cnt_nonneg 10 p
    have n2 := cnt_nonneg 10 q
    have n3 := cnt_nonneg 10 r
    simp only [if_true] at ec
    have z1 := (cnt_zero 10 p).mp (by omega)
    have z2 := (cnt_zero 10 q).mp (by omega)
    obtain ⟨rfl, e2⟩ := cut_uniq 10 _ _ _ _ z1 hn e
    obtain ⟨rfl, rfl⟩ := cut_uniq 10 _ _ _ _ z2 (by decide) e2
    rfl
end Mine
end TextP4

section TextG6
open PySem PySem.W PySem.W.X PySem.Calls PyProof.Rows PySem.Spec
set_option maxHeartbeats 0
set_option maxRecDepth 100000
namespace Mine
theorem fillG6 (w : World) (h : Heap) : (Lay.hd.heap_1_39 w.params).In h → PySem.Challenge.rw_bf0005_01.row.prog = PySem.Challenge.rw_bf0005_01.row.prog := by
  k_fill
  intros
  rfl
/-- all objects of h but the one at L that the ground has not -/
noncomputable def allBut (h₀ h : Heap) (L : Addr) : List (Addr × Obj) := (List.range h.objs.size).filterMap fun b => if b = L then none else match h₀.get? b with | some _ => none | none => (h.get? b).map fun o => (b, o)
theorem mem_allBut {h₀ h : Heap} {L b : Addr} {o : Obj} : (b, o) ∈ allBut h₀ h L ↔ b ≠ L ∧ h₀.get? b = none ∧ h.get? b = some o := by
  unfold allBut
  rw [List.mem_filterMap]
  constructor
  · rintro ⟨b', _, e⟩
    by_cases hb : b' = L
    · rw [if_pos hb] at e; cases e
    · rw [if_neg hb] at e
      cases q : h₀.get? b' with
      | some _ => rw [q] at e; cases e
      | none =>
        rw [q] at e
        obtain ⟨o', h1, h2⟩ := Option.map_eq_some_iff.mp e
        cases h2
        exact ⟨hb, q, h1⟩
  · rintro ⟨hb, q, e⟩
    refine ⟨b, List.mem_range.mpr (Heap.lt_size e), ?_⟩
    rw [if_neg hb, q]
    dsimp only
    rw [e]; rfl
theorem news_allBut {h₀ h : Heap} {L : Addr} : News h₀ L h (allBut h₀ h L) := fun p hp => by
  have := mem_allBut.mp (show (p.1, p.2) ∈ allBut h₀ h L from hp)
  exact ⟨this.2.2, this.1, this.2.1⟩
theorem walks_more {prog : Program} {w : World} {A : Around} {I : Addr} {fp fp' wr : List Addr} {n : Nat} {P : Nat → Value → Prop} {St : Nat → Heap → Prop} (W : Walks prog w A I fp wr n P St) (h : ∀ b ∈ fp, b ∈ fp') : Walks prog w A I fp' wr n P St where
  sub := fun b hb => h b (W.sub b hb)
  frame := fun i h₁ h₂ st hk => W.frame i h₁ h₂ st fun b hb => hk b (h b hb)
  item := W.item
  done := W.done
  self := W.self
noncomputable abbrev lineObj (x : PySem.Str) (d : Addr) (t : Tok) : Obj := { cls := .ref 408, dict := some d, data := .prim (.str x t), slots := #[some (.bool false)] }
theorem gen_test {prog : Program} {w : World} {A : Around} {E : Value → Shared → Prop} {s : Shared} {env : Env} {m : PySem.Str → Option Value} {p : Pos} {x : PySem.Str} {t : Tok} (hk : env.scope.kind = .function) (hx : env.kindOf (PySem.Str.ofString "line") = some .local)
    (hn : s.heap.Ns env.locals m) (hv : m (PySem.Str.ofString "line") = some (.str x t)) (hz : x.length ≤ 8192) :
    wpAny (model prog w) A (forIn [Expr.Name (PySem.Str.ofString "line") p] true fun c r => if r = true then do let ok ← isTrue c env (eval c env); pure (ForInStep.yield ok) else pure (ForInStep.yield r)) (fun b s₃ => b = ((x.length : Int) != 0) ∧ Keeps s s₃) E s := by
  refine wpAny_tests_one (isTrue_plain (wpAny_Name (wpAny_loadName_local hk hx hn hv ?_) (by decide)))
  exact SBL.truthy (by omega) ⟨rfl, s.heap, _, rfl, fun _ _ e => e⟩
section
variable {w : World} {loose : List PySem.Str} {mean : ExcName → Option Value} {mg mb : PySem.Str → Option Value} {dp un : Nat} {gd : Option (List Code)} {pv : Program} {env : Env} {outer : List Env} {A₀ : Around} {base h₀ : Heap}
theorem gen_elt {E : Value → Shared → Prop} {s : Shared} {m : PySem.Str → Option Value} {x : PySem.Str} {t : Tok} {p1 p2 p3 : Pos}
    (B : Below A₀ base outer h₀) (F : Fr h₀ env.locals s.heap m) (X : (Lay.hd.heap_1_39 w.params).In h₀) (T : Top pv loose mean mg mb h₀) (hef : env.frame = some env.locals) (hk : env.scope.kind = .function)
    (hx : env.kindOf (PySem.Str.ofString "line") = some .local) (hX : env.kindOf (PySem.Str.ofString "Contentline") = some .globalImplicit) (hgl : env.globals = mainGlobals)
    (hv : m (PySem.Str.ofString "line") = some (.str x t)) (hdp : dp + 250 < recursionLimit) (hu : un + 250 < cLine) (hno : 10 ∉ x.cps.toList) (hx8 : x.length ≤ 8192) :
    wpAny (model PySem.Challenge.rw_bf0005_01.row.prog w) { handled := none, depth := dp, frames := some (env :: outer), guards := gd, units := un } (eval (.Call (.Name (PySem.Str.ofString "Contentline") p1) [.Name (PySem.Str.ofString "line") p2] [] p3) env)
      (fun y s₃ => (∃ a d t', y = .ref a ∧ h₀.get? a = none ∧ s.heap.get? a = none ∧ a ≠ env.locals ∧ s₃.heap.get? a = some (lineObj x d t')) ∧ ∃ h' tk, s₃ = { s with heap := h', toks := tk } ∧ h'.Ns env.locals m ∧ ∀ b o, b ≠ env.locals → s.heap.get? b = some o → h'.get? b = some o) E s := by
  refine Call_name1 rfl ?_
  have eg : mg (PySem.Str.ofString "Contentline") = some (.ref 408) := mg_of X T.g (by kernel_rfl)
  refine Calls.Name_function_global hk hX (Calls.loadGlobal_global (by rw [hgl]; exact T.g.keeps F.keep) eg ?_) (by decide)
  refine callWith_of (P := fun h => (Lay.hd.heap_1_39 w.params).In h) (f := .ref 408) (first := []) rfl (keeps_K (K := Lay.hd.heap_1_39 w.params) (by kernel_rfl)) (evalArgs_plain (Calls.spliced_cons ?_))
  refine wpAny_Name (wpAny_loadName_local hk hx F.ns hv ?_) (by decide)
  refine Calls.spliced_nil ?_
  refine ⟨X.keeps F.keep, ?_⟩
  show wpAny _ _ (call (.ref 408) [.str x t] []) _ _ _
  refine cls_call B F X (news_allBut (h₀ := h₀) (h := s.heap) (L := env.locals)) T hef hk hdp hu (Or.inr rfl) hno hx8 fun a d t' h' tk F' N' l1 l2 => ?_
  have ka := N' _ (.head _)
  have kd := N' _ (.tail _ (.head _))
  dsimp only at ka kd
  have hf : s.heap.get? a = none := by
    cases q : s.heap.get? a with
    | none => rfl
    | some o =>
      have := l2 (a, o) (mem_allBut.mpr ⟨ka.2.1, ka.2.2, q⟩)
      exact absurd l1 (Nat.lt_asymm this)
  refine ⟨⟨a, d, t', rfl, ka.2.2, hf, ka.2.1, ka.1⟩, h', tk, rfl, F'.ns, fun b o hb e => ?_⟩
  cases q : h₀.get? b with
  | some o' =>
      have := F.keep _ _ q
      rw [e] at this; cases this
      exact F'.keep _ _ q
  | none => exact (N' (b, o) (.tail _ (.tail _ (mem_allBut.mpr ⟨hb, q, e⟩)))).1
end
end Mine
end TextG6

section TextG7
open PySem PySem.W PySem.W.X PySem.Calls PyProof.Rows PySem.Spec
set_option maxHeartbeats 0
set_option maxRecDepth 100000
namespace Mine
noncomputable abbrev enda : List Nat := [69, 78, 68, 58, 65]
noncomputable abbrev flElt (p1 p2 p3 : Pos) : PySem.Expr := .Call (.Name (PySem.Str.ofString "Contentline") p1) [.Name (PySem.Str.ofString "line") p2] [] p3
noncomputable def flF (told : List Nat) (h₀ : Heap) (C I : Addr) : Nat → Value → Heap → Prop := fun k v h => ∃ a d t', v = .ref a ∧ h₀.get? a = none ∧ a ≠ C ∧ a ≠ I ∧ h.get? a = some (lineObj (if k = 1 then chs told else chs enda) d t')
section
variable {w : World} {loose : List PySem.Str} {mean : ExcName → Option Value} {mg mb : PySem.Str → Option Value} {pv : Program} {env : Env} {outer : List Env} {A₀ A : Around} {base h₃ : Heap} {s : Shared} {a g I l : Addr} {told : List Nat} {t1 t2 t3 : Tok}
  {p1 p2 p3 p4 px pos : Pos} {iter : PySem.Expr} {scope : Scope} {m : PySem.Str → Option Value}
theorem fl_held (B : Below A₀ base outer (h₃.hide I)) (X : (Lay.hd.heap_1_39 w.params).In (h₃.hide I)) (T : Top pv loose mean mg mb (h₃.hide I)) (hC : h₃.objs.size = env.locals)
    (hef : env.frame = some env.locals) (hk : env.scope.kind = .function) (hco : env.scope.isCoroutine = false)
    (hx : env.kindOf (PySem.Str.ofString "line") = some .local) (hX : env.kindOf (PySem.Str.ofString "Contentline") = some .globalImplicit) (hgl : env.globals = mainGlobals)
    (hA : A.handled = none) (hfr : A.frames = some outer) (hdp : A.depth + 260 < recursionLimit) (hu : A.units + 260 < cLine)
    (hg : s.heap.IsGen a g) (hl : s.heap.NoLimit)
    (hgs : s.gens[g]? = some (.fresh (.compStart (.GeneratorExp (flElt p1 p2 p3) [⟨.Name (PySem.Str.ofString "line") px, iter, [.Name (PySem.Str.ofString "line") p4], 0⟩] scope pos) 0 (.ref I) .none env)))
    (hI : s.heap.IsListIter I l 0) (hlist : s.heap.IsList l #[.str (chs told) t1, .str (chs enda) t2, .str (chs []) t3]) (hIl : l ≠ I) (hIC : I < env.locals) (hlC : l < env.locals)
    (hn : s.heap.Ns env.locals m) (hkeep : ∀ b o, h₃.get? b = some o → s.heap.get? b = some o)
    (hno : 10 ∉ (chs told).cps.toList) (hx8 : (chs told).length ≤ 8192) (hne : told ≠ []) :
    Held PySem.Challenge.rw_bf0005_01.row.prog w A a g env.locals (List.range env.locals) [I] (flF told (h₃.hide I) env.locals I) 2 s := by
  have hh : A.in1.handled = none := hA
  have hpos : (((chs told).length : Int) != 0) = true := by
    rw [chs_len]
    have : told.length ≠ 0 := fun q => hne (List.length_eq_zero_iff.mp q)
    exact bne_iff_ne.mpr (by omega)
  have hCf : env.locals ∉ List.range env.locals := fun h => Nat.lt_irrefl _ (List.mem_range.mp h)
  have W₀ : ∀ A' : Around, A'.handled = none → Walks PySem.Challenge.rw_bf0005_01.row.prog w A' I (List.range env.locals) [I] 3 (fun i v => (#[.str (chs told) t1, .str (chs enda) t2, .str (chs []) t3] : Array Value)[i]? = some v) (fun i h => h.IsListIter I l i ∧ h.IsList l #[.str (chs told) t1, .str (chs enda) t2, .str (chs []) t3]) := fun A' hA' =>
    walks_more (fp := [I, l]) (Walks.list hA' I l hIl #[.str (chs told) t1, .str (chs enda) t2, .str (chs []) t3]) fun b hb => by
      rcases List.mem_cons.mp hb with rfl | hb
      · exact List.mem_range.mpr hIC
      · rcases List.mem_cons.mp hb with rfl | hb
        · exact List.mem_range.mpr hlC
        · cases hb
  have frm : ∀ (s₂ : Shared) m₂, s₂.heap.Ns env.locals m₂ → (∀ b ∈ List.range env.locals, b ∉ [I] → ∀ o, h₃.get? b = some o → s₂.heap.get? b = some o) → Fr (h₃.hide I) env.locals s₂.heap m₂ := fun s₂ m₂ n k =>
    ⟨n, fun b o e => by
      by_cases hb : b = I
      · rw [hb, Heap.hide_self] at e; cases e
      · have e' := Heap.of_hide e
        exact k b (List.mem_range.mpr (hC ▸ Heap.lt_size e')) (fun q => hb (List.mem_singleton.mp q)) o e', by rw [Heap.hide_size, hC]; exact Nat.le_refl _⟩
  have elt : ∀ (x : List Nat) (t : Tok) (k i : Nat) E' (s₂ : Shared) m₂, s₂.heap.IsListIter I l i → (if k = 1 then chs told else chs enda) = chs x → 10 ∉ (chs x).cps.toList → (chs x).length ≤ 8192 → s₂.heap.Ns env.locals m₂ → m₂ (PySem.Str.ofString "line") = some (.str (chs x) t) →
      (∀ b ∈ List.range env.locals, b ∉ [I] → ∀ o, h₃.get? b = some o → s₂.heap.get? b = some o) →
      wpAny (model PySem.Challenge.rw_bf0005_01.row.prog w) (A.in1.over (gLoop (flElt p1 p2 p3) iter (PySem.Str.ofString "line") px [.Name (PySem.Str.ofString "line") p4] scope pos I env) []) (eval (flElt p1 p2 p3) env)
        (fun y s₃ => (∃ r', k + 1 = r' + 1 ∧ flF told (h₃.hide I) env.locals I r' y s₃.heap) ∧ ∃ h' tk, s₃ = { s₂ with heap := h', toks := tk } ∧ h'.Ns env.locals m₂ ∧ ∀ b o, b ≠ env.locals → s₂.heap.get? b = some o → h'.get? b = some o) E' s₂ := by
    intro x t k i E' s₂ m₂ hit hx' hno' hx8' n hv kp
    obtain ⟨hnd, dp, fr, gd, un⟩ := A
    cases hA; cases hfr
    refine wpAny_mono (gen_elt (t := t) B (frm s₂ m₂ n kp) X T hef hk hx hX hgl hv ?_ ?_ hno' hx8') (fun y s₃ h => ?_) fun _ _ e => e
    · show dp + 0 + 1 + 250 < recursionLimit
      dsimp only at hdp
      omega
    · show un + 1 + 0 + 3 + 250 < cLine
      dsimp only at hu
      omega
    · obtain ⟨⟨a, d, t', rfl, h1, h2, h3, h4⟩, r⟩ := h
      exact ⟨⟨k, rfl, a, d, t', rfl, h1, h3, (fun q => by obtain ⟨oi, ei, _⟩ := hit; rw [← q, h2] at ei; cases ei), by rw [hx']; exact h4⟩, r⟩
  have seg2 : ∀ (s₀ s : Shared) m, s.heap.IsListIter I l 2 ∧ s.heap.IsList l #[.str (chs told) t1, .str (chs enda) t2, .str (chs []) t3] → s.heap.Ns env.locals m → GenSince env.locals [I] s₀ s → (∀ b ∈ List.range env.locals, b ∉ [I] → ∀ o, h₃.get? b = some o → s.heap.get? b = some o) →
      Seg (model PySem.Challenge.rw_bf0005_01.row.prog w) A.in1 (hEnd env.locals [I]) (hProto env.locals (List.range env.locals) [I] (flF told (h₃.hide I) env.locals I)) 0 s₀ (gLoop (flElt p1 p2 p3) iter (PySem.Str.ofString "line") px [.Name (PySem.Str.ofString "line") p4] scope pos I env) ((model PySem.Challenge.rw_bf0005_01.row.prog w).den (gLoop (flElt p1 p2 p3) iter (PySem.Str.ofString "line") px [.Name (PySem.Str.ofString "line") p4] scope pos I env)) [] s := by
    intro s₀ s m hst n hs kp
    refine g_turn (i := 2) (ok := false) (href := h₃) hh W₀ hx (by rw [hk]; rfl) hco hCf (by decide) hst n hs kp (fun E' v s₂ m₂ hv n₂ hm => ?_) (fun _ s₂ m₂ st₂ n₂ hs₂ k₂ => ?_) (fun q => nomatch q) (fun q => nomatch q)
    · cases hv
      exact gen_test (t := t3) hk hx n₂ hm (by decide)
    · exact g_done hh W₀ st₂ hs₂
  have seg1 : ∀ (s : Shared) m, s.heap.IsListIter I l 1 ∧ s.heap.IsList l #[.str (chs told) t1, .str (chs enda) t2, .str (chs []) t3] → s.heap.Ns env.locals m → (∀ b ∈ List.range env.locals, b ∉ [I] → ∀ o, h₃.get? b = some o → s.heap.get? b = some o) →
      Seg (model PySem.Challenge.rw_bf0005_01.row.prog w) A.in1 (hEnd env.locals [I]) (hProto env.locals (List.range env.locals) [I] (flF told (h₃.hide I) env.locals I)) 1 s (gLoop (flElt p1 p2 p3) iter (PySem.Str.ofString "line") px [.Name (PySem.Str.ofString "line") p4] scope pos I env) ((model PySem.Challenge.rw_bf0005_01.row.prog w).den (gLoop (flElt p1 p2 p3) iter (PySem.Str.ofString "line") px [.Name (PySem.Str.ofString "line") p4] scope pos I env)) [] s := by
    intro s m hst n kp
    refine g_turn (i := 1) (ok := true) (href := h₃) hh W₀ hx (by rw [hk]; rfl) hco hCf (by decide) hst n (GenSince.refl _ _ _) kp (fun E' v s₂ m₂ hv n₂ hm => ?_) (fun q => nomatch q) (fun _ E' v s₂ m₂ hv st₂ n₂ hm k₂ => ?_) (fun _ r' hr s₂ m₂ st₂ n₂ k₂ => ?_)
    · cases hv
      exact gen_test (t := t2) hk hx n₂ hm (by decide)
    · cases hv
      exact elt enda t2 0 2 E' s₂ m₂ st₂.1 rfl (by decide) (by decide) n₂ hm k₂
    · cases hr
      exact seg2 _ _ m₂ st₂ n₂ (GenSince.refl _ _ _) k₂
  have seg0 : ∀ (s : Shared) m, s.heap.IsListIter I l 0 ∧ s.heap.IsList l #[.str (chs told) t1, .str (chs enda) t2, .str (chs []) t3] → s.heap.Ns env.locals m → (∀ b ∈ List.range env.locals, b ∉ [I] → ∀ o, h₃.get? b = some o → s.heap.get? b = some o) →
      Seg (model PySem.Challenge.rw_bf0005_01.row.prog w) A.in1 (hEnd env.locals [I]) (hProto env.locals (List.range env.locals) [I] (flF told (h₃.hide I) env.locals I)) 2 s (gLoop (flElt p1 p2 p3) iter (PySem.Str.ofString "line") px [.Name (PySem.Str.ofString "line") p4] scope pos I env) ((model PySem.Challenge.rw_bf0005_01.row.prog w).den (gLoop (flElt p1 p2 p3) iter (PySem.Str.ofString "line") px [.Name (PySem.Str.ofString "line") p4] scope pos I env)) [] s := by
    intro s m hst n kp
    refine g_turn (i := 0) (ok := true) (href := h₃) hh W₀ hx (by rw [hk]; rfl) hco hCf (by decide) hst n (GenSince.refl _ _ _) kp (fun E' v s₂ m₂ hv n₂ hm => ?_) (fun q => nomatch q) (fun _ E' v s₂ m₂ hv st₂ n₂ hm k₂ => ?_) (fun _ r' hr s₂ m₂ st₂ n₂ k₂ => ?_)
    · cases hv
      refine wpAny_mono (gen_test (t := t1) hk hx n₂ hm hx8) (fun b s₃ h => ⟨h.1.trans ?_, h.2⟩) fun _ _ e => e
      exact hpos
    · cases hv
      exact elt told t1 1 1 E' s₂ m₂ st₂.1 rfl hno hx8 n₂ hm k₂
    · cases hr
      exact seg1 _ m₂ st₂ n₂ k₂
  refine ⟨hg, hl, _, hgs, fun s'' al => ⟨rfl, ?_⟩⟩
  have up : ∀ b ∈ List.range env.locals, b ∉ [I] → ∀ o, h₃.get? b = some o → s''.heap.get? b = some o := fun b hb _ o e => al b (List.mem_cons_of_mem _ hb) o (hkeep b o e)
  have st : s''.heap.IsListIter I l 0 ∧ s''.heap.IsList l #[.str (chs told) t1, .str (chs enda) t2, .str (chs []) t3] := (W₀ A hA).frame 0 _ _ ⟨hI, hlist⟩ fun b hb o e => al b (List.mem_cons_of_mem _ hb) o e
  have n : s''.heap.Ns env.locals m := hn.at' fun o e => al _ (List.mem_cons_self ..) o e
  exact g_start hh W₀ st (seg0 s'' m st n up)
end
end Mine
end TextG7

section TextG8
open PySem PySem.W PySem.W.X PySem.Calls PyProof.Rows PySem.Spec
set_option maxHeartbeats 0
set_option maxRecDepth 100000
namespace Mine
theorem fillG8 (w : World) (h : Heap) : (Lay.hd.heap_1_39 w.params).In h → PySem.Challenge.rw_bf0005_01.row.prog = PySem.Challenge.rw_bf0005_01.row.prog := by
  k_fill
  intros
  rfl
section
variable {w : World} {loose : List PySem.Str} {mean : ExcName → Option Value} {mg mb : PySem.Str → Option Value} {pv : Program} {env : Env} {outer : List Env} {A₀ A : Around} {base h₀ : Heap} {s : Shared} {L l : Addr} {told : List Nat} {t1 t2 t3 : Tok} {news : List (Addr × Obj)} {E : Value → Shared → Prop} {Q : Value → Shared → Prop}
  {p1 p2 p3 p4 px pos : Pos} {iter : PySem.Expr} {scope : Scope} {m : PySem.Str → Option Value}
theorem fl_make (B : Below A₀ base outer h₀) (F : Fr h₀ L s.heap m) (X : (Lay.hd.heap_1_39 w.params).In h₀) (T : Top pv loose mean mg mb h₀)
    (N : News h₀ L s.heap ((l, { cls := .type "list", data := .seq #[.str (chs told) t1, .str (chs enda) t2, .str (chs []) t3] }) :: (428, tab #[]) :: news))
    (hef : env.frame = some L) (hek : env.scope.kind = .function) (hcode : env.code = .ref 432) (hgl : env.globals = mainGlobals) (hgens : AllBare s.gens)
    (hk : scope.kind = .function) (hco : scope.isCoroutine = false) (hx : scope.names.lookup (PySem.Str.ofString "line") = some .local) (hX : scope.names.lookup (PySem.Str.ofString "Contentline") = some .globalImplicit)
    (hn4 : ∀ p ∈ news, p.1 ≠ 428) (hno : 10 ∉ (chs told).cps.toList) (hx8 : (chs told).length ≤ 8192) (hne : told ≠ [])
    (ret : ∀ a g C I hg h5 tk ps' gens', Fr h₀ L h5 m → News h₀ L h5 ((428, tab ps') :: news) → AllBare gens' → h5.IsGen a g → h5.NoLimit → s.heap.objs.size ≤ I → I < C → C < a → (∀ p ∈ (428, tab ps') :: news, p.1 < I) → L < I →
      (∀ b, hg.get? b = none → b ≠ C → h₀.get? b = none ∧ b ≠ L) →
      (∀ A' : Around, A'.handled = none → A'.frames = some (env :: outer) → A'.depth + 260 < recursionLimit → A'.units + 260 < cLine → Held PySem.Challenge.rw_bf0005_01.row.prog w A' a g C (List.range C) [I] (flF told hg C I) 2 { s with heap := h5, toks := tk, gens := gens' }) →
      Q (.ref a) { s with heap := h5, toks := tk, gens := gens' }) :
    wpAny (model PySem.Challenge.rw_bf0005_01.row.prog w) A (pyIter (.ref l)) (fun it s₂ => s₂.heap.NoLimit ∧
      wpAny (model PySem.Challenge.rw_bf0005_01.row.prog w) A (genexprCode env pos (env.qual ++ "<genexpr>") scope) (fun code s₃ => wpAny (model PySem.Challenge.rw_bf0005_01.row.prog w) A (builtinsFor env.globals env.builtins) (fun bi s₄ =>
        ∀ h', h'.Ns s₄.heap.objs.size (fun y => if y = ".0" then some it else none) → Heap.SameBut s₄.heap.objs.size (s₄.heap.push { cls := .type "frame", data := .dict #[] }) h' →
          Q (.ref h'.objs.size) { s₄ with
            gens := s₄.gens.push (.fresh (.compStart (.GeneratorExp (flElt p1 p2 p3) [⟨.Name (PySem.Str.ofString "line") px, iter, [.Name (PySem.Str.ofString "line") p4], 0⟩] scope pos) 0 it .none (genEnv scope [] s₄.heap.objs.size code bi env))),
            toks := s₄.toks + 1 + 1 + 1,
            heap := h'.push { cls := .type "generator", data := .fields #[.int s₄.gens.size 0, .str "<genexpr>" (s₄.toks + 1), .str (env.qual ++ "<genexpr>") (s₄.toks + 1 + 1)] } }) E s₃) E s₂) E s := by
  have hl : s.heap.IsList l #[.str (chs told) t1, .str (chs enda) t2, .str (chs []) t3] := ⟨_, (N _ (.head _)).1, rfl, _, rfl⟩
  have h4 := (N _ (.tail _ (.head _))).1
  have n4 : h₀.get? 428 = none := (N _ (.tail _ (.head _))).2.2
  dsimp only at h4
  have lim : s.heap.NoLimit := T.nolimit.keeps F.keep
  refine wpAny_pyIter_list hl ⟨lim.push _, ?_⟩
  have C2 : CodeHd s.heap 432 428 := (codeHd_of_K X (by kernel_rfl)).keeps F.keep
  have tab2 : (s.heap.push { cls := .type "list_iterator", data := .fields #[.ref l, .int 0 0] }).get? 428 = some (tabObj #[]) := Heap.get?_push_of_some _ h4
  have C2' := C2.keeps fun b o e => Heap.get?_push_of_some { cls := .type "list_iterator", data := .fields #[.ref l, .int 0 0] } e
  refine wpAny_genexprCodeX (ps := #[]) hcode (C2'.code tab2 trivial) (C2'.tab tab2) rfl fun c' h3 tk hx3 hge hlt hcode3 hrec htab3 _ => ?_
  have tab3 := htab3.2
  generalize hps : (#[] ++ #[rawInt pos.line, rawInt pos.col, .ref c'] : Array Value) = ps' at tab3
  have kp3 : ∀ b o, b ≠ 428 → s.heap.get? b = some o → h3.get? b = some o := fun b o hb e => hx3 b o hb (Heap.get?_push_of_some _ e)
  have kp0 : ∀ b o, h₀.get? b = some o → h3.get? b = some o := fun b o e => kp3 b o (fun q => by rw [q, n4] at e; cases e) (F.keep b o e)
  obtain ⟨bm, ob, b1, b2, b3, b4, b5, b6⟩ := T.bmain
  rw [hgl]
  refine wpAny_builtinsFor (T.g.keeps kp0) b1 b2 (kp0 _ _ b3) b4 b5 b6 ?_
  intro h' hns sb
  dsimp only at hns sb ⊢
  have hL4 : L ≠ 428 := (N _ (.tail _ (.head _))).2.1.symm
  have szI : (s.heap.push { cls := .type "list_iterator", data := .fields #[.ref l, .int 0 0] }).objs.size = s.heap.objs.size + 1 := Heap.size_push _ _
  have hIC : s.heap.objs.size < h3.objs.size := by
    have hge' : (s.heap.push { cls := .type "list_iterator", data := .fields #[.ref l, .int 0 0] }).objs.size ≤ c' := hge
    rw [szI] at hge'
    exact Nat.lt_trans (Nat.lt_of_succ_le hge') hlt
  have hCa : h'.objs.size = h3.objs.size + 1 := by rw [sb.1]; exact Heap.size_push _ _
  have up : ∀ b o, h3.get? b = some o → h'.get? b = some o := fun b o e => (sb.2 b (Nat.ne_of_lt (Heap.lt_size e))).trans (Heap.get?_push_of_some _ e)
  have up5 : ∀ b o, h3.get? b = some o → (h'.push { cls := .type "generator", data := .fields #[.int s.gens.size 0, .str "<genexpr>" (tk + 1), .str (env.qual ++ "<genexpr>") (tk + 1 + 1)] }).get? b = some o := fun b o e => Heap.get?_push_of_some _ (up b o e)
  have iter3 : h3.IsListIter s.heap.objs.size l 0 := ⟨_, hx3 _ _ (fun q => by
    have := Heap.lt_size h4
    rw [q] at this
    exact absurd this (Nat.lt_irrefl _)) (Heap.get?_push_size _ rfl), rfl, rfl⟩
  have hlt_l : l < s.heap.objs.size := Heap.lt_size (N _ (.head _)).1
  have hl4 : l ≠ 428 := fun q => by
    have := (N _ (.head _)).1
    dsimp only at this
    rw [q, h4] at this; cases this
  have list3 : h3.IsList l #[.str (chs told) t1, .str (chs enda) t2, .str (chs []) t3] := ⟨_, kp3 _ _ hl4 (N _ (.head _)).1, rfl, _, rfl⟩
  have F3 : Fr h₀ L h3 m := ⟨F.ns.extBut (b := 428) (fun b o hb e => kp3 b o hb e) hL4, kp0, F.above⟩
  have F5 : Fr h₀ L (h'.push { cls := .type "generator", data := .fields #[.int s.gens.size 0, .str "<genexpr>" (tk + 1), .str (env.qual ++ "<genexpr>") (tk + 1 + 1)] }) m := F3.keeps up5
  have N5 : News h₀ L (h'.push { cls := .type "generator", data := .fields #[.int s.gens.size 0, .str "<genexpr>" (tk + 1), .str (env.qual ++ "<genexpr>") (tk + 1 + 1)] }) ((428, tab ps') :: news) := fun p hp => by
    rcases List.mem_cons.mp hp with rfl | hp
    · exact ⟨up5 _ _ tab3, hL4.symm, n4⟩
    · have z := N p (.tail _ (.tail _ hp))
      exact ⟨up5 _ _ (kp3 _ _ (hn4 p hp) z.1), z.2⟩
  have hLs : L < s.heap.objs.size := F.ns.lt
  have nI : ∀ b, b = s.heap.objs.size → s.heap.get? b = none := fun b q => by
    cases e : s.heap.get? b with
    | none => rfl
    | some o =>
      have h := Heap.lt_size e
      rw [q] at h
      exact absurd h (Nat.lt_irrefl _)
  have hgk : ∀ b o, h3.get? b = some o → b ≠ s.heap.objs.size → (h3.hide s.heap.objs.size).get? b = some o := fun b o e hb => by rw [Heap.hide_ne _ hb]; exact e
  have k0 : ∀ b o, h₀.get? b = some o → (h3.hide s.heap.objs.size).get? b = some o := fun b o e => hgk b o (kp0 b o e) fun q => by
    have := F.keep _ _ e
    rw [nI b q] at this; cases this
  obtain ⟨oL, eL1, eL2, hL, hLr⟩ := F3.ns
  have hLg : (h3.hide s.heap.objs.size).get? L = some oL := hgk L oL hL (Nat.ne_of_lt hLs)
  have Fg : Fr h₀ L (h3.hide s.heap.objs.size) m := ⟨⟨oL, eL1, eL2, hLg, hLr⟩, k0, F.above⟩
  refine ret h'.objs.size s.gens.size h3.objs.size s.heap.objs.size (h3.hide s.heap.objs.size) _ _ ps' _ F5 N5 (hgens.push rfl) ⟨_, _, _, Heap.get?_push_size _ rfl, rfl, rfl, rfl⟩ ((lim.extBut (a := 428) (fun b o hb e => kp3 b o hb e) (by decide)).keeps up5) (Nat.le_refl _) hIC (by omega) (fun p hp => ?_) hLs (fun b e hb => ⟨?_, ?_⟩) (fun A' a1 a2 a3 a4 => ?_)
  · rcases List.mem_cons.mp hp with rfl | hp
    · exact Heap.lt_size h4
    · exact Heap.lt_size (N p (.tail _ (.tail _ hp))).1
  · cases q : h₀.get? b with
    | none => rfl
    | some o => rw [k0 _ _ q] at e; cases e
  · rintro rfl
    rw [hLg] at e; cases e
  · refine fl_held (pv := pv) (t1 := t1) (t2 := t2) (t3 := t3) (p1 := p1) (p2 := p2) (p3 := p3) (p4 := p4) (px := px) (pos := pos) (iter := iter) (scope := scope) (env := genEnv scope [] h3.objs.size (.ref c') builtinsNs env) (pushX B Fg hef hek) (X.keeps k0) (T.keeps k0) rfl rfl hk hco hx hX hgl a1 a2 a3 a4 ⟨_, _, _, Heap.get?_push_size _ rfl, rfl, rfl, rfl⟩ ?_ ?_ ?_ ?_ (Nat.ne_of_lt hlt_l) hIC (Nat.lt_trans hlt_l hIC) (hns.keeps fun b o e => Heap.get?_push_of_some _ e) (fun b o e => up5 b o e) hno hx8 hne
    · exact (lim.extBut (a := 428) (fun b o hb e => kp3 b o hb e) (by decide)).keeps up5
    · exact Array.getElem?_push_size
    · exact let ⟨o, e, r⟩ := iter3; ⟨o, up5 _ _ e, r⟩
    · exact let ⟨o, e, r⟩ := list3; ⟨o, up5 _ _ e, r⟩
end
end Mine
end TextG8

section TextG9
open PySem PySem.W PySem.W.X PySem.Calls PyProof.Rows PySem.Spec
set_option maxHeartbeats 0
set_option maxRecDepth 100000
namespace Mine
theorem fillG9 (w : World) (h : Heap) : (Lay.hd.heap_1_39 w.params).In h → PySem.Challenge.rw_bf0005_01.row.prog = PySem.Challenge.rw_bf0005_01.row.prog := by
  k_fill
  intros
  rfl
noncomputable abbrev linesObj (d : Addr) (acc : Array Value) (c : Nat) : Obj := { cls := .ref 439, dict := some d, data := .seq acc c }
section
variable {w : World} {A : Around} {E : Value → Shared → Prop} {s : Shared} {h₀ : Heap} {L S d : Addr} {m : PySem.Str → Option Value} {own news : List (Addr × Obj)} {acc : Array Value} {c : Nat}
theorem gm_app {pl : Sem Bool} {Q : Value × List Value → Shared → Prop} (XS : (Lay.hd.heap_1_39 w.params).In s.heap) (h1 : s.heap.get? S = some (linesObj d acc c)) (h2 : s.heap.get? d = some {cls := .type "dict", data := .dict #[]}) (h : Q (.builtin "list.append", [.ref S]) s) :
    wpAny (model PySem.Challenge.rw_bf0005_01.row.prog w) A (getMethod (.ref S) "append" pl) Q E s := by
  show wpAny _ _ _ _ _ _
  refine s_load XS 0 (by kernel_rfl) h1 ?_
  refine s_load XS 3 (by kernel_rfl) h1 ?_
  refine s_load XS 3 (by kernel_rfl) h1 ?_
  refine s_load XS 3 (by kernel_rfl) h1 ?_
  refine s_load XS 0 (by kernel_rfl) h2 ?_
  exact s_pure (a := (.builtin "list.append", [.ref S])) XS 400 (by kernel_rfl) h
theorem s_updX {α : Type} {prog : Program} {Q : α → Shared → Prop} {K : Frag} {t : Sem α} {a : Addr} {o o' : Obj} (X : K.In s.heap) (n : Nat) (e : nUpd (skimK K ⟨prog, w.params⟩ n t) = some a) (ho : s.heap.get? a = some o) (e2 : fUpd (skimK K ⟨prog, w.params⟩ n t) o = o') (hf : o'.isFreed = false)
    (h : ∀ h', Heap.SameBut a s.heap h' → h'.get? a = some o' → wpAny (model prog w) A (kUpd (skimK K ⟨prog, w.params⟩ n t)) Q E { s with heap := h' }) : wpAny (model prog w) A t Q E s := by
  refine x_skimK X n ?_
  generalize skimK K ⟨prog, w.params⟩ n t = T at *
  cases T with
  | update b q f k =>
    cases e; cases e2
    exact wpAny_bind (m := updatePart a q f) (f := k) (wpAny_updatePart ho (h _ (Heap.SameBut.update ..) (Heap.get?_update_self _ ho hf)))
  | _ => cases e
theorem app_lines {Q : Value → Shared → Prop} {a1 a2 : Addr} {x : PySem.Str} {t : Tok} (XS : (Lay.hd.heap_1_39 w.params).In s.heap) (hS : (Lay.hd.heap_1_39 w.params).lookup S = none) (h1 : s.heap.get? S = some (linesObj d #[.ref a1, .ref a2] c))
    (h : ∀ h', Heap.SameBut S s.heap h' → h'.get? S = some (linesObj d #[.ref a1, .ref a2, .str x t] (c + 1)) → Q .none { s with heap := h' }) :
    wpAny (model PySem.Challenge.rw_bf0005_01.row.prog w) A (call (.builtin "list.append") [.ref S, .str x t]) Q E s := by
  refine wpAny_call (codeAny_call_builtin (show plainId "list.append" = true by decide +kernel) F.entry_list_append ?_)
  show wpAny _ _ _ _ _ _
  refine s_load XS 0 (by kernel_rfl) h1 ?_
  refine s_pure (a := ()) XS 400 (by kernel_rfl) ?_
  refine s_load XS 0 (by kernel_rfl) h1 ?_
  refine s_updX XS 400 (by kernel_rfl) h1 (o' := linesObj d #[.ref a1, .ref a2, .str x t] (c + 1)) (by kernel_rfl) rfl fun h' sb e => ?_
  have XS' : (Lay.hd.heap_1_39 w.params).In h' := fun b o q => (sb.2 b (fun r => by rw [r, hS] at q; cases q)).trans (XS b o q)
  refine s_load (s := { s with heap := h' }) XS' 0 (by kernel_rfl) e ?_
  exact s_pure (a := .done (.ret .none)) XS' 400 (by kernel_rfl) (h h' sb e)
end
end Mine
end TextG9

section TextGA
open PySem PySem.W PySem.W.X PySem.Calls PyProof.Rows PySem.Spec
set_option maxHeartbeats 0
set_option maxRecDepth 100000
namespace Mine
theorem fillGA (w : World) (h : Heap) : (Lay.hd.heap_1_39 w.params).In h → PySem.Challenge.rw_bf0005_01.row.prog = PySem.Challenge.rw_bf0005_01.row.prog := by
  k_fill
  intros
  rfl
section
variable {w : World} {A : Around} {E : Value → Shared → Prop} {s : Shared} {a g C I : Addr} {hg : Heap} {told : List Nat} {outer : List Env} {h₀ : Heap} {L : Addr} {m : PySem.Str → Option Value} {news : List (Addr × Obj)} {Q : Value → Shared → Prop}
theorem fl_lines (X : (Lay.hd.heap_1_39 w.params).In h₀) (F : Fr h₀ L s.heap m) (N : News h₀ L s.heap news) (hA : A.handled = none) (hfr : A.frames = some outer) (hdp : A.depth + 270 < recursionLimit) (hu : A.units + 270 < cLine)
    (ig : s.heap.IsGen a g) (hgens : AllBare s.gens) (hIC : I < C) (hCa : C < a) (hlI : ∀ p ∈ news, p.1 < I) (hLI : L < I) (h0I : h₀.objs.size ≤ I) (hcI : cStatics < I)
    (hgf : ∀ b, hg.get? b = none → b ≠ C → h₀.get? b = none ∧ b ≠ L)
    (held : ∀ A' : Around, A'.handled = none → A'.frames = some outer → A'.depth + 260 < recursionLimit → A'.units + 260 < cLine → Held PySem.Challenge.rw_bf0005_01.row.prog w A' a g C (List.range C) [I] (flF told hg C I) 2 s)
    (ret : ∀ S d a1 d1 t1 a2 d2 t2 c hE tk gens', Fr h₀ L hE m → News h₀ L hE ((S, linesObj d #[.ref a1, .ref a2] c) :: (d, {cls := .type "dict", data := .dict #[]}) :: (a1, lineObj (chs told) d1 t1) :: (a2, lineObj (chs enda) d2 t2) :: news) → AllBare gens' →
      d < S → S ≠ a1 → S ≠ a2 → (∀ p ∈ news, p.1 ≠ S) → (Lay.hd.heap_1_39 w.params).lookup S = none → Q (.ref S) { s with heap := hE, toks := tk, gens := gens' }) :
    wpAny (model PySem.Challenge.rw_bf0005_01.row.prog w) A (call (.ref 439) [.ref a]) Q E s := by
  have XS := X.keeps F.keep
  have ha5 : a < s.heap.objs.size := by obtain ⟨o, nm, qn, ho, r⟩ := ig; exact Heap.lt_size ho
  refine lines_call XS ig fun d S h' tk c' D => ?_
  have hSf := D.far _ (.head _)
  have hdf := D.far _ (.tail _ (.head _))
  have hdS : d < S := (List.pairwise_cons.mp D.ord).1 d (.head _)
  dsimp only at hSf hdf
  have hS := D.at 0 (a := S) rfl
  have hh : ((A.under (.builtin "type.__call__" ⟨[.ref 439, .ref a], []⟩)).mark none).handled = none := by
    show (Option.or none A.handled) = none
    rw [hA]; rfl
  have hf2 : ((A.under (.builtin "type.__call__" ⟨[.ref 439, .ref a], []⟩)).mark none).frames = some outer := by
    simp only [Around.under, Around.mark]
    rw [hfr]; rfl
  have hd2 : ((A.under (.builtin "type.__call__" ⟨[.ref 439, .ref a], []⟩)).mark none).depth ≤ A.depth + 2 := by
    show A.depth + _ ≤ A.depth + 2
    exact Nat.add_le_add_left (Nat.le_of_ble_eq_true (by kernel_rfl)) _
  have hu2 : ((A.under (.builtin "type.__call__" ⟨[.ref 439, .ref a], []⟩)).mark none).units ≤ A.units + 7 := by
    show A.units + _ ≤ A.units + 7
    exact Nat.add_le_add_left (Nat.le_of_ble_eq_true (by kernel_rfl)) _
  generalize ((A.under (.builtin "type.__call__" ⟨[.ref 439, .ref a], []⟩)).mark none) = AL at *
  have hSa : a < S := Nat.lt_of_lt_of_le ha5 hSf
  have hCS : C < S := Nat.lt_trans hCa hSa
  have hIS : I < S := Nat.lt_trans hIC hCS
  have haC : a ≠ C := Nat.ne_of_gt hCa
  have haI : a ≠ I := Nat.ne_of_gt (Nat.lt_trans hIC hCa)
  have H2 : Held PySem.Challenge.rw_bf0005_01.row.prog w AL.in1 a g C (List.range C) [I] (flF told hg C I) 2 { s with heap := h', toks := tk } :=
    (held AL.in1 hh hf2 (by show AL.depth + 260 < _; omega) (by show AL.units + 1 + 260 < _; omega)).frame (S := S) (Nat.ne_of_lt hSa) (Nat.ne_of_lt (Nat.lt_trans hcI hIS)) (Nat.ne_of_gt hCS) (fun q => Nat.lt_asymm hCS (List.mem_range.mp q)) rfl fun b o _ e => D.keep b o e
  have K1 : ∀ b o, s.heap.get? b = some o → h'.get? b = some o := D.keep
  refine ext_one (acc := []) hh (by omega) haC (fun q => haI (List.mem_singleton.mp q)) (Nat.ne_of_lt (Nat.lt_trans hcI hIC)) (fun q => Nat.ne_of_lt hcI (List.mem_singleton.mp q)) (Nat.ne_of_lt hSa) (Nat.ne_of_lt (Nat.lt_trans hcI hIS)) (Nat.ne_of_gt hCS) (fun q => Nat.ne_of_gt hIS (List.mem_singleton.mp q)) (fun q => Nat.lt_asymm hCS (List.mem_range.mp q))
    H2 hgens hS (by decide) fun v1 h01 h1 tk1 gens1 f1 s1 k01 k1 g1 H1 e1 => ?_
  obtain ⟨a1, d1, t1, rfl, n1, nC1, nI1, o1⟩ := f1
  have o1' : h1.get? a1 = some (lineObj (chs told) d1 t1) := k01 a1 _ (fun q => by rw [q, s1] at o1; cases o1) o1
  have hS1 : S ≠ a1 := fun q => by rw [← q, e1] at o1'; cases o1'
  refine ext_one (s := { s with heap := h1, toks := tk1, gens := gens1 }) hh (by omega) haC (fun q => haI (List.mem_singleton.mp q)) (Nat.ne_of_lt (Nat.lt_trans hcI hIC)) (fun q => Nat.ne_of_lt hcI (List.mem_singleton.mp q)) (Nat.ne_of_lt hSa) (Nat.ne_of_lt (Nat.lt_trans hcI hIS)) (Nat.ne_of_gt hCS) (fun q => Nat.ne_of_gt hIS (List.mem_singleton.mp q)) (fun q => Nat.lt_asymm hCS (List.mem_range.mp q))
    H1 g1 e1 (by simp) fun v2 h02 h2 tk2 gens2 f2 s2 k02 k2 g2 H0 e2 => ?_
  obtain ⟨a2, d2, t2, rfl, n2, nC2, nI2, o2⟩ := f2
  have o2' : h2.get? a2 = some (lineObj (chs enda) d2 t2) := k02 a2 _ (fun q => by rw [q, s2] at o2; cases o2) o2
  have hS2 : S ≠ a2 := fun q => by rw [← q, e2] at o2'; cases o2'
  refine ext_end (s := { s with heap := h2, toks := tk2, gens := gens2 }) hh (by omega) H0 g2 fun hE tkE gensE kE gE => ?_
  dsimp only at k1 k2 kE
  have all : ∀ b o, b ≠ S → b ≠ C → b ≠ I → s.heap.get? b = some o → hE.get? b = some o := fun b o hS hC hI e =>
    kE b o hC (fun q => hI (List.mem_singleton.mp q)) (k2 b o hS hC (fun q => hI (List.mem_singleton.mp q)) (k1 b o hS hC (fun q => hI (List.mem_singleton.mp q)) (K1 b o e)))
  have FE : Fr h₀ L hE m := by
    obtain ⟨oL, l1, l2, hL, r⟩ := F.ns
    refine ⟨⟨oL, l1, l2, all L oL (Nat.ne_of_lt (Nat.lt_trans hLI hIS)) (Nat.ne_of_lt (Nat.lt_trans hLI hIC)) (Nat.ne_of_lt hLI) hL, r⟩, fun b o e => ?_, F.above⟩
    have hb : b < I := Nat.lt_of_lt_of_le (Heap.lt_size e) h0I
    exact all b o (Nat.ne_of_lt (Nat.lt_trans hb hIS)) (Nat.ne_of_lt (Nat.lt_trans hb hIC)) (Nat.ne_of_lt hb) (F.keep b o e)
  have fresh : ∀ b, I ≤ b → h₀.get? b = none := fun b hb => by
    cases q : h₀.get? b with
    | none => rfl
    | some o => exact absurd (Nat.lt_of_lt_of_le (Heap.lt_size q) h0I) (Nat.not_lt.mpr hb)
  have od : hE.get? d = some {cls := .type "dict", data := .dict #[]} := by
    have e0 := D.at 1 (a := d) rfl
    have hCd : C < d := Nat.lt_trans hCa (Nat.lt_of_lt_of_le ha5 hdf)
    have n1 : d ≠ S := Nat.ne_of_lt hdS
    have n2 : d ≠ C := Nat.ne_of_gt hCd
    have n3 : d ≠ I := Nat.ne_of_gt (Nat.lt_trans hIC hCd)
    exact kE d _ n2 (fun q => n3 (List.mem_singleton.mp q)) (k2 d _ n1 n2 (fun q => n3 (List.mem_singleton.mp q)) (k1 d _ n1 n2 (fun q => n3 (List.mem_singleton.mp q)) e0))
  refine ⟨rfl, X.keeps FE.keep, ?_⟩
  refine ret S d a1 d1 t1 a2 d2 t2 (c' + 1 + 1) hE tkE gensE FE (fun p hp => ?_) gE hdS hS1 hS2 (fun p hp => Nat.ne_of_lt (Nat.lt_trans (hlI p hp) hIS)) ?_
  · have eS : hE.get? S = some (linesObj d #[.ref a1, .ref a2] (c' + 1 + 1)) := kE S _ (Nat.ne_of_gt hCS) (fun q => Nat.ne_of_gt hIS (List.mem_singleton.mp q)) e2
    rcases List.mem_cons.mp hp with rfl | hp
    · exact ⟨eS, Nat.ne_of_gt (Nat.lt_trans hLI hIS), fresh S (Nat.le_of_lt hIS)⟩
    rcases List.mem_cons.mp hp with rfl | hp
    · have hId : I < d := Nat.lt_trans hIC (Nat.lt_trans hCa (Nat.lt_of_lt_of_le ha5 hdf))
      exact ⟨od, Nat.ne_of_gt (Nat.lt_trans hLI hId), fresh d (Nat.le_of_lt hId)⟩
    rcases List.mem_cons.mp hp with rfl | hp
    · exact ⟨kE a1 _ nC1 (fun q => nI1 (List.mem_singleton.mp q)) (k2 a1 _ hS1.symm nC1 (fun q => nI1 (List.mem_singleton.mp q)) o1'), (hgf a1 n1 nC1).2, (hgf a1 n1 nC1).1⟩
    rcases List.mem_cons.mp hp with rfl | hp
    · exact ⟨kE a2 _ nC2 (fun q => nI2 (List.mem_singleton.mp q)) o2', (hgf a2 n2 nC2).2, (hgf a2 n2 nC2).1⟩
    · have hb := hlI p hp
      exact ⟨all p.1 _ (Nat.ne_of_lt (Nat.lt_trans hb hIS)) (Nat.ne_of_lt (Nat.lt_trans hb hIC)) (Nat.ne_of_lt hb) (N p hp).1, (N p hp).2⟩
  · cases q : (Lay.hd.heap_1_39 w.params).lookup S with
    | none => rfl
    | some o =>
      have := X _ _ q
      rw [fresh S (Nat.le_of_lt hIS)] at this; cases this
end
end Mine
end TextGA

section TextN4
open PySem PySem.W PySem.W.X PySem.Calls PyProof.Rows PySem.Spec
namespace Mine
theorem fillB2x (w : World) (h : Heap) : (Lay.hd.heap_1_39 w.params).In h → PySem.Challenge.rw_bf0005_01.row.prog = PySem.Challenge.rw_bf0005_01.row.prog := by
  k_fill
  intros
  rfl
local macro_rules | `(tactic| k_room) => `(tactic| ktr_room)


local macro_rules | `(tactic| walk_at "getMethod ref") => `(tactic| k_dflt (k_here; (refine' gm_U ?F ?X ?_); (case F => k_asm); (case X => k_asm)))
local macro_rules | `(tactic| walk_at "getMethod ref") => `(tactic| k_dflt (k_here; (refine' gm_N ?F ?X ?_); (case F => k_asm); (case X => k_asm)))
local macro_rules | `(tactic| walk_at "call builtin:re.Pattern.sub") => `(tactic| k_dflt (k_here; (refine' sub_nearE ?X ?H ?hz ?F ?N ?_); (case X => k_asm); (case H => assumption); (case hz => assumption); (case F => k_asm); (case N => k_asm); intro h' t' k' F' N'))
local macro_rules | `(tactic| walk_at "call builtin:re.Pattern.sub") => `(tactic| k_dflt (k_here; (refine' sub_lines ?X ?hc ?hne ?hz ?F ?N ?_); (case X => k_asm); (case hc => assumption); (case hne => assumption); (case hz => assumption); (case F => k_asm); (case N => k_asm); intro h' t' k' F' N'))
theorem split_lines {w : World} {A : Around} {E : Value → Shared → Prop} {s : Shared} {h₀ : Heap} {L : Addr} {m : PySem.Str → Option Value} {news : List (Addr × Obj)} {Q : Value → Shared → Prop} {told : List Nat} {t u : Tok} (hF : Fr h₀ L s.heap m) (hN : News h₀ L s.heap news) (hc : ∀ c ∈ told, calm c) (hz : told.length ≤ 1024)
    (h : ∀ l h' k t1 t2 t3, Fr h₀ L h' m → News h₀ L h' ((l, { cls := .type "list", data := .seq #[.str (chs told) t1, .str (chs [69, 78, 68, 58, 65]) t2, .str (chs []) t3] }) :: news) → (∀ p ∈ news, p.1 < l) → Q (.ref l) { s with heap := h', toks := k }) :
    wpAny (model PySem.Challenge.rw_bf0005_01.row.prog w) A (call (.builtin "str.split") [.str (chs (told ++ [10, 69, 78, 68, 58, 65, 10])) t, .str (PySem.Str.ofString "\n") u]) Q E s := by
  have e : PySem.Str.ofString "\n" = chs [10] := by decide +kernel
  rw [e]
  refine splitN1 hF hN rfl (fun l h' k hl F' N' => ?_) (by rw [chs_len, List.length_append, sizeLine_eq]; simp; omega)
  rw [split_told (fun q => (hc 10 q).1 rfl)] at hl
  match l, hl with
  | [(_, t1), (_, t2), (_, t3)], hl =>
    simp only [List.map_cons, List.map_nil, List.cons.injEq, and_true] at hl
    obtain ⟨rfl, rfl, rfl⟩ := hl
    exact h _ h' k t1 t2 t3 F' N' fun p hp => Heap.lt_size (hN p hp).1
local macro_rules | `(tactic| walk_at "call builtin:str.split") => `(tactic| k_dflt (k_here; (refine' split_lines ?F ?N ?hc ?hz ?_); (case F => k_asm); (case N => k_asm); (case hc => assumption); (case hz => assumption); intro l' h' k' t1' t2' t3' F' N' l1'))
theorem gm_appN {w : World} {A : Around} {E : Value → Shared → Prop} {s : Shared} {h₀ : Heap} {L S d : Addr} {m : PySem.Str → Option Value} {news : List (Addr × Obj)} {acc : Array Value} {c : Nat} {pl : Sem Bool} {Q : Value × List Value → Shared → Prop} (F : Fr h₀ L s.heap m) (X : (Lay.hd.heap_1_39 w.params).In h₀)
    (N : News h₀ L s.heap ((S, linesObj d acc c) :: (d, { cls := .type "dict", data := .dict #[] }) :: news)) (h : Q (.builtin "list.append", [.ref S]) s) : wpAny (model PySem.Challenge.rw_bf0005_01.row.prog w) A (getMethod (.ref S) "append" pl) Q E s :=
  gm_app (X.keeps F.keep) (N _ (.head _)).1 (N _ (.tail _ (.head _))).1 h
theorem app_linesN {w : World} {A : Around} {E : Value → Shared → Prop} {s : Shared} {h₀ : Heap} {L S d : Addr} {m : PySem.Str → Option Value} {news : List (Addr × Obj)} {c : Nat} {Q : Value → Shared → Prop} {a1 a2 : Addr} {o1 o2 : Obj} {x : PySem.Str} {t : Tok} (F : Fr h₀ L s.heap m) (X : (Lay.hd.heap_1_39 w.params).In h₀)
    (N : News h₀ L s.heap ((S, linesObj d #[.ref a1, .ref a2] c) :: (d, { cls := .type "dict", data := .dict #[] }) :: (a1, o1) :: (a2, o2) :: news)) (hS : (Lay.hd.heap_1_39 w.params).lookup S = none) (hdS : d < S) (h1 : S ≠ a1) (h2 : S ≠ a2) (h3 : ∀ p ∈ news, p.1 ≠ S)
    (h : ∀ h', Fr h₀ L h' m → News h₀ L h' ((S, linesObj d #[.ref a1, .ref a2, .str x t] (c + 1)) :: (d, { cls := .type "dict", data := .dict #[] }) :: (a1, o1) :: (a2, o2) :: news) → Q .none { s with heap := h' }) :
    wpAny (model PySem.Challenge.rw_bf0005_01.row.prog w) A (call (.builtin "list.append") [.ref S, .str x t]) Q E s := by
  have z := N _ (.head _)
  refine app_lines (X.keeps F.keep) hS z.1 fun h' sb e => h h' (F.change sb z.2.1 z.2.2) fun p hp => ?_
  rcases List.mem_cons.mp hp with rfl | hp
  · exact ⟨e, z.2⟩
  have hne : p.1 ≠ S := by
    rcases List.mem_cons.mp hp with rfl | hp
    · exact Nat.ne_of_lt hdS
    rcases List.mem_cons.mp hp with rfl | hp
    · exact h1.symm
    rcases List.mem_cons.mp hp with rfl | hp
    · exact h2.symm
    · exact h3 p hp
  have y := N p (.tail _ hp)
  exact ⟨(sb.2 p.1 hne).trans y.1, y.2⟩
local macro_rules | `(tactic| walk_at "getMethod ref") => `(tactic| k_dflt (k_here; (refine' gm_appN ?F ?X ?N ?_); (case F => k_asm); (case X => k_asm); (case N => k_asm)))
local macro_rules | `(tactic| walk_at "call builtin:list.append") => `(tactic| k_dflt (k_here; (refine' app_linesN ?F ?X ?N ?hS ?hdS ?h1 ?h2 ?h3 ?_); (case F => k_asm); (case X => k_asm); (case N => k_asm); (case hS => assumption); (case hdS => assumption); (case h1 => assumption); (case h2 => assumption); (case h3 => assumption); intro h' F' N'))
theorem gen_q {α : Type} {M : Model} {A : Around} {E : Value → Shared → Prop} {s : Shared} {t : Sem α} {Q : α → Shared → Prop} (h : ∀ Q' : α → Shared → Prop, (∀ v s', Q v s' → Q' v s') → wpAny M A t Q' E s) : wpAny M A t Q E s := h Q fun _ _ x => x
theorem no10 {told : List Nat} (hc : ∀ c ∈ told, calm c) : 10 ∉ (chs told).cps.toList := fun h => (hc 10 (by simpa [chs_cps] using h) |>.1) rfl
set_option maxRecDepth 100000 in
set_option maxHeartbeats 0 in
theorem fl_code {w : World} {loose : List PySem.Str} {mean : ExcName → Option Value} {mg mb : PySem.Str → Option Value} {dp un : Nat} {gd : Option (List Code)} {pv : Program} {env : Env} {outer : List Env} {A₀ : Around} {base h₀ : Heap} {L : Addr} {m : PySem.Str → Option Value} {s : Shared} {Q E : Value → Shared → Prop}
    {news : List (Addr × Obj)} {near told : List Nat} {t : Tok}
    (B : Below A₀ base outer h₀) (F : Fr h₀ L s.heap m) (X : (Lay.hd.heap_1_39 w.params).In h₀) (N : News h₀ L s.heap ((428, tab #[]) :: news)) (T : Top pv loose mean mg mb h₀) (hef : env.frame = some L) (hk : env.scope.kind = .function)
    (hdp : dp + 300 < recursionLimit) (hu : un + 300 < cLine)
    (H : Folded near told) (hz : near.length ≤ 1024) (hz2 : told.length ≤ 1024) (hc : ∀ c ∈ told, calm c) (hne : told ≠ []) (hn4 : ∀ p ∈ news, p.1 ≠ 428) (hgens : AllBare s.gens)
    (ret : ∀ S d a1 d1 t1 a2 d2 t2 t3 c ps' h' tk gens', Fr h₀ L h' m → News h₀ L h' ((S, linesObj d #[.ref a1, .ref a2, .str (PySem.Str.ofString "") t3] c) :: (d, { cls := .type "dict", data := .dict #[] }) :: (a1, lineObj (chs told) d1 t1) :: (a2, lineObj (chs enda) d2 t2) :: (428, tab ps') :: news) → AllBare gens' → d < S → S ≠ a1 → S ≠ a2 → (∀ p ∈ (428, tab ps') :: news, p.1 ≠ S) → Q (.ref S) { s with heap := h', toks := tk, gens := gens' }) :
    codeAny (model PySem.Challenge.rw_bf0005_01.row.prog w) { handled := none, depth := dp, frames := some (env :: outer), guards := gd, units := un } (.call (.ref 433) ⟨[.ref 439, .str (chs (near ++ END)) t], []⟩) (fun r s' => match r with | .ok (.ret v) => Q v s' | .ok _ => False | .error e => E e s') s := by
  (refine' code_def ?k1 ?k2 ?k3 ?k4 ?k5 ?kA ?kF ?kK ?k6 ?k7 ?k8 ?k9 ?kB ?_ ?c2 ?c3 ?c4 ?c5; (case kA => exact rfl); (case kF => first | exact rfl | assumption); (case kK => first | assumption | exact rfl); (case k1 => k_asm); (case k2 => k_asm); (case k3 => k_asm); (case k4 => k_asm); (case k5 => k_asm); (case k6 => k_is); (case k7 => k_is); (case k8 => ktr_room); (case k9 => first | exact BindsTo.of_eq rfl | exact binds_K (by k_in) rfl (by k_is) rfl rfl rfl | (refine' binds_hyp ?be ?bh; (case bh => assumption); (case be => k_is))); (case c5 => decide); (case kB => exact locs rfl); (case c2 => exact rfl); (case c3 => exact rfl); (case c4 => exact rfl); k_whole; intro _ _ _ _ _ _ _ _ _; (try dsimp only); (try k_fold))
  k_steps
  refine gen_q fun QQ hQQ => ?_
  refine' wpAny_GeneratorExp_make ?hco ?hclos ?hcell ?h0 ?hkind ?hroom ?_ ?hs
  case hco => with_unfolding_all rfl
  case hclos => with_unfolding_all rfl
  case hcell => decide
  case h0 => with_unfolding_all rfl
  case hkind => with_unfolding_all rfl
  case hroom => ktr_room
  case hs => intro _; with_unfolding_all rfl
  k_steps
  rename Fr _ _ _ _ => F9
  rename News _ _ _ _ => N9
  refine' fl_make (pv := pv) ?B F9 ?X ?T N9 ?hef ?hek ?hcode ?hgl ?hgens ?hk2 ?hco2 ?hx2 ?hX2 ?hn4 ?hno ?hx8 ?hne ?_
  case B => assumption
  case X => assumption
  case T => assumption
  case hef => exact rfl
  case hek => exact rfl
  case hcode => exact rfl
  case hgl => exact rfl
  case hgens => assumption
  case hk2 => exact rfl
  case hco2 => exact rfl
  case hx2 => decide
  case hX2 => decide
  case hn4 => assumption
  case hno => exact no10 hc
  case hx8 => rw [chs_len]; omega
  case hne => assumption
  clear B X T F9 N9
  intro a g C I hg h5 tk ps' gens' F5 N5 G5 ig5 lim5 hI hIC hCa hlt hLI hgf held
  refine hQQ _ _ ?_
  clear hQQ
  try dsimp only
  k_steps
  refine' fl_lines (told := told) ?X F5 N5 ?hA ?hfr ?hdp ?hu ig5 G5 hIC hCa hlt hLI ?h0I ?hcI hgf held ?_
  case X => assumption
  case hA => exact rfl
  case hfr => exact rfl
  case hdp => ktr_room
  case hu => ktr_units
  case h0I => exact Nat.le_trans F5.above (Nat.le_of_lt hLI)
  case hcI => exact Nat.lt_trans (show cStatics < 428 by decide) (hlt _ (.head _))
  intro S d a1 d1 tt1 a2 d2 tt2 c hE tk2 gens2 F6 N6 G6 hdS hS1 hS2 hnS hlS
  clear F5 N5 G5 held
  k_steps
  rename Fr _ _ _ _ => F7
  rename News _ _ _ _ => N7
  show LeaveK _ _ _ _ _ _ _
  refine leaveK_ F7 N7 fun F8 N8 => ?_
  exact ret _ _ _ _ _ _ _ _ _ _ _ _ _ _ F8 N8 G6 hdS hS1 hS2 hnS
end Mine
end TextN4

section TextL4
open PySem PySem.W PySem.Calls PyProof.Rows PySem.Spec
namespace Mine
section
variable {prog : Program} {w : World} {A : Around} {E : Value → Shared → Prop} {s : Shared} {env : Env} {h₀ : Heap} {x : PySem.Str} {body : List Stmt} {Q : Flow → Shared → Prop}
theorem rangeSize_up {n : Int} (h : 0 ≤ n) : Builtin.Range.rangeSize 0 n 1 = n := by
  unfold Builtin.Range.rangeSize
  rw [if_pos (by decide)]
  split <;> omega
theorem small_up {n : Int} (h : 0 ≤ n) (h2 : n ≤ 1000) : Builtin.Range.small 0 n 1 = true := by
  unfold Builtin.Range.small
  rw [rangeSize_up h]
  simp only [Builtin.Range.rangeFitsLong, Bool.and_eq_true, Bool.or_eq_true, decide_eq_true_eq]
  refine ⟨⟨⟨⟨?_, ?_⟩, ?_⟩, ?_⟩, Or.inr ?_⟩ <;> first | (rw [if_pos (by decide)]; simp; omega) | omega | (simp; omega) | decide
/-- A loop over range(n). -/
theorem range_loop {r : Addr} {n : Int} {t u v : Tok} {m₀ : PySem.Str → Option Value} {news₀ : List (Addr × Obj)} (J : Nat → (PySem.Str → Option Value) → List (Addr × Obj) → Prop)
    (hh : A.handled = none) (hr : IsRange s.heap r 0 n 1 t u v) (h0 : 0 ≤ n) (h1 : n ≤ 1000) (F : Fr h₀ env.locals s.heap m₀) (N : News h₀ env.locals s.heap news₀) (hj : J 0 m₀ news₀)
    (turn : ∀ (i : Nat) t m₁ news₁ h tk I io, (i : Int) < n → J i m₁ news₁ → (∀ p ∈ news₁, p.1 ≠ I) → Fr h₀ env.locals h (fun y => if y = x then some (.int i t) else m₁ y) → News h₀ env.locals h ((I, io) :: news₁) →
      wpAny (model prog w) A (execs body env) (TurnEnd h₀ env.locals I io (J (i + 1)) s Q) E { s with heap := h, toks := tk })
    (done : ∀ m₁ news₁ h tk, J n.toNat m₁ news₁ → Fr h₀ env.locals h m₁ → News h₀ env.locals h news₁ → Q .next { s with heap := h, toks := tk }) :
    wpAny (model prog w) A (pyIter (.ref r)) (fun it s₂ => LoopAtV prog w A h₀ env x body Q E it s₂) E s := by
  refine wpAny_pyIter_range hr (small_up h0 h1) ?_
  rw [rangeSize_up h0]
  have e0 : ((n.toNat : Nat) : Int) = n := Int.toNat_of_nonneg h0
  refine walk_loop (s := { s with heap := s.heap.push { cls := .type "range_iterator", data := .fields #[rawInt 0, rawInt n, rawInt 1] } }) J (Walks.range hh _ 0 1 n.toNat) ?_ (F.push _) (fun p hp => ⟨Heap.get?_push_of_some _ (N p hp).1, (N p hp).2⟩) (fun e => absurd F.ns.lt (e ▸ Nat.lt_irrefl _)) (next_is_new F) (off_size N) (fun i h st => ⟨_, st⟩) hj ?_ ?_
  · have e1 : ((0 : Int) + ((0 : Nat) : Int) * 1) = 0 := by decide
    have e2 : ((n.toNat : Nat) : Int) - ((0 : Nat) : Int) = n := by omega
    rw [e1, e2]
    exact Heap.get?_push_size _ rfl
  · rintro i v m₁ news₁ h tk io hi ⟨t, rfl⟩ hJ hne F₁ N₁
    have e3 : (0 + (i : Int) * 1) = (i : Int) := by omega
    rw [e3] at F₁
    exact wpAny_mono (turn i t m₁ news₁ h tk _ io (by omega) hJ hne F₁ N₁) (fun f s₂ q => by cases f <;> exact q) fun _ _ e => e
  · exact fun m₁ news₁ h tk hJ F₁ N₁ => done m₁ news₁ h tk hJ F₁ N₁
end
end Mine
end TextL4

section TextL5
open PySem PySem.W PySem.Calls PyProof.Rows PySem.Spec
namespace Mine
theorem sg_is : [("a" : String), "\x7f", "\u0080", "\u07ff", "\u0800", "\uffee", "𐀀", "\\", "^", "%", ",", ";", "\"", "=", "'", "n"].map PySem.Str.ofString = [97, 127, 128, 2047, 2048, 65518, 65536, 92, 94, 37, 44, 59, 34, 61, 39, 110].map (fun c => chs [c]) := by decide +kernel
section
variable {prog : Program} {w : World} {A : Around} {E : Value → Shared → Prop} {s : Shared} {h₀ : Heap} {L l : Addr} {m : PySem.Str → Option Value} {news : List (Addr × Obj)} {vs : List Value} {e : Nat} {i : Int} {u : Tok} {Q : Value → Shared → Prop} {value slice : PySem.Expr}
theorem item_strs {ws : List PySem.Str} (N : News h₀ L s.heap news) (hm : (l, listOf vs.toArray e) ∈ news) (hw : StrsAre vs ws) (h0 : 0 ≤ i) (h1 : i < (ws.length : Int)) (hfit : i < 2 ^ 63) (h : ∀ x t', x ∈ ws → Q (.str x t') s)
    (hs : subscripted slice false (.ref l) (.int i u) = operate [.ref l, .int i u] (getItem (.ref l) (.int i u)) := by with_unfolding_all rfl) :
    wpAny (model prog w) A (subscriptTail value slice (.ref l) (.int i u)) Q E s := by
  have hl : s.heap.IsList l vs.toArray := ⟨_, (N _ hm).1, rfl, e, rfl⟩
  exact KTb.item_list hl hw h0 h1 hfit (fun t' hlt => h _ t' (by rw [List.getD_eq_getElem?_getD, List.getElem?_eq_getElem hlt]; exact List.getElem_mem hlt)) hs
theorem item_ints {ks : List Int} (N : News h₀ L s.heap news) (hm : (l, listOf vs.toArray e) ∈ news) (hw : IntsAre vs ks) (h0 : 0 ≤ i) (h1 : i < (ks.length : Int)) (hfit : i < 2 ^ 63) (h : ∀ x t', x ∈ ks → Q (.int x t') s)
    (hs : subscripted slice false (.ref l) (.int i u) = operate [.ref l, .int i u] (getItem (.ref l) (.int i u)) := by with_unfolding_all rfl) :
    wpAny (model prog w) A (subscriptTail value slice (.ref l) (.int i u)) Q E s := by
  have hl : s.heap.IsList l vs.toArray := ⟨_, (N _ hm).1, rfl, e, rfl⟩
  have get : ∀ {vs : List Value} {ks : List Int}, IntsAre vs ks → ∀ j, j < ks.length → ∃ x t, vs[j]? = some (.int x t) ∧ x ∈ ks := by
    intro vs ks hw
    induction hw with
    | nil => intro j hj; exact absurd hj (Nat.not_lt_zero _)
    | cons n t _ ih =>
      intro j hj
      cases j with
      | zero => exact ⟨n, t, rfl, .head _⟩
      | succ j =>
        obtain ⟨x, t', e, hx⟩ := ih j (Nat.lt_of_succ_lt_succ hj)
        exact ⟨x, t', e, .tail _ hx⟩
  obtain ⟨x, t', e1, hx⟩ := get hw i.toNat (by omega)
  exact tail_any hl.typeIs slot_list_getitem.lookup (wpAny_getItem_list hl h0 hfit (x := .int x t') (by simpa using e1) (h x t' hx)) hs
theorem add_chs {a b : List Nat} {t u : Tok} (hs : a.length + b.length ≤ 8192) (h : ∀ t' k, Q (.str (chs (a ++ b)) t') { s with toks := k }) : wpAny (model prog w) A (binaryOp .Add (.str (chs a) t) (.str (chs b) u)) Q E s := by
  refine add_str (fun t' k => ?_) (by rw [chs_len, chs_len, sizeLine_eq]; omega)
  rw [chs_app]
  exact h t' k
theorem foldl_reps (c : Nat) : ∀ (k : Nat) (acc : Array Nat), (List.replicate k (#[c] : Array Nat)).foldl (· ++ ·) acc = acc ++ (List.replicate k c).toArray
  | 0, acc => by simp
  | k + 1, acc => by
    rw [List.replicate_succ, List.foldl_cons, foldl_reps c k, List.replicate_succ]
    apply Array.ext'
    simp
theorem mul_chs (c : Nat) {n : Int} (h : 1 ≤ n) : Txt.mul (chs [c]) n = chs (List.replicate n.toNat c) := by
  unfold Txt.mul
  rw [if_neg (by omega)]
  split
  · rename_i q
    simp only [chs_len, List.length_singleton, Bool.or_eq_true, beq_iff_eq] at q
    have : n = 1 := by omega
    rw [this]; rfl
  · show PySem.Str.mk _ = _
    have : (chs [c]).cps = #[c] := rfl
    rw [this, foldl_reps]
    simp [chs]
theorem mul_sign {c : Nat} {n : Int} {t u : Tok} (h1 : 1 ≤ n) (h2 : n ≤ 1000) (h : ∀ t' k, Q (.str (chs (List.replicate n.toNat c)) t') { s with toks := k }) : wpAny (model prog w) A (binaryOp .Mult (.str (chs [c]) t) (.int n u)) Q E s := by
  refine SB.mul ⟨by simp; omega, fun _ _ => ?_, fun _ _ => ?_⟩ (fun t' k => ?_)
  · have e : (chs [c]).length = 1 := rfl
    rw [e]
    have : (1 : Int) ≤ (2 ^ 63 - 1 : Int) / n := Int.le_ediv_of_mul_le (by omega) (by omega)
    omega
  · have e : (chs [c]).length = 1 := rfl
    rw [e]
    unfold Builtin.Str.tooLong
    simp only [decide_eq_false_iff_not]
    rw [sizeLine_eq]
    omega
  · rw [mul_chs c h1]
    exact h t' k
end
end Mine
end TextL5

section TextL6
open PySem PySem.W PySem.Calls PyProof.Rows PySem.Spec
namespace Mine
theorem X_is : PySem.Str.ofString "X" = chs [88] := by decide +kernel
theorem unit_is : [("\n" : String), "\r\n"].map PySem.Str.ofString = [[10], [13, 10]].map chs := by decide +kernel
theorem blank_is : [(" " : String), "\t"].map PySem.Str.ofString = [[32], [9]].map chs := by decide +kernel
theorem btw_is : [("\r\n " : String), "\n\t", "|"].map PySem.Str.ofString = [[13, 10, 32], [10, 9], [124]].map chs := by decide +kernel
theorem Sg.calm {c : Nat} (h : Sg c) : calm c := by
  unfold Sg at h
  simp only [List.mem_cons, List.not_mem_nil, or_false] at h
  unfold Mine.calm
  omega
section
variable {prog : Program} {w : World} {A : Around} {E : Value → Shared → Prop} {s : Shared} {h₀ : Heap} {L l : Addr} {m : PySem.Str → Option Value} {news : List (Addr × Obj)} {vs : List Value} {e : Nat} {i : Int} {u : Tok} {Q : Value → Shared → Prop} {value slice : PySem.Expr}
theorem item_sign (N : News h₀ L s.heap news) (hm : (l, listOf vs.toArray e) ∈ news) (hw : StrsAre vs [PySem.Str.ofString "a", PySem.Str.ofString "\x7f", PySem.Str.ofString "\u0080", PySem.Str.ofString "\u07ff", PySem.Str.ofString "\u0800", PySem.Str.ofString "\uffee", PySem.Str.ofString "𐀀", PySem.Str.ofString "\\", PySem.Str.ofString "^", PySem.Str.ofString "%", PySem.Str.ofString ",", PySem.Str.ofString ";", PySem.Str.ofString "\"", PySem.Str.ofString "=", PySem.Str.ofString "'", PySem.Str.ofString "n"])
    (h0 : 0 ≤ i) (h1 : i < 16) (h : ∀ c t', Sg c → Q (.str (chs [c]) t') s)
    (hs : subscripted slice false (.ref l) (.int i u) = operate [.ref l, .int i u] (getItem (.ref l) (.int i u)) := by with_unfolding_all rfl) :
    wpAny (model prog w) A (subscriptTail value slice (.ref l) (.int i u)) Q E s := by
  refine item_strs N hm hw h0 h1 (by omega) (fun x t' hx => ?_) hs
  have hx' : x ∈ [("a" : String), "\x7f", "\u0080", "\u07ff", "\u0800", "\uffee", "𐀀", "\\", "^", "%", ",", ";", "\"", "=", "'", "n"].map PySem.Str.ofString := hx
  rw [sg_is] at hx'
  obtain ⟨c, hc, rfl⟩ := List.mem_map.mp hx'
  exact h c t' (by unfold Sg; exact .tail _ hc)
theorem item_unit (N : News h₀ L s.heap news) (hm : (l, listOf vs.toArray e) ∈ news) (hw : StrsAre vs [PySem.Str.ofString "\n", PySem.Str.ofString "\r\n"])
    (h0 : 0 ≤ i) (h1 : i < 2) (h : ∀ c t', isUnit c → c.length ≤ 2 → Q (.str (chs c) t') s)
    (hs : subscripted slice false (.ref l) (.int i u) = operate [.ref l, .int i u] (getItem (.ref l) (.int i u)) := by with_unfolding_all rfl) :
    wpAny (model prog w) A (subscriptTail value slice (.ref l) (.int i u)) Q E s := by
  refine item_strs N hm hw h0 h1 (by omega) (fun x t' hx => ?_) hs
  have hx' : x ∈ [("\n" : String), "\r\n"].map PySem.Str.ofString := hx
  rw [unit_is] at hx'
  obtain ⟨c, hc, rfl⟩ := List.mem_map.mp hx'
  refine h c t' ?_ ?_
  · rcases List.mem_cons.mp hc with rfl | hc
    · exact .inl rfl
    · rw [List.mem_singleton.mp hc]; exact .inr rfl
  · rcases List.mem_cons.mp hc with rfl | hc
    · decide
    · rw [List.mem_singleton.mp hc]; decide
theorem item_blank (N : News h₀ L s.heap news) (hm : (l, listOf vs.toArray e) ∈ news) (hw : StrsAre vs [PySem.Str.ofString " ", PySem.Str.ofString "\t"])
    (h0 : 0 ≤ i) (h1 : i < 2) (h : ∀ c t', (c = 32 ∨ c = 9) → Q (.str (chs [c]) t') s)
    (hs : subscripted slice false (.ref l) (.int i u) = operate [.ref l, .int i u] (getItem (.ref l) (.int i u)) := by with_unfolding_all rfl) :
    wpAny (model prog w) A (subscriptTail value slice (.ref l) (.int i u)) Q E s := by
  refine item_strs N hm hw h0 h1 (by omega) (fun x t' hx => ?_) hs
  have hx' : x ∈ [(" " : String), "\t"].map PySem.Str.ofString := hx
  rw [blank_is] at hx'
  obtain ⟨c, hc, rfl⟩ := List.mem_map.mp hx'
  rcases List.mem_cons.mp hc with rfl | hc
  · exact h 32 t' (.inl rfl)
  · rw [List.mem_singleton.mp hc]; exact h 9 t' (.inr rfl)
theorem item_btw (N : News h₀ L s.heap news) (hm : (l, listOf vs.toArray e) ∈ news) (hw : StrsAre vs [PySem.Str.ofString "\r\n ", PySem.Str.ofString "\n\t", PySem.Str.ofString "|"])
    (h0 : 0 ≤ i) (h1 : i < 3) (h : ∀ y t', y.length ≤ 100 → Q (.str y t') s)
    (hs : subscripted slice false (.ref l) (.int i u) = operate [.ref l, .int i u] (getItem (.ref l) (.int i u)) := by with_unfolding_all rfl) :
    wpAny (model prog w) A (subscriptTail value slice (.ref l) (.int i u)) Q E s := by
  refine item_strs N hm hw h0 h1 (by omega) (fun x t' hx => ?_) hs
  have hx' : x ∈ [("\r\n " : String), "\n\t", "|"].map PySem.Str.ofString := hx
  rw [btw_is] at hx'
  obtain ⟨c, hc, rfl⟩ := List.mem_map.mp hx'
  refine h _ t' ?_
  rw [chs_len]
  have : ∀ c ∈ [[13, 10, 32], [10, 9], [124]], (c : List Nat).length ≤ 100 := by decide
  exact this c hc
theorem item_lim {ks : List Int} (N : News h₀ L s.heap news) (hm : (l, listOf vs.toArray e) ∈ news) (hw : IntsAre vs ks) (hk : ks.length = 7)
    (h0 : 0 ≤ i) (h1 : i < 7) (h : ∀ y t', Q (.int y t') s)
    (hs : subscripted slice false (.ref l) (.int i u) = operate [.ref l, .int i u] (getItem (.ref l) (.int i u)) := by with_unfolding_all rfl) :
    wpAny (model prog w) A (subscriptTail value slice (.ref l) (.int i u)) Q E s :=
  item_ints N hm hw h0 (by rw [hk]; exact h1) (by omega) (fun x t' _ => h x t') hs
end
theorem slice_to_all (l : List Nat) {j : Int} (h0 : 0 ≤ j) : Txt.slice (chs l) none (some j) = chs (l.take j.toNat) := by
  by_cases h : j ≤ l.length
  · rw [slice_to_chs (hi := j) j h0 h (.inl (by rw [if_neg (by omega)]))]
  · rw [slice_to_chs (hi := j) (l.length : Int) (by omega) (by omega) (.inr (.inl ⟨rfl, by rw [if_neg (by omega)]; omega⟩))]
    congr 1
    rw [List.take_of_length_le (by omega), List.take_of_length_le (by omega)]
section
variable {prog : Program} {w : World} {A : Around} {E : Value → Shared → Prop} {s : Shared} {h₀ : Heap} {L : Addr} {m : PySem.Str → Option Value} {news : List (Addr × Obj)} {a : List Nat} {t : Tok} {Q : Value → Shared → Prop} {value slice : PySem.Expr}
theorem cut_to {j : Int} {uj : Tok} (hF : Fr h₀ L s.heap m) (hN : News h₀ L s.heap news) (h0 : 0 ≤ j) (hz : a.length ≤ 8192) (h : ∀ h' t' k, Fr h₀ L h' m → News h₀ L h' news → Q (.str (chs (a.take j.toNat)) t') { s with heap := h', toks := k })
    (hs : subscripted slice false (.str (chs a) t) (.ref s.heap.objs.size) = operate [.ref s.heap.objs.size, .str (chs a) t] (getItem (.str (chs a) t) (.ref s.heap.objs.size)) := by with_unfolding_all rfl)
    (ht : ∀ r, letTemporaryGo value (.str (chs a) t) r = pure () := by intro _; with_unfolding_all rfl) :
    wpAny (model prog w) A (subscriptTail value slice (.str (chs a) t) (.ref s.heap.objs.size)) Q E { s with heap := s.heap.push { cls := .type "slice", data := .fields #[.none, .int j uj, .none] } } :=
  slice_strN_ns hF hN (fun h' t' k a b => by rw [slice_to_all _ h0]; exact h h' t' k a b) hs ht (by rw [chs_len, sizeLine_eq]; omega)
theorem cut_from {j : Int} {uj : Tok} (hF : Fr h₀ L s.heap m) (hN : News h₀ L s.heap news) (h0 : 0 ≤ j) (h1 : j ≤ a.length) (hz : a.length ≤ 8192) (h : ∀ h' t' k, Fr h₀ L h' m → News h₀ L h' news → Q (.str (chs (a.drop j.toNat)) t') { s with heap := h', toks := k })
    (hs : subscripted slice false (.str (chs a) t) (.ref s.heap.objs.size) = operate [.ref s.heap.objs.size, .str (chs a) t] (getItem (.str (chs a) t) (.ref s.heap.objs.size)) := by with_unfolding_all rfl)
    (ht : ∀ r, letTemporaryGo value (.str (chs a) t) r = pure () := by intro _; with_unfolding_all rfl) :
    wpAny (model prog w) A (subscriptTail value slice (.str (chs a) t) (.ref s.heap.objs.size)) Q E { s with heap := s.heap.push { cls := .type "slice", data := .fields #[.int j uj, .none, .none] } } :=
  slice_strN_sn hF hN (fun h' t' k a b => by rw [slice_from_chs h0 h1]; exact h h' t' k a b) hs ht (by rw [chs_len, sizeLine_eq]; omega)
theorem cut_told {x : List Nat} {uj : Tok} (hF : Fr h₀ L s.heap m) (hN : News h₀ L s.heap news) (hx : ∀ c ∈ x, Sg c) (hz : x.length ≤ 4096) (h : ∀ y h' t' k, (∀ c ∈ y, Sg c) → y ≠ [] → y.length ≤ 110 → Fr h₀ L h' m → News h₀ L h' news → Q (.str (chs y) t') { s with heap := h', toks := k })
    (hs : subscripted slice false (.str (chs (88 :: x)) t) (.ref s.heap.objs.size) = operate [.ref s.heap.objs.size, .str (chs (88 :: x)) t] (getItem (.str (chs (88 :: x)) t) (.ref s.heap.objs.size)) := by with_unfolding_all rfl)
    (ht : ∀ r, letTemporaryGo value (.str (chs (88 :: x)) t) r = pure () := by intro _; with_unfolding_all rfl) :
    wpAny (model prog w) A (subscriptTail value slice (.str (chs (88 :: x)) t) (.ref s.heap.objs.size)) Q E { s with heap := s.heap.push { cls := .type "slice", data := .fields #[.none, .int 110 uj, .none] } } :=
  cut_to hF hN (by decide) (by simp; omega) (fun h' t' k a b => h _ h' t' k (fun c hc => by
    rcases List.mem_cons.mp (List.mem_of_mem_take hc) with rfl | hc
    · unfold Sg; exact .head _
    · exact hx c hc) (by simp) (by rw [List.length_take]; exact Nat.min_le_left _ _) a b) hs ht
end
theorem join_pieces {prog : Program} {w : World} {A : Around} {E : Value → Shared → Prop} {s : Shared} {h₀ : Heap} {L l : Addr} {news : List (Addr × Obj)} {e : Nat} {Q : Value → Shared → Prop} {sep : PySem.Str} {t tz : Tok} {us : List Value} {lim : Int} {y : List Nat}
    (N : News h₀ L s.heap news) (hm : (l, listOf (us ++ [Value.str (chs (runP lim (chs y).cps.toList).2.1) tz]).toArray e) ∈ news) (hU : Txts us (runP lim (chs y).cps.toList).1) (hy : y.length ≤ 110) (h3 : sep.length ≤ 100)
    (h : ∀ t' k, Q (.str (Txt.join sep (((runP lim (chs y).cps.toList).1 ++ [(runP lim (chs y).cps.toList).2.1]).map chs)) t') { s with toks := k }) : wpAny (model prog w) A (call (.builtin "str.join") [.str sep t, .ref l]) Q E s := by
  have e : (chs y).cps.toList = y := rfl
  have hb := runP_len lim y
  refine join_texts N hm hU.snoc ?_ ?_ h3 h
  · rw [List.flatten_append, List.flatten_singleton, e, runP_flat]; omega
  · rw [List.length_append, e]
    have : [(runP lim y).2.1].length = 1 := rfl
    omega
theorem end_is : PySem.Str.ofString "\r\nEND:A\n" = chs END := by decide +kernel
section
variable {prog : Program} {w : World} {A : Around} {E : Value → Shared → Prop} {s : Shared} {Q : Value → Shared → Prop}
theorem add_eq {a b : List Nat} {yy : PySem.Str} {t u : Tok} (e : yy = chs b) (hs : a.length + b.length ≤ 8192) (h : ∀ t' k, Q (.str (chs (a ++ b)) t') { s with toks := k }) : wpAny (model prog w) A (binaryOp .Add (.str (chs a) t) (.str yy u)) Q E s := by
  rw [e]; exact add_chs hs h
theorem ne_same {x : PySem.Str} {t u : Tok} (h : Q (.bool false) s) : wpAny (model prog w) A (compareOp .NotEq (.str x t) (.str x u)) Q E s :=
  ne_str (by rw [bne_self_eq_false]; exact h)
theorem eq_same {x : PySem.Str} {t u : Tok} (h : Q (.bool true) s) : wpAny (model prog w) A (compareOp .Eq (.str x t) (.str x u)) Q E s :=
  eq_str (by rw [beq_self_eq_true]; exact h)
end
theorem has_nl (y : List Nat) : (PySem.Builtin.Str.occurrences (chs (y ++ [10])) (PySem.Str.ofString "\n") 0 (chs (y ++ [10])).length 1).isEmpty = false := by
  cases q : (PySem.Builtin.Str.occurrences (chs (y ++ [10])) (PySem.Str.ofString "\n") 0 (chs (y ++ [10])).length 1).isEmpty with
  | false => rfl
  | true => exact absurd (show 10 ∈ y ++ [10] from List.mem_append_right _ (.head _)) (no_nl.mp q)
/-- the told text's loop -/
noncomputable def JT (l bg sg : Addr) (sgo : Obj) (i : Nat) (m : PySem.Str → Option Value) (nx : List (Addr × Obj)) : Prop :=
  ∃ x t b tb, Has m [("script", .ref l), ("bag", .ref bg), ("signs", .ref sg), ("told", .str (chs (88 :: x)) t)] ∧ (∀ c ∈ x, Sg c) ∧ 0 ≤ b ∧ x.length ≤ 22 * i ∧ nx = [(sg, sgo), (bg, listOf #[.int b tb] 0), (428, tabObj #[])]
end Mine
end TextL6

section TextKS
open PySem PySem.W PySem.Calls PyProof.Rows PySem.Spec
namespace Mine
/-- a tuple of a place and a text -/
noncomputable def TupAt (h : Heap) (v : Value) (f : Int × List Nat) : Prop := ∃ a t u, v = .ref a ∧ h.get? a = some (seqObj "tuple" #[.int f.1 t, .str (chs f.2) u] 0)
noncomputable def FoldsAt (h : Heap) (vs : List Value) (fs : List (Int × List Nat)) : Prop := vs.length = fs.length ∧ ∀ i, i < fs.length → TupAt h (vs.getD i .none) (fs.getD i (0, []))
theorem TupAt.at {h h' : Heap} {v : Value} {f : Int × List Nat} (x : TupAt h v f) (k : ∀ a o, v = .ref a → h.get? a = some o → h'.get? a = some o) : TupAt h' v f :=
  let ⟨a, t, u, e, r⟩ := x; ⟨a, t, u, e, k a _ e r⟩
noncomputable def reach (cs : List (Nat × Nat)) (a b : Nat) : Bool := cs.any (fun q => q.1 == a && (q.2 == b || cs.any fun r => r.1 == q.2 && r.2 == b))
noncomputable def pairsOk (cs : List (Nat × Nat)) : List Nat → Bool
  | [] => true
  | a :: r => r.all (reach cs a) && pairsOk cs r
noncomputable def chkT (n : Nat) : KasT (Array Nat) → List (Nat × Nat) → Bool
  | .ret p, cs => p.toList.isPerm (List.range n) && pairsOk cs p.toList
  | .ask i j k, cs => decide (i < n) && decide (j < n) && chkT n (k true) ((i, j) :: cs) && chkT n (k false) ((j, i) :: cs)
theorem chk2 : chkT 2 (kas_sort 2) [] = true := by decide +kernel
theorem chk3 : chkT 3 (kas_sort 3) [] = true := by decide +kernel
theorem reach_le {pl : Nat → Int} {cs : List (Nat × Nat)} (h : ∀ q ∈ cs, pl q.1 ≤ pl q.2) {a b : Nat} (e : reach cs a b = true) : pl a ≤ pl b := by
  obtain ⟨q, hq, e⟩ := List.any_eq_true.mp e
  simp only [Bool.and_eq_true, Bool.or_eq_true, beq_iff_eq] at e
  have h1 := h q hq
  rw [e.1] at h1
  rcases e.2 with e2 | e2
  · rw [e2] at h1; exact h1
  · obtain ⟨r, hr, e3⟩ := List.any_eq_true.mp e2
    simp only [Bool.and_eq_true, beq_iff_eq] at e3
    have h2 := h r hr
    rw [e3.1, e3.2] at h2
    omega
theorem pairsOk_le {pl : Nat → Int} {cs : List (Nat × Nat)} (h : ∀ q ∈ cs, pl q.1 ≤ pl q.2) : ∀ {p : List Nat}, pairsOk cs p = true → p.Pairwise fun a b => pl a ≤ pl b
  | [], _ => .nil
  | a :: r, e => by
    simp only [pairsOk, Bool.and_eq_true, List.all_eq_true] at e
    exact .cons (fun b hb => reach_le h (e.1 b hb)) (pairsOk_le h e.2)
theorem chk_sound {n : Nat} {pl : Nat → Int} {cmp : Nat → Nat → (Bool → Shared → Prop) → Shared → Prop} {G : Array Nat → Shared → Prop} {s : Shared}
    (hcmp : ∀ i j C, i < n → j < n → (∀ c, (c = true → pl i ≤ pl j) → (c = false → pl j ≤ pl i) → C c s) → cmp i j C s)
    (hG : ∀ p : Array Nat, p.toList.Perm (List.range n) → (p.toList.Pairwise fun a b => pl a ≤ pl b) → G p s) :
    ∀ (t : KasT (Array Nat)) (cs : List (Nat × Nat)), chkT n t cs = true → (∀ q ∈ cs, pl q.1 ≤ pl q.2) → t.kasWp cmp G s
  | .ret p, cs, e, h => by
    simp only [chkT, Bool.and_eq_true] at e
    exact hG p (List.isPerm_iff.mp e.1) (pairsOk_le h e.2)
  | .ask i j k, cs, e, h => by
    simp only [chkT, Bool.and_eq_true, decide_eq_true_eq] at e
    obtain ⟨⟨⟨hi, hj⟩, e1⟩, e2⟩ := e
    refine hcmp i j _ hi hj fun c h1 h2 => ?_
    cases c with
    | true => exact chk_sound hcmp hG (k true) _ e1 (List.forall_mem_cons.mpr ⟨h1 rfl, h⟩)
    | false => exact chk_sound hcmp hG (k false) _ e2 (List.forall_mem_cons.mpr ⟨h2 rfl, h⟩)
section
variable {prog : Program} {w : World} {A : Around} {E : Value → Shared → Prop} {s : Shared}
theorem cmp_tups {v1 v2 : Value} {f1 f2 : Int × List Nat} {C : Bool → Shared → Prop} (h1 : TupAt s.heap v1 f1) (h2 : TupAt s.heap v2 f2) (h : ∀ c, (c = true → f1.1 ≤ f2.1) → (c = false → f2.1 ≤ f1.1) → C c s) :
    wpAny (model prog w) A (keyLt' (tuples' true) v1 v2) C (fun _ _ => False) s := by
  obtain ⟨a, t, u, rfl, ha⟩ := h1
  obtain ⟨b, t', u', rfl, hb⟩ := h2
  refine kat_lt ha rfl hb rfl (kat_cons (wpAny_eqBool_int (kat_go (fun e1 => kat_yes (kat_cons (wpAny_eqBool_str (kat_go (fun e2 => kat_yes (kat_nil ?_)) fun e2 => kat_no (kat_one _ _ (lt_str ?_)))))) fun e1 => kat_no (oneLt_int ?_))))
  · rw [beq_iff_eq] at e1
    exact h _ (fun _ => by omega) (fun _ => by omega)
  · rw [beq_iff_eq] at e1
    exact h _ (fun _ => by omega) (fun _ => by omega)
  · exact h _ (fun q => by rw [decide_eq_true_eq] at q; omega) (fun q => by rw [decide_eq_false_iff_not] at q; omega)
theorem kat_tups_of {h : Heap} : ∀ {vs : List Value} {fs : List (Int × List Nat)}, FoldsAt h vs fs → ∃ ks, KatTups h vs ks ∧ ks.length = vs.length ∧ ∀ v ∈ ks, ∃ i t, v = Value.int i t
  | [], [], _ => ⟨[], trivial, rfl, fun _ hv => nomatch hv⟩
  | [], f :: fs, x => nomatch x.1
  | v :: vs, [], x => nomatch x.1
  | v :: vs, f :: fs, x => by
    obtain ⟨ks, h1, h2, h3⟩ := kat_tups_of (vs := vs) (fs := fs) ⟨Nat.succ.inj x.1, fun i hi => by simpa using x.2 (i + 1) (Nat.succ_lt_succ hi)⟩
    obtain ⟨a, t, u, e, ha⟩ := x.2 0 (Nat.succ_pos _)
    have e' : v = .ref a := by simpa using e
    refine ⟨.int f.1 t :: ks, ?_, congrArg (· + 1) h2, fun y hy => ?_⟩
    · rw [e']
      exact KatTups.cons (by simpa using ha) rfl rfl (by simp) h1
    · rcases List.mem_cons.mp hy with rfl | hy
      · exact ⟨_, _, rfl⟩
      · exact h3 y hy
theorem FoldsAt.at {h h' : Heap} {vs : List Value} {fs : List (Int × List Nat)} (x : FoldsAt h vs fs) (k : ∀ a o, o.cls = .type "tuple" → h.get? a = some o → h'.get? a = some o) : FoldsAt h' vs fs :=
  ⟨x.1, fun i hi => let ⟨a, t, u, e, r⟩ := x.2 i hi; ⟨a, t, u, e, k a _ rfl r⟩⟩
theorem FoldsAt.reverse {h : Heap} {vs : List Value} {fs : List (Int × List Nat)} (x : FoldsAt h vs fs) : FoldsAt h vs.reverse fs.reverse := by
  refine ⟨by simp [x.1], fun i hi => ?_⟩
  rw [List.length_reverse] at hi
  have e1 : vs.reverse.getD i .none = vs.getD (vs.length - 1 - i) .none := by
    rw [List.getD_eq_getElem?_getD, List.getD_eq_getElem?_getD, List.getElem?_reverse (by rw [x.1]; exact hi)]
  have e2 : fs.reverse.getD i (0, []) = fs.getD (fs.length - 1 - i) (0, []) := by
    rw [List.getD_eq_getElem?_getD, List.getD_eq_getElem?_getD, List.getElem?_reverse hi]
  rw [e1, e2, x.1]
  exact x.2 _ (by omega)
theorem FoldsAt.map {h : Heap} {vs : List Value} {fs : List (Int × List Nat)} (x : FoldsAt h vs fs) {p : List Nat} (hp : ∀ i ∈ p, i < fs.length) : FoldsAt h (p.map fun i => vs.getD i .none) (p.map fun i => fs.getD i (0, [])) := by
  refine ⟨by simp, fun i hi => ?_⟩
  rw [List.length_map] at hi
  have e1 : (p.map fun i => vs.getD i Value.none).getD i .none = vs.getD p[i] .none := by
    rw [List.getD_eq_getElem?_getD, List.getElem?_map, List.getElem?_eq_getElem hi]; rfl
  have e2 : (p.map fun i => fs.getD i ((0, []) : Int × List Nat)).getD i (0, []) = fs.getD p[i] (0, []) := by
    rw [List.getD_eq_getElem?_getD, List.getElem?_map, List.getElem?_eq_getElem hi]; rfl
  rw [e1, e2]
  exact x.2 _ (hp _ (List.getElem_mem hi))
theorem map_range_getD {α : Type} (l : List α) (d : α) : ((List.range l.length).map fun i => l.getD i d) = l := by
  apply List.ext_getElem
  · simp
  · intro i h1 h2
    simp [List.getD_eq_getElem?_getD, List.getElem?_eq_getElem h2]
/-- what comes out of the sort -/
theorem out_ok {h : Heap} {vs : List Value} {fs : List (Int × List Nat)} (x : FoldsAt h vs fs) {p : List Nat} (hp : p.Perm (List.range fs.length)) (hs : p.Pairwise fun a b => (fs.reverse.getD a (0, [])).1 ≤ (fs.reverse.getD b (0, [])).1) :
    ∃ fs', FoldsAt h (p.map fun i => vs.reverse.getD i .none).reverse fs' ∧ fs'.Perm fs ∧ (fs'.Pairwise fun a b => b.1 ≤ a.1) ∧ ∀ v ∈ (p.map fun i => vs.reverse.getD i .none).reverse, v ∈ vs := by
  refine ⟨(p.map fun i => fs.reverse.getD i (0, [])).reverse, (x.reverse.map fun i hi => ?_).reverse, ?_, ?_, fun v hv => ?_⟩
  · rw [List.length_reverse]; exact List.mem_range.mp (hp.mem_iff.mp hi)
  · have e : ((List.range fs.length).map fun i => fs.reverse.getD i ((0, []) : Int × List Nat)) = fs.reverse := by
      have := map_range_getD fs.reverse ((0, []) : Int × List Nat)
      rwa [List.length_reverse] at this
    exact (List.reverse_perm _).trans (((hp.map _).trans (List.Perm.of_eq e)).trans (List.reverse_perm _))
  · rw [List.pairwise_reverse, List.pairwise_map]
    exact hs
  · obtain ⟨i, hi, rfl⟩ := List.mem_map.mp (List.mem_reverse.mp hv)
    have hl : i < vs.reverse.length := by rw [List.length_reverse, x.1]; exact List.mem_range.mp (hp.mem_iff.mp hi)
    rw [List.getD_eq_getElem?_getD, List.getElem?_eq_getElem hl]
    exact List.mem_reverse.mp (List.getElem_mem hl)
end
section
variable {prog : Program} {w : World} {A : Around} {E : Value → Shared → Prop} {s : Shared}
theorem rev_tree {a : Addr} {vs : List Value} {fs : List (Int × List Nat)} {n : Nat} {P : PySem.Fin → Shared → Prop} (ho : s.heap.get? a = some (seqObj "list" vs.toArray n)) (x : FoldsAt s.heap vs fs) (h3 : fs.length ≤ 3)
    (h : ∀ out fs' h', FoldsAt s.heap out fs' → fs'.Perm fs → (fs'.Pairwise fun a b => b.1 ≤ a.1) → (∀ v ∈ out, v ∈ vs) → (∀ b o, b ≠ a → s.heap.get? b = some o → h'.get? b = some o) → (∃ c, h'.get? a = some (seqObj "list" out.toArray c)) → P (.done (.ret .none)) { s with heap := h' }) :
    wpAny (model prog w) A (Builtin.«list.sort» ⟨[.ref a], [(Str.ofString "reverse", .bool true)]⟩) P E s := by
  rw [list_sort_rev]
  have hlen := x.1
  have ha : a < s.heap.objs.size := Heap.lt_size ho
  have s1 := Heap.SameBut.update s.heap a (Obj.mapSeq fun _ => (#[] : Array Value))
  obtain ⟨e1, ho1⟩ : ∃ e1, (s.heap.update a (Obj.mapSeq fun _ => #[])).get? a = some (seqObj "list" #[] e1) := ⟨_, get?_update_seq ho (fun _ => #[])⟩
  refine wpAny_bind (listItems_at ho rfl ?_)
  refine wpAny_bind (listUpdate_at ho rfl ?_ (by rw [List.size_toArray, sizeLine_eq]; omega) (Nat.zero_le _))
  refine wpAny_bind (seqEpoch_at ho1 rfl ?_)
  refine wpAny_bind (wpAny_newTuple ?_ (by show vs.length ≤ _; rw [sizeLine_eq]; omega))
  refine wpAny_bind (wpAny_newList ?_ (Nat.zero_le _))
  refine wpAny_holding ?_
  show wpAny (model prog w) A _ P E { s with heap := ((s.heap.update a (Obj.mapSeq fun _ => #[])).push (seqObj "tuple" vs.toArray 0)).push (seqObj "list" #[] 0) }
  have kp : ∀ b o, b ≠ a → s.heap.get? b = some o → (((s.heap.update a (Obj.mapSeq fun _ => #[])).push (seqObj "tuple" vs.toArray 0)).push (seqObj "list" #[] 0)).get? b = some o := fun b o hb e =>
    Heap.get?_push_of_some _ (Heap.get?_push_of_some _ ((s1.2 b hb).trans e))
  have ho6 : (((s.heap.update a (Obj.mapSeq fun _ => #[])).push (seqObj "tuple" vs.toArray 0)).push (seqObj "list" #[] 0)).get? a = some (seqObj "list" #[] e1) := Heap.get?_push_of_some _ (Heap.get?_push_of_some _ ho1)
  have x6 : FoldsAt (((s.heap.update a (Obj.mapSeq fun _ => #[])).push (seqObj "tuple" vs.toArray 0)).push (seqObj "list" #[] 0)) vs fs := x.at fun b o hc e => kp b o (fun q => by rw [q, ho] at e; cases e; exact absurd hc (by simp)) e
  have hend : ∀ (out : List Value) (fs' : List (Int × List Nat)), out.length ≤ 3 → FoldsAt s.heap out fs' → fs'.Perm fs → (fs'.Pairwise fun a b => b.1 ≤ a.1) → (∀ v ∈ out, v ∈ vs) →
      wpAny (model prog w) A (do
        let touched := (← seqEpoch a) != e1
        Builtin.List.listUpdate (.ref a) fun _ => out.toArray
        if touched then rule "list.sort.modified"; raiseError "ValueError" "list modified during sort"
        ret .none) P E { s with heap := ((s.heap.update a (Obj.mapSeq fun _ => #[])).push (seqObj "tuple" vs.toArray 0)).push (seqObj "list" #[] 0) } := by
    intro out fs' hz y1 y2 y3 y4
    refine wpAny_bind (seqEpoch_at ho6 rfl ?_)
    refine wpAny_bind (listUpdate_at ho6 rfl ?_ (Nat.zero_le _) (by rw [List.size_toArray, sizeLine_eq]; omega))
    simp only [bne_self_eq_false, Bool.false_eq_true, if_false]
    have s2 := Heap.SameBut.update (((s.heap.update a (Obj.mapSeq fun _ => #[])).push (seqObj "tuple" vs.toArray 0)).push (seqObj "list" #[] 0)) a (Obj.mapSeq fun _ => out.toArray)
    exact wpAny_pure (h out fs' _ y1 y2 y3 y4 (fun b o hb e => (s2.2 b hb).trans (kp b o hb e)) ⟨_, get?_update_seq ho6 fun _ => out.toArray⟩)
  dsimp only
  simp only [if_true]
  refine wpAny_bind (wpAny_rule ?_)
  by_cases h2 : vs.toArray.size < 2
  · rw [if_pos h2, if_pos h2]
    refine wpAny_bind (wpAny_pure ?_)
    rw [StateT.run_pure]
    refine wpAny_bind (wpAny_pure ?_)
    have hv : (Array.map (fun x => x.2) (arrOf (SortSt.mk' general' (vs.toArray.zip vs.toArray).reverse #[] 7 none))).reverse = vs.toArray := by
      show (Array.map (fun x => x.2) (vs.toArray.zip vs.toArray).reverse).reverse = vs.toArray
      apply Array.toList_inj.mp
      simp only [Array.toList_reverse, Array.toList_map, Array.toList_zip, List.map_reverse, List.reverse_reverse]
      exact List.map_snd_zip (Nat.le_refl _)
    have hf : failedOf (SortSt.mk' general' (vs.toArray.zip vs.toArray).reverse #[] 7 none) = none := rfl
    dsimp only
    rw [hv]
    refine hend vs fs (by omega) x (List.Perm.refl _) ?_ fun _ hv => hv
    rw [List.size_toArray] at h2
    match fs, hlen with
    | [], _ => exact .nil
    | [f], _ => exact .cons (fun _ hb => nomatch hb) .nil
    | _ :: _ :: _, hl => simp only [List.length_cons] at hl; omega
  · rw [if_neg h2, if_neg h2]
    rw [List.size_toArray] at h2
    obtain ⟨ks, k1, k2, k3⟩ := kat_tups_of x6
    refine wpAny_bind (wpAny_mono (kat_kind (T := .type "int") (Q := fun κ s' => κ = tuples' true ∧ s' = { s with heap := ((s.heap.update a (Obj.mapSeq fun _ => #[])).push (seqObj "tuple" vs.toArray 0)).push (seqObj "list" #[] 0) }) k1 (by omega) (fun v hv => by
      obtain ⟨i, t, rfl⟩ := k3 v hv
      exact Looks.of_pure rfl) rfl ⟨rfl, rfl⟩) ?_ fun _ _ e => e)
    rintro κ s' ⟨rfl, rfl⟩
    have hz : (vs.toArray.zip vs.toArray).reverse = vs.reverse.toArray.zip vs.reverse.toArray := by
      have := kat_pairs (ks := vs) (vs := vs) true rfl
      simpa [katRev] using this
    rw [hz]
    have key : (kas_sort vs.reverse.length).kasWp (kas_ask prog w A (tuples' true) vs.reverse) (fun p s' => p.toList.Perm (List.range fs.length) ∧ (p.toList.Pairwise fun a b => (fs.reverse.getD a (0, [])).1 ≤ (fs.reverse.getD b (0, [])).1) ∧ s' = { s with heap := ((s.heap.update a (Obj.mapSeq fun _ => #[])).push (seqObj "tuple" vs.toArray 0)).push (seqObj "list" #[] 0) })
        { s with heap := ((s.heap.update a (Obj.mapSeq fun _ => #[])).push (seqObj "tuple" vs.toArray 0)).push (seqObj "list" #[] 0) } := by
      rw [List.length_reverse, hlen]
      have hn : fs.length = 2 ∨ fs.length = 3 := by omega
      have hc : chkT fs.length (kas_sort fs.length) [] = true := by
        rcases hn with q | q <;> rw [q]
        · exact chk2
        · exact chk3
      refine chk_sound (n := fs.length) (pl := fun i => (fs.reverse.getD i (0, [])).1) (fun i j C hi hj hC => ?_) (fun p h1 h2 => ⟨h1, h2, rfl⟩) _ [] hc (List.forall_mem_nil _)
      have xr := x6.reverse
      rw [FoldsAt, List.length_reverse, List.length_reverse] at xr
      exact cmp_tups (xr.2 i (by simpa using hi)) (xr.2 j (by simpa using hj)) hC
    refine wpAny_bind (wpAny_mono (kat_run (Q := fun st' s' => ∃ p : Array Nat, p.size = vs.reverse.length ∧ arrOf st' = p.map (kas_item (vs.reverse.toArray.zip vs.reverse.toArray)) ∧ failedOf st' = none ∧ p.toList.Perm (List.range fs.length) ∧ (p.toList.Pairwise fun a b => (fs.reverse.getD a (0, [])).1 ≤ (fs.reverse.getD b (0, [])).1) ∧ s' = { s with heap := ((s.heap.update a (Obj.mapSeq fun _ => #[])).push (seqObj "tuple" vs.toArray 0)).push (seqObj "list" #[] 0) })
      rfl (by rw [List.length_reverse]; omega) (by rw [List.length_reverse]; omega) (fun p' st' s' a1 a2 a3 a4 => ⟨p', a1, a2, a3, a4⟩) key) ?_ fun _ _ e => e)
    rintro ⟨⟨⟩, st'⟩ s' ⟨p, hp, har, hf, hpm, hps, rfl⟩
    obtain ⟨fs', y1, y2, y3, y4⟩ := out_ok x hpm hps
    have hout := kat_snds (ks := vs.reverse) (vs := vs.reverse) rfl har
    dsimp only
    rw [hout, hf, List.reverse_toArray]
    refine hend _ fs' ?_ y1 y2 y3 y4
    rw [List.length_reverse, List.length_map, Array.length_toList, hp, List.length_reverse]
    omega
theorem sorted_folds {h₀ : Heap} {L : Addr} {m : PySem.Str → Option Value} {news : List (Addr × Obj)} {l : Addr} {vs : List Value} {fs : List (Int × List Nat)} {Q : Value → Shared → Prop} (F : Fr h₀ L s.heap m) (N : News h₀ L s.heap news) (hl : s.heap.IsList l vs.toArray) (x : FoldsAt s.heap vs fs) (h3 : fs.length ≤ 3)
    (h : ∀ D out fs' c h', FoldsAt h' out fs' → fs'.Perm fs → (fs'.Pairwise fun a b => b.1 ≤ a.1) → (∀ v ∈ out, v ∈ vs) → Fr h₀ L h' m → News h₀ L h' ((D, seqObj "list" out.toArray c) :: news) → (∀ p ∈ news, p.1 < D) → (∀ b o, s.heap.get? b = some o → h'.get? b = some o) → Q (.ref D) { s with heap := h' }) :
    wpAny (model prog w) A (call (.builtin "sorted") [.ref l] [(Str.ofString "reverse", .bool true)]) Q E s := by
  have hlen := x.1
  refine call_function_entry_kw kind_sorted plain_sorted entry_sorted (args_sorted_rev _ _) ?_
  unfold Builtin.«sorted»
  refine wpAny_bind (m := checkCount "sorted" 1 1 _) (wpAny_pure ?_)
  refine wpAny_bind (collect_list hl ?_ (by rw [sizeLine_eq]; omega))
  refine wpAny_bind (wpAny_newList ?_ (by rw [sizeLine_eq]; omega))
  have hsz : ((s.heap.push (seqObj "list" #[] 0)).update s.heap.objs.size (Obj.mapSeq (· ++ vs.toArray))).objs.size = s.heap.objs.size + 1 := by
    rw [Heap.size_update, size_push']
  have hoL : (((s.heap.push (seqObj "list" #[] 0)).update s.heap.objs.size (Obj.mapSeq (· ++ vs.toArray))).push (seqObj "list" vs.toArray 0)).get? (s.heap.objs.size + 1) = some (seqObj "list" vs.toArray 0) := by
    rw [← hsz]; exact Heap.get?_push_size _ rfl
  have keep : ∀ b o, s.heap.get? b = some o → (((s.heap.push (seqObj "list" #[] 0)).update s.heap.objs.size (Obj.mapSeq (· ++ vs.toArray))).push (seqObj "list" vs.toArray 0)).get? b = some o := fun b o q => by
    have hlt : b < s.heap.objs.size := Heap.lt_size q
    rw [Heap.get?_push_ne _ _ _ (by rw [hsz]; exact Nat.ne_of_lt (Nat.lt_succ_of_lt hlt)), Heap.get?_update_ne _ _ _ _ (Nat.ne_of_lt hlt), Heap.get?_push_ne _ _ _ (Nat.ne_of_lt hlt)]
    exact q
  show wpAny _ _ _ _ _ { s with heap := ((s.heap.push (seqObj "list" #[] 0)).update s.heap.objs.size (Obj.mapSeq (· ++ vs.toArray))).push (seqObj "list" vs.toArray 0) }
  rw [hsz]
  refine wpAny_bind (wpAny_holding (wpAny_call_entry_kw slot_list_sort ⟨_, hoL, rfl⟩ entry_list_sort ?body (args_list_sort_rev _ _)))
  case body =>
    refine rev_tree (s := { s with heap := ((s.heap.push (seqObj "list" #[] 0)).update s.heap.objs.size (Obj.mapSeq (· ++ vs.toArray))).push (seqObj "list" vs.toArray 0) }) hoL (x.at fun b o _ e => keep b o e) h3 fun out fs' h' y1 y2 y3 y6 y4 y5 => ⟨_, rfl, ?_⟩
    refine wpAny_pure ⟨_, rfl, ?_⟩
    obtain ⟨c, y5⟩ := y5
    have k : ∀ b o, s.heap.get? b = some o → h'.get? b = some o := fun b o e => y4 b o (Nat.ne_of_lt (Nat.lt_succ_of_lt (Heap.lt_size e))) (keep b o e)
    have F' := F.kept k
    have hL : L < s.heap.objs.size := F.ns.lt
    refine h (s.heap.objs.size + 1) out fs' c h' (y1.at fun b o hc e => y4 b o (fun q => ?_) e) y2 y3 y6 F' (fun p hp => ?_) (fun p hp => Nat.lt_succ_of_lt (Heap.lt_size (N p hp).1)) k
    · rw [q, hoL] at e; cases e; exact absurd hc (by simp)
    · rcases List.mem_cons.mp hp with rfl | hp
      · refine ⟨y5, Nat.ne_of_gt (Nat.lt_succ_of_lt hL), ?_⟩
        cases q : h₀.get? (s.heap.objs.size + 1) with
        | none => rfl
        | some o => exact absurd (Nat.lt_trans (Nat.lt_succ_self _) (Heap.lt_size (F.keep _ _ q))) (Nat.lt_irrefl _)
      · exact ⟨k _ _ (N p hp).1, (N p hp).2⟩
end
end Mine
end TextKS

section TextL7
open PySem PySem.W PySem.Calls PyProof.Rows PySem.Spec
namespace Mine
noncomputable def TupsIn (tups : List (Addr × Obj)) (vs : List Value) (fs : List (Int × List Nat)) : Prop :=
  vs.length = fs.length ∧ ∀ i, i < fs.length → ∃ a t u, vs.getD i .none = .ref a ∧ (a, seqObj "tuple" #[.int (fs.getD i (0, [])).1 t, .str (chs (fs.getD i (0, [])).2) u] 0) ∈ tups
theorem TupsIn.nil : TupsIn [] [] [] := ⟨rfl, fun _ h => absurd h (Nat.not_lt_zero _)⟩
theorem TupsIn.snoc {tups : List (Addr × Obj)} {vs : List Value} {fs : List (Int × List Nat)} (x : TupsIn tups vs fs) {T : Addr} {f : Int × List Nat} {t u : Tok} :
    TupsIn ((T, seqObj "tuple" #[.int f.1 t, .str (chs f.2) u] 0) :: tups) (vs ++ [.ref T]) (fs ++ [f]) := by
  refine ⟨by simp [x.1], fun i hi => ?_⟩
  rw [List.length_append, List.length_singleton] at hi
  by_cases h : i < fs.length
  · obtain ⟨a, t', u', e, hm⟩ := x.2 i h
    refine ⟨a, t', u', ?_, ?_⟩
    · rw [List.getD_eq_getElem?_getD, List.getElem?_append_left (by rw [x.1]; exact h), ← List.getD_eq_getElem?_getD, e]
    · rw [List.getD_eq_getElem?_getD, List.getElem?_append_left h, ← List.getD_eq_getElem?_getD]
      exact .tail _ hm
  · have e : i = fs.length := by omega
    subst e
    refine ⟨T, t, u, ?_, ?_⟩
    · rw [List.getD_eq_getElem?_getD, List.getElem?_append_right (by rw [x.1]; exact Nat.le_refl _)]
      simp [x.1]
    · rw [List.getD_eq_getElem?_getD, List.getElem?_append_right (Nat.le_refl _)]
      simp
theorem TupsIn.at {tups : List (Addr × Obj)} {vs : List Value} {fs : List (Int × List Nat)} {h : Heap} (x : TupsIn tups vs fs) (N : ∀ p ∈ tups, h.get? p.1 = some p.2) : FoldsAt h vs fs :=
  ⟨x.1, fun i hi => let ⟨a, t, u, e, hm⟩ := x.2 i hi; ⟨a, t, u, e, N _ hm⟩⟩
noncomputable def GoodF (n : Nat) (f : Int × List Nat) : Prop := 1 ≤ f.1 ∧ f.1 ≤ n ∧ ∃ us c, us ≠ [] ∧ (∀ u ∈ us, isUnit u) ∧ us.length ≤ 4 ∧ (c = 32 ∨ c = 9) ∧ f.2 = us.flatten ++ [c]
/-- the folds' loop -/
noncomputable def JFo (bg fl : Addr) (y : List Nat) (t : Tok) (i : Nat) (m : PySem.Str → Option Value) (nx : List (Addr × Obj)) : Prop :=
  ∃ fs vs tups b tb e, Has m [("bag", .ref bg), ("told", .str (chs y) t), ("folds", .ref fl)] ∧ TupsIn tups vs fs ∧ (∀ f ∈ fs, GoodF y.length f) ∧ 0 ≤ b ∧ fs.length = i ∧ (∀ p ∈ tups, p.1 ≠ bg) ∧ (∀ p ∈ tups, p.1 ≠ fl) ∧
    nx = (fl, listOf vs.toArray e) :: (bg, listOf #[.int b tb] 0) :: (428, tabObj #[]) :: tups
/-- the marks' loop -/
noncomputable def JMk (bg fl I : Addr) (fo io : Obj) (y : List Nat) (t : Tok) (k : Int) (tk : Tok) (tups : List (Addr × Obj)) (i : Nat) (m : PySem.Str → Option Value) (nx : List (Addr × Obj)) : Prop :=
  ∃ (us : List (List Nat)) (tm : Tok) (b : Int) (tb : Tok), Has m [("bag", .ref bg), ("told", .str (chs y) t), ("folds", .ref fl), ("place", .int k tk), ("mark", .str (chs us.flatten) tm)] ∧ (∀ u ∈ us, isUnit u) ∧ us.length = i ∧ 0 ≤ b ∧
    nx = (I, io) :: (fl, fo) :: (bg, listOf #[.int b tb] 0) :: (428, tabObj #[]) :: tups
theorem units_len {us : List (List Nat)} (h : ∀ u ∈ us, isUnit u) : us.flatten.length ≤ 2 * us.length := by
  induction us with
  | nil => exact Nat.le_refl _
  | cons u r ih =>
    have h1 := ih fun v hv => h v (.tail _ hv)
    rw [List.flatten_cons, List.length_append, List.length_cons]
    rcases h u (.head _) with rfl | rfl <;> (simp only [List.length_cons, List.length_nil]; omega)
section
variable {h₀ h : Heap} {L f p1 p2 p3 p4 sg b q l I T : Addr} {fo o1 o2 o3 o4 so bo qo lo io to : Obj} {rest : List (Addr × Obj)}
theorem pick3 (N : News h₀ L h ((f, fo) :: (p1, o1) :: (p2, o2) :: (p3, o3) :: (p4, o4) :: (sg, so) :: (b, bo) :: (q, qo) :: rest)) : News h₀ L h ((f, fo) :: (b, bo) :: (q, qo) :: rest) := fun p hp => by
  rcases List.mem_cons.mp hp with rfl | hp
  · exact N _ (.head _)
  · exact N p (.tail _ (.tail _ (.tail _ (.tail _ (.tail _ (.tail _ hp))))))
theorem turn1 (N : News h₀ L h ((T, to) :: (l, lo) :: (I, io) :: (f, fo) :: (b, bo) :: (q, qo) :: rest)) : News h₀ L h ((I, io) :: (f, fo) :: (b, bo) :: (q, qo) :: (T, to) :: rest) := fun p hp => by
  rcases List.mem_cons.mp hp with rfl | hp
  · exact N _ (.tail _ (.tail _ (.head _)))
  rcases List.mem_cons.mp hp with rfl | hp
  · exact N _ (.tail _ (.tail _ (.tail _ (.head _))))
  rcases List.mem_cons.mp hp with rfl | hp
  · exact N _ (.tail _ (.tail _ (.tail _ (.tail _ (.head _)))))
  rcases List.mem_cons.mp hp with rfl | hp
  · exact N _ (.tail _ (.tail _ (.tail _ (.tail _ (.tail _ (.head _))))))
  rcases List.mem_cons.mp hp with rfl | hp
  · exact N _ (.head _)
  · exact N p (.tail _ (.tail _ (.tail _ (.tail _ (.tail _ (.tail _ hp))))))
theorem drop1 (N : News h₀ L h ((l, lo) :: rest)) : News h₀ L h rest := fun p hp => N p (.tail _ hp)
end
section
variable {prog : Program} {w : World} {A : Around} {E : Value → Shared → Prop} {s : Shared} {Q : Value → Shared → Prop}
theorem len_told {y : List Nat} {t : Tok} (hz : y.length ≤ 110) (h : ∀ t' k, Q (.int (y.length : Int) t') { s with toks := k }) : wpAny (model prog w) A (call (.builtin "len") [.str (chs y) t]) Q E s := by
  have e : ((chs y).length : Int) = (y.length : Int) := by rw [chs_len]
  exact len_str (by rw [e]; omega) (by rw [e]; exact h _ _)
end
end Mine
end TextL7

section TextL8
open PySem PySem.W PySem.Calls PyProof.Rows PySem.Spec
namespace Mine
section
variable {prog : Program} {w : World} {A : Around} {E : Value → Shared → Prop} {s : Shared} {env : Env} {h₀ : Heap} {xi xc : PySem.Str} {body : List Stmt} {Q : Flow → Shared → Prop}
noncomputable def TupEnd (h₀ : Heap) (L : Addr) (I : Addr) (io : Obj) (news : List (Addr × Obj)) (J : (PySem.Str → Option Value) → Prop) (s : Shared) (f : Flow) (s₂ : Shared) : Prop :=
  f = .next ∧ ∃ h' tk' m', s₂ = { s with heap := h', toks := tk' } ∧ Fr h₀ L h' m' ∧ News h₀ L h' ((I, io) :: news) ∧ J m'
theorem TupEnd.intro {h₀ : Heap} {L I : Addr} {io : Obj} {news : List (Addr × Obj)} {J : (PySem.Str → Option Value) → Prop} {s : Shared} {h' : Heap} {tk' : Nat} {m' : PySem.Str → Option Value}
    (F : Fr h₀ L h' m') (N : News h₀ L h' ((I, io) :: news)) (hj : J m') : TupEnd h₀ L I io news J s .next { s with heap := h', toks := tk' } := ⟨rfl, h', tk', m', rfl, F, N, hj⟩
/-- a loop over a list of tuples of a place and a text -/
noncomputable def TupGo (prog : Program) (w : World) (A : Around) (h₀ : Heap) (env : Env) (xi xc : PySem.Str) (body : List Stmt) (Q : Flow → Shared → Prop) (E : Value → Shared → Prop) (xv : Value) (s : Shared) : Prop :=
  ∃ (D : Addr) (out : List Value) (fs : List (Int × List Nat)) (c : Nat) (m : PySem.Str → Option Value) (news : List (Addr × Obj)) (J : Nat → (PySem.Str → Option Value) → Prop),
    xv = .ref D ∧ A.handled = none ∧ Fr h₀ env.locals s.heap m ∧ News h₀ env.locals s.heap news ∧ (D, seqObj "list" out.toArray c) ∈ news ∧ TupsIn news out fs ∧ J 0 m ∧
    (∀ i t u m₁ (s' : Shared) I io, i < fs.length → J i m₁ → Fr h₀ env.locals s'.heap (fun y => if y = xc then some (.str (chs (fs.getD i (0, [])).2) u) else if y = xi then some (.int (fs.getD i (0, [])).1 t) else m₁ y) → News h₀ env.locals s'.heap ((I, io) :: news) →
      wpAny (model prog w) A (execs body env) (TupEnd h₀ env.locals I io news (J (i + 1)) s') E s') ∧
    ∀ m₁ h tk, J fs.length m₁ → Fr h₀ env.locals h m₁ → News h₀ env.locals h news → Q .next { s with heap := h, toks := tk }
theorem For_tup {pk pv pt pos : Pos} {x1 : Nat} {iter : PySem.Expr} (hxi : env.kindOf xi = some .local) (hxc : env.kindOf xc = some .local)
    (hp : (env.scope.kind == .class || (env.scope.kind == .module && env.locals != env.globals)) = false)
    (h : wpAny (model prog w) A (eval iter env) (TupGo prog w A h₀ env xi xc body Q E) E s)
    (hs : ∀ x, foldedSetIterable iter env x = pure x := by intro _; rfl)
    (hE : PassesOwn (model prog w) A env E := by passes_own) :
    wpAny (model prog w) A (exec (.For (.Tuple [.Name xi pk, .Name xc pv] x1 pt) iter body [] pos) env) Q E s := by
  refine wpAny_For (wpAny_mono h (fun xv s₁ h₁ => ?_) fun _ _ e => e) hs
  obtain ⟨D, out, fs, c, m, news, J, rfl, hh, F, N, hD, hT, h0, turn, done⟩ := h₁
  have hl : s₁.heap.IsList D out.toArray := ⟨_, (N _ hD).1, rfl, c, rfl⟩
  have hDI : D ≠ s₁.heap.objs.size := Nat.ne_of_lt (Heap.lt_size (N _ hD).1)
  have hLI : env.locals ≠ s₁.heap.objs.size := Nat.ne_of_lt F.ns.lt
  have hLD : env.locals ≠ D := (N _ hD).2.1.symm
  have hsz : out.toArray.size = fs.length := by rw [List.size_toArray, hT.1]
  refine wpAny_pyIter_list hl ?_
  refine codeAny_forLoop_anyU (R := fun r s' => match r with | .ok f => Q f s' | .error e => cameBackBy (model prog w) A env E e s') (news := news)
    (Walks.list hh s₁.heap.objs.size D hDI out.toArray) ?_ ?_ (fun p hp hm => off_size N p hp (List.mem_singleton.mp hm)) ⟨⟨_, Heap.get?_push_size _ rfl, rfl, rfl⟩, hl.push _⟩ (F.push _) (fun p hp => ⟨Heap.get?_push_of_some _ (N p hp).1, (N p hp).2⟩) (fun i s' v Q' st hq => ?_) (fun i m₁ nx => J i m₁ ∧ nx = news) ⟨h0, rfl⟩ ?_ ?_
  · intro hm
    rcases List.mem_cons.mp hm with e | hm
    · exact hLI e
    · exact hLD (List.mem_singleton.mp hm)
  · intro b hb
    rw [List.mem_singleton.mp hb]
    exact next_is_new F
  · cases v with
    | ref T => exact wpAny_letOwnedTupleGo_listiter st.1 hq
    | _ => exact wpAny_of_eq (t := pure ()) rfl hq
  · rintro i v m₁ news₁ s₂ own hi hP ⟨hJ, rfl⟩ hnw ho hown hfp hst F₁ N₁
    have hi' : i < fs.length := hsz ▸ hi
    obtain ⟨a, t, u, ea, ha⟩ := hT.2 i hi'
    have ev : v = .ref a := by
      rw [← ea, List.getD_eq_getElem?_getD]
      have hP' : out[i]? = some v := by simpa using hP
      rw [hP']; rfl
    subst ev
    have hta : s₂.heap.IsTuple a #[.int (fs.getD i (0, [])).1 t, .str (chs (fs.getD i (0, [])).2) u] := ⟨_, (N₁ _ (List.mem_append_right _ ha)).1, rfl, 0, rfl⟩
    refine wpAny_assign_Tuple hh hta rfl rfl fun h₃ hx₃ => ?_
    replace hx₃ : Heap.ExtBut s₂.heap.objs.size s₂.heap h₃ := hx₃
    have up₃ : ∀ b o, s₂.heap.get? b = some o → h₃.get? b = some o := fun b o x => hx₃ b o (Nat.ne_of_lt (Heap.lt_size x)) x
    have F₃ : Fr h₀ env.locals h₃ m₁ := F₁.keeps up₃
    have N₃ : News h₀ env.locals h₃ (own ++ news₁) := fun p hp => ⟨up₃ _ _ (N₁ p hp).1, (N₁ p hp).2⟩
    show wpAny _ A (do holding [Value.str (chs (fs.getD i (0, [])).2) u] (assign (.Name xi pk) env (Value.int (fs.getD i (0, [])).1 t)); do holding [] (assign (.Name xc pv) env (Value.str (chs (fs.getD i (0, [])).2) u)); pure ()) _ _ _
    refine wpAny_bind (wpAny_holding (wpAny_assign_Name (wpAny_storeName_local hxi F₃.ns (fun h₄ hn₄ hs₄ => ?_) hp)))
    have F₄ := F₃.set hn₄ hs₄
    refine wpAny_bind (wpAny_holding (wpAny_assign_Name (wpAny_storeName_local hxc F₄.ns (fun h₅ hn₅ hs₅ => wpAny_pure ?_) hp)))
    have F₅ := F₄.set hn₅ hs₅
    have N₅ : News h₀ env.locals h₅ (own ++ news₁) := (N₃.set hs₄).set hs₅
    obtain ⟨⟨io, hio, hic⟩, _⟩ := hst
    have hmem := hfp s₁.heap.objs.size (.head _) (next_is_new F) io hio
    have N₆ : News h₀ env.locals h₅ ((s₁.heap.objs.size, io) :: news₁) := fun p hp => by
      rcases List.mem_cons.mp hp with rfl | hp
      · exact N₅ _ (List.mem_append_left _ hmem)
      · exact N₅ _ (List.mem_append_right _ hp)
    have z := turn i t u m₁ { s₂ with heap := h₅, toks := s₂.toks + 1 + 1 } s₁.heap.objs.size io hi' hJ F₅ N₆
    refine wpAny_passesOwn hE (wpAny_mono z (fun f s₄ q => ?_) fun _ _ e => e)
    obtain ⟨rfl, h', tk', m', rfl, F₇, N₇, hj⟩ := q
    refine LoopStepU.intro (s₁ := s₂) F₇ (fun p hp => ?_) (fun p hp hm => off_size N p hp (List.mem_singleton.mp hm)) ⟨hj, rfl⟩
    rcases List.mem_append.mp hp with hp | hp
    · have e1 := ho p hp
      have e2 := hown p hp
      rcases List.mem_cons.mp e1 with e | e
      · have : p = (s₁.heap.objs.size, io) := by
          obtain ⟨pa, po⟩ := p
          simp only at e e2
          subst e
          rw [hio] at e2; cases e2; rfl
        rw [this]
        exact N₇ _ (.head _)
      · have eD := List.mem_singleton.mp e
        have : p = (D, seqObj "list" out.toArray c) := by
          obtain ⟨pa, po⟩ := p
          simp only at eD e2
          subst eD
          have e3 := (N₁ _ (List.mem_append_right _ hD)).1
          dsimp only at e3
          rw [e3] at e2; cases e2; rfl
        rw [this]
        exact N₇ _ (.tail _ hD)
    · exact N₇ _ (.tail _ hp)
  · rintro h' tk m' news' F' N' _ ⟨hJ, rfl⟩
    rw [hsz] at hJ
    exact done m' h' tk hJ F' N'
theorem sorted_N3 {L l b q : Addr} {bo qo : Obj} {m : PySem.Str → Option Value} {tups : List (Addr × Obj)} {vs : List Value} {fs : List (Int × List Nat)} {e : Nat} {Q : Value → Shared → Prop} (F : Fr h₀ L s.heap m) (N : News h₀ L s.heap ((l, listOf vs.toArray e) :: (b, bo) :: (q, qo) :: tups)) (hT : TupsIn tups vs fs) (h3 : fs.length ≤ 3)
    (h : ∀ D out fs' c h', TupsIn tups out fs' → fs'.Perm fs → (fs'.Pairwise fun a b => b.1 ≤ a.1) → Fr h₀ L h' m → News h₀ L h' ((D, seqObj "list" out.toArray c) :: (l, listOf vs.toArray e) :: (b, bo) :: (q, qo) :: tups) → (∀ p ∈ (l, listOf vs.toArray e) :: (b, bo) :: (q, qo) :: tups, p.1 < D) → Q (.ref D) { s with heap := h' }) :
    wpAny (model prog w) A (call (.builtin "sorted") [.ref l] [(Str.ofString "reverse", .bool true)]) Q E s := by
  have Nt : ∀ p ∈ tups, s.heap.get? p.1 = some p.2 := fun p hp => (N p (.tail _ (.tail _ (.tail _ hp)))).1
  refine sorted_folds F N ⟨_, (N _ (.head _)).1, rfl, e, rfl⟩ (hT.at Nt) h3 fun D out fs' c h' y1 y2 y3 y4 F' N' hD k => h D out fs' c h' ⟨y1.1, fun i hi => ?_⟩ y2 y3 F' N' hD
  obtain ⟨a, t, u, e1, e2⟩ := y1.2 i hi
  refine ⟨a, t, u, e1, ?_⟩
  have ho : i < out.length := by rw [y1.1]; exact hi
  have hm : (.ref a : Value) ∈ vs := by
    have e3 : out.getD i .none = out[i] := by rw [List.getD_eq_getElem?_getD, List.getElem?_eq_getElem ho]; rfl
    rw [← e1, e3]
    exact y4 _ (List.getElem_mem ho)
  obtain ⟨j, hj, ej⟩ := List.getElem_of_mem hm
  obtain ⟨a', t', u', e5, e6⟩ := hT.2 j (hT.1 ▸ hj)
  have e7 : vs.getD j .none = .ref a := by rw [List.getD_eq_getElem?_getD, List.getElem?_eq_getElem hj, ej]; rfl
  rw [e7] at e5
  cases e5
  have e8 := k _ _ (Nt _ e6)
  dsimp only at e8
  rw [e2] at e8
  rw [Option.some.inj e8]
  exact e6
end
end Mine
end TextL8

section TextL9
open PySem PySem.W PySem.Calls PyProof.Rows PySem.Spec
namespace Mine
theorem TupsIn.mono {a b : List (Addr × Obj)} {vs : List Value} {fs : List (Int × List Nat)} (x : TupsIn a vs fs) (h : ∀ p ∈ a, p ∈ b) : TupsIn b vs fs :=
  ⟨x.1, fun i hi => let ⟨a, t, u, e, hm⟩ := x.2 i hi; ⟨a, t, u, e, h _ hm⟩⟩
theorem getD_mem {α : Type} {l : List α} {i : Nat} {d : α} (h : i < l.length) : l.getD i d ∈ l := by
  rw [List.getD_eq_getElem?_getD, List.getElem?_eq_getElem h]; exact List.getElem_mem h
/-- the near text's loop -/
noncomputable def JN (y : List Nat) (t : Tok) (fs : List (Int × List Nat)) (i : Nat) (m : PySem.Str → Option Value) : Prop :=
  ∃ (p : Nat) (rest a : List Nat) (tn : Tok), Has m [("told", .str (chs y) t), ("near", .str (chs a) tn)] ∧ a = y.take p ++ rest ∧ Folded rest (y.drop p) ∧ p ≤ y.length ∧ (∀ j, i ≤ j → j < fs.length → (fs.getD j (0, [])).1 ≤ p) ∧ a.length ≤ y.length + 9 * i
theorem JN.folded {y : List Nat} {t : Tok} {fs : List (Int × List Nat)} {i : Nat} {m : PySem.Str → Option Value} (hy : ∀ c ∈ y, calm c) (x : JN y t fs i m) :
    ∃ (a : List Nat) (tn : Tok), Has m [("told", .str (chs y) t), ("near", .str (chs a) tn)] ∧ Folded a y ∧ a.length ≤ y.length + 9 * i := by
  obtain ⟨p, rest, a, tn, hm, ha, hf, hp, _, hl⟩ := x
  refine ⟨a, tn, hm, ?_, hl⟩
  have := Folded.before (l := y.take p) (fun c hc => hy c (List.mem_of_mem_take hc)) hf
  rw [List.take_append_drop] at this
  rwa [ha]
theorem GoodF.len {n : Nat} {f : Int × List Nat} (h : GoodF n f) : f.2.length ≤ 9 := by
  obtain ⟨_, _, us, c, _, hu, hl, _, e⟩ := h
  have := units_len hu
  rw [e, List.length_append, List.length_singleton]
  omega
/-- a fold is put in before those that stand -/
theorem fold_in {y rest a : List Nat} {p : Nat} {f : Int × List Nat} (hy : ∀ c ∈ y, calm c) (g : GoodF y.length f) (ha : a = y.take p ++ rest) (hf : Folded rest (y.drop p)) (hp : p ≤ y.length) (hk : f.1 ≤ p) :
    ∃ rest', a.take f.1.toNat ++ f.2 ++ a.drop f.1.toNat = y.take f.1.toNat ++ rest' ∧ Folded rest' (y.drop f.1.toNat) := by
  obtain ⟨h1, _, us, c, hne, hu, hl, hc, e⟩ := g
  have hkp : f.1.toNat ≤ p := by omega
  have hlen : (y.take p).length = p := by rw [List.length_take]; omega
  refine ⟨us.flatten ++ [c] ++ ((y.take p).drop f.1.toNat ++ rest), ?_, ?_⟩
  · rw [ha, List.take_append_of_le_length (by rw [hlen]; exact hkp), List.drop_append_of_le_length (by rw [hlen]; exact hkp), List.take_take, Nat.min_eq_left hkp, e]
    simp [List.append_assoc]
  · have hd : y.drop f.1.toNat = (y.take p).drop f.1.toNat ++ y.drop p := by
      have h1 : y = y.take p ++ y.drop p := (List.take_append_drop p y).symm
      have h2 : y.drop f.1.toNat = (y.take p ++ y.drop p).drop f.1.toNat := by rw [← h1]
      rw [h2, List.drop_append_of_le_length (by rw [hlen]; exact hkp)]
    rw [hd]
    exact Folded.fold us c _ _ hne hu (by omega) hc (Folded.before (fun d hdm => hy d (List.mem_of_mem_take (List.mem_of_mem_drop hdm))) hf)
theorem JN.step {y : List Nat} {t : Tok} {fs : List (Int × List Nat)} {i : Nat} {m' : PySem.Str → Option Value} {a rest : List Nat} {p : Nat} {tn : Tok} (hy : ∀ c ∈ y, calm c) (g : GoodF y.length (fs.getD i (0, []))) (hi : i < fs.length) (hs : fs.Pairwise fun a b => b.1 ≤ a.1)
    (ha : a = y.take p ++ rest) (hf : Folded rest (y.drop p)) (hp : p ≤ y.length) (hk : (fs.getD i (0, [])).1 ≤ p) (hl : a.length ≤ y.length + 9 * i)
    (hm : Has m' [("told", .str (chs y) t), ("near", .str (chs (a.take (fs.getD i (0, [])).1.toNat ++ (fs.getD i (0, [])).2 ++ a.drop (fs.getD i (0, [])).1.toNat)) tn)]) : JN y t fs (i + 1) m' := by
  obtain ⟨rest', e, hf'⟩ := fold_in hy g ha hf hp hk
  have g1 := g.1
  have g2 := g.2.1
  refine ⟨(fs.getD i (0, [])).1.toNat, rest', _, tn, hm, e, hf', by omega, fun j h1 h2 => ?_, ?_⟩
  · have hp' := List.pairwise_iff_getElem.mp hs i j hi h2 (by omega)
    have ei : fs.getD i (0, []) = fs[i] := by rw [List.getD_eq_getElem?_getD, List.getElem?_eq_getElem hi]; rfl
    have ej : fs.getD j (0, []) = fs[j] := by rw [List.getD_eq_getElem?_getD, List.getElem?_eq_getElem h2]; rfl
    rw [ej, Int.toNat_of_nonneg (by omega), ei]
    exact hp'
  · have := g.len
    rw [List.length_append, List.length_append, List.length_take, List.length_drop]
    omega
end Mine
end TextL9

section TextST
open PySem PySem.W PySem.W.X PySem.Calls PyProof.Rows PySem.Spec
set_option maxHeartbeats 0
set_option maxRecDepth 100000
namespace Mine
theorem fillST (w : World) (h : Heap) : (Lay.hd.heap_1_39 w.params).In h → PySem.Challenge.rw_bf0005_01.row.prog = PySem.Challenge.rw_bf0005_01.row.prog := by
  k_fill
  intros
  rfl
section
variable {w : World} {A : Around} {E : Value → Shared → Prop} {s : Shared} {h₀ : Heap} {L a d : Addr} {m : PySem.Str → Option Value} {own news : List (Addr × Obj)} {x : PySem.Str} {t : Tok}
theorem strOf_line {Q : Value → Shared → Prop} (XS : (Lay.hd.heap_1_39 w.params).In s.heap) (ho : s.heap.get? a = some (lineObj x d t)) (hu : A.units < cLine) (hx : x.length ≤ 8192) (h : ∀ t' k, Q (.str x t') { s with toks := k }) :
    wpAny (model PySem.Challenge.rw_bf0005_01.row.prog w) A (PySem.Builtin.Str.strOf (.ref a)) Q E s := by
  unfold PySem.Builtin.Str.strOf
  rw [show Builtin.Str.isExactStr (.ref a) = false from rfl]
  refine wpAny_bind (m := cRoomFor _ _) (wpAny_cRoomFor hu ?_)
  unfold callSpecial?
  refine wpAny_bind ?_
  refine wpAny_bind ?_
  show wpAny _ _ _ _ _ _
  refine s_load XS 0 (by kernel_rfl) ho ?_
  show wpAny _ _ _ _ _ _
  refine s_pure (a := some (.builtin "str.__str__")) XS 400 (by kernel_rfl) ?_
  dsimp only
  refine wpAny_holding ?_
  refine wpAny_bind ?_
  show wpAny _ _ _ _ _ _
  refine s_pure (a := (.builtin "str.__str__", [.ref a])) XS 400 (by kernel_rfl) ?_
  dsimp only
  refine wpAny_bind ?_
  show wpAny _ _ (call (.builtin "str.__str__") [.ref a] []) _ _ _
  refine wpAny_call (codeAny_call_builtin (show plainId "str.__str__" = true by decide +kernel) F.entry_str_str ?_)
  show wpAny _ _ _ _ _ _
  refine s_load XS 0 (by kernel_rfl) ho ?_
  refine s_pure (a := ()) XS 400 (by kernel_rfl) ?_
  show wpAny _ _ _ _ _ _
  refine s_load XS 0 (by kernel_rfl) ho ?_
  refine s_is (t' := do ret (← mkStr x)) (by kernel_rfl) ?_
  refine wpAny_bind (wpAny_mkStr ?_ (by rw [sizeLine_eq]; omega))
  refine s_pure (s := { s with toks := s.toks + 1 }) (a := .done (.ret (.str x s.toks))) XS 10 (by kernel_rfl) ?_
  show wpAny _ _ _ _ _ _
  refine wpAny_pure ?_
  refine s_pure (s := { s with toks := s.toks + 1 }) (a := .str x s.toks) XS 40 (by kernel_rfl) ?_
  exact h _ _
theorem str_line {Q : Value → Shared → Prop} (XS : (Lay.hd.heap_1_39 w.params).In s.heap) (ho : s.heap.get? a = some (lineObj x d t)) (hu : A.units + 10 < cLine) (hx : x.length ≤ 8192) (h : ∀ t' k, Q (.str x t') { s with toks := k }) :
    wpAny (model PySem.Challenge.rw_bf0005_01.row.prog w) A (call (.type "str") [.ref a]) Q E s := by
  refine wpAny_call (codeAny_of_tree ?_)
  show wpAny _ _ (callAny (.type "str") _) _ _ _
  refine s_pure (a := .again (.builtin "type.__call__" ⟨.type "str" :: [.ref a], []⟩)) XS 400 (by kernel_rfl) ⟨tcall_quiet _, ?_⟩
  refine codeAny_builtin tcall_entry ?_
  show wpAny _ _ _ _ _ _
  refine s_call (c := .call (.builtin "str.__new__") ⟨[.type "str", .ref a], []⟩) (hd := none) XS 400 (by kernel_rfl) (by intro h; cases h) ?_
  refine codeAny_call_builtin strnew_plain strnew_entry ?_
  refine s_pure (a := ()) XS 400 (by kernel_rfl) ?_
  unfold Builtin.«str.__new__»
  dsimp only
  refine wpAny_bind (s_pure (a := true) XS 40 (by kernel_rfl) ?_)
  refine wpAny_bind (s_pure (a := true) XS 40 (by kernel_rfl) ?_)
  rw [if_neg (ne_true_of_eq_false (by kernel_rfl))]
  rw [if_neg (ne_true_of_eq_false (by kernel_rfl))]
  refine wpAny_bind (s_pure (a := [some (.ref a), none, none]) XS 40 (by kernel_rfl) ?_)
  dsimp only
  refine wpAny_bind (s_pure (a := none) XS 40 (by kernel_rfl) ?_)
  refine wpAny_bind (s_pure (a := none) XS 40 (by kernel_rfl) ?_)
  refine s_is (if_pos (by rfl)) ?_
  refine wpAny_bind (strOf_line XS ho ?_ hx fun t' k => ?_)
  · show A.units + _ + 1 < cLine
    have : (Code.builtin "type.__call__" ⟨[.type "str", .ref a], []⟩).cUnits ≤ 7 := Nat.le_of_ble_eq_true (by kernel_rfl)
    omega
  refine s_is (if_pos (by rfl)) ?_
  refine s_pure (a := .done (.ret (.str x t'))) XS 40 (by kernel_rfl) ?_
  show wpAny _ _ (kCall _ _) _ _ _
  refine s_call (s := { s with toks := k }) (c := .call (.builtin "object.__init__") ⟨[.str x t', .ref a], []⟩) (hd := none) XS 400 (by kernel_rfl) (by intro h; cases h) ?_
  refine codeAny_call_builtin oin_plain oin_entry ?_
  refine s_pure (s := { s with toks := k }) (a := ()) XS 400 (by kernel_rfl) ?_
  refine s_pure (s := { s with toks := k }) (a := .done (.ret .none)) XS 400 (by kernel_rfl) ?_
  show wpAny _ _ (kCall _ _) _ _ _
  refine s_pure (s := { s with toks := k }) (a := .done (.ret (.str x t'))) XS 400 (by kernel_rfl) ?_
  exact h t' k
theorem str_lineN {Q : Value → Shared → Prop} (F : Fr h₀ L s.heap m) (X : (Lay.hd.heap_1_39 w.params).In h₀) (N : News h₀ L s.heap news) (hm : (a, lineObj x d t) ∈ news) (hu : A.units + 10 < cLine) (hx : x.length ≤ 8192) (h : ∀ t' k, Q (.str x t') { s with toks := k }) :
    wpAny (model PySem.Challenge.rw_bf0005_01.row.prog w) A (call (.type "str") [.ref a]) Q E s := str_line (X.keeps F.keep) (N.get hm) hu hx h
end
end Mine
end TextST

section TextIT
open PySem PySem.W PySem.W.X PySem.Calls PyProof.Rows PySem.Spec
set_option maxHeartbeats 0
set_option maxRecDepth 100000
namespace Mine
theorem fillIT (w : World) (h : Heap) : (Lay.hd.heap_1_39 w.params).In h → PySem.Challenge.rw_bf0005_01.row.prog = PySem.Challenge.rw_bf0005_01.row.prog := by
  k_fill
  intros
  rfl
section
variable {w : World} {A : Around} {E : Value → Shared → Prop} {s : Shared} {h₀ : Heap} {L S d : Addr} {m : PySem.Str → Option Value} {own news : List (Addr × Obj)} {items : Array Value} {c : Nat}
theorem iter_lines {Q : Value → Shared → Prop} (XS : (Lay.hd.heap_1_39 w.params).In s.heap) (ho : s.heap.get? S = some (linesObj d items c)) (h : ∀ h' I, h' = s.heap.push { cls := .type "list_iterator", data := .fields #[.ref S, .int 0 0] } → I = s.heap.objs.size → Q (.ref I) { s with heap := h' }) :
    wpAny (model PySem.Challenge.rw_bf0005_01.row.prog w) A (pyIter (.ref S)) Q E s := by
  unfold pyIter
  refine wpAny_bind ?_
  show wpAny _ _ _ _ _ _
  refine s_load XS 0 (by kernel_rfl) ho ?_
  refine s_pure (a := some (.builtin "list.__iter__")) XS 400 (by kernel_rfl) ?_
  dsimp only
  refine wpAny_bind ?_
  unfold callSpecialIfBoundUnlessNone?
  refine wpAny_holding (wpAny_bind ?_)
  unfold bindSpecialIfBound?
  refine wpAny_bind ?_
  show wpAny _ _ _ _ _ _
  refine s_load XS 0 (by kernel_rfl) ho ?_
  refine s_pure (a := some (.builtin "list.__iter__")) XS 400 (by kernel_rfl) ?_
  dsimp only
  refine wpAny_bind (x_ask (wpAny_pure ?_))
  have go : ∀ {Q : Option (Value × List Value) → Shared → Prop}, Q (some (.builtin "list.__iter__", [.ref S])) s → wpAny (model PySem.Challenge.rw_bf0005_01.row.prog w) A (if w.params.followText "special-get-raises" = true then (do let __do_lift ← bindSpecial (.builtin "list.__iter__") (.ref S); pure (some __do_lift)) else tryCatch (do let __do_lift ← bindSpecial (.builtin "list.__iter__") (.ref S); pure (some __do_lift)) fun _ => do rule "special.get-raises-dropped"; pure none) Q E s := by
    intro Q hq
    split
    · exact s_pure XS 400 (by kernel_rfl) hq
    · exact s_pure XS 400 (by kernel_rfl) hq
  refine go ?_
  dsimp only
  refine s_is (if_neg (by decide)) ?_
  refine wpAny_bind ?_
  refine wpAny_call (codeAny_call_builtin (show plainId "list.__iter__" = true by decide +kernel) entry_list_iter ?_)
  show wpAny _ _ _ _ _ _
  refine s_load XS 0 (by kernel_rfl) ho ?_
  refine s_pure (a := ()) XS 400 (by kernel_rfl) ?_
  show wpAny _ _ (do ret (← newFields "list_iterator" [.ref S, rawInt 0])) _ _ s
  refine wpAny_bind (wpAny_newObj_type (wpAny_pure ?_))
  have XI : (Lay.hd.heap_1_39 w.params).In (s.heap.push { cls := .type "list_iterator", data := .fields #[.ref S, rawInt 0] }) := XS.keeps fun b o e => Heap.get?_push_of_some _ e
  refine wpAny_pure ?_
  dsimp only
  refine wpAny_bind ?_
  show wpAny _ _ (specialOf (.ref s.heap.objs.size) (Str.ofString "__next__")) _ _ _
  refine s_load (s := { s with heap := s.heap.push { cls := .type "list_iterator", data := .fields #[.ref S, rawInt 0] } }) XI 0 (by kernel_rfl) (Heap.get?_push_size _ rfl) ?_
  refine s_pure (s := { s with heap := s.heap.push { cls := .type "list_iterator", data := .fields #[.ref S, rawInt 0] } }) (a := some (.builtin "list_iterator.__next__")) XI 400 (by kernel_rfl) ?_
  exact wpAny_pure (h _ _ rfl rfl)
end
section
variable {prog : Program} {w : World} {A : Around} {E : Value → Shared → Prop} {s : Shared} {S d I : Addr} {items : Array Value} {c i : Nat}
theorem next_line {x : Value} {Q : Option Value → Shared → Prop} (hit : s.heap.IsListIter I S i) (hl : s.heap.get? S = some (linesObj d items c)) (hx : items[i]? = some x)
    (h : ∀ h', h'.IsListIter I S (i + 1) → Heap.SameBut I s.heap h' → Q (some x) { s with heap := h' }) : wpAny (model prog w) A (pyNext (.ref I)) Q E s := by
  have hT := hit.typeIs
  obtain ⟨o, ho, hc, hd⟩ := hit
  unfold pyNext
  refine wpAny_bind (wpAny_attempt (wpAny_callSpecial?_slot (name := Str.ofString "__next__") hT slot_listiter_next (wpAny_call_entry slot_listiter_next hT entry_listiter_next ?_ (args_listiter_next _))))
  refine wpAny_bind (m := field (.ref I) 0) (wpAny_field ho hd (x := .ref S) rfl ?_)
  refine wpAny_bind (m := field (.ref I) 1) (wpAny_field ho hd (x := .int i 0) rfl ?_)
  refine wpAny_bind (m := seqItems? (.ref S)) (wpAny_seqItems hl rfl ?_)
  simp only [Int.toNat_natCast, hx]
  refine wpAny_bind (wpAny_setField ho hd (by simp) (wpAny_pure ⟨x, rfl, wpAny_pure (h _ ⟨_, Heap.get?_update_self _ ho (Obj.isFreed_of_fields (Obj.data_mapFields hd _)), (Obj.cls_mapFields ..).trans hc, ?_⟩ (Heap.SameBut.update ..))⟩))
  rw [Obj.data_mapFields hd]
  simp [rawInt]
theorem done_line {Q : Option Value → Shared → Prop} (hh : A.handled = none) (hit : s.heap.IsListIter I S i) (hl : s.heap.get? S = some (linesObj d items c)) (hx : items[i]? = none)
    (h : ∀ h', (∀ b o, b ≠ I → s.heap.get? b = some o → h'.get? b = some o) → Q none { s with heap := h' }) : wpAny (model prog w) A (pyNext (.ref I)) Q E s := by
  have hT := hit.typeIs
  obtain ⟨o, ho, hc, hd⟩ := hit
  unfold pyNext
  refine wpAny_bind (wpAny_attempt (wpAny_callSpecial?_slot (name := Str.ofString "__next__") hT slot_listiter_next (wpAny_call_entry slot_listiter_next hT entry_listiter_next ?_ (args_listiter_next _))))
  refine wpAny_bind (m := field (.ref I) 0) (wpAny_field ho hd (x := .ref S) rfl ?_)
  refine wpAny_bind (m := field (.ref I) 1) (wpAny_field ho hd (x := .int i 0) rfl ?_)
  refine wpAny_bind (m := seqItems? (.ref S)) (wpAny_seqItems hl rfl ?_)
  simp only [Int.toNat_natCast, hx]
  refine wpAny_bind (wpAny_rule (wpAny_bind (wpAny_setField ho hd (by simp) ?_)))
  refine wpAny_bind (m := newExc (.type "StopIteration") []) ?_
  simp only [newExc, newTuple]
  refine wpAny_bind (wpAny_newObj_type ?_ (by size_fits))
  refine wpAny_bind (m := firstArgMember _ _) (wpAny_of_eq (a := Value.none) rfl ?_)
  refine wpAny_newObj_type ?_ (by size_fits)
  simp only [raiseNew]
  refine wpAny_bind (wpAny_handled ?_)
  rw [show A.in1.handled = none from hh]
  refine wpAny_bind (wpAny_pure (wpAny_throw ?_))
  refine wpAny_bind (wpAny_isInstance (T := "StopIteration") (b := true) ⟨_, Heap.get?_push_size _ rfl, rfl⟩ isSubtype_stop ?_)
  refine wpAny_pure (h _ ?_)
  exact ((Heap.SameBut.update ..).extBut.push _).push _
theorem walks_lines (hne : S ≠ I) : ∀ A' : Around, A'.handled = none → Walks prog w A' I [I, S] [I] items.size (fun i v => items[i]? = some v) (fun i h => h.IsListIter I S i ∧ h.get? S = some (linesObj d items c)) := fun A' hh => {
  sub := fun b hb => by rw [List.mem_singleton.mp hb]; exact .head _
  frame := fun i h h' st k => ⟨let ⟨o, e, r⟩ := st.1; ⟨o, k I (.head _) o e, r⟩, k S (.tail _ (.head _)) _ st.2⟩
  item := fun i s Q E hi st hQ => next_line st.1 st.2 (x := items[i]) (by simp [hi]) fun h' i1 sb =>
    hQ _ h' s.toks (by simp [hi]) ⟨i1, (sb.2 S hne).trans st.2⟩ fun b o hb e => (sb.2 b fun q => hb (by rw [q]; exact .head _)).trans e
  done := fun s Q E st hQ => done_line hh st.1 st.2 (by simp) fun h' k => hQ h' s.toks fun b o hb e => k b o (fun q => hb (by rw [q]; exact .head _)) e
  self := fun i s Q E st hQ => wpAny_pyIter_listiter st.1 hQ }
end
noncomputable def txtOf (h : Heap) : Value → PySem.Str
  | .ref a => (match h.get? a with | some ⟨_, _, .prim (.str x _), _⟩ => x | _ => PySem.Str.ofString "")
  | .str x _ => x
  | _ => PySem.Str.ofString ""
theorem txtOf_ref {h : Heap} {a d : Addr} {x : PySem.Str} {t : Tok} (e : h.get? a = some (lineObj x d t)) : txtOf h (.ref a) = x := by
  simp only [txtOf, e]
section
variable {w : World} {A : Around} {E : Value → Shared → Prop} {s : Shared} {h₀ : Heap} {L S d a1 d1 a2 d2 : Addr} {m : PySem.Str → Option Value} {news : List (Addr × Obj)} {x1 x2 x3 : PySem.Str} {t1 t2 t3 : Tok} {c : Nat} {env : Env} {scope : Scope} {p1 p2 p3 : Pos} {mg mb : PySem.Str → Option Value} {pv : Program} {loose : List PySem.Str} {mean : ExcName → Option Value}
theorem lines_comp {Q : Value → Shared → Prop} (F : Fr h₀ L s.heap m) (X : (Lay.hd.heap_1_39 w.params).In h₀) (N : News h₀ L s.heap news) (T : Top pv loose mean mg mb h₀)
    (mS : (S, linesObj d #[.ref a1, .ref a2, .str x3 t3] c) ∈ news) (m1 : (a1, lineObj x1 d1 t1) ∈ news) (m2 : (a2, lineObj x2 d2 t2) ∈ news) (hh : A.handled = none) (hu : A.units + 20 < cLine) (z1 : x1.length ≤ 8192) (z2 : x2.length ≤ 8192)
    (hgl : env.globals = mainGlobals) (hbi : env.builtins = builtinsNs) (hk : scope.kind = .function) (hx : scope.names.lookup (PySem.Str.ofString "line") = some .local) (hs : scope.names.lookup (PySem.Str.ofString "str") = some .globalImplicit)
    (h : ∀ D h' tk e u1 u2 u3, Fr h₀ L h' m → News h₀ L h' ((D, { cls := .type "list", data := .seq #[.str x1 u1, .str x2 u2, .str x3 u3] e }) :: news) → Q (.ref D) { s with heap := h', toks := tk }) :
    wpAny (model PySem.Challenge.rw_bf0005_01.row.prog w) A (pyIter (.ref S)) (CompPost PySem.Challenge.rw_bf0005_01.row.prog w A env scope (PySem.Str.ofString "line") [] (.Call (.Name (PySem.Str.ofString "str") p1) [.Name (PySem.Str.ofString "line") p2] [] p3) Q) E s := by
  have XS := X.keeps F.keep
  have hS := N.get mS
  have h1 := N.get m1
  have h2 := N.get m2
  refine iter_lines XS hS fun hI I eI eI2 => ?_
  subst eI2
  have keep : ∀ b o, s.heap.get? b = some o → hI.get? b = some o := fun b o e => eI ▸ Heap.get?_push_of_some _ e
  have hit : hI.get? s.heap.objs.size = some { cls := .type "list_iterator", data := .fields #[.ref S, .int 0 0] } := eI ▸ Heap.get?_push_size _ rfl
  have hsz : hI.objs.size = s.heap.objs.size + 1 := eI ▸ Heap.size_push _ _
  have hne : S ≠ s.heap.objs.size := Nat.ne_of_lt (Heap.lt_size hS)
  have lt_ne : ∀ b o, s.heap.get? b = some o → b ∉ [s.heap.objs.size] := fun b o e q => by
    rw [List.mem_singleton.mp q] at e
    exact absurd (Heap.lt_size e) (Nat.lt_irrefl _)
  refine ⟨fun _ => true, fun v y => ∃ t, y = .str (txtOf s.heap v) t, s.heap.objs.size, [s.heap.objs.size, S], [s.heap.objs.size], 3, fun i v => (#[.ref a1, .ref a2, .str x3 t3] : Array Value)[i]? = some v, _, rfl, walks_lines (c := c) (d := d) (items := #[.ref a1, .ref a2, .str x3 t3]) hne A hh, by rw [sizeLine_eq]; omega, ⟨⟨_, hit, rfl, rfl⟩, keep _ _ hS⟩, fun b hb => ?_, ⟨?_, ?_⟩, ?_⟩
  · rcases List.mem_cons.mp hb with rfl | hb
    · rw [hsz]; exact Nat.lt_succ_self _
    · rw [List.mem_singleton.mp hb]
      rw [hsz]; exact Nat.lt_succ_of_lt (Heap.lt_size hS)
  · intro C i v s₃ m₃ E' _ _ _ _ _
    exact wpAny_tests_nil ⟨rfl, s₃.heap, s₃.toks, rfl, fun _ _ e => e⟩
  · intro C i v s₃ m₃ E' hP _ hn hm hk3 _
    have k3 : ∀ b o, s.heap.get? b = some o → s₃.heap.get? b = some o := fun b o e => hk3 b o (lt_ne b o e) (keep b o e)
    have k0 : ∀ b o, h₀.get? b = some o → s₃.heap.get? b = some o := fun b o e => k3 b o (F.keep b o e)
    refine Call_name1 rfl ?_
    refine Calls.Name_function_global hk hs (Calls.loadGlobal_builtin (mg := mg) (mb := mb) (by rw [show (compEnv scope C env).globals = mainGlobals from hgl]; exact T.g.keeps k0) (mg_none_of X T.g (by kernel_rfl)) (by rw [show (compEnv scope C env).builtins = builtinsNs from hbi]; exact T.b.keeps k0) ((T.builtins _ (by decide)).trans boot_str) ?_) (by decide)
    refine PySem.callWith_type rfl (Calls.evalArgs_plain (Calls.spliced_cons ?_))
    refine wpAny_Name (wpAny_loadName_local hk hx hn hm ?_) (by decide)
    refine Calls.spliced_nil ?_
    show wpAny _ _ (call (.type "str") [v] []) _ _ _
    match i, hP with
    | 0, hP =>
      cases hP
      refine str_line (X.keeps k0) (k3 _ _ h1) (by omega) z1 fun t' k => ⟨⟨t', ?_⟩, s₃.heap, k, rfl, fun _ _ e => e⟩
      exact congrArg (fun z => Value.str z t') (txtOf_ref h1).symm
    | 1, hP =>
      cases hP
      refine str_line (X.keeps k0) (k3 _ _ h2) (by omega) z2 fun t' k => ⟨⟨t', ?_⟩, s₃.heap, k, rfl, fun _ _ e => e⟩
      exact congrArg (fun z => Value.str z t') (txtOf_ref h2).symm
    | 2, hP =>
      cases hP
      exact P.str_of_str ⟨⟨t3, rfl⟩, s₃.heap, s₃.toks, rfl, fun _ _ e => e⟩
    | n + 3, hP => cases hP
  · intro D h' tk ys vs hD hl hpl hlen hP hF hk'
    have hvs : vs = [.ref a1, .ref a2, .str x3 t3] := by
      match vs, hlen with
      | [v0, v1, v2], _ =>
        have e0 := hP 0 v0 rfl
        have e1 := hP 1 v1 rfl
        have e2 := hP 2 v2 rfl
        cases e0; cases e1; cases e2; rfl
    subst hvs
    simp only [List.filter_cons, List.filter_nil, if_true] at hF
    obtain ⟨e, he⟩ := hpl
    have kk : ∀ b o, s.heap.get? b = some o → h'.get? b = some o := fun b o e => hk' b o (lt_ne b o e) (keep b o e)
    have tx1 : txtOf s.heap (.ref a1) = x1 := txtOf_ref h1
    have tx2 : txtOf s.heap (.ref a2) = x2 := txtOf_ref h2
    have hys : ∃ u1 u2 u3, ys = #[.str x1 u1, .str x2 u2, .str x3 u3] := by
      generalize hy : ys.toList = yl at hF
      cases hF with
      | cons f1 r1 => cases r1 with
        | cons f2 r2 => cases r2 with
          | cons f3 r3 =>
            cases r3
            obtain ⟨u1, rfl⟩ := f1
            obtain ⟨u2, rfl⟩ := f2
            obtain ⟨u3, rfl⟩ := f3
            refine ⟨u1, u2, u3, Array.toList_inj.mp ?_⟩
            rw [hy, tx1, tx2]
            rfl
    obtain ⟨u1, u2, u3, rfl⟩ := hys
    refine h D h' tk e u1 u2 u3 (F.keeps kk) fun p hp => ?_
    have nD : ∀ b o, s.heap.get? b = some o → D ≠ b := fun b o e q => by
      have := keep b o e
      rw [← q, hD] at this; cases this
    rcases List.mem_cons.mp hp with rfl | hp
    · refine ⟨he, ?_, ?_⟩
      · obtain ⟨oL, _, _, hL, _⟩ := F.ns
        exact nD L oL hL
      · cases q : h₀.get? D with
        | none => rfl
        | some o => exact absurd rfl (nD D o (F.keep _ _ q))
    · exact ⟨kk _ _ (N p hp).1, (N p hp).2⟩
end
end Mine
end TextIT

section TextEQ
open PySem PySem.W PySem.Calls PyProof.Rows PyProof.V PySem.Spec
set_option maxRecDepth 100000
namespace Mine
section
variable {prog : Program} {w : World} {A : Around} {E : Value → Shared → Prop} {s : Shared} {a b : Addr} {x1 x2 x3 : PySem.Str} {u1 u2 u3 v1 v2 v3 : Tok} {e e' : Nat} {Q : Value → Shared → Prop}
theorem shaped_three (k1 : PyData.strOk x1 = true) (k2 : PyData.strOk x2 = true) (k3 : PyData.strOk x3 = true) : SeqAt.shaped (.list [.str x1, .str x2, .str x3]) = true := by
  simp [SeqAt.shaped, PyData.canLay0, PyData.depth, PyData.canLayAll0, PyData.depthAll, k1, k2, k3]
theorem same_three : PySem.Spec.same (.list [.str x1, .str x2, .str x3]) (.list [.str x1, .str x2, .str x3]) = true := by
  simp [PySem.Spec.same, PySem.Spec.sameAll]
theorem eq_lines (ha : s.heap.get? a = some { cls := .type "list", data := .seq #[.str x1 u1, .str x2 u2, .str x3 u3] e }) (hb : s.heap.get? b = some { cls := .type "list", data := .seq #[.str x1 v1, .str x2 v2, .str x3 v3] e' })
    (k1 : PyData.strOk x1 = true) (k2 : PyData.strOk x2 = true) (k3 : PyData.strOk x3 = true) (hu : A.units + 64 < cLine) (h : Q (.bool true) s) : wpAny (model prog w) A (compareOp .Eq (.ref a) (.ref b)) Q E s :=
  eq_dataH_same (da := .list [.str x1, .str x2, .str x3]) (db := .list [.str x1, .str x2, .str x3]) (reads_newData (ys := [.str x1 u1, .str x2 u2, .str x3 u3]) ⟨_, ha, rfl, e, rfl⟩ (.cons (.str _ _) (.cons (.str _ _) (.cons (.str _ _) .nil)))) (reads_newData (ys := [.str x1 v1, .str x2 v2, .str x3 v3]) ⟨_, hb, rfl, e', rfl⟩ (.cons (.str _ _) (.cons (.str _ _) (.cons (.str _ _) .nil)))) (shaped_three k1 k2 k3) (shaped_three k1 k2 k3) hu
    (SeqAt.noMix_of_shape (.list .str) rfl _ _ (by simp [Shape.has]) (by simp [Shape.has])) (by rw [same_three]; exact h)
end
theorem enda_is : PySem.Str.ofString "END:A" = chs enda := by decide +kernel
theorem strOk_sg {y : List Nat} (h : ∀ c ∈ y, Sg c) : PyData.strOk (chs y) = true := by
  unfold PyData.strOk chs
  rw [List.all_toArray, List.all_eq_true]
  intro c hc
  have := h c hc
  unfold Sg at this
  simp only [List.mem_cons, List.not_mem_nil, or_false] at this
  rw [decide_eq_true_eq]
  omega
theorem eq_endN {prog : Program} {w : World} {A : Around} {E : Value → Shared → Prop} {s : Shared} {a b L : Addr} {h₀ : Heap} {news : List (Addr × Obj)} {y : List Nat} {u1 u2 u3 v1 v2 v3 : Tok} {e e' : Nat} {Q : Value → Shared → Prop} (N : News h₀ L s.heap news)
    (ma : (a, { cls := .type "list", data := .seq #[.str (chs y) u1, .str (chs enda) u2, .str (PySem.Str.ofString "") u3] e }) ∈ news) (mb : (b, listOf #[.str (chs y) v1, .str (PySem.Str.ofString "END:A") v2, .str (PySem.Str.ofString "") v3] e') ∈ news)
    (hy : ∀ c ∈ y, Sg c) (hu : A.units + 64 < cLine) (h : Q (.bool true) s) : wpAny (model prog w) A (compareOp .Eq (.ref a) (.ref b)) Q E s := by
  have hb := N.get mb
  rw [enda_is] at hb
  exact eq_lines (N.get ma) hb (strOk_sg hy) (by decide +kernel) (by decide +kernel) hu h
end Mine
end TextEQ

section TextLA
open PySem PySem.W PySem.W.X PySem.Calls PyProof.Rows PySem.Spec
namespace Mine
theorem fillLA (w : World) (h : Heap) : (Lay.hd.heap_1_39 w.params).In h → PySem.Challenge.rw_bf0005_01.row.prog = PySem.Challenge.rw_bf0005_01.row.prog := by
  k_fill
  intros
  rfl
local macro_rules | `(tactic| k_ne) => `(tactic| first | assumption | exact Ne.symm (by assumption) | exact Nat.ne_of_lt (by assumption) | exact Nat.ne_of_gt (by assumption))
local macro_rules | `(tactic| k_all) => `(tactic| first | assumption | exact List.forall_mem_nil _ | (refine' List.forall_mem_cons.mpr ⟨?xa, ?xb⟩; (case xa => k_ne); (case xb => k_all)))
local macro_rules | `(tactic| walk_at "exec For Name Call cons nil") => `(tactic| refine' for_hold ?_)
theorem forT_hold {M : Model} {A : Around} {E : Value → Shared → Prop} {s : Shared} {env : Env} {x y : PySem.Str} {px py pt pos : Pos} {k : Nat} {iter : PySem.Expr} {body : List Stmt} {Q : Flow → Shared → Prop} (h : Hold (wpAny M A (exec (.For (.Tuple [.Name x px, .Name y py] k pt) iter body [] pos) env) Q E s)) : wpAny M A (exec (.For (.Tuple [.Name x px, .Name y py] k pt) iter body [] pos) env) Q E s := h
local macro_rules | `(tactic| walk_at "exec For Tuple Call cons nil") => `(tactic| refine' forT_hold ?_)
theorem iter_hold {M : Model} {A : Around} {E : Value → Shared → Prop} {s : Shared} {v : Value} {Q : Value → Shared → Prop} (h : Hold (wpAny M A (pyIter v) Q E s)) : wpAny M A (pyIter v) Q E s := h
local macro_rules | `(tactic| walk_at "pyIter ref") => `(tactic| refine' iter_hold ?_)
theorem is_457 {M : Model} {A : Around} {E : Value → Shared → Prop} {s : Shared} {v kw} {Q : Value → Shared → Prop} (h : wpAny M A (call (.ref 457) v kw) Q E s) : wpAny M A (call (.ref 457) v kw) Q E s := h
theorem is_450 {M : Model} {A : Around} {E : Value → Shared → Prop} {s : Shared} {v kw} {Q : Value → Shared → Prop} (h : wpAny M A (call (.ref 450) v kw) Q E s) : wpAny M A (call (.ref 450) v kw) Q E s := h
local macro_rules | `(tactic| walk_at "call ref") => `(tactic| k_dflt (k_here; (refine' is_457 ?_); (with_unfolding_all refine' draw_any ?B ?F ?X ?N ?T ?hk ?hdp ?hu ?U ?hn ?hb ?_); (case B => k_asm); (case F => k_asm); (case X => k_asm); (case N => k_asm); (case T => k_asm); (case hk => exact rfl); (case hdp => ktr_room); (case hu => ktr_units); (case U => k_updF); (case hn => first | decide | omega); (case hb => assumption); intro t1' t2' b' d' h' tk' hb' hd' hn' F' N'; (try dsimp only [List.nil_append, List.cons_append] at N')))
local macro_rules | `(tactic| walk_at "call ref") => `(tactic| k_dflt (k_here; (refine' is_450 ?_); (with_unfolding_all refine' bag_call ?B ?F ?X ?N ?T ?hk ?hdp ?hu ?hL ?hI ?hns ?_); (case B => k_asm); (case F => k_asm); (case X => k_asm); (case N => k_asm); (case T => k_asm); (case hk => exact rfl); (case hdp => ktr_room); (case hu => ktr_units); (case hL => assumption); (case hI => assumption); (case hns => assumption); intro bg' b' t' h' tk' hb' F' N' l1'; (try k_lt l1')))
local macro_rules | `(tactic| walk_at "subscriptTail") => `(tactic| k_dflt (k_here; first
  | (refine' item_sign ?N ?hm ?hw ?h0 ?h1 ?_; (case N => k_asm); (case hm => k_mem); (case hw => repeat constructor); (case h0 => assumption); (case h1 => assumption); intro c' t' hc')
  | (refine' item_unit ?N ?hm ?hw ?h0 ?h1 ?_; (case N => k_asm); (case hm => k_mem); (case hw => repeat constructor); (case h0 => assumption); (case h1 => assumption); intro c' t' hc' hl')
  | (refine' item_blank ?N ?hm ?hw ?h0 ?h1 ?_; (case N => k_asm); (case hm => k_mem); (case hw => repeat constructor); (case h0 => assumption); (case h1 => assumption); intro c' t' hc')
  | (refine' item_btw ?N ?hm ?hw ?h0 ?h1 ?_; (case N => k_asm); (case hm => k_mem); (case hw => repeat constructor); (case h0 => assumption); (case h1 => assumption); intro y' t' hy')
  | (refine' item_lim ?N ?hm ?hw ?hk ?h0 ?h1 ?_; (case N => k_asm); (case hm => k_mem); (case hw => repeat constructor); (case hk => rfl); (case h0 => assumption); (case h1 => assumption); intro y' t')))
local macro_rules | `(tactic| walk_at "subscriptTail") => `(tactic| k_dflt (k_here; (with_reducible show wpAny _ _ (subscriptTail _ (Expr.Slice _ _ _ _) (Value.str _ _) (Value.ref _)) _ _ _); (with_reducible rename Fr _ _ _ _ => F'); (with_reducible rename News _ _ _ _ => N'); first
  | (refine cut_told (s := ⟨_, _, _, _, _⟩) F' N' (by assumption) (by omega) ?_; intro y' h' t' k' hy1 hy2 hy3 F' N')
  | (refine cut_to (s := ⟨_, _, _, _, _⟩) F' N' (by omega) (by first | omega | (simp only [List.length_cons, List.length_nil, List.length_append, List.length_replicate, List.length_take, List.length_drop]; omega)) ?_; intro h' t' k' F' N')
  | (refine cut_from (s := ⟨_, _, _, _, _⟩) F' N' (by omega) (by first | omega | (simp only [List.length_cons, List.length_nil, List.length_append, List.length_replicate, List.length_take, List.length_drop]; omega)) (by first | omega | (simp only [List.length_cons, List.length_nil, List.length_append, List.length_replicate, List.length_take, List.length_drop]; omega)) ?_; intro h' t' k' F' N')))
theorem is_471 {M : Model} {A : Around} {E : Value → Shared → Prop} {s : Shared} {v kw} {Q : Value → Shared → Prop} (h : wpAny M A (call (.ref 471) v kw) Q E s) : wpAny M A (call (.ref 471) v kw) Q E s := h
theorem is_54 {M : Model} {A : Around} {E : Value → Shared → Prop} {s : Shared} {v kw} {Q : Value → Shared → Prop} (h : wpAny M A (call (.ref 54) v kw) Q E s) : wpAny M A (call (.ref 54) v kw) Q E s := h
theorem is_478 {M : Model} {A : Around} {E : Value → Shared → Prop} {s : Shared} {v kw} {Q : Value → Shared → Prop} (h : wpAny M A (call (.ref 478) v kw) Q E s) : wpAny M A (call (.ref 478) v kw) Q E s := h
theorem len110 {y : List Nat} (h : y.length ≤ 110) : (chs y).cps.toList.length ≤ 4096 := Nat.le_trans h (by decide)
theorem sgs {y : List Nat} (h : ∀ c ∈ y, Sg c) : ∀ c ∈ (chs y).cps.toList, Sg c := h
theorem nes {y : List Nat} (h : y ≠ []) : (chs y).cps.toList ≠ [] := h
local macro_rules | `(tactic| walk_at "call ref") => `(tactic| k_dflt (k_here; (refine' is_471 ?_); (with_unfolding_all refine' pieces_call ?B ?F ?X ?N ?T ?hk ?hdp ?hu ?hlen ?_); (case B => k_asm); (case F => k_asm); (case X => k_asm); (case N => k_asm); (case T => k_asm); (case hk => exact rfl); (case hdp => ktr_room); (case hu => ktr_units); (case hlen => exact len110 (by assumption)); intro pl' us' ls' t' e' h' tk' hU' hls' F' N' hpl'; subst hls'))
local macro_rules | `(tactic| walk_at "call ref") => `(tactic| k_dflt (k_here; (refine' is_54 ?_); (with_unfolding_all refine' fold_call ?B ?F ?X ?N ?T ?hk ?hdp ?hu ?hbinds ?hlen ?hsg ?hne ?hsep ?_); (case B => k_asm); (case F => k_asm); (case X => k_asm); (case N => k_asm); (case T => k_asm); (case hk => exact rfl); (case hdp => ktr_room); (case hu => ktr_units); (case hbinds => (refine' binds_at ?e0 ?h0; (case e0 => k_is); (case h0 => first | exact BindsTo.of_eq rfl | exact binds_K (by k_in) rfl (by k_is) rfl rfl rfl))); (case hlen => exact len110 (by assumption)); (case hsg => exact sgs (by assumption)); (case hne => exact nes (by assumption)); (case hsep => first | assumption | decide); intro t' h' tk' F' N'))
local macro_rules | `(tactic| walk_at "call builtin:str.join") => `(tactic| k_dflt (k_here; (refine' join_pieces ?N ?hm ?hU ?hy ?h3 ?_); (case N => k_asm); (case hm => k_mem); (case hU => assumption); (case hy => assumption); (case h3 => first | assumption | decide); intro t' k'))
local macro_rules | `(tactic| walk_at "compareOp NotEq str str") => `(tactic| k_dflt (k_here; refine' ne_same ?_))
local macro_rules | `(tactic| walk_at "compareOp Eq str str") => `(tactic| k_dflt (k_here; refine' eq_same ?_))
local macro_rules | `(tactic| walk_at "call ref") => `(tactic| k_dflt (k_here; (refine' is_478 ?_); (with_unfolding_all refine' refuses_call ?B ?F ?X ?N ?T ?hk ?hdp ?hu ?XB ?TB ?hno ?_); (case B => k_asm); (case F => k_asm); (case X => k_asm); (case N => k_asm); (case T => k_asm); (case hk => exact rfl); (case hdp => ktr_room); (case hu => ktr_units); (case XB => assumption); (case TB => assumption); (case hno => exact has_nl _); intro h' tk' F' N'))
local macro_rules | `(tactic| walk_at "call builtin:len") => `(tactic| k_dflt (k_here; (refine' len_told ?hz ?_); (case hz => assumption); intro t' k'))
local macro_rules | `(tactic| walk_at "call builtin:list.append") => `(tactic| k_dflt (k_here; (refine' append_last ?F ?N ?U ?z ?_; (case F => k_asm); (case N => k_asm); (case U => k_upd); (case z => omega)); intro h' F' N'; (try dsimp only [List.nil_append, List.cons_append] at N')))
local macro_rules | `(tactic| walk_at "call type:range") => `(tactic| k_dflt (k_here; (rename Fr _ _ _ _ => F'); (rename News _ _ _ _ => N'); (with_unfolding_all refine range1_rows F' N' ?_); intro _ _ _ _ _ _ _ _ _))
local macro_rules | `(tactic| walk_at "call builtin:sorted") => `(tactic| k_dflt (k_here; (refine' sorted_N3 ?F ?N ?hT ?h3 ?_; (case F => k_asm); (case N => k_asm); (case hT => assumption); (case h3 => assumption)); intro D' out' fs' c' h' hT' hp' hs' F' N' l'))
theorem only428 {h₀ h : Heap} {L D q l b : Addr} {Do qo lo bo : Obj} {ps : Array Value} {rest : List (Addr × Obj)} (N : News h₀ L h ((q, qo) :: (D, Do) :: (l, lo) :: (b, bo) :: (428, tab ps) :: rest)) : News h₀ L h ((428, tab ps) :: []) := fun p hp => by
  rw [List.mem_singleton.mp hp]
  exact N _ (.tail _ (.tail _ (.tail _ (.tail _ (.head _)))))
local macro_rules | `(tactic| walk_at "call ref") => `(tactic| k_dflt (k_here; (refine' call_meth ?N ?hq ?_; (case N => k_asm); (case hq => exact List.Mem.head _); (rename News _ _ _ _ => N9); (have N8 := only428 N9); clear N9; (with_unfolding_all refine' fl_code ?B ?F ?X N8 ?T ?hef ?hk ?hdp ?hu ?H ?hz ?hz2 ?hc ?hne ?hn4 ?hgens ?_); (case B => k_asm); (case F => k_asm); (case X => k_asm); (case T => k_asm); (case hef => exact rfl); (case hk => exact rfl); (case hdp => ktr_room); (case hu => ktr_units); (case H => assumption); (case hz => omega); (case hz2 => omega); (case hc => assumption); (case hne => assumption); (case hn4 => exact List.forall_mem_nil _); (case hgens => assumption); intro S' d' a1' d1' t1' a2' d2' t2' t3' c' ps' h' tk' gens' F' N' G' l1' l2' l3' l4')))
local macro_rules | `(tactic| walk_at "call ref") => `(tactic| k_dflt (k_here; (refine' call_meth ?N ?hq ?_; (case N => k_asm); (case hq => exact List.Mem.head _); (with_unfolding_all refine' fi_code ?B ?F ?X ?N ?T ?hef ?hk ?hdp ?hu ?H ?hz ?hno ?hx8 ?_); (case B => k_asm); (case F => k_asm); (case X => k_asm); (case N => k_asm); (case T => k_asm); (case hef => exact rfl); (case hk => exact rfl); (case hdp => ktr_room); (case hu => ktr_units); (case H => assumption); (case hz => omega); (case hno => exact no10 (by assumption)); (case hx8 => rw [chs_len]; omega); intro a' d' t' h' tk' F' N' l1' l2')))
local macro_rules | `(tactic| walk_at "call type:str") => `(tactic| k_dflt (k_here; (refine' str_lineN ?F ?X ?N ?hm ?hu ?hx ?_; (case F => k_asm); (case X => k_asm); (case N => k_asm); (case hm => k_mem); (case hu => ktr_units); (case hx => rw [chs_len]; omega)); intro t' k'))
theorem le110 {y : List Nat} (h : y.length ≤ 110) : (chs y).length ≤ 8192 := by rw [chs_len]; omega
theorem enda8 : (chs enda).length ≤ 8192 := by decide
local macro_rules | `(tactic| walk_at "pyIter ref") => `(tactic| k_dflt (k_here; (with_reducible show wpAny _ _ (pyIter _) (CompPost _ _ _ _ _ _ _ _ _) _ _); (refine' lines_comp ?F ?X ?N ?T ?mS ?m1 ?m2 ?hh ?hu ?z1 ?z2 ?hgl ?hbi ?hk ?hx ?hs ?_; (case F => k_asm); (case X => k_asm); (case N => k_asm); (case T => k_asm); (case mS => k_mem); (case m1 => k_mem); (case m2 => k_mem); (case hh => exact rfl); (case hu => ktr_units); (case z1 => exact le110 (by assumption)); (case z2 => exact enda8); (case hgl => exact rfl); (case hbi => exact rfl); (case hk => exact rfl); (case hx => decide); (case hs => decide)); intro D' h' tk' e' u1' u2' u3' F' N'))
local macro_rules | `(tactic| walk_at "compareOp Eq ref ref") => `(tactic| k_dflt (k_here; (refine' eq_endN ?N ?ma ?mb ?hy ?hu ?_; (case N => k_asm); (case ma => k_mem); (case mb => k_mem); (case hy => assumption); (case hu => ktr_units))))
local macro_rules | `(tactic| walk_at "binaryOp Mult str int") => `(tactic| k_dflt (k_here; (refine' mul_sign ?h1 ?h2 ?_); (case h1 => omega); (case h2 => omega); intro t' k'))
local macro_rules | `(tactic| walk_at "binaryOp Add str str") => `(tactic| k_dflt (k_here; (refine' add_chs ?hs ?_); (case hs => first | omega | (simp only [List.length_cons, List.length_nil, List.length_append, List.length_replicate, List.length_take, List.length_drop]; omega)); intro t' k'))
local macro_rules | `(tactic| walk_at "binaryOp Add str str") => `(tactic| k_dflt (k_here; (first | refine' add_eq nl_is ?hs ?_ | refine' add_eq end_is ?hs ?_); (case hs => first | omega | (simp only [List.length_cons, List.length_nil, List.length_append, List.length_replicate]; omega)); intro t' k'))
set_option maxRecDepth 100000 in
set_option maxHeartbeats 0 in
theorem law_call {w : World} {s : Shared} {mg mb : PySem.Str → Option Value} {loose : List PySem.Str} {mean : ExcName → Option Value} {dp un : Nat} {gd : Option (List Code)} {l : Addr} {vs : List Value} {ns : List Int} {R : Result → Shared → Prop}
    (X : (Lay.hd.heap_1_39 w.params).In s.heap) (T : Top Lay.hd.view_1_40 loose mean mg mb s.heap) (h4 : s.heap.get? 428 = some (tab #[])) (hdp : dp + 400 < recursionLimit) (hu : un + 400 < cLine)
    (hL : s.heap.IsList l vs.toArray) (hI : IntsAre vs ns) (hns : ns.length ≤ 63) (hgens : AllBare s.gens)
    (ret : ∀ h' tk gens', (∀ b o, b ≠ 428 → s.heap.get? b = some o → h'.get? b = some o) → (∃ ps, h'.get? 428 = some (tab ps)) → AllBare gens' → R (.ok (.ret (.bool true))) { s with heap := h', toks := tk, gens := gens' }) :
    codeAny (model PySem.Challenge.rw_bf0005_01.row.prog w) { handled := none, depth := dp, frames := some [], guards := gd, units := un } (.call (.ref 483) ⟨[.ref l], []⟩) R s := by
  refine' code_top X T h4 ?kA ?k6 ?k7 ?k8 ?k9 ?kB ?_ ?c2 ?c3 ?c4 ?c5
  case kA => exact rfl
  case k6 => k_is
  case k7 => k_is
  case k8 => ktr_room
  case k9 => exact BindsTo.of_eq rfl
  case kB => exact locs rfl
  case c2 => decide
  case c3 => exact rfl
  case c4 => exact rfl
  case c5 => exact rfl
  intro g h₁ hg F1 N1 B1 X1 T1
  have hL1 : g.IsList l vs.toArray := hg ▸ list_hide hL h4
  have l0 : 428 < s.heap.objs.size := Heap.lt_size h4
  have keepG : ∀ b o, b ≠ 428 → s.heap.get? b = some o → g.get? b = some o := fun b o hb e => hg ▸ hide_keep e hb
  clear hg X T h4 hL
  try dsimp only
  k_steps
  rename Fr _ _ _ _ => F1
  unfold Hold
  with_unfolding_all refine' For_invVF F1 ?k1 ?k2 ?_
  case k1 => exact rfl
  case k2 => exact rfl
  k_steps
  unfold Hold
  clear F1
  rename Fr _ _ _ _ => F2
  rename News _ _ _ _ => N2
  rename IsRange _ _ _ _ _ _ _ _ => hr
  refine range_loop (JT l _ _ _) rfl hr (by omega) (by omega) F2 N2 ⟨[], _, _, _, .cons rfl (.cons rfl (.cons rfl (.cons (congrArg (fun z => some (Value.str z _)) X_is) .nil))), (fun _ h => nomatch h), by assumption, by simp, rfl⟩ ?turn ?done
  case turn =>
    clear F2 N2
    rintro i ti m₁ news₁ h tk I io hi ⟨x, t, b, tb, hm, hx, hb, hlen, rfl⟩ hI F3 N3
    rw [hm.eq] at F3
    dsimp only [kstB] at F3
    have hI1 := hI _ (.head _)
    have hI2 := hI _ (.tail _ (.head _))
    have hI3 := hI _ (.tail _ (.tail _ (.head _)))
    dsimp only at hI1 hI2 hI3
    k_steps
    rename Fr _ _ _ _ => F4
    rename News _ _ _ _ => N4
    refine TurnEnd.intro F4 N4 (List.forall_mem_cons.mpr ⟨hI1, List.forall_mem_cons.mpr ⟨hI2, List.forall_mem_cons.mpr ⟨hI3, List.forall_mem_nil _⟩⟩⟩) ⟨x ++ List.replicate _ _, _, _, _, .cons rfl (.cons rfl (.cons rfl (.cons rfl .nil))), fun c hc => ?_, by assumption, ?_, rfl⟩
    · rcases List.mem_append.mp hc with hc | hc
      · exact hx c hc
      · rw [(List.mem_replicate.mp hc).2]; assumption
    · rw [List.length_append, List.length_replicate]; omega
  case done =>
    clear F2 N2
    rintro m₁ news₁ h tk ⟨x, t, b, tb, hm, hx, hb, hlen, rfl⟩ F3 N3
    rw [hm.eq] at F3
    dsimp only [kstB] at F3
    clear hr
    have hz1 : x.length ≤ 4096 := by omega
    k_steps
    unfold Hold
    rename Fr _ _ _ _ => F1
    rename News _ _ _ _ => N1
    rename _ ∧ _ => hl9
    have hbf := hl9.2.2.2.2.2.1
    have h4f := hl9.2.2.2.2.2.2
    have N1' := pick3 N1
    rename ∀ c ∈ _, Sg c => hy1
    rename _ ≠ ([] : List Nat) => hy2
    rename _ ≤ 110 => hy3
    have hy4 := List.length_pos_iff.mpr hy2
    clear N1 hl9
    with_unfolding_all refine' For_invVF F1 ?k1 ?k2 ?_
    case k1 => exact rfl
    case k2 => exact rfl
    k_steps
    unfold Hold
    rename Fr _ _ _ _ => F2
    rename News _ _ _ _ => N2
    rename IsRange _ _ _ _ _ _ _ _ => hr
    clear F1 N1'
    refine range_loop (JFo _ _ _ _) rfl hr (by omega) (by omega) F2 N2 ⟨[], [], [], _, _, _, .cons rfl (.cons rfl (.cons rfl .nil)), .nil, (fun _ h => nomatch h), by assumption, rfl, (fun _ h => nomatch h), (fun _ h => nomatch h), rfl⟩ ?turn ?done
    case turn =>
      clear F2 N2 hr
      rintro i ti m₁ news₁ h tk I io hi ⟨fs, vs, tups, b, tb, e, hm, hT, hG, hb, hfl, htb, htf, rfl⟩ hI F3 N3
      rw [hm.eq] at F3
      dsimp only [kstB] at F3
      have hI1 := hI _ (.head _)
      have hI2 := hI _ (.tail _ (.head _))
      have hI3 := hI _ (.tail _ (.tail _ (.head _)))
      have htI : ∀ p ∈ tups, p.1 ≠ I := fun p hp => hI p (.tail _ (.tail _ (.tail _ hp)))
      dsimp only at hI1 hI2 hI3
      have hvl := hT.1
      k_steps
      unfold Hold
      clear F3
      rename Fr _ _ _ _ => F1
      with_unfolding_all refine' For_invVF F1 ?k1 ?k2 ?_
      case k1 => exact rfl
      case k2 => exact rfl
      k_steps
      unfold Hold
      clear F1
      rename Fr _ _ _ _ => F2
      rename News _ _ _ _ => N2
      rename IsRange _ _ _ _ _ _ _ _ => hr
      refine range_loop (JMk _ _ I (listOf vs.toArray e) io _ _ _ _ tups) rfl hr (by omega) (by omega) F2 N2 ⟨[], _, _, _, .cons rfl (.cons rfl (.cons rfl (.cons rfl (.cons (congrArg (fun z => some (Value.str z _)) chs_nil) .nil)))), (fun _ h => nomatch h), rfl, by assumption, rfl⟩ ?turn2 ?done2
      case turn2 =>
        clear F2 N2 hr
        rintro i2 ti2 m₂ news₂ h2 tk2 I2 io2 hi2 ⟨us, tm, b2, tb2, hm2, hu2, hl2, hb2, rfl⟩ hJ F4 N4
        rw [hm2.eq] at F4
        dsimp only [kstB] at F4
        have hJ1 := hJ _ (.head _)
        have hJ2 := hJ _ (.tail _ (.head _))
        have hJ3 := hJ _ (.tail _ (.tail _ (.head _)))
        have hJ4 := hJ _ (.tail _ (.tail _ (.tail _ (.head _))))
        have hJt : ∀ p ∈ tups, p.1 ≠ I2 := fun p hp => hJ p (.tail _ (.tail _ (.tail _ (.tail _ hp))))
        dsimp only at hJ1 hJ2 hJ3 hJ4
        have hul := units_len hu2
        k_steps
        rename Fr _ _ _ _ => F5
        rename News _ _ _ _ => N5
        refine TurnEnd.intro F5 (drop1 N5) (List.forall_mem_cons.mpr ⟨hJ1, List.forall_mem_cons.mpr ⟨hJ2, List.forall_mem_cons.mpr ⟨hJ3, List.forall_mem_cons.mpr ⟨hJ4, hJt⟩⟩⟩⟩) ⟨us ++ [_], _, _, _, .cons rfl (.cons rfl (.cons rfl (.cons rfl (.cons (by rw [List.flatten_append, List.flatten_singleton]; rfl) .nil)))), fun u hu => ?_, ?_, by assumption, rfl⟩
        · rcases List.mem_append.mp hu with hu | hu
          · exact hu2 u hu
          · rw [List.mem_singleton.mp hu]; assumption
        · rw [List.length_append, hl2]; rfl
      case done2 =>
        clear F2 N2 hr
        rintro m₂ news₂ h2 tk2 ⟨us, tm, b2, tb2, hm2, hu2, hl2, hb2, rfl⟩ F4 N4
        rw [hm2.eq] at F4
        dsimp only [kstB] at F4
        have hul := units_len hu2
        k_steps
        rename Fr _ _ _ _ => F5
        rename News _ _ _ _ => N5
        rename _ ∧ _ => hl8
        refine TurnEnd.intro F5 (turn1 N5) (List.forall_mem_cons.mpr ⟨hI1, List.forall_mem_cons.mpr ⟨hI2, List.forall_mem_cons.mpr ⟨hI3, List.forall_mem_cons.mpr ⟨Nat.ne_of_gt hl8.2.1, htI⟩⟩⟩⟩)
          ⟨fs ++ [(_, us.flatten ++ [_])], vs ++ [.ref _], _, _, _, _, .cons rfl (.cons rfl (.cons rfl .nil)), hT.snoc, fun f hf => ?_, by assumption, ?_, List.forall_mem_cons.mpr ⟨Nat.ne_of_gt hl8.2.2.2.1, htb⟩, List.forall_mem_cons.mpr ⟨Nat.ne_of_gt hl8.2.2.1, htf⟩, rfl⟩
        · rcases List.mem_append.mp hf with hf | hf
          · exact hG f hf
          · rw [List.mem_singleton.mp hf]
            refine ⟨by dsimp only; omega, by dsimp only; omega, us, _, fun q => ?_, hu2, by omega, by assumption, rfl⟩
            rw [q, List.length_nil] at hl2
            omega
        · rw [List.length_append, hfl]; rfl
    case done =>
      clear F2 N2 hr
      rintro m₁ news₁ h tk ⟨fs, vs, tups, b, tb, e, hm, hT, hG, hb, hfl, htb, htf, rfl⟩ F3 N3
      rw [hm.eq] at F3
      dsimp only [kstB] at F3
      have hvl := hT.1
      have h3 : fs.length ≤ 3 := by omega
      have hyc : ∀ c ∈ _, calm c := fun c hc => (hy1 c hc).calm
      k_steps
      unfold Hold
      clear F3
      with_unfolding_all refine' For_tup (h₀ := g) ?k1 ?k2 ?k3 ?_
      case k1 => exact rfl
      case k2 => exact rfl
      case k3 => exact rfl
      k_steps
      rename Fr _ _ _ _ => F2
      rename News _ _ _ _ => N2
      rename TupsIn _ _ _ => hT2
      rename List.Perm _ _ => hp2
      rename List.Pairwise _ _ => hs2
      have hG2 := fun f hf => hG f (hp2.mem_iff.mp hf)
      have hl2 := hp2.length_eq
      refine ⟨_, _, _, _, _, _, JN _ _ _, rfl, rfl, F2, N2, .head _, hT2.mono (fun p hp => .tail _ (.tail _ (.tail _ (.tail _ hp)))), ⟨_, [], _, _, .cons rfl (.cons rfl .nil), (by rw [List.append_nil]; exact (List.take_length).symm), (by rw [List.drop_length]; exact .nil), Nat.le_refl _, fun j _ hj => (hG2 _ (getD_mem hj)).2.1, Nat.le_add_right _ _⟩, ?turn3, ?done3⟩
      case turn3 =>
        clear F2 N2
        rintro i ti ui m₁ s' I io hi ⟨p, rest, a, tn, hm, ha, hf, hp, hk, hl⟩ F4 N4
        rw [hm.eq] at F4
        dsimp only [kstB] at F4
        have hq := hG2 (List.getD _ i (0, [])) (getD_mem (d := ((0, []) : Int × List Nat)) hi)
        have hq1 := hq.1
        have hq2 := hk i (Nat.le_refl _) hi
        have hq9 := hq.len
        have hap : p ≤ a.length := by rw [ha, List.length_append, List.length_take]; omega
        k_steps
        rename Fr _ _ _ _ => F5
        rename News _ _ _ _ => N5
        exact TupEnd.intro F5 N5 (JN.step hyc hq hi hs2 ha hf hp hq2 hl (.cons rfl (.cons rfl .nil)))
      case done3 =>
        clear F2 N2
        intro m₁ h tk hj F4 N4
        obtain ⟨a, tn, hm, hf, hl⟩ := hj.folded hyc
        have hend : END.length = 8 := rfl
        rw [hm.eq] at F4
        dsimp only [kstB] at F4
        k_steps
        rename Fr _ _ _ _ => F9
        rename News _ _ _ _ => N9
        rename AllBare _ => G9
        exact ret _ _ _ (fun b o hb e => F9.keep b o (keepG b o hb e)) ⟨_, N9.get (by k_mem)⟩ G9
end Mine
end TextLA

section TextFN
open PySem PySem.W PySem.Calls PyProof.Rows PySem.Spec
namespace Mine
theorem fillFN (w : World) (h : Heap) : (Lay.hd.heap_1_39 w.params).In h → PySem.Challenge.rw_bf0005_01.row.prog = PySem.Challenge.rw_bf0005_01.row.prog := by
  k_fill
  intros
  rfl
theorem old_428 {h₀ h : Heap} (X : CodeHd h₀ 432 428) (h4 : h₀.get? 428 = some (tabObj #[])) (k : ∀ b o, b ≠ 428 → h₀.get? b = some o → h.get? b = some o) (t : ∃ ps, h.get? 428 = some (tab ps)) : OldK h₀ h := by
  obtain ⟨ps, hps⟩ := t
  refine ⟨fun b o e => ?_, fun b o e => ?_⟩
  · by_cases hb : b = 428
    · subst hb
      rw [h4] at e
      cases e
      exact .inr (.inl ⟨(X.tab h4).isCodeTable, rfl, #[], ps, rfl, by rw [Array.empty_append]; exact hps⟩)
    · exact .inl (k b o hb e)
  · by_cases hb : b = 428
    · subst hb; exact ⟨_, hps⟩
    · exact ⟨o, k b o hb e⟩
end Mine
set_option maxRecDepth 100000 in
set_option maxHeartbeats 0 in
theorem PySem.Challenge.cw_bf0005_01_holds : PySem.Challenge.rw_bf0005_01.Holds := by
  refine Mine.hd ?_
  intro d0 kwd0 e0
  have e1 : some (_, _) = some (d0, kwd0) := e0
  cases e1
  clear e0
  k_fill
  intro w s₀ s₁ mg mb G Y fa o pm cd doc dV kV ho hd hcd hD hmg hg args vals as hpre hlay hrd hwl hlo
  have KX := km_in_of Y
  have hT8 := km_tabs_of Y
  have X := (Ground.X G).1
  have V := (Ground.X G).2
  refine Ground.open G ?_
  intro T B D TE TW
  try (refine guard_noD D (by decide +kernel) ?_; clear D)
  obtain ⟨_, _, M⟩ := bmod_of_top T
  wrow_args hpre hlay hrd hwl hlo
  all_goals (
    refine enter_call ?_
    have hfa : fa = 483 := by
      have e := mg_of (n := PySem.Str.ofString "law") (v := .ref 483) KX T.g (by kernel_rfl)
      exact Value.ref.inj (Option.some.inj (hmg.symm.trans e))
    subst hfa
    have h4 := hT8 428 (.head _)
    have C4 := codeHd_of_K (c := 432) (P := 428) KX (by kernel_rfl)
    with_unfolding_all refine Mine.law_call KX T h4 ?hdp ?hu (by assumption) (by assumption) ?hns ?hgens ?ret
    case hdp => decide +kernel
    case hu => decide +kernel
    case hns => omega
    case hgens => rw [hg]; exact fun y hy => absurd hy (by simp)
    case ret =>
      intro h' tk gens' hk ht hG
      refine ⟨.inl ⟨.bool true, .bool true, [], rfl, fun _ => rfl, ?r1, ?r2, fun q => ⟨.nil, fun _ h => nomatch h⟩⟩, Mine.old_428 C4 h4 hk ht, rfl, hG⟩
      case r1 => exact .bool _
      case r2 => kernel_rfl)
end TextFN
