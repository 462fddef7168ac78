import PyProof.Rows.All
import Wide.All
import OpenK.AllK
import Wide.FinOn
import PySem.Challenge.RW_tc0079_01
set_option maxRecDepth 100000
set_option Elab.async false
open PySem PySem.W PyProof.Rows PySem.Calls
namespace Mine
section
local macro_rules | `(tactic| refine $_:ident (q := $_) $_*) => `(tactic| assumption)
set_option Elab.async true in
set_option maxHeartbeats 0 in
theorem hd : PySem.Challenge.rw_tc0079_01.row.Holds → PySem.Challenge.rw_tc0079_01.row.Holds := by
  intro hR
  w_on
  k_head
end
def OfDef {q : Program} {n : Str} {d : DefRec} {kwd : List (Str × PySem.Expr)} (_ : defOf q n = some (d, kwd)) (P : DefRec → List (Str × PySem.Expr) → Prop) : Prop := P d kwd
def WalkAll : Prop := ∀ (as : List Addr) (e : ∀ P, as = (hd.heap_1_1 P).map (·.1)),
    OfDef (q := hd.view_1_2) (n := PySem.Challenge.rw_tc0079_01.row.name) (by rfl)
      (fun d kwd => WalkO hd.view_1_2 [Str.ofString "tspecials", Str.ofString "_name_disallowed_re", Str.ofString "_value_disallowed_re", Str.ofString "_formatparam", Str.ofString "length_hint", Str.ofString "Whitespace"] (XL hd.view_1_2 []) (kHook hd.heap_1_1 as e).says PySem.Challenge.rw_tc0079_01.row.toRowW d kwd (fun f vs => call f vs))
theorem big.tw12371226950275416030 : True := trivial
theorem big.tw16250473840140577544 : True := trivial
theorem big.tw8025752376920288355 : True := trivial
theorem big.tw5129617367486044428 : True := trivial
theorem big.tw6373311083344424364 : True := trivial
theorem big.tw1687048517216071475 : True := trivial
theorem big.tw354523796515384473 : True := trivial
theorem big.tw17118296626749527418 : True := trivial
theorem big.tw14583849873472541339 : True := trivial
theorem big.tw2128814830015199809 : True := trivial
theorem big.tw5760167171203989394 : True := trivial
theorem big.tw716225840368925599 : True := trivial
theorem big.tw1626636512988079051 : True := trivial
theorem big.tw3810225280247989678 : True := trivial
theorem big.tw12293714320237420176 : True := trivial
theorem big.tw12097282633499573697 : True := trivial
theorem big.tw2100560279244737643 : True := trivial
theorem big.tw11624651026715913782 : True := trivial
theorem big.tw13343559314796784527 : True := trivial
theorem big.tw217066886840690549 : True := trivial
theorem big.tw3026041435704257089 : True := trivial
theorem big.tw15566856292439636220 : True := trivial
theorem big.tw9268914562432617966 : True := trivial
theorem big.tw11190005422946848824 : True := trivial
theorem big.tw17903304765957211498 : True := trivial
theorem big.tw10929438363984680001 : True := trivial
theorem big.tw5518728498644192446 : True := trivial
theorem big.tw12041054143096816028 : True := trivial
theorem big.tw15164786579131751480 : True := trivial
theorem big.tw14083712914258355164 : True := trivial
theorem big.tw10411009949344687909 : True := trivial
theorem big.tw3230046552727883697 : True := trivial
theorem big.tw13255611449890662977 : True := trivial
theorem big.tw15408108076982660395 : True := trivial
theorem big.tw12600115324107644728 : True := trivial
theorem big.tw10990732011011575958 : True := trivial
theorem big.tw5761694520566571322 : True := trivial
theorem big.tw3926532556678448363 : True := trivial
theorem big.tw9203787542046728699 : True := trivial
theorem big.tw2983082238129987894 : True := trivial
theorem big.tw714505927723109768 : True := trivial
theorem big.tw12084083495863928011 : True := trivial
theorem big.tw14096581892813553684 : True := trivial
theorem big.tw14567697569691578881 : True := trivial
theorem big.tw13283440587996752296 : True := trivial
theorem big.tw16173264380869338567 : True := trivial
theorem big.tw17335770363375232518 : True := trivial
theorem big.tw13631108592128089823 : True := trivial
theorem big.tw17287279511699699667 : True := trivial
theorem big.tw12416195312487802769 : True := trivial
theorem big.tw13056689763695653226 : True := trivial
theorem big.tw1859100738159016130 : True := trivial
theorem big.tw7371016169069649110 : True := trivial
theorem big.tw974877752418937826 : True := trivial
theorem big.tw10314150902907760872 : True := trivial
theorem big.tw8664367624690482830 : True := trivial
theorem big.tw739655097317160934 : True := trivial
theorem big.tw10762104541805322757 : True := trivial
theorem big.tw4664180359518950788 : True := trivial
theorem big.tw7568213279742092074 : True := trivial
theorem big.tw10735882778984169393 : True := trivial
theorem big.tw12318846468213230409 : True := trivial
theorem big.tw13229835766599229194 : True := trivial
theorem big.tw10833107530250590267 : True := trivial
theorem big.tw16083630884830159649 : True := trivial
theorem big.tw6341783513931437647 : True := trivial
theorem big.tw5290420774329299723 : True := trivial
theorem big.tw17671750068024375256 : True := trivial
theorem big.tw5182304853888933066 : True := trivial
theorem big.tw13640519417254017307 : True := trivial
theorem big.tw4682992560283724327 : True := trivial
theorem big.tw3789215671539990253 : True := trivial
theorem big.tw4938831178266049462 : True := trivial
theorem big.tw15933291617006635720 : True := trivial
theorem big.tw1341759523502374941 : True := trivial
theorem big.tw12991403738455165647 : True := trivial
theorem big.tw2074783941707555919 : True := trivial
theorem big.tw18210543803391898297 : True := trivial
theorem big.tw715804813033343246 : True := trivial
theorem big.tw8252374443792567677 : True := trivial
theorem big.tw4367214941830432470 : True := trivial
theorem big.tw4597333944412825404 : True := trivial
theorem big.tw11527317730292800157 : True := trivial
theorem big.tw4630091514220090572 : True := trivial
theorem big.tw5841131517073514667 : True := trivial
theorem big.tw15855527998883431470 : True := trivial
theorem big.tw4021120301056733307 : True := trivial
theorem big.tw13435770428591075700 : True := trivial
theorem big.tw8013424527025506453 : True := trivial
theorem big.tw12727447677942893387 : True := trivial
theorem big.tw13101605189739484265 : True := trivial
theorem big.tw11739653082977253858 : True := trivial
theorem big.tw8828244259628051886 : True := trivial
theorem big.tw17399186916232570815 : True := trivial
theorem big.tw14632749452821063705 : True := trivial
theorem big.tw17900139874474915092 : True := trivial
theorem big.tw7077014635857184234 : True := trivial
theorem big.tw11167186920132712170 : True := trivial
theorem big.tw15640314162061722338 : True := trivial
theorem big.tw3646389392428795901 : True := trivial
theorem big.tw13044645267180797563 : True := trivial
theorem big.tw6278237347171004761 : True := trivial
theorem big.tw14766362870788262253 : True := trivial
theorem big.tw16443935389419755721 : True := trivial
theorem big.tw1018189654023656910 : True := trivial
theorem big.tw9095981840225373855 : True := trivial
theorem big.tw6970334526649000254 : True := trivial
theorem big.tw15503585344044103560 : True := trivial
theorem big.tw6239443117822800194 : True := trivial
theorem big.tw10365048428188080402 : True := trivial
theorem big.tw10178395157931453735 : True := trivial
theorem big.tw3516224588792529280 : True := trivial
theorem big.tw16072211536723460285 : True := trivial
theorem big.tw13546703823694401962 : True := trivial
theorem big.tw15949452510609183348 : True := trivial
theorem big.tw15542594445777735467 : True := trivial
theorem big.tw18420563440412042360 : True := trivial
theorem big.tw8319398706473730479 : True := trivial
theorem big.tw2414868940770695141 : True := trivial
theorem big.tw4274838768946544765 : True := trivial
theorem big.tw14465283579718434883 : True := trivial
theorem big.tw1520681172913471050 : True := trivial
theorem big.tw11149789214932827198 : True := trivial
theorem big.tw12913635144742532077 : True := trivial
theorem big.tw16722047375783682523 : True := trivial
theorem big.tw15196887370121858276 : True := trivial
theorem big.tw3139223597767346231 : True := trivial
theorem big.tw9589746884018975437 : True := trivial
theorem big.tw4698437903341292456 : True := trivial
theorem big.tw12459720023819188394 : True := trivial
theorem big.tw5062432179869294776 : True := trivial
theorem big.tw4206714089793225251 : True := trivial
theorem big.tw6647120407145409635 : True := trivial
theorem big.tw12662310165236009950 : True := trivial
theorem big.tw13216610324734421408 : True := trivial
theorem big.tw11096561332304403888 : True := trivial
theorem big.tw6452272853980590127 : True := trivial
theorem big.tw17569071850165268173 : True := trivial
theorem big.tw14233948970214913825 : True := trivial
theorem big.tw9515866214819690513 : True := trivial
theorem big.tw17463883808704872570 : True := trivial
theorem big.tw11277516547107132418 : True := trivial
theorem big.tw11871496285889426449 : True := trivial
theorem big.tw15902567843637324176 : True := trivial
theorem big.tw12978239583535605296 : True := trivial
theorem big.tw13617719912706458063 : True := trivial
theorem big.tw6305565346782913026 : True := trivial
theorem big.tw16704554668865431012 : True := trivial
theorem big.tw11320534614952338542 : True := trivial
theorem big.tw10262798851970818414 : True := trivial
theorem big.tw3239682953277563780 : True := trivial
theorem big.tw14817596631838080041 : True := trivial
theorem big.tw16923982170533784930 : True := trivial
theorem big.tw17539158710382685469 : True := trivial
theorem big.tw15702035655157310818 : True := trivial
theorem big.tw963613079442624457 : True := trivial
theorem big.tw15415679748950197013 : True := trivial
theorem big.tw300165584934808768 : True := trivial
theorem big.tw9967135075422817741 : True := trivial
theorem big.tw430029123328139207 : True := trivial
theorem big.tw9375375519052842469 : True := trivial
theorem big.tw3271896684515718655 : True := trivial
theorem big.tw18039477698765101008 : True := trivial
theorem big.tw2770431487896478998 : True := trivial
theorem big.tw12371669443341388042 : True := trivial
theorem big.tw5803203232791183981 : True := trivial
theorem big.tw2164492751225353631 : True := trivial
theorem big.tw9941517771890988507 : True := trivial
theorem big.tw11837624711973808163 : True := trivial
theorem big.tw17664083094849071860 : True := trivial
theorem big.tw965187468626893202 : True := trivial
theorem big.tw11076058586802297146 : True := trivial
theorem big.tw18341189019433485684 : True := trivial
theorem big.tw14234490694974958435 : True := trivial
theorem big.tw10386959814606313105 : True := trivial
theorem big.tw17801808159831304976 : True := trivial
theorem big.tw16483998787524926038 : True := trivial
theorem big.tw1018071160784516529 : True := trivial
theorem big.tw6329007226537631388 : True := trivial
theorem big.tw4744297796029499265 : True := trivial
theorem big.tw3578212652737856374 : True := trivial
theorem big.tw11448340234536329384 : True := trivial
theorem big.tw17502185235475049686 : True := trivial
theorem big.tw5610017949440790752 : True := trivial
theorem big.tw12570501111345545860 : True := trivial
theorem big.tw2264476131491702882 : True := trivial
theorem big.tw12803298039525152829 : True := trivial
theorem big.tw4901721524489951369 : True := trivial
theorem big.tw4668354246949625529 : True := trivial
theorem big.tw9108062245048334555 : True := trivial
theorem big.tw9076452407678293792 : True := trivial
theorem big.tw4205338546430623747 : True := trivial
theorem big.tw8682052630924705523 : True := trivial
theorem big.tw9097713703711249737 : True := trivial
theorem big.tw15814833055866358491 : True := trivial
theorem big.tw7308298476852936395 : True := trivial
theorem big.tw3353702332991662265 : True := trivial
theorem big.tw223931178358841211 : True := trivial
theorem big.tw15225941405244479226 : True := trivial
theorem big.tw15283773152392457305 : True := trivial
theorem big.tw139089789721794839 : True := trivial
theorem big.tw12986002387737646344 : True := trivial
theorem big.tw3806626176413727022 : True := trivial
theorem big.tw4933656701032606546 : True := trivial
theorem big.tw14499701811091106745 : True := trivial
theorem big.tw9500855668525534142 : True := trivial
theorem big.tw16174724037992594540 : True := trivial
theorem big.tw16197850983124215585 : True := trivial
theorem big.tw17874551350872925320 : True := trivial
theorem big.tw8730486180357981652 : True := trivial
theorem big.tw887201838298504636 : True := trivial
theorem big.tw14494005375759232792 : True := trivial
theorem big.tw17608948384572498657 : True := trivial
theorem big.tw13336124759676207065 : True := trivial
theorem big.tw13569034830089123136 : True := trivial
theorem big.tw14939022929902084158 : True := trivial
theorem big.tw5737272260022522442 : True := trivial
theorem big.tw9208818586416941729 : True := trivial
theorem big.tw14854619229934415167 : True := trivial
theorem big.tw10089858717917652790 : True := trivial
theorem big.tw11582855261779881647 : True := trivial
theorem big.tw2008430546806713966 : True := trivial
theorem big.tw16286857106741927240 : True := trivial
theorem big.tw15206613559454695052 : True := trivial
theorem big.tw5173425827161746757 : True := trivial
theorem big.tw16882486025526812133 : True := trivial
theorem big.tw4265511270068334994 : True := trivial
theorem big.tw9501854295567049122 : True := trivial
theorem big.tw9104643991604696525 : True := trivial
theorem big.tw7755660690899516527 : True := trivial
theorem big.tw9001848615007724150 : True := trivial
theorem big.tw15541354833157596768 : True := trivial
theorem big.tw11148795828613424156 : True := trivial
theorem big.tw16981518495546146864 : True := trivial
theorem big.tw10215430122651485505 : True := trivial
theorem big.tw14620170694847764279 : True := trivial
theorem big.tw4210560948065395388 : True := trivial
theorem big.tw7001787083223918447 : True := trivial
theorem big.tw4765749868743541257 : True := trivial
theorem big.tw11855237148235643934 : True := trivial
theorem big.tw4108727415822083762 : True := trivial
theorem big.tw12498650354469446832 : True := trivial
theorem big.tw8602618201326732448 : True := trivial
theorem big.tw6731145049323459329 : True := trivial
theorem big.tw4213915687144895132 : True := trivial
theorem big.tw15305823029838462619 : True := trivial
theorem big.tw17379561965368846205 : True := trivial
theorem big.tw7108896415797296700 : True := trivial
theorem big.tw1708077781335022644 : True := trivial
theorem big.tw15397050158172664833 : True := trivial
theorem big.tw15386845113942987888 : True := trivial
theorem big.tw16957445308858493016 : True := trivial
theorem big.tw3085719406681080733 : True := trivial
theorem big.tw14988429514739671186 : True := trivial
theorem big.tw2514211640410359680 : True := trivial
theorem big.tw6857313785662435832 : True := trivial
theorem big.tw14383757505605878358 : True := trivial
theorem big.tw5377211874851346107 : True := trivial
theorem big.tw12020548554886218146 : True := trivial
theorem big.tw12775394528563131591 : True := trivial
theorem big.tw15382580144896455146 : True := trivial
theorem big.tw2465758065991212007 : True := trivial
theorem big.tw11913428219399466603 : True := trivial
theorem big.tw2808502649483220627 : True := trivial
theorem big.tw10296339192458297023 : True := trivial
theorem big.tw2733341221392602548 : True := trivial
theorem big.tw15536983429120869772 : True := trivial
theorem big.tw665480236310692436 : True := trivial
theorem big.tw2063896415083590021 : True := trivial
theorem big.tw5949680937725773131 : True := trivial
theorem big.tw3583938281235964644 : True := trivial
theorem big.tw6538268580001662704 : True := trivial
theorem big.tw2456278499604836590 : True := trivial
theorem big.tw2587147498482703319 : True := trivial
theorem big.tw13731423681078116477 : True := trivial
theorem big.tw9711266765073536316 : True := trivial
theorem big.tw15771519570203140926 : True := trivial
theorem big.tw16261795479169105065 : True := trivial
theorem big.tw12531170527360845201 : True := trivial
theorem big.tw12674357426164849449 : True := trivial
theorem big.tw556572931092505979 : True := trivial
theorem big.tw1271941261366948301 : True := trivial
theorem big.tw11442042589046236085 : True := trivial
theorem big.tw9605162113206863206 : True := trivial
theorem big.tw2692484874357011057 : True := trivial
theorem big.tw2115598132584263921 : True := trivial
theorem big.tw1182980900116578913 : True := trivial
theorem big.tw8906898679829397727 : True := trivial
theorem big.tw1825184953899884727 : True := trivial
theorem big.tw17543676925843118799 : True := trivial
theorem big.tw12766829026748263272 : True := trivial
theorem big.tw2089021000346093296 : True := trivial
theorem big.tw5735681169501985881 : True := trivial
theorem big.tw9941910641483328279 : True := trivial
theorem big.tw15677610355446730217 : True := trivial
theorem big.tw5710206229008908867 : True := trivial
theorem big.tw9171120279106139806 : True := trivial
theorem big.tw558198507276850712 : True := trivial
theorem big.tw3999942188600220907 : True := trivial
theorem big.tw15776252271019361346 : True := trivial
theorem big.tw1103150617676035868 : True := trivial
theorem big.tw11940110860563116242 : True := trivial
theorem big.tw14854489502590750550 : True := trivial
theorem big.tw9713672232151101474 : True := trivial
theorem big.tw9629117406195019782 : True := trivial
theorem big.tw16182924723298813994 : True := trivial
theorem big.tw6643643434029778808 : True := trivial
theorem big.tw907292650217629337 : True := trivial
theorem big.tw15168547197721652409 : True := trivial
theorem big.tw5868923326300939827 : True := trivial
theorem big.tw5879862239500322084 : True := trivial
theorem big.tw10978119731720876101 : True := trivial
theorem big.tw861398538518616014 : True := trivial
theorem big.tw10055036281830783660 : True := trivial
theorem big.tw11019691368829628316 : True := trivial
theorem big.tw12826508207914103554 : True := trivial
theorem big.tw14360594135823299756 : True := trivial
theorem big.tw11155032621921855344 : True := trivial
theorem big.tw13253688578264554484 : True := trivial
theorem big.tw14181325888858978790 : True := trivial
theorem big.tw8286760424812879625 : True := trivial
theorem big.tw14008652600251959892 : True := trivial
theorem big.tw4026649066391358086 : True := trivial
theorem big.tw13389260926271172448 : True := trivial
theorem big.tw12781726039504634246 : True := trivial
theorem big.tw7867225132326899979 : True := trivial
theorem big.tw15164673069278792316 : True := trivial
theorem big.tw3516322488619766997 : True := trivial
theorem big.tw8236391824007203047 : True := trivial
theorem big.tw15412634100039959955 : True := trivial
theorem big.tw14707956583915960652 : True := trivial
theorem big.tw1994656589539762772 : True := trivial
theorem big.tw10200217890334119805 : True := trivial
theorem big.tw14783087309598304884 : True := trivial
theorem big.tw8976121227274118811 : True := trivial
theorem big.tw5687458013365728105 : True := trivial
theorem big.tw1551119111884849476 : True := trivial
theorem big.tw17551343727403457286 : True := trivial
theorem big.tw13388963084459705452 : True := trivial
theorem big.tw14017486619169093980 : True := trivial
theorem big.tw12144884148159884010 : True := trivial
theorem big.tw6293445064294933456 : True := trivial
theorem big.tw3272645274392548809 : True := trivial
theorem big.tw15435755861382934711 : True := trivial
theorem big.tw1498338145952913805 : True := trivial
theorem big.tw12636532186752779493 : True := trivial
theorem big.tw2702068791994952517 : True := trivial
theorem big.tw10892764225002494602 : True := trivial
theorem big.tw700839633535826033 : True := trivial
theorem big.tw16659815055117930118 : True := trivial
theorem big.tw7372585420115673737 : True := trivial
theorem big.tw9578779979895442322 : True := trivial
theorem big.tw13455862070155362046 : True := trivial
theorem big.tw1982928568712537862 : True := trivial
theorem big.tw16809852955621730297 : True := trivial
theorem big.tw11177950297463785115 : True := trivial
theorem big.tw10510384156838164586 : True := trivial
theorem big.tw14634291293967164221 : True := trivial
theorem big.tw10071471936889480295 : True := trivial
theorem big.tw15452442089493917627 : True := trivial
theorem big.tw13682976607632715639 : True := trivial
theorem big.tw15898036793315639860 : True := trivial
theorem big.tw4939776517359592776 : True := trivial
theorem big.tw17140719780185581274 : True := trivial
theorem big.tw6695708242163566249 : True := trivial
theorem big.tw14545259467803849040 : True := trivial
theorem big.tw14060511706003143714 : True := trivial
theorem big.tw12700924531033867490 : True := trivial
theorem big.tw484149295039235756 : True := trivial
theorem big.tw11441824726424458243 : True := trivial
theorem big.tw16291765897885393818 : True := trivial
theorem big.tw15715442437160390406 : True := trivial
theorem big.tw6220418958317340147 : True := trivial
theorem big.tw15288162219645066947 : True := trivial
theorem big.tw9721693397177759670 : True := trivial
theorem big.tw3451479607486578947 : True := trivial
theorem big.tw16185170069477458233 : True := trivial
theorem big.tw15706352125096347233 : True := trivial
theorem big.tw714261203847750236 : True := trivial
theorem big.tw11739240701992381825 : True := trivial
theorem big.tw1055192114502673281 : True := trivial
theorem big.tw6004802397848487620 : True := trivial
theorem big.tw16517173050733983053 : True := trivial
theorem big.tw1169605189504905336 : True := trivial
theorem big.tw11151078844468641161 : True := trivial
theorem big.tw7240176518764253032 : True := trivial
theorem big.tw9056565232884320792 : True := trivial
theorem big.tw8583875620318412737 : True := trivial
theorem big.tw660484847682920727 : True := trivial
theorem big.tw5216197449291887674 : True := trivial
theorem big.tw13766978221286826288 : True := trivial
theorem big.tw6287427526464427235 : True := trivial
theorem big.tw11621868983812377667 : True := trivial
theorem big.tw9868716697066003561 : True := trivial
theorem big.tw11856886124607854257 : True := trivial
theorem big.tw13893553787312570703 : True := trivial
theorem big.tw14427201014912222378 : True := trivial
theorem big.tw17798465451932115426 : True := trivial
theorem big.tw3966439455580096063 : True := trivial
theorem big.tw8812338436955728816 : True := trivial
theorem big.tw13936549601225619168 : True := trivial
theorem big.tw11884482726095425064 : True := trivial
theorem big.tw4295370758006205012 : True := trivial
theorem big.tw3902052950492673726 : True := trivial
theorem big.tw7116577451769038908 : True := trivial
theorem big.tw16080957206542004534 : True := trivial
theorem big.tw3869220331081692945 : True := trivial
theorem big.tw1574312764098985009 : True := trivial
theorem big.tw9031023199166273032 : True := trivial
theorem big.tw2898756179172515153 : True := trivial
theorem big.tw9924035268258620737 : True := trivial
theorem big.tw7174712801382015656 : True := trivial
theorem big.tw11819745715332028618 : True := trivial
theorem big.tw17615603770002656 : True := trivial
theorem big.tw2180692193649380379 : True := trivial
theorem big.tw8673513362022662599 : True := trivial
theorem big.tw5680821351961931030 : True := trivial
theorem big.tw6181316988635203452 : True := trivial
theorem big.tw6688514327956743123 : True := trivial
theorem big.tw16273009641788616335 : True := trivial
theorem big.tw13670303651820816348 : True := trivial
theorem big.tw4339738091632016156 : True := trivial
theorem big.tw5140178273861644106 : True := trivial
theorem big.tw11523224400925079094 : True := trivial
theorem big.tw81852590912174153 : True := trivial
theorem big.tw15972685196096622108 : True := trivial
theorem big.tw6646810560712519515 : True := trivial
theorem big.tw13556335727075256877 : True := trivial
theorem big.tw1492725417202088717 : True := trivial
theorem big.tw8842602117528885242 : True := trivial
theorem big.tw3025558105051878398 : True := trivial
theorem big.tw8663524291714390710 : True := trivial
theorem big.tw14387339415068027348 : True := trivial
theorem big.tw6496243936296040605 : True := trivial
theorem big.tw2100739355848231114 : True := trivial
theorem big.tw5192325251383098805 : True := trivial
theorem big.tw13379222293838225747 : True := trivial
theorem big.tw4665847938426299081 : True := trivial
theorem big.tw15237555834025611390 : True := trivial
theorem big.tw398761629898733513 : True := trivial
theorem big.tw11646544987378872477 : True := trivial
theorem big.tw13709342576365164085 : True := trivial
theorem big.tw12631215268357296359 : True := trivial
theorem big.tw5859833520694355403 : True := trivial
theorem big.tw5064379641251395632 : True := trivial
theorem big.tw16239253009080812094 : True := trivial
theorem big.tw12289529921393277060 : True := trivial
theorem big.tw14481812476840174894 : True := trivial
theorem big.tw3361434790421791324 : True := trivial
theorem big.tw9340837244132584852 : True := trivial
theorem big.tw4372707337603154505 : True := trivial
theorem big.tw3006588530436667685 : True := trivial
theorem big.tw949391909964826738 : True := trivial
theorem big.tw17915431715633810690 : True := trivial
section
local macro_rules | `(tactic| refine $f:ident (q := $q) $as*) => `(tactic| (refine' $f (q := $q) $as*; rotate_right 1; exact (by assumption : WalkAll) _ _))
set_option Elab.async true in
set_option maxHeartbeats 0 in
theorem big : WalkAll → PySem.Challenge.rw_tc0079_01.Holds := by
  intro hR
  w_on; o_law; k_head; (case hw => w_witness2)
end
theorem headDone : big.view_1_40 = big.view_1_40 := rfl
section
open PySem PySem.W PyProof.Rows PySem.Calls
noncomputable abbrev loo (vw : Program) : List Str := looseW vw [Str.ofString "tspecials", Str.ofString "_name_disallowed_re", Str.ofString "_value_disallowed_re", Str.ofString "_formatparam", Str.ofString "length_hint", Str.ofString "Whitespace"]
abbrev kTop (dp un : Nat) (gd : Option (List Code)) (env : Env) (outer : List Env) : Around := { handled := none, depth := dp, frames := some (env :: outer), guards := gd, units := un }

/-- the count of tokens never falls -/
theorem runs_toks {M : Model} {Γ : Ctx} {p : Pos} {t : Sem Fin} {fs : List Frame} {s : Shared} {e : End} {s' : Shared} (h : Runs M Γ p t fs s e s') : s.toks ≤ s'.toks := by
  induction h with
  | done => exact Nat.le_refl _
  | raise => exact Nat.le_refl _
  | yield => exact Nat.le_refl _
  | fresh _ ih => exact Nat.le_trans (Nat.le_succ _) ih
  | call _ _ ih1 ih2 => exact Nat.le_trans ih1 ih2
  | callSusp _ ih => exact ih
  | resumeFresh _ _ _ _ ih1 ih2 => exact Nat.le_trans (m := _) ih1 ih2
  | resumeSuspended _ _ _ _ ih1 ih2 => exact Nat.le_trans (m := _) ih1 ih2
  | segRet _ _ ih1 ih2 => exact Nat.le_trans ih1 ih2
  | segGen _ _ ih1 ih2 => exact Nat.le_trans (m := _) ih1 ih2
  | segSuspOut _ _ ih => exact ih
  | segSuspGen _ _ _ _ ih1 ih2 => exact Nat.le_trans (m := _) ih1 ih2
  | _ => assumption
theorem wakes_toks {M : Model} {Γ : Ctx} {p : Pos} {g : Nat} {r : Resume} {s : Shared} {res : GenResult} {s' : Shared} (h : Wakes M Γ p g r s res s') : s.toks ≤ s'.toks := by
  unfold Wakes at h
  repeat' split at h
  all_goals first
    | exact h.elim
    | (obtain ⟨e₁, s₁, hr, _, _, rfl⟩ := h; have := runs_toks hr; exact this)
    | (obtain ⟨_, rfl⟩ := h; exact Nat.le_refl _)
theorem wp_toks {α : Type} {M : Model} {Γ : Ctx} {n : Nat} (t : Sem α) : ∀ {Q : α → Pos → Shared → Prop} {E : Value → Pos → Shared → Prop} {p : Pos} {s : Shared}, n ≤ s.toks → Sem.wp M Γ t Q E p s →
    Sem.wp M Γ t (fun a p' s' => Q a p' s' ∧ n ≤ s'.toks) (fun e p' s' => E e p' s' ∧ n ≤ s'.toks) p s := by
  induction t with
  | pure a => intro Q E p s hn h; exact ⟨h, hn⟩
  | raise e => intro Q E p s hn h; exact ⟨h, hn⟩
  | unsupported => intro Q E p s hn h; exact h
  | finish => intro Q E p s hn h; exact h
  | rule tag k ih => intro Q E p s hn h; exact ih _ hn h
  | «at» p' k ih => intro Q E p s hn h; exact ih _ hn h
  | load a part k ih => intro Q E p s hn h; obtain ⟨o, ho, h⟩ := h; exact ⟨o, ho, ih _ hn h⟩
  | update a part f k ih => intro Q E p s hn h; exact ⟨h.1, ih _ (by exact hn) h.2⟩
  | alloc o k ih => intro Q E p s hn h; exact ih _ (by exact hn) h
  | loadIfAlive a k ih => intro Q E p s hn h; exact ih _ hn h
  | point l k ih => intro Q E p s hn h; exact ih _ hn h
  | register a k ih => intro Q E p s hn h; exact h
  | fresh k ih => intro Q E p s hn h; exact ih _ (Nat.le_succ_of_le hn) h
  | ask k ih => intro Q E p s hn h; exact ih _ hn h
  | choose src m k ih => intro Q E p s hn h; exact ⟨h.1, ih _ (by exact hn) h.2⟩
  | os q l k ih => intro Q E p s hn h; exact ih _ (by exact hn) h
  | call c hd g l k ih =>
    intro Q E p s hn h
    obtain ⟨r, s₁, hr, h⟩ := h
    exact ⟨r, s₁, hr, ih _ (Nat.le_trans hn (runs_toks hr)) h⟩
  | handled own k ih => intro Q E p s hn h; exact ih _ hn h
  | newGen c k ih => intro Q E p s hn h; exact ih _ (by exact hn) h
  | genState g k ih => intro Q E p s hn h; obtain ⟨st, hs, h⟩ := h; exact ⟨st, hs, ih _ hn h⟩
  | resume g r l k ih =>
    intro Q E p s hn h
    obtain ⟨res, s₁, hw, h⟩ := h
    exact ⟨res, s₁, hw, ih _ (Nat.le_trans hn (wakes_toks hw)) h⟩
  | yield v g l k ih => intro Q E p s hn h; exact h
  | stack k ih => intro Q E p s hn h; exact ih _ hn h
  | fork c k ih => intro Q E p s hn h; exact h
  | thread k ih => intro Q E p s hn h; exact ih _ hn h
  | await a t d l k ih => intro Q E p s hn h; exact h
theorem any_toks {α : Type} {M : Model} {A : Around} {t : Sem α} {Q : α → Shared → Prop} {E : Value → Shared → Prop} {s : Shared} (h : wpAny M A t Q E s) :
    wpAny M A t (fun a s' => Q a s' ∧ s.toks ≤ s'.toks) (fun e s' => E e s' ∧ s.toks ≤ s'.toks) s :=
  fun Γ p hΓ => wp_toks t (Nat.le_refl _) (h Γ p hΓ)
/-- what a step hands on, and the tokens beside it -/
theorem by_toks {α : Type} {M : Model} {A : Around} {t : Sem α} {P Q : α → Shared → Prop} {E : Value → Shared → Prop} {s : Shared} (h : wpAny M A t P E s) (k : ∀ a s', P a s' → s.toks ≤ s'.toks → Q a s') : wpAny M A t Q E s :=
  wpAny_mono (any_toks h) (fun a s' x => k a s' x.1 x.2) fun _ _ x => x.1
theorem gen_toks {α : Type} {M : Model} {A : Around} {t : Sem α} {Q : α → Shared → Prop} {E : Value → Shared → Prop} {h : Heap} {g : Array GenState} {d : Drawn} {o : OsState} {X : Nat} (n : Nat) (hX : n ≤ X) (k : ∀ tk, n ≤ tk → wpAny M A t Q E ⟨h, g, d, tk, o⟩) : wpAny M A t Q E ⟨h, g, d, X, o⟩ := k X hX

/-- the walk's tokens stand at this or above it -/
structure TokLo (n : Nat) : Prop where
theorem gen_lo {α : Type} {M : Model} {A : Around} {t : Sem α} {Q : α → Shared → Prop} {E : Value → Shared → Prop} {h : Heap} {g : Array GenState} {d : Drawn} {o : OsState} {X n : Nat} (_m : TokLo n) (hX : n ≤ X) (k : ∀ tk : Nat, n ≤ tk → wpAny M A t Q E ⟨h, g, d, tk, o⟩) : wpAny M A t Q E ⟨h, g, d, X, o⟩ := k X hX
/-- what a statement leaves: the tokens have not fallen -/
theorem toks_in {α : Type} {M : Model} {A : Around} {t : Sem α} {Q : α → Shared → Prop} {E : Value → Shared → Prop} {s : Shared} (h : wpAny M A t (fun a s' => s.toks ≤ s'.toks → Q a s') E s) : wpAny M A t Q E s :=
  wpAny_mono (any_toks h) (fun _ _ x => x.1 x.2) fun _ _ x => x.1
/-- what stood stands -/
def Kept (h h' : Heap) : Prop := ∀ b o, h.get? b = some o → h'.get? b = some o

section
variable {prog : Program} {w : World} {A₀ A : Around} {s : Shared} {base h₀ : Heap} {outer : List Env} {L : Addr} {m : Str → Option Value} {env : Env} {K : Frag} {p : Program} {loose : List Str} {mean : ExcName → Option Value} {mg mb : Str → Option Value}
  {R : Result → Shared → Prop} {name qual : Str} {params : Arguments} {body : List Stmt} {scope : Scope} {dV kV doc pm cdv ct oc : Value} {an od : Option Addr} {osl : Array (Option Value)} {f : Addr} {args : Args} {binds : List (Str × Value)}

/-- a call whose arguments' objects are read alone: the callee's ground is the whole heap -/
theorem p_plain (B : Below A₀ base outer h₀) (F : Fr h₀ L s.heap m) (X₀ : K.In h₀) (T : Top p loose mean mg mb h₀) (hA : A.frames = some (env :: outer)) (hf : env.frame = some L) (hke : env.scope.kind = .function)
    (ho : K.lookup f = some ⟨oc, od, .func (fnOf name qual params body scope dV kV doc pm an cdv ct), osl⟩) (hcd : codeIn K cdv qual = true) (hroom : A.depth < recursionLimit)
    (hbind : BindsTo s (fnOf name qual params body scope dV kV doc pm an cdv ct) args binds) (hloc : ∀ y ∈ binds, scope.names.lookup y.1 = some .local)
    (h : ∀ L' h₁, Fr s.heap L' h₁ (fun y => binds.reverse.lookup y) → News s.heap L' h₁ [] → Below A base (env :: outer) s.heap → K.In s.heap → Top p loose mean mg mb s.heap →
      wpAny (model prog w) (A.deeper (envOf qual scope L' f cdv)) (execs body (envOf qual scope L' f cdv))
        (fun fl s' => R (.ok (.ret (match fl with | .ret v => v | _ => .none))) s')
        (fun e s' => wpAny (model prog w) (A.deeper (envOf qual scope L' f cdv)) (leaving (envOf qual scope L' f cdv) e) (fun _ s'' => R (.error e) s'') (fun e' s'' => R (.error e') s'') s')
        { s with heap := h₁, toks := s.toks + binds.length })
    (hco : scope.isCoroutine = false) (hgen : scope.isGenerator = false) (hk : scope.kind = .function)
    (hcell : ∀ x ∈ scope.names, x.2 ≠ .cell) : codeAny (model prog w) A (.call (.ref f) args) R s := by
  refine codeAny_call_def (fd := fnOf name qual params body scope dV kV doc pm an cdv ct) (body := body) (binds := binds) hroom ((X₀.keeps F.keep) _ _ ho) rfl (T.nolimit.keeps F.keep) (codeRec_of (X₀.keeps F.keep) hcd) rfl hbind hcell hloc (fun h₁ hns hk₁ => ?_) hco hgen hk
  have B₁ := pushX B F hf hke
  exact h s.heap.objs.size h₁ ⟨hns, hk₁, Nat.le_refl _⟩ News.nil ⟨hA, B₁.stays, B₁.frames⟩ (X₀.keeps F.keep) (T.keeps F.keep)

theorem p_cells (B : Below A₀ base outer h₀) (F : Fr h₀ L s.heap m) (X₀ : K.In h₀) (T : Top p loose mean mg mb h₀) (hA : A.frames = some (env :: outer)) (hf : env.frame = some L) (hke : env.scope.kind = .function)
    (ho : K.lookup f = some ⟨oc, od, .func (fnOf name qual params body scope dV kV doc pm an cdv ct), osl⟩) (hcd : codeIn K cdv qual = true) (hroom : A.depth < recursionLimit)
    (hbind : BindsTo s (fnOf name qual params body scope dV kV doc pm an cdv ct) args binds) (hkind : (binds.all fun y => scope.names.lookup y.1 == some .local || scope.names.lookup y.1 == some .cell) = true)
    (hnd : ((cellsFrom 0 scope.names []).map (·.1)).Nodup)
    (h : ∀ L' h₁ tk cells, Fr s.heap L' h₁ (bindL (envOfC qual scope L' f cdv).kindOf binds fun _ => none) → News s.heap L' h₁ cells →
      CellsAre (bindC (envOfC qual scope L' f cdv).kindOf binds fun _ => none) (cellsFrom (L' + 1) scope.names []) cells → Below A base (env :: outer) s.heap → K.In s.heap → Top p loose mean mg mb s.heap →
      wpAny (model prog w) (A.deeper (envOfC qual scope L' f cdv)) (execs body (envOfC qual scope L' f cdv))
        (fun fl s' => R (.ok (.ret (match fl with | .ret v => v | _ => .none))) s')
        (fun e s' => wpAny (model prog w) (A.deeper (envOfC qual scope L' f cdv)) (leaving (envOfC qual scope L' f cdv) e) (fun _ s'' => R (.error e) s'') (fun e' s'' => R (.error e') s'') s')
        { s with heap := h₁, toks := tk })
    (hco : scope.isCoroutine = false) (hgen : scope.isGenerator = false) (hk : scope.kind = .function) : codeAny (model prog w) A (.call (.ref f) args) R s := by
  refine codeAny_call_function hroom ((X₀.keeps F.keep) _ _ ho) rfl hco hgen rfl (codeRec_of (X₀.keeps F.keep) hcd) (hbind _ _ _ _ ?_)
  refine wpAny_newFunctionEnv_cells hk (kindsX hkind _) fun env' he s' x => ?_
  subst he
  refine ⟨(T.nolimit.keeps F.keep).keeps x.toInCall.keep, codeAny_func ?_⟩
  obtain ⟨h₁, tk, rfl, _⟩ := x.done
  have hk₁ := x.toInCall.keep
  obtain ⟨cells, NC, Y⟩ := Cl.news (h₀ := s.heap) (Nat.le_refl _) fun n c hm => ⟨x.cell n c (lookup_of_mem_nodup (cellsFrom_names scope.names 0 (s.heap.objs.size + 1) [] [] rfl ▸ hnd) hm), x.above n c hm⟩
  have B₁ := pushX B F hf hke
  exact h s.heap.objs.size h₁ tk cells ⟨x.toInCall.ns, hk₁, Nat.le_refl _⟩ NC Y ⟨hA, B₁.stays, B₁.frames⟩ (X₀.keeps F.keep) (T.keeps F.keep)
end

/-- what a call made at a point of the walk leans on -/
structure Cx (K : Params → Frag) (vw : Program) (w : World) (mean : ExcName → Option Value) (mg mb : Str → Option Value) (dp un : Nat) (env : Env) (outer : List Env) (A₀ : Around) (base h₀ : Heap) (L : Addr) (m : Str → Option Value) (s : Shared) : Prop where
  B : Below A₀ base outer h₀
  F : Fr h₀ L s.heap m
  X : (K w.params).In h₀
  T : Top vw (loo vw) mean mg mb h₀
  hf : env.frame = some L
  hke : env.scope.kind = .function
  hdp : dp + 20 < recursionLimit
  hun : un + 200 < cLine
  htk : 1 ≤ s.toks

/-- texts -/
abbrev tx (x : String) : Str := Str.ofString x
/-- the front and the further run of a cell -/
def fr1 (c : Int) : Str := Txt.mul (Str.ofString " ") (2 + (c.fdiv 4).fmod 2 * 2)
def fr2 (c : Int) : Str := Txt.mul (Str.ofString " ") ((c.fdiv 8).fmod 5)
/-- a row's blocks -/
def blk (c : Int) : List Str :=
  if c.fmod 4 = 0 then [fr1 c ++ Str.ofString "\t"]
  else if c.fmod 4 = 1 then [fr1 c ++ Str.ofString "\t", fr1 c ++ Str.ofString "\t" ++ fr2 c ++ Str.ofString "\t"]
  else if c.fmod 4 = 2 then [fr1 c ++ Str.ofString "\t", fr1 c ++ Str.ofString "\t" ++ fr2 c ++ Str.ofString " "]
  else [fr1 c ++ Str.ofString " "]
theorem len_t : (Str.ofString "\t").length = 1 := rfl
theorem len_s : (Str.ofString " ").length = 1 := rfl
theorem len_fr1 (c : Int) : (fr1 c).length ≤ 4 := by
  have h : (2 + (c.fdiv 4).fmod 2 * 2) ≤ ((4 : Nat) : Int) := by
    have := Int.fmod_lt_of_pos (c.fdiv 4) (b := 2) (by decide)
    omega
  have := len_mul_leN (x := Str.ofString " ") (L := 1) (N := 4) (by decide) h
  exact this
theorem len_fr1' (c : Int) : 2 ≤ (fr1 c).length := by
  have h := len_mul (Str.ofString " ") (2 + (c.fdiv 4).fmod 2 * 2)
  have b3 := Int.fmod_nonneg_of_pos (c.fdiv 4) (b := 2) (by decide)
  have e : decide ((2 + (c.fdiv 4).fmod 2 * 2) < 0) = false := decide_eq_false (by omega)
  rw [e] at h
  have e1 : ((Str.ofString " ").length : Int) = 1 := rfl
  rw [e1] at h
  unfold fr1
  simp only [Bool.false_eq_true, if_false] at h
  omega
theorem len_fr2 (c : Int) : (fr2 c).length ≤ 4 := by
  have h : ((c.fdiv 8).fmod 5) ≤ ((4 : Nat) : Int) := by
    have := Int.fmod_lt_of_pos (c.fdiv 8) (b := 5) (by decide)
    omega
  have := len_mul_leN (x := Str.ofString " ") (L := 1) (N := 4) (by decide) h
  exact this
section
variable {prog : Program} {w : World} {A : Around} {E : Value → Shared → Prop} {s : Shared} {x y : Str} {t u : Nat} {Q : Value → Shared → Prop}
theorem add_text (h : ∀ t' k, Q (.str (x ++ y) t') { s with toks := k }) (hsz : x.length + y.length ≤ 1000) :
    wpAny (model prog w) A (binaryOp .Add (.str x t) (.str y u)) Q E s := SB.add h (by rw [sizeLine_eq]; omega)
/-- the glued text's token is no nought -/
theorem add_textP (ht : 1 ≤ t) (hu : 1 ≤ u) (hs : 1 ≤ s.toks) (h : ∀ (t' k : Nat), 1 ≤ t' → s.toks ≤ k → Q (.str (x ++ y) t') { s with toks := k }) (hsz : x.length + y.length ≤ 1000) :
    wpAny (model prog w) A (binaryOp .Add (.str x t) (.str y u)) Q E s := by
  refine P.add_str ?_
  by_cases hx : (x.length == 0) = true
  · rw [if_pos hx]; have h' := h u s.toks hu (Nat.le_refl _); rw [Str.append_left_empty hx] at h'; exact h'
  · rw [if_neg hx]
    by_cases hy : (y.length == 0) = true
    · rw [if_pos hy]; have h' := h t s.toks ht (Nat.le_refl _); rw [Str.append_right_empty hy] at h'; exact h'
    · rw [if_neg hy]; exact ⟨by rw [size_cat, sizeLine_eq]; omega, h _ _ hs (Nat.le_succ _)⟩
theorem mul_textP {n : Int} (hok : MulOk x n) (ht : 1 ≤ t) (hs : 1 ≤ s.toks) (h : ∀ (t' k : Nat), 1 ≤ t' → s.toks ≤ k → Q (.str (Txt.mul x n) t') { s with toks := k }) : wpAny (model prog w) A (binaryOp .Mult (.str x t) (.int n u)) Q E s := by
  refine P.mul_str hok.1 hok.2.1 hok.2.2 ?_
  unfold Txt.mul at h
  by_cases h1 : n < 1
  · rw [if_pos h1]; have h' := h s.toks (s.toks + 1) hs (Nat.le_succ _); rw [if_pos h1] at h'; exact ⟨by decide, h'⟩
  · rw [if_neg h1]
    by_cases hc : (n == 1 || x.length == 0) = true
    · rw [if_pos hc]; have h' := h t s.toks ht (Nat.le_refl _); rw [if_neg h1, if_pos hc] at h'; exact h'
    · rw [if_neg hc]; have h' := h s.toks (s.toks + 1) hs (Nat.le_succ _); rw [if_neg h1, if_neg hc] at h'; exact ⟨fits_reps (hok.2.2 h1 (by simpa using hc)), h'⟩
end
theorem add_textX {prog : Program} {w : World} {A : Around} {E : Value → Shared → Prop} {s : Shared} {x y : Str} {t u : Nat} {Q : Value → Shared → Prop} (hx : (x.length == 0) = false) (hy : (y.length == 0) = false) (h : Q (.str (x ++ y) s.toks) { s with toks := s.toks + 1 }) (hsz : x.length + y.length ≤ 1000) :
    wpAny (model prog w) A (binaryOp .Add (.str x t) (.str y u)) Q E s := by
  refine P.add_str ?_
  rw [if_neg (by rw [hx]; exact Bool.false_ne_true), if_neg (by rw [hy]; exact Bool.false_ne_true)]
  exact ⟨by rw [size_cat, sizeLine_eq]; omega, h⟩
/-- values that are these texts, their tokens rising between two bounds -/
inductive Ups : Nat → Nat → List Value → List Str → Prop
  | nil {lo hi : Nat} : lo ≤ hi → Ups lo hi [] []
  | cons {lo hi : Nat} (y : Str) (t : Nat) {vs ys} : lo ≤ t → Ups (t + 1) hi vs ys → Ups lo hi (.str y t :: vs) (y :: ys)
theorem Ups.le {lo hi : Nat} {vs : List Value} {ys : List Str} (h : Ups lo hi vs ys) : lo ≤ hi := by
  induction h with
  | nil h => exact h
  | cons y t h _ ih => omega
theorem Ups.length {lo hi : Nat} {vs : List Value} {ys : List Str} (h : Ups lo hi vs ys) : vs.length = ys.length := by
  induction h with
  | nil => rfl
  | cons y t _ _ ih => rw [List.length_cons, List.length_cons, ih]
theorem Ups.strs {lo hi : Nat} {vs : List Value} {ys : List Str} (h : Ups lo hi vs ys) : StrsAre vs ys := by
  induction h with
  | nil => exact .nil
  | cons y t _ _ ih => exact .cons y t ih
theorem Ups.lower {lo hi lo' : Nat} {vs : List Value} {ys : List Str} (h : Ups lo hi vs ys) (hl : lo' ≤ lo) : Ups lo' hi vs ys := by
  cases h with
  | nil h => exact .nil (by omega)
  | cons y t h1 h2 => exact .cons y t (by omega) h2
theorem Ups.append {lo mid hi : Nat} {vs ws : List Value} {ys zs : List Str} (h : Ups lo mid vs ys) (k : Ups mid hi ws zs) : Ups lo hi (vs ++ ws) (ys ++ zs) := by
  induction h with
  | nil h => exact k.lower h
  | cons y t h1 _ ih => exact .cons y t h1 (ih k)
theorem Ups.mem {lo hi : Nat} {vs : List Value} {ys : List Str} (h : Ups lo hi vs ys) : ∀ {v : Value}, v ∈ vs → ∃ (y : Str) (t : Nat), v = .str y t ∧ y ∈ ys ∧ lo ≤ t ∧ t < hi := by
  induction h with
  | nil => intro v hv; cases hv
  | cons y t h1 h2 ih =>
    intro v hv
    rcases List.mem_cons.mp hv with rfl | hv
    · exact ⟨y, t, rfl, .head _, h1, h2.le⟩
    · obtain ⟨z, u, e, hz, a, b⟩ := ih hv
      exact ⟨z, u, e, .tail _ hz, by omega, b⟩
/-- values that are these texts, with tokens that are no noughts -/
inductive TextsAre : List Value → List Str → Prop
  | nil : TextsAre [] []
  | cons (y : Str) (t : Nat) {vs ys} (h : 1 ≤ t) : TextsAre vs ys → TextsAre (.str y t :: vs) (y :: ys)
theorem Ups.texts {lo hi : Nat} {vs : List Value} {ys : List Str} (h : Ups lo hi vs ys) : 1 ≤ lo → TextsAre vs ys := by
  induction h with
  | nil => intro _; exact .nil
  | cons y t h1 _ ih => intro h0; exact .cons y t (by omega) (ih (by omega))
theorem TextsAre.append {vs ws : List Value} {ys zs : List Str} (h : TextsAre vs ys) (k : TextsAre ws zs) : TextsAre (vs ++ ws) (ys ++ zs) := by
  induction h with
  | nil => exact k
  | cons y t h1 _ ih => exact .cons y t h1 ih
theorem TextsAre.length {vs : List Value} {ys : List Str} (h : TextsAre vs ys) : vs.length = ys.length := by
  induction h with
  | nil => rfl
  | cons y t _ _ ih => rw [List.length_cons, List.length_cons, ih]
theorem TextsAre.get {vs : List Value} {ys : List Str} (h : TextsAre vs ys) : ∀ {i : Nat} {y : Str}, ys[i]? = some y → ∃ t : Nat, 1 ≤ t ∧ vs[i]? = some (.str y t) := by
  induction h with
  | nil => intro i y e; cases e
  | cons z t ht _ ih =>
    intro i y e
    cases i with
    | zero => cases e; exact ⟨t, ht, rfl⟩
    | succ i => exact ih e
/-- one token, one text -/
def Coh (vs : List Value) : Prop := ∀ (p q : Str) (t : Nat), Value.str p t ∈ vs → Value.str q t ∈ vs → p = q
theorem Ups.coh {lo hi : Nat} {vs : List Value} {ys : List Str} (h : Ups lo hi vs ys) : Coh vs := by
  induction h with
  | nil => intro p q t h; cases h
  | cons y t h1 h2 ih =>
    intro p q u hp hq
    rcases List.mem_cons.mp hp with e | hp <;> rcases List.mem_cons.mp hq with e' | hq
    · injection e with e1; injection e' with e2; exact e1.trans e2.symm
    · exfalso
      injection e with _ e2
      obtain ⟨z, v, e3, _, a, _⟩ := h2.mem hq
      injection e3 with _ e4
      have a' : t + 1 ≤ v := a
      have e5 : u = t := e2
      have e6 : u = v := e4
      omega
    · exfalso
      injection e' with _ e2
      obtain ⟨z, v, e3, _, a, _⟩ := h2.mem hp
      injection e3 with _ e4
      have a' : t + 1 ≤ v := a
      have e5 : u = t := e2
      have e6 : u = v := e4
      omega
    · exact ih p q u hp hq

theorem ns_none {K : Frag} {h : Heap} {a : Addr} {m : Str → Option Value} {n : Str} (X : K.In h) (G : h.Ns a m) (e : nsIn K a n = some none) : m n = none := by
  obtain ⟨o, es, ep, ho, hd, _, hf⟩ := G
  unfold nsIn at e
  split at e
  · rename_i c d es' n' sl q
    have e1 := X _ _ q
    rw [ho] at e1
    injection e1 with e2
    rw [e2] at hd
    injection hd with e3
    subst e3
    split at e
    · cases e
    · rename_i he
      rw [← hf]
      unfold nsFind findBy
      rw [← Array.find?_toList, he]
      rfl
  · cases e
theorem NoneBooked.keeps {h h' : Heap} (b : NoneBooked h) (k : ∀ b o, h.get? b = some o → h'.get? b = some o) : NoneBooked h' := let ⟨mc, hn, e⟩ := b; ⟨mc, hn.keeps k, e⟩
theorem is_str {M : Model} {A : Around} {E : Value → Shared → Prop} {s : Shared} {y z : Str} {u v : Nat} {Q : Value → Shared → Prop} (hu : 1 ≤ u) (hv : 1 ≤ v) (hb : NoneBooked s.heap) (hc : u = v → y = z) (hq : ∀ b : Bool, (b = true → y = z) → Q (.bool b) s) :
    wpAny M A (compareOp .Is (.str y u) (.str z v)) Q E s := by
  show wpAny M A (do return .bool (← isSame (.str y u) (.str z v))) Q E s
  have key : ∀ {R : Bool → Shared → Prop}, (∀ b : Bool, (b = true → y = z) → R b s) → wpAny M A (isSame (.str y u) (.str z v)) R E s := by
    intro R hR
    show wpAny M A (isSame.created (y == z) u v) R E s
    unfold isSame.created
    have h0 : ((u : Nat) == 0 || (v : Nat) == 0) = false := by simp; omega
    refine wpAny_ite ?_
    split
    · rename_i h; exact absurd (h.symm.trans h0) (by decide)
    refine wpAny_ite ?_
    split
    · rename_i h; exact wpAny_pure (hR _ fun _ => hc (beq_iff_eq.mp h))
    refine wpAny_ite ?_
    split
    · exact wpAny_pure (hR _ fun h => absurd h Bool.false_ne_true)
    · rename_i h
      have e : y = z := by simpa using h
      refine wpAny_bind (wpAny_sharingNotTold_none hb ?_)
      simp only [Bool.false_eq_true, if_false]
      refine wpAny_bind (wpAny_sharingNotTold_none hb ?_)
      simp only [Bool.false_eq_true, if_false]
      exact wpAny_bind (wpAny_rule (wpAny_bind (wpAny_askSetting (wpAny_pure (hR _ fun _ => e)))))
  exact wpAny_bind (key fun b hbz => wpAny_pure (hq b hbz))
end
section
open PySem PySem.W PyProof.Rows PySem.Calls
structure CutQ {α : Type} (Q Q' : α → Shared → Prop) : Prop where
  k : ∀ a s, Q a s → Q' a s
theorem cut_q {α : Type} {M : Model} {A : Around} {t : Sem α} {Q : α → Shared → Prop} {E : Value → Shared → Prop} {s : Shared} (k : ∀ Q' : α → Shared → Prop, CutQ Q Q' → wpAny M A t Q' E s) : wpAny M A t Q E s := k Q ⟨fun _ _ h => h⟩
theorem cut_end {α : Type} {Q Q' : α → Shared → Prop} {a : α} {s : Shared} (c : CutQ Q Q') (h : Q a s) : Q' a s := c.k a s h
def Then (M : Model) (A : Around) (env : Env) (rest : List Stmt) (Q : Flow → Shared → Prop) (E : Value → Shared → Prop) (n : Nat) (fl : Flow) (s : Shared) : Prop :=
  n ≤ s.toks → match fl with | .next => wpAny M A (execs rest env) Q E s | f => Q f s
section
variable {M : Model} {A : Around} {env : Env} {st : Stmt} {rest : List Stmt} {Q Q' : Flow → Shared → Prop} {E : Value → Shared → Prop} {h : Heap} {g : Array GenState} {d : Drawn} {o : OsState} {X n t0 : Nat} {s : Shared}
theorem step_first (_m : TokLo n) (hX : n ≤ X) (k : ∀ tk, n ≤ tk → ∀ Q' : Flow → Shared → Prop, CutQ (Then M A env rest Q E tk) Q' → wpAny M A (exec st env) Q' E ⟨h, g, d, tk, o⟩) : wpAny M A (execs (st :: rest) env) Q E ⟨h, g, d, X, o⟩ :=
  wpAny_execs_cons (toks_in (k X hX _ ⟨fun _ _ x => x⟩))
theorem step_next (c : CutQ (Then M A env (st :: rest) Q E t0) Q') (hn : n ≤ t0) (_m : TokLo n) (k : ∀ tk, n ≤ tk → ∀ Q'' : Flow → Shared → Prop, CutQ (Then M A env rest Q E tk) Q'' → wpAny M A (exec st env) Q'' E ⟨h, g, d, tk, o⟩) : Q' .next ⟨h, g, d, X, o⟩ :=
  c.k _ _ fun hX => step_first ⟨⟩ (Nat.le_trans hn hX) k
theorem step_last (c : CutQ (Then M A env [] Q E t0) Q') (k : t0 ≤ s.toks → Q .next s) : Q' .next s := c.k _ _ fun hX => wpAny_execs_nil (k hX)
end
def upd (m : Str → Option Value) (x : Str) (v : Value) : Str → Option Value := fun y => if y = x then some v else m y
def Look (m : Str → Option Value) (x : Str) (v : Value) : Prop := m x = some v
theorem look_mk {m : Str → Option Value} {x : Str} {v : Value} (h : some v = m x) : Look m x v := h.symm
section
variable {M : Model} {A : Around} {E : Value → Shared → Prop} {s : Shared} {h₀ : Heap} {L a : Addr} {m : Str → Option Value} {cn : Str} {cs : Scope} {ccd : Value} {cl : List (Str × Addr)}
  {x : Str} {pos : Pos} {v : Value} {news : List (Addr × Obj)}
theorem name_u {Q : Value → Shared → Prop} (F : Fr h₀ L s.heap m) (hv : Look m x v) (h : Q v s)
    (hk : cs.kind = .function := by rfl) (hx : (envX cn cs L a ccd cl).kindOf x = some .local := by rfl) (hd : (x == ("__debug__" : Str)) = false := by decide) :
    wpAny M A (eval (.Name x pos) (envX cn cs L a ccd cl)) Q E s := nameX_L F hv h hk hx hd
theorem store_u {Q : Unit → Shared → Prop} (F : Fr h₀ L s.heap m) (N : News h₀ L s.heap news)
    (h : ∀ h', let m' := upd m x v; Fr h₀ L h' m' → News h₀ L h' news → Q () { s with heap := h', toks := s.toks + 1 })
    (hk : cs.kind = .function := by rfl) (hx : (envX cn cs L a ccd cl).kindOf x = some .local := by rfl) : wpAny M A (storeName (envX cn cs L a ccd cl) x v) Q E s := storeX_L F N h hk hx
end
theorem ne_lt {a b : Nat} (h : a < b) : a ≠ b := Nat.ne_of_lt h
theorem ne_gt {a b : Nat} (h : b < a) : a ≠ b := (Nat.ne_of_lt h).symm
theorem ne_id {a b : Nat} (h : a ≠ b) : a ≠ b := h
theorem ne_sy {a b : Nat} (h : b ≠ a) : a ≠ b := h.symm
theorem and_a {p q r : Prop} (k : p → r) : p ∧ q → r := fun h => k h.1
theorem and_b {p q r : Prop} (k : q → r) : p ∧ q → r := fun h => k h.2
theorem cut_imp {p r : Prop} (h : p) (k : p → r) : r := k h
theorem lt_c0 {n : Nat} : n < n + 1 := Nat.lt_succ_self n
theorem lt_c1 {m n : Nat} (h : m < n) : m < n + 1 := Nat.lt_succ_of_lt h
theorem room2 {d i j k r : Nat} (h : d + k < r) (hk : i + j ≤ k) : d + i + j < r := by omega
def nth {α : Type} : List α → Nat → Option α
  | [], _ => none
  | a :: _, 0 => some a
  | _ :: l, n + 1 => nth l n
theorem mem_i {α : Type} : ∀ {l : List α} {p : α} (i : Nat), nth l i = some p → p ∈ l
  | [], _, _, h => nomatch h
  | _ :: _, _, 0, h => Option.some.inj h ▸ .head _
  | _ :: _, _, i + 1, h => .tail _ (mem_i i h)
theorem let_news {h₀ h : Heap} {L : Addr} {news : List (Addr × Obj)} {P : Prop} (N : News h₀ L h news) (k : let nl := news; News h₀ L h nl → P) : P := k N
end
section
open PySem PySem.W PyProof.Rows PySem.Calls
theorem allLt_mem {D : Addr} : ∀ {l : List (Addr × Obj)}, AllLt D l → ∀ a ∈ l.map (fun x => x.1), a < D
  | [], _, _, h => nomatch h
  | _ :: _, h, a, hm => (List.mem_cons.mp hm).elim (fun e => by rw [e]; exact h.1) (allLt_mem h.2 a)
theorem alt_il {D a : Addr} {l : List (Addr × Obj)} (hm : a ∈ l.map (fun x => x.1)) (h : AllLt D l) : a ≠ D := Nat.ne_of_lt (allLt_mem h a hm)
theorem alt_ir {D a : Addr} {l : List (Addr × Obj)} (hm : a ∈ l.map (fun x => x.1)) (h : AllLt D l) : D ≠ a := (Nat.ne_of_lt (allLt_mem h a hm)).symm
theorem fa_il {D a : Addr} {l : List (Addr × Obj)} (hm : a ∈ l.map (fun x => x.1)) (h : ∀ p ∈ l, p.1 < D) : a ≠ D := alt_il hm (allLt_of h)
theorem fa_ir {D a : Addr} {l : List (Addr × Obj)} (hm : a ∈ l.map (fun x => x.1)) (h : ∀ p ∈ l, p.1 < D) : D ≠ a := alt_ir hm (allLt_of h)
/-- the end that returns True, told ahead of the walk -/
structure EndOk (s₁ : Shared) (G : Shared → Prop) : Prop where
  k : ∀ (L : Addr) (m : Str → Option Value) (s' : Shared), Fr s₁.heap L s'.heap m → s'.gens = #[] → s'.os = s₁.os → G s'
theorem early {Qk : Flow → Shared → Prop} {P : Prop} {c : ClaimW} {cl : Str → Option Addr} {mean : ExcName → Option Value} {args : List WData} {s₁ : Shared}
    (_hq : ∀ s', Qk (.ret (.bool true)) s' = GoodW c cl mean args s₁ (.ok (.ret (.bool true))) s') (hn : ∀ cls, c.raises args cls = false) (hp : c.post args (.bool true) args = true)
    (k : EndOk s₁ (GoodW c cl mean args s₁ (.ok (.ret (.bool true)))) → P) : P := k ⟨fun _ _ _ F hg hos => goodW_bool F hg hn hp hos⟩
/-- a fact laid by (omega does not see it) -/
structure Hid (P : Prop) : Prop where
  go : P
end
section
open PySem PySem.W PyProof.Rows PySem.Calls
theorem fr_kept {g h h' : Heap} {L : Addr} {m : Str → Option Value} (F : Fr g L h m) (k : Kept h h') : Fr g L h' m := F.keeps k
theorem news_kept {g h h' : Heap} {L : Addr} {N : List (Addr × Obj)} (F : News g L h N) (k : Kept h h') : News g L h' N := F.grown k
theorem list_ne {g h : Heap} {L D : Addr} {m : Str → Option Value} {items : Array Value} (x : g.IsList D items) (F : Fr g L h m) : D ≠ L := let ⟨_, ho, _⟩ := x; Nat.ne_of_lt (Nat.lt_of_lt_of_le (Heap.lt_size ho) F.above)
theorem list_keep {g h : Heap} {L D : Addr} {m : Str → Option Value} {items : Array Value} (x : g.IsList D items) (F : Fr g L h m) : h.IsList D items := x.at fun o e => F.keep D o e
theorem or_in {a b c : Prop} (f : a → c) (g : b → c) : a ∨ b → c := fun h => h.elim f g
end
local macro_rules | `(tactic| walk_at "or_find") => `(tactic| first | assumption | (apply Or.inl; walk_at "or_find") | (apply Or.inr; walk_at "or_find"))
local macro_rules | `(tactic| walk_at "mem_sub") => `(tactic| (intro p hp; revert hp; simp only [List.mem_cons, List.mem_append, List.not_mem_nil, or_false, false_or]; (repeat' (refine or_in ?_ ?_)); all_goals (intro hp; walk_at "or_find")))
section
section
variable {prog : Program} {w : World} {A : Around} {E : Value → Shared → Prop} {s : Shared} {env : Env} {h₀ : Heap} {target : Expr} {body : List Stmt} {Q : Flow → Shared → Prop}

/-- a turn's end: the frame's map is as J says, and all of the ledger stands -/
def KEnd (h₀ : Heap) (L : Addr) (J : (Str → Option Value) → Prop) (need : List (Addr × Obj)) (s₁ s₂ : Shared) : Prop :=
  ∃ h' tk m' news', s₂ = { s₁ with heap := h', toks := tk } ∧ Fr h₀ L h' m' ∧ News h₀ L h' news' ∧ (∀ p ∈ need, p ∈ news') ∧ J m'
def KPost (h₀ : Heap) (L : Addr) (J : (Str → Option Value) → Prop) (need : List (Addr × Obj)) (s₁ : Shared) (Q : Flow → Shared → Prop) (f : Flow) (s₂ : Shared) : Prop :=
  match f with
  | .ret v => Q (.ret v) s₂
  | .brk => Q .next s₂
  | _ => KEnd h₀ L J need s₁ s₂
theorem KEnd.intro {L : Addr} {J : (Str → Option Value) → Prop} {m' : Str → Option Value} {need news' : List (Addr × Obj)} {s₁ : Shared} {h' : Heap} {tk : Nat} (F : Fr h₀ L h' m') (N : News h₀ L h' news') (hn : ∀ p ∈ need, p ∈ news')
    (hj : J m') : KEnd h₀ L J need s₁ { s₁ with heap := h', toks := tk } := ⟨h', tk, m', news', rfl, F, N, hn, hj⟩

/-- a loop over a list: what stood in the ledger stands -/
theorem loop_keep {l : Addr} {vs : List Value} {m₀ : Str → Option Value} {news : List (Addr × Obj)} (J : Nat → (Str → Option Value) → Prop)
    (hh : A.handled = none) (hl : s.heap.IsList l vs.toArray) (hlL : l ≠ env.locals) (F : Fr h₀ env.locals s.heap m₀) (N : News h₀ env.locals s.heap news) (hj : J 0 m₀)
    (turn : ∀ i v m₁ h tk own, vs[i]? = some v → J i m₁ → Fr h₀ env.locals h m₁ → News h₀ env.locals h (own ++ news) →
      wpAny (model prog w) A (assign target env v) (fun _ s₂ => wpAny (model prog w) A (execs body env) (KPost h₀ env.locals (J (i + 1)) (own ++ news) { s with heap := h, toks := tk } Q) E s₂) E { s with heap := h, toks := tk })
    (done : ∀ m₁ h tk, J vs.length m₁ → Fr h₀ env.locals h m₁ → News h₀ env.locals h news → Q .next { s with heap := h, toks := tk }) :
    wpAny (model prog w) A (pyIter (.ref l)) (fun it s₂ => TurnsAt prog w A h₀ env target body Q E it s₂) E s := by
  obtain ⟨ol, hol, _⟩ := id hl
  have hlt : l < s.heap.objs.size := Heap.lt_size hol
  have hne : l ≠ s.heap.objs.size := Nat.ne_of_lt hlt
  refine wpAny_pyIter_list hl ?_
  have W := Walks.list (prog := prog) (w := w) hh s.heap.objs.size l hne vs.toArray
  have hlen : vs.toArray.size = vs.length := by simp
  rw [hlen] at W
  let J' : Nat → (Str → Option Value) → List (Addr × Obj) → Prop := fun i m₁ news₁ => news₁ = news ∧ J i m₁
  refine ⟨_, _, _, vs.length, _, _, _, m₀, news, J', rfl, KTurns.ofWalks W (fun i v s Q E st q => letGo_listiter st.1 q), ?_, ?_, ?_, ⟨⟨_, Heap.get?_push_size _ rfl, rfl, rfl⟩, hl.at fun o e => Heap.get?_push_of_some _ e⟩, F.push _, (fun p hp => ⟨Heap.get?_push_of_some _ (N p hp).1, (N p hp).2⟩), ⟨rfl, hj⟩, ?_, ?_⟩
  · intro hm
    rcases List.mem_cons.mp hm with e | hm
    · exact absurd F.ns.lt (e ▸ Nat.lt_irrefl _)
    · exact hlL (List.mem_singleton.mp hm).symm
  · intro b hb
    rw [List.mem_singleton.mp hb]
    exact next_is_new F
  · intro p hp hI
    exact absurd (Heap.lt_size (N p hp).1) ((List.mem_singleton.mp hI) ▸ Nat.lt_irrefl _)
  · rintro i v m₁ news₁ h₁ tk₁ own hin hP ⟨rfl, hJ⟩ hoff _ _ _ _ F₁ N₁
    have hP' : vs[i]? = some v := by simpa using hP
    refine wpAny_mono (turn i v m₁ h₁ tk₁ own hP' hJ F₁ N₁) (fun _ s₂ x => wpAny_mono x (fun f s₃ p => ?_) fun _ _ e => e) fun _ _ e => e
    have fin : KEnd h₀ env.locals (J (i + 1)) (own ++ news₁) { s with heap := h₁, toks := tk₁ } s₃ → LoopStepU h₀ env.locals [s.heap.objs.size] own (J' (i + 1)) { s with heap := h₁, toks := tk₁ } .next s₃ := by
      rintro ⟨h', tk, m', news', e, F', N', hn, hm⟩
      exact ⟨rfl, h', tk, m', news₁, e, F', fun p hp => N' p (hn p hp), hoff, rfl, hm⟩
    cases f with
    | ret v => exact .ret p
    | brk => exact .brk p
    | next => exact .next (fin p)
    | cont => exact .cont (fin p)
  · rintro h' tk m' news' F' N' _ ⟨rfl, hJ⟩
    exact done m' h' tk hJ F' N'

/-- the same where one name, an int, is turned: P says of it what holds -/
theorem loop_one {x y : Str} {l : Addr} {vs : List Value} {m₀ : Str → Option Value} {news : List (Addr × Obj)} {px : Pos} {a₀ : Int} {t₀ : Tok} (P : Nat → Int → Prop) (htg : target = .Name x px)
    (hh : A.handled = none) (hl : s.heap.IsList l vs.toArray) (hlL : l ≠ env.locals) (F : Fr h₀ env.locals s.heap m₀) (N : News h₀ env.locals s.heap news) (hy : m₀ y = some (.int a₀ t₀)) (hyx : y ≠ x) (hP : P 0 a₀)
    (hx : env.kindOf x = some .local) (hp : (env.scope.kind == .class || (env.scope.kind == .module && env.locals != env.globals)) = false)
    (turn : ∀ i v a (ta : Nat) h (tk : Nat) own, vs[i]? = some v → P i a → Fr h₀ env.locals h (fun z => if z = x then some v else if z = y then some (.int a ta) else m₀ z) → News h₀ env.locals h (own ++ news) →
      wpAny (model prog w) A (execs body env) (KPost h₀ env.locals (fun m' => (∃ a' t', m' y = some (.int a' t') ∧ P (i + 1) a') ∧ ∀ z, z ≠ x → z ≠ y → m' z = m₀ z) (own ++ news) { s with heap := h, toks := tk } Q) E { s with heap := h, toks := tk })
    (done : ∀ (u : Str → Option Value) a t h tk, P vs.length a → Fr h₀ env.locals h (fun z => if z = x then u z else if z = y then some (.int a t) else m₀ z) → News h₀ env.locals h news → Q .next { s with heap := h, toks := tk }) :
    wpAny (model prog w) A (pyIter (.ref l)) (fun it s₂ => TurnsAt prog w A h₀ env target body Q E it s₂) E s := by
  subst htg
  have two : ∀ {m₁ : Str → Option Value} {a : Int} {ta : Tok} {u : Str → Option Value}, m₁ y = some (.int a ta) → (∀ z, z ≠ x → z ≠ y → m₁ z = m₀ z) → (fun z => if z = x then u z else m₁ z) = fun z => if z = x then u z else if z = y then some (Value.int a ta) else m₀ z := by
    intro m₁ a ta u ha hm
    funext z
    by_cases h1 : z = x
    · simp [h1]
    · simp only [if_neg h1]
      by_cases h2 : z = y
      · subst h2; simp [ha]
      · simp only [if_neg h2]; exact hm z h1 h2
  refine loop_keep (fun i m => (∃ a t, m y = some (.int a t) ∧ P i a) ∧ ∀ z, z ≠ x → z ≠ y → m z = m₀ z) hh hl hlL F N ⟨⟨a₀, t₀, hy, hP⟩, fun _ _ _ => rfl⟩ ?_ ?_
  · rintro i v m₁ h tk own hv ⟨⟨a, ta, ha, hPa⟩, hm⟩ F₁ N₁
    refine wpAny_assign_Name (wpAny_storeName_local hx F₁.ns (fun h₂ hn₂ hs₂ => ?_) hp)
    have F₂ := F₁.set hn₂ hs₂
    have e := two (u := fun _ => some v) ha hm
    rw [e] at F₂
    have := turn i v a ta h₂ (tk + 1) own hv hPa F₂ (N₁.set hs₂)
    refine wpAny_mono this (fun f s₃ p => ?_) fun _ _ e => e
    cases f with
    | ret v => exact p
    | brk => exact p
    | next => obtain ⟨h', tk', m', news', e, r⟩ := p; exact ⟨h', tk', m', news', e, r⟩
    | cont => obtain ⟨h', tk', m', news', e, r⟩ := p; exact ⟨h', tk', m', news', e, r⟩
  · rintro m₁ h tk ⟨⟨a, t, ha, hPa⟩, hm⟩ F₁ N₁
    refine done m₁ a t h tk hPa ?_ N₁
    have e := two (u := m₁) ha hm
    rw [← e]
    have e2 : (fun z => if z = x then m₁ z else m₁ z) = m₁ := by funext z; split <;> rfl
    rw [e2]; exact F₁

theorem loop_text {x y : Str} {l : Addr} {vs : List Value} {ys : List Str} {m₀ : Str → Option Value} {news : List (Addr × Obj)} {px : Pos} {a₀ : Int} {t₀ : Tok} (P : Nat → Int → Prop) (htg : target = .Name x px)
    (hh : A.handled = none) (hl : s.heap.IsList l vs.toArray) (ht : TextsAre vs ys) (hlL : l ≠ env.locals) (F : Fr h₀ env.locals s.heap m₀) (N : News h₀ env.locals s.heap news) (hy : m₀ y = some (.int a₀ t₀)) (hyx : y ≠ x) (hP : P 0 a₀)
    (hx : env.kindOf x = some .local) (hp : (env.scope.kind == .class || (env.scope.kind == .module && env.locals != env.globals)) = false)
    (turn : ∀ i z (t : Nat) a (ta : Nat) h (tk : Nat) own, ys[i]? = some z → Value.str z t ∈ vs → 1 ≤ t → P i a → Fr h₀ env.locals h (fun z' => if z' = x then some (.str z t) else if z' = y then some (.int a ta) else m₀ z') → News h₀ env.locals h (own ++ news) →
      wpAny (model prog w) A (execs body env) (KPost h₀ env.locals (fun m' => (∃ a' t', m' y = some (.int a' t') ∧ P (i + 1) a') ∧ ∀ z, z ≠ x → z ≠ y → m' z = m₀ z) (own ++ news) { s with heap := h, toks := tk } Q) E { s with heap := h, toks := tk })
    (done : ∀ (u : Str → Option Value) a t h tk, P ys.length a → Fr h₀ env.locals h (fun z => if z = x then u z else if z = y then some (.int a t) else m₀ z) → News h₀ env.locals h news → Q .next { s with heap := h, toks := tk }) :
    wpAny (model prog w) A (pyIter (.ref l)) (fun it s₂ => TurnsAt prog w A h₀ env target body Q E it s₂) E s := by
  refine loop_one P htg hh hl hlL F N hy hyx hP hx hp (fun i v a ta h tk own hv hPa F₁ N₁ => ?_) (by rw [ht.length]; exact done)
  have hlt : i < ys.length := by
    have := (List.getElem?_eq_some_iff.mp hv).1
    rw [ht.length] at this
    exact this
  obtain ⟨t, h1, h2⟩ := ht.get (List.getElem?_eq_getElem hlt)
  rw [hv] at h2
  injection h2 with h3
  subst h3
  exact turn i _ t a ta h tk own (List.getElem?_eq_getElem hlt) (List.mem_of_getElem? hv) h1 hPa F₁ N₁

/-- names laid over a map -/
def updL : List (Str × Value) → (Str → Option Value) → Str → Option Value
  | [], m => m
  | p :: r, m => fun z => if z = p.1 then some p.2 else updL r m z
theorem updL_at {m₁ b : Str → Option Value} {z : Str} : ∀ (ps : List (Str × Value)), (∀ p ∈ ps, m₁ p.1 = some p.2) → (z ∉ ps.map (·.1) → b z = m₁ z) → updL ps b z = m₁ z := by
  intro r
  induction r with
  | nil => intro _ h; exact h (fun h => nomatch h)
  | cons q r ih =>
    intro g1 g2
    show (if z = q.1 then some q.2 else updL r b z) = m₁ z
    by_cases e' : z = q.1
    · rw [if_pos e', e']; exact (g1 q (.head _)).symm
    · rw [if_neg e']
      exact ih (fun q' hq' => g1 q' (.tail _ hq')) fun hz => g2 fun hm => by
        rw [List.map_cons] at hm
        rcases List.mem_cons.mp hm with h | h
        · exact e' h
        · exact hz h
theorem updL_eq {m₁ b : Str → Option Value} (ps : List (Str × Value)) (h1 : ∀ p ∈ ps, m₁ p.1 = some p.2) (h2 : ∀ z, z ∉ ps.map (·.1) → b z = m₁ z) : updL ps b = m₁ := funext fun z => updL_at ps h1 (h2 z)

/-- a turn's end under a word over the names and the ledger -/
def GEnd {σ : Type} (h₀ : Heap) (L : Addr) (Led : σ → List (Addr × Obj)) (cst : List (Addr × Obj)) (ps : σ → List (Str × Value)) (nm st : List Str) (m₀ : Str → Option Value) (P : σ → Prop) (own : List (Addr × Obj)) (it : String) (s₁ s₂ : Shared) : Prop :=
  ∃ (c : σ) (h' : Heap) (tk : Nat) (m' : Str → Option Value) (all : List (Addr × Obj)), s₂ = { s₁ with heap := h', toks := tk } ∧ Fr h₀ L h' m' ∧ News h₀ L h' all ∧ (∀ p ∈ Led c, p ∈ all) ∧ (∀ p ∈ cst, p ∈ all) ∧ (∀ p ∈ own, p ∈ all) ∧ (∀ p ∈ Led c, p.2.cls ≠ .type it) ∧
    (∀ p ∈ ps c, m' p.1 = some p.2) ∧ (∀ z, nm.contains z = false → st.contains z = false → m' z = m₀ z) ∧ P c
def GPost {σ : Type} (h₀ : Heap) (L : Addr) (Led : σ → List (Addr × Obj)) (cst : List (Addr × Obj)) (ps : σ → List (Str × Value)) (nm st : List Str) (m₀ : Str → Option Value) (P B : σ → Prop) (own : List (Addr × Obj)) (it : String) (s₁ : Shared) (Q : Flow → Shared → Prop) (f : Flow) (s₂ : Shared) : Prop :=
  match f with
  | .ret v => Q (.ret v) s₂
  | .brk => GEnd h₀ L Led cst ps nm st m₀ B own it s₁ s₂
  | _ => GEnd h₀ L Led cst ps nm st m₀ P own it s₁ s₂
theorem GEnd.intro {σ : Type} {L : Addr} {Led : σ → List (Addr × Obj)} {cst : List (Addr × Obj)} {ps : σ → List (Str × Value)} {nm st : List Str} {m₀ : Str → Option Value} {P : σ → Prop} {own : List (Addr × Obj)} {it : String} {s₁ : Shared} (c : σ) {h' : Heap} {tk : Nat} {m' : Str → Option Value} {all : List (Addr × Obj)}
    (F : Fr h₀ L h' m') (N : News h₀ L h' all) (h1 : ∀ p ∈ Led c, p ∈ all) (h1' : ∀ p ∈ cst, p ∈ all) (h2 : ∀ p ∈ own, p ∈ all) (h3 : ∀ p ∈ Led c, p.2.cls ≠ .type it) (h4 : ∀ p ∈ ps c, m' p.1 = some p.2) (h5 : ∀ z, nm.contains z = false → st.contains z = false → m' z = m₀ z) (h6 : P c) :
    GEnd h₀ L Led cst ps nm st m₀ P own it s₁ { s₁ with heap := h', toks := tk } := ⟨c, h', tk, m', all, rfl, F, N, h1, h1', h2, h3, h4, h5, h6⟩

theorem loop_core {σ : Type} {I : Addr} {fp : List Addr} {n : Nat} {Pv : Nat → Value → Prop} {St : Nat → Heap → Prop} {it : String} {hp : Heap} {tk0 : Nat} {m₀ : Str → Option Value} {news : List (Addr × Obj)} {mu : List Addr} {Led : σ → List (Addr × Obj)} {cst : List (Addr × Obj)} {ps : σ → List (Str × Value)} {nm st : List Str} {P : Nat → σ → Prop} {B : σ → Prop} {c₀ : σ}
    (W : Walks prog w A I fp [I] n Pv St) (hgo : ∀ i v (s : Shared) (Q : Unit → Shared → Prop) (E : Value → Shared → Prop), St i s.heap → Q () s → wpAny (model prog w) A (letOwnedTupleGo target (.ref I) v) Q E s)
    (hobj : ∀ i h, St i h → ∃ o, h.get? I = some o ∧ o.cls = .type it) (hL : env.locals ∉ fp) (hI0 : h₀.get? I = none) (hmu : ∀ a ∈ mu, a ∉ fp) (hst : St 0 hp) (F : Fr h₀ env.locals hp m₀) (N : News h₀ env.locals hp news) (hnx : ∀ p ∈ Led c₀ ++ cst, p ∈ news) (hne : ∀ p ∈ Led c₀ ++ cst, p.1 ≠ I)
    (hk0 : ∀ p ∈ ps c₀, m₀ p.1 = some p.2) (hnm : ∀ c, (ps c).map (·.1) = nm) (hP : P 0 c₀) (hB : ∀ c, P n c → B c)
    (turn : ∀ i v c (u : Str → Option Value) h tk own, i < n → Pv i v → P i c → OwnOff own mu → (∀ p ∈ own, p.1 ∈ fp) → (∀ q ∈ Led c, q.1 ≠ I) → Fr h₀ env.locals h (updL (ps c) fun z => if st.contains z then u z else m₀ z) → News h₀ env.locals h (Led c ++ (cst ++ own)) →
      wpAny (model prog w) A (assign target env v) (fun _ s₂ => wpAny (model prog w) A (execs body env) (GPost h₀ env.locals Led cst ps nm st m₀ (P (i + 1)) B own it { s with heap := h, toks := tk } Q) E s₂) E { s with heap := h, toks := tk })
    (done : ∀ c (u : Str → Option Value) h tk, B c → Fr h₀ env.locals h (updL (ps c) fun z => if st.contains z then u z else m₀ z) → News h₀ env.locals h (Led c ++ cst) → Q .next { s with heap := h, toks := tk }) :
    TurnsAt prog w A h₀ env target body Q E (.ref I) { s with heap := hp, toks := tk0 } := by
  let J : Nat → (Str → Option Value) → List (Addr × Obj) → Prop := fun i m₁ nx => ∃ c, nx = Led c ++ cst ∧ P i c ∧ (∀ p ∈ ps c, m₁ p.1 = some p.2) ∧ (∀ z, nm.contains z = false → st.contains z = false → m₁ z = m₀ z) ∧ ∀ q ∈ Led c, q.1 ≠ I
  have mapE : ∀ {m₁ : Str → Option Value} {c : σ}, (∀ p ∈ ps c, m₁ p.1 = some p.2) → (∀ z, nm.contains z = false → st.contains z = false → m₁ z = m₀ z) → (updL (ps c) fun z => if st.contains z then m₁ z else m₀ z) = m₁ := by
    intro m₁ c h1 h2
    refine updL_eq _ h1 fun z hz => ?_
    rw [hnm] at hz
    by_cases e : st.contains z = true
    · rw [if_pos e]
    · rw [if_neg e]; exact (h2 z (by simpa using hz) (by simpa using e)).symm
  refine ⟨I, fp, [I], n, _, _, _, m₀, Led c₀ ++ cst, J, rfl, KTurns.ofWalks W hgo, hL, fun b hb => by rw [List.mem_singleton.mp hb]; exact hI0, fun p hp hI => hne p hp (List.mem_singleton.mp hI), hst, F, fun p hp => N p (hnx p hp), ⟨c₀, rfl, hP, hk0, fun _ _ _ => rfl, fun q hq => hne q (List.mem_append.mpr (.inl hq))⟩, ?_, ?_⟩
  · rintro i v m₁ news₁ h₁ tk₁ own hin hPv ⟨c, rfl, hPc, h1, h2, h3⟩ hoffI hown hget hall hst₁ F₁ N₁
    have hoff : OwnOff own mu := fun p hp b hb e => hmu b hb (e ▸ hown p hp)
    obtain ⟨oI, hoI, hcI⟩ := hobj _ _ hst₁
    have hmI : (I, oI) ∈ own := hall I (W.sub I (List.mem_singleton.mpr rfl)) hI0 oI hoI
    have N₂ : News h₀ env.locals h₁ (Led c ++ (cst ++ own)) := fun p hp => N₁ p (by
      rcases List.mem_append.mp hp with h | h
      · exact List.mem_append.mpr (.inr (List.mem_append.mpr (.inl h)))
      · rcases List.mem_append.mp h with h | h
        · exact List.mem_append.mpr (.inr (List.mem_append.mpr (.inr h)))
        · exact List.mem_append.mpr (.inl h))
    rw [← mapE h1 h2] at F₁
    refine wpAny_mono (turn i v c m₁ h₁ tk₁ own hin hPv hPc hoff hown h3 F₁ N₂) (fun _ s₂ x => wpAny_mono x (fun f s₃ p => ?_) fun _ _ e => e) fun _ _ e => e
    have fin : GEnd h₀ env.locals Led cst ps nm st m₀ (P (i + 1)) own it { s with heap := h₁, toks := tk₁ } s₃ → LoopStepU h₀ env.locals [I] own (J (i + 1)) { s with heap := h₁, toks := tk₁ } .next s₃ := by
      rintro ⟨c', h', tk, m', all, e, F', N', g1, g1', g2, g3, g4, g5, g6⟩
      have hLI : ∀ q ∈ Led c', q.1 ≠ I := fun p hp hI => by
        have e1 := (N' p (g1 p hp)).1
        have e2 := (N' _ (g2 _ hmI)).1
        rw [hI] at e1
        rw [e2] at e1
        injection e1 with e3
        exact g3 p hp (e3 ▸ hcI)
      refine ⟨rfl, h', tk, m', Led c' ++ cst, e, F', fun p hp => N' p ((List.mem_append.mp hp).elim (g2 p) fun h => (List.mem_append.mp h).elim (g1 p) (g1' p)), fun p hp hI => ?_, c', rfl, g6, g4, g5, hLI⟩
      rcases List.mem_append.mp hp with hp | hp
      · exact hLI p hp (List.mem_singleton.mp hI)
      · exact hoffI p (List.mem_append.mpr (.inr hp)) hI
    cases f with
    | ret v => exact .ret p
    | brk =>
      refine .brk ?_
      obtain ⟨c', h', tk, m', all, e, F', N', g1, g1', g2, g3, g4, g5, g6⟩ := p
      subst e
      rw [← mapE g4 g5] at F'
      exact done c' m' h' tk g6 F' (fun p hp => N' p ((List.mem_append.mp hp).elim (g1 p) (g1' p)))
    | next => exact .next (fin p)
    | cont => exact .cont (fin p)
  · rintro h' tk m' news' F' N' _ ⟨c, rfl, hPc, h1, h2, _⟩
    rw [← mapE h1 h2] at F'
    exact done c m' h' tk (hB c hPc) F' N'

/-- a loop over a list, by a word over names and ledger -/
theorem loop_list {σ : Type} {l : Addr} {vs : List Value} {m₀ : Str → Option Value} {news : List (Addr × Obj)} (mu : List Addr) (Led : σ → List (Addr × Obj)) (cst : List (Addr × Obj)) (ps : σ → List (Str × Value)) (nm st : List Str) (P : Nat → σ → Prop) (B : σ → Prop) (c₀ : σ)
    (hh : A.handled = none) (hl : s.heap.IsList l vs.toArray) (hlL : l ≠ env.locals) (hlm : l ∉ mu) (hmu : ∀ a ∈ mu, a < s.heap.objs.size) (F : Fr h₀ env.locals s.heap m₀) (N : News h₀ env.locals s.heap news) (hnx : ∀ p ∈ Led c₀ ++ cst, p ∈ news)
    (hk0 : ∀ p ∈ ps c₀, m₀ p.1 = some p.2) (hnm : ∀ c, (ps c).map (·.1) = nm) (hP : P 0 c₀) (hB : ∀ c, P vs.length c → B c)
    (turn : ∀ i v c (u : Str → Option Value) h tk own, i < vs.length → vs[i]? = some v → P i c → OwnOff own mu → Fr h₀ env.locals h (updL (ps c) fun z => if st.contains z then u z else m₀ z) → News h₀ env.locals h (Led c ++ (cst ++ own)) →
      wpAny (model prog w) A (assign target env v) (fun _ s₂ => wpAny (model prog w) A (execs body env) (GPost h₀ env.locals Led cst ps nm st m₀ (P (i + 1)) B own "list_iterator" { s with heap := h, toks := tk } Q) E s₂) E { s with heap := h, toks := tk })
    (done : ∀ c (u : Str → Option Value) h tk, B c → Fr h₀ env.locals h (updL (ps c) fun z => if st.contains z then u z else m₀ z) → News h₀ env.locals h (Led c ++ cst) → Q .next { s with heap := h, toks := tk }) :
    wpAny (model prog w) A (pyIter (.ref l)) (fun it s₂ => TurnsAt prog w A h₀ env target body Q E it s₂) E s := by
  obtain ⟨ol, hol, _⟩ := id hl
  have hlt : l < s.heap.objs.size := Heap.lt_size hol
  have hne : l ≠ s.heap.objs.size := Nat.ne_of_lt hlt
  refine wpAny_pyIter_list hl ?_
  have W := Walks.list (prog := prog) (w := w) hh s.heap.objs.size l hne vs.toArray
  have hlen : vs.toArray.size = vs.length := by simp
  rw [hlen] at W
  refine loop_core (c₀ := c₀) (mu := mu) (nm := nm) (it := "list_iterator") W (fun i v s Q E st q => letGo_listiter st.1 q) (fun i h st => ?_) ?_ (next_is_new F) (fun a ha hm => ?_) ⟨⟨_, Heap.get?_push_size _ rfl, rfl, rfl⟩, hl.at fun o e => Heap.get?_push_of_some _ e⟩ (F.push _) (fun p hp => ⟨Heap.get?_push_of_some _ (N p hp).1, (N p hp).2⟩) hnx (fun p hp => Nat.ne_of_lt (Heap.lt_size (N p (hnx p hp)).1)) hk0 hnm hP hB
    (fun i v c u h tk own hin hPv hPc hoff _ _ => turn i v c u h tk own hin (by simpa using hPv) hPc hoff) done
  · obtain ⟨o, ho, hc, _⟩ := st.1; exact ⟨o, ho, hc⟩
  · intro hm
    rcases List.mem_cons.mp hm with e | hm
    · exact absurd F.ns.lt (e ▸ Nat.lt_irrefl _)
    · exact hlL (List.mem_singleton.mp hm).symm
  · rcases List.mem_cons.mp hm with e | hm
    · exact absurd (hmu a ha) (e ▸ Nat.lt_irrefl _)
    · exact hlm ((List.mem_singleton.mp hm) ▸ ha)

/-- a loop over range(a, b), by such a word -/
theorem loop_range {σ : Type} {r : Addr} {a₀ b₀ : Int} {t₀ u₀ v₀ : Tok} {n : Nat} {m₀ : Str → Option Value} {news : List (Addr × Obj)} (mu : List Addr) (Led : σ → List (Addr × Obj)) (cst : List (Addr × Obj)) (ps : σ → List (Str × Value)) (nm st : List Str) (P : Nat → σ → Prop) (B : σ → Prop) (c₀ : σ)
    (hh : A.handled = none) (hr : IsRange s.heap r a₀ b₀ 1 t₀ u₀ v₀) (hsmall : Builtin.Range.small a₀ b₀ 1 = true) (hsz : Builtin.Range.rangeSize a₀ b₀ 1 = (n : Int)) (hmu : ∀ a ∈ mu, a < s.heap.objs.size) (F : Fr h₀ env.locals s.heap m₀) (N : News h₀ env.locals s.heap news) (hnx : ∀ p ∈ Led c₀ ++ cst, p ∈ news)
    (hk0 : ∀ p ∈ ps c₀, m₀ p.1 = some p.2) (hnm : ∀ c, (ps c).map (·.1) = nm) (hP : P 0 c₀) (hB : ∀ c, P n c → B c)
    (turn : ∀ i (t : Nat) c (u : Str → Option Value) h tk own, i < n → P i c → OwnOff own mu → (∀ p ∈ own, ∀ q ∈ Led c, p.1 ≠ q.1) → Fr h₀ env.locals h (updL (ps c) fun z => if st.contains z then u z else m₀ z) → News h₀ env.locals h (Led c ++ (cst ++ own)) →
      wpAny (model prog w) A (assign target env (.int (a₀ + (i : Int)) t)) (fun _ s₂ => wpAny (model prog w) A (execs body env) (GPost h₀ env.locals Led cst ps nm st m₀ (P (i + 1)) B own "range_iterator" { s with heap := h, toks := tk } Q) E s₂) E { s with heap := h, toks := tk })
    (done : ∀ c (u : Str → Option Value) h tk, B c → Fr h₀ env.locals h (updL (ps c) fun z => if st.contains z then u z else m₀ z) → News h₀ env.locals h (Led c ++ cst) → Q .next { s with heap := h, toks := tk })
    (hgo : ∀ I v, letOwnedTupleGo target (.ref I) v = pure ()) :
    wpAny (model prog w) A (pyIter (.ref r)) (fun it s₂ => TurnsAt prog w A h₀ env target body Q E it s₂) E s := by
  refine wpAny_pyIter_range hr hsmall ?_
  have W := Walks.range (prog := prog) (w := w) hh s.heap.objs.size a₀ 1 n
  refine loop_core (c₀ := c₀) (mu := mu) (nm := nm) (it := "range_iterator") W (fun i v s Q E st q => wpAny_of_eq (hgo _ v) q) (fun i h st => ⟨_, st, rfl⟩) ?_ (next_is_new F) (fun a ha hm => ?_) (by show IsRangeIter _ _ _ _ _; rw [hsz]; simpa using Heap.get?_push_size _ rfl) (F.push _) (fun p hp => ⟨Heap.get?_push_of_some _ (N p hp).1, (N p hp).2⟩) hnx (fun p hp => Nat.ne_of_lt (Heap.lt_size (N p (hnx p hp)).1)) hk0 hnm hP hB
    (fun i v c u h tk own hin hPv hPc hoff hw hLI => ?_) done
  · intro hm
    exact absurd F.ns.lt ((List.mem_singleton.mp hm) ▸ Nat.lt_irrefl _)
  · exact absurd (hmu a ha) ((List.mem_singleton.mp hm) ▸ Nat.lt_irrefl _)
  · obtain ⟨t, rfl⟩ := hPv
    have e1 : a₀ + (i : Int) * 1 = a₀ + (i : Int) := by omega
    rw [e1]
    exact turn i t c u h tk own hin hPc hoff (fun p hp q hq e => hLI q hq (e.symm.trans (List.mem_singleton.mp (hw p hp))))

/-- a loop over a list that fills a list of ints at S, one a turn -/
theorem loop_ints {S l : Addr} {vs : List Value} {m₀ : Str → Option Value} {cst : List (Addr × Obj)} {n₀ : Nat} (st : List Str) (f : Nat → Int)
    (hh : A.handled = none) (hl : s.heap.IsList l vs.toArray) (hlL : l ≠ env.locals) (hlS : l ≠ S) (F : Fr h₀ env.locals s.heap m₀) (N : News h₀ env.locals s.heap ((S, listOf #[] n₀) :: cst))
    (turn : ∀ i v (ws : List Value) (n : Nat) (u : Str → Option Value) h (tk : Nat) own, i < vs.length → vs[i]? = some v → IntsAre ws ((List.range i).map f) → OwnOff own [S] → Fr h₀ env.locals h (fun z => if st.contains z then u z else m₀ z) → News h₀ env.locals h ((S, listOf ws.toArray n) :: (cst ++ own)) →
      wpAny (model prog w) A (assign target env v) (fun _ s₂ => wpAny (model prog w) A (execs body env) (GPost h₀ env.locals (fun c : List Value × Nat => [(S, listOf c.1.toArray c.2)]) cst (fun _ => []) [] st m₀ (fun c => IntsAre c.1 ((List.range (i + 1)).map f)) (fun c => IntsAre c.1 ((List.range vs.length).map f)) own "list_iterator" { s with heap := h, toks := tk } Q) E s₂) E { s with heap := h, toks := tk })
    (done : ∀ (ws : List Value) (n : Nat) (u : Str → Option Value) h (tk : Nat), IntsAre ws ((List.range vs.length).map f) → Fr h₀ env.locals h (fun z => if st.contains z then u z else m₀ z) → News h₀ env.locals h ((S, listOf ws.toArray n) :: cst) → Q .next { s with heap := h, toks := tk }) :
    wpAny (model prog w) A (pyIter (.ref l)) (fun it s₂ => TurnsAt prog w A h₀ env target body Q E it s₂) E s :=
  loop_list (σ := List Value × Nat) [S] (fun c => [(S, listOf c.1.toArray c.2)]) cst (fun _ => []) [] st (fun i c => IntsAre c.1 ((List.range i).map f)) (fun c => IntsAre c.1 ((List.range vs.length).map f)) ([], n₀) hh hl hlL (by simpa using hlS) (fun a ha => by rw [List.mem_singleton.mp ha]; exact Heap.lt_size (N _ (.head _)).1) F N (fun p hp => hp) (fun _ h => nomatch h) (fun _ => rfl) .nil (fun _ h => h)
    (fun i v c u h tk own hi hv hP hoff F₁ N₁ => turn i v c.1 c.2 u h tk own hi hv hP hoff F₁ N₁) (fun c u h tk hP F₁ N₁ => done c.1 c.2 u h tk hP F₁ N₁)

/-- a loop over texts that turns two names that hold ints -/
theorem loop_two {y1 y2 : Str} {l : Addr} {vs : List Value} {ys : List Str} {m₀ : Str → Option Value} {news : List (Addr × Obj)} {a₀ b₀ : Int} {ta₀ tb₀ : Nat} (st : List Str) (P : List Str → Nat → Int → Int → Prop)
    (hh : A.handled = none) (hl : s.heap.IsList l vs.toArray) (hT : TextsAre vs ys) (hlL : l ≠ env.locals) (F : Fr h₀ env.locals s.heap m₀) (N : News h₀ env.locals s.heap news) (hy1 : m₀ y1 = some (.int a₀ ta₀)) (hy2 : m₀ y2 = some (.int b₀ tb₀)) (hP : P ys 0 a₀ b₀)
    (turn : ∀ i z (t : Nat) a (ta : Nat) b (tb : Nat) (u : Str → Option Value) h (tk : Nat) own, ys[i]? = some z → Value.str z t ∈ vs → 1 ≤ t → P ys i a b → Fr h₀ env.locals h (fun w => if w = y1 then some (.int a ta) else if w = y2 then some (.int b tb) else if st.contains w then u w else m₀ w) → News h₀ env.locals h (news ++ own) →
      wpAny (model prog w) A (assign target env (.str z t)) (fun _ s₂ => wpAny (model prog w) A (execs body env) (GPost h₀ env.locals (fun _ : (Int × Nat) × (Int × Nat) => []) news (fun c => [(y1, .int c.1.1 c.1.2), (y2, .int c.2.1 c.2.2)]) [y1, y2] st m₀ (fun c => P ys (i + 1) c.1.1 c.2.1) (fun c => P ys ys.length c.1.1 c.2.1) own "list_iterator" { s with heap := h, toks := tk } Q) E s₂) E { s with heap := h, toks := tk })
    (done : ∀ a (ta : Nat) b (tb : Nat) (u : Str → Option Value) h (tk : Nat), P ys ys.length a b → Fr h₀ env.locals h (fun w => if w = y1 then some (.int a ta) else if w = y2 then some (.int b tb) else if st.contains w then u w else m₀ w) → News h₀ env.locals h news → Q .next { s with heap := h, toks := tk }) :
    wpAny (model prog w) A (pyIter (.ref l)) (fun it s₂ => TurnsAt prog w A h₀ env target body Q E it s₂) E s := by
  refine loop_list (σ := (Int × Nat) × (Int × Nat)) [] (fun _ => []) news (fun c => [(y1, .int c.1.1 c.1.2), (y2, .int c.2.1 c.2.2)]) [y1, y2] st (fun i c => P ys i c.1.1 c.2.1) (fun c => P ys ys.length c.1.1 c.2.1) ((a₀, ta₀), (b₀, tb₀)) hh hl hlL (fun h => nomatch h) (fun _ h => nomatch h) F N (fun p hp => hp)
    (List.forall_mem_cons.mpr ⟨hy1, List.forall_mem_cons.mpr ⟨hy2, fun _ h => nomatch h⟩⟩) (fun _ => rfl) hP (fun c h => by rw [hT.length] at h; exact h) ?_ ?_
  · rintro i v ⟨⟨a, ta⟩, b, tb⟩ u h tk own hi hv hPc _ F₁ N₁
    have hlt : i < ys.length := by rw [hT.length] at hi; exact hi
    obtain ⟨t, h1, h2⟩ := hT.get (List.getElem?_eq_getElem hlt)
    rw [hv] at h2
    injection h2 with h3
    subst h3
    exact turn i _ t a ta b tb u h tk own (List.getElem?_eq_getElem hlt) (List.mem_of_getElem? hv) h1 hPc F₁ N₁
  · rintro ⟨⟨a, ta⟩, b, tb⟩ u h tk hPc F₁ N₁
    exact done a ta b tb u h tk hPc F₁ N₁
/-- a value added to the list that leads the ledger -/
theorem append_head {S L : Addr} {ws : List Value} {n : Nat} {v : Value} {m : Str → Option Value} {rest : List (Addr × Obj)} {Q' : Value → Shared → Prop} (F : Fr h₀ L s.heap m) (N : News h₀ L s.heap ((S, listOf ws.toArray n) :: rest)) (hr : ∀ p ∈ rest, p.1 ≠ S) (hsz : ws.length ≤ sizeLine)
    (h : ∀ h' n', Fr h₀ L h' m → News h₀ L h' ((S, listOf (ws ++ [v]).toArray n') :: rest) → Q' .none { s with heap := h' }) :
    wpAny (model prog w) A (call (.builtin "list.append") [.ref S, v]) Q' E s :=
  append_at (hsz := by simpa using hsz) (N.get (.head _)) fun h' hs ho' => h h' (n + 1) (F.change hs (N _ (.head _)).2.1 (N _ (.head _)).2.2) (N.setHead hr hs (by rw [ho']; simp [W.listOf]))
theorem ints_length {ws : List Value} {ns : List Int} (h : IntsAre ws ns) : ws.length = ns.length := by
  induction h with
  | nil => rfl
  | cons _ _ _ ih => rw [List.length_cons, List.length_cons, ih]
theorem ints_small {ws : List Value} {f : Nat → Int} {i n : Nat} (h : IntsAre ws ((List.range i).map f)) (hi : i < n) (hn : n ≤ 100) : ws.length ≤ sizeLine := by
  rw [ints_length h, List.length_map, List.length_range, sizeLine_eq]; omega
theorem ints_snoc {ws : List Value} {ns : List Int} {v : Int} {t : Tok} (h : IntsAre ws ns) : IntsAre (ws ++ [.int v t]) (ns ++ [v]) := by
  induction h with
  | nil => exact .cons _ _ .nil
  | cons _ _ _ ih => exact .cons _ _ ih
theorem ints_turn {ws : List Value} {f : Nat → Int} {i : Nat} {v : Int} {t : Tok} (h : IntsAre ws ((List.range i).map f)) (e : v = f i) : IntsAre (ws ++ [.int v t]) ((List.range (i + 1)).map f) := by
  rw [List.range_succ, List.map_append, e]; exact ints_snoc h
theorem off_one {S a : Addr} {o : Obj} {own : List (Addr × Obj)} (h : OwnOff own [S]) (h2 : a < S) : ∀ p ∈ (a, o) :: own, p.1 ≠ S := fun p hp => (List.mem_cons.mp hp).elim (fun e => by subst e; exact Nat.ne_of_lt h2) fun hm => h p hm S (.head _)
theorem off_rest {S : Addr} {own pre : List (Addr × Obj)} (h : OwnOff own [S]) (h2 : ∀ p ∈ pre, p.1 ≠ S) : ∀ p ∈ pre ++ own, p.1 ≠ S := fun p hp => (List.mem_append.mp hp).elim (h2 p) fun hm => h p hm S (.head _)
theorem ints_end {L S : Addr} {cst own all : List (Addr × Obj)} {st : List Str} {m₀ m' : Str → Option Value} {ws : List Value} {n : Nat} {ns : List Int} {s₁ : Shared} {h' : Heap} {tk : Nat} (F : Fr h₀ L h' m') (N : News h₀ L h' all) (hS : (S, listOf ws.toArray n) ∈ all) (h1 : ∀ p ∈ cst, p ∈ all) (h2 : ∀ p ∈ own, p ∈ all)
    (h5 : ∀ z, st.contains z = false → m' z = m₀ z) (h6 : IntsAre ws ns) :
    GEnd h₀ L (fun c : List Value × Nat => [(S, listOf c.1.toArray c.2)]) cst (fun _ => []) [] st m₀ (fun c => IntsAre c.1 ns) own "list_iterator" s₁ { s₁ with heap := h', toks := tk } :=
  GEnd.intro (ws, n) F N (fun p hp => by rw [List.mem_singleton.mp hp]; exact hS) h1 h2 (fun p hp => by rw [List.mem_singleton.mp hp]; simp) (fun _ h => nomatch h) (fun z _ h => h5 z h) h6
theorem two_end {L : Addr} {y1 y2 : Str} {news own all : List (Addr × Obj)} {st : List Str} {m₀ m' : Str → Option Value} {a b : Int} {ta tb : Nat} {P : Int → Int → Prop} {s₁ : Shared} {h' : Heap} {tk : Nat} (F : Fr h₀ L h' m') (N : News h₀ L h' all) (h1 : ∀ p ∈ news, p ∈ all) (h2 : ∀ p ∈ own, p ∈ all)
    (hy1 : m' y1 = some (.int a ta)) (hy2 : m' y2 = some (.int b tb)) (h5 : ∀ z, [y1, y2].contains z = false → st.contains z = false → m' z = m₀ z) (h6 : P a b) :
    GEnd h₀ L (fun _ : (Int × Nat) × (Int × Nat) => []) news (fun c => [(y1, .int c.1.1 c.1.2), (y2, .int c.2.1 c.2.2)]) [y1, y2] st m₀ (fun c => P c.1.1 c.2.1) own "list_iterator" s₁ { s₁ with heap := h', toks := tk } :=
  GEnd.intro ((a, ta), (b, tb)) F N (fun _ h => nomatch h) h1 h2 (fun _ h => nomatch h) (List.forall_mem_cons.mpr ⟨hy1, List.forall_mem_cons.mpr ⟨hy2, fun _ h => nomatch h⟩⟩) h5 h6
/-- a loop over a text's signs, by a word over names and ledger -/
theorem loop_str {σ : Type} {x : Str} {t : Tok} {m₀ : Str → Option Value} {news : List (Addr × Obj)} (mu : List Addr) (Led : σ → List (Addr × Obj)) (cst : List (Addr × Obj)) (ps : σ → List (Str × Value)) (nm st : List Str) (P : Nat → σ → Prop) (B : σ → Prop) (c₀ : σ)
    (hh : A.handled = none) (hmu : ∀ a ∈ mu, a < s.heap.objs.size) (F : Fr h₀ env.locals s.heap m₀) (N : News h₀ env.locals s.heap news) (hnx : ∀ p ∈ Led c₀ ++ cst, p ∈ news)
    (hk0 : ∀ p ∈ ps c₀, m₀ p.1 = some p.2) (hnm : ∀ c, (ps c).map (·.1) = nm) (hP : P 0 c₀) (hB : ∀ c, P x.cps.size c → B c)
    (turn : ∀ i ch (t' : Nat) c (u : Str → Option Value) h tk own, x.cps[i]? = some ch → P i c → OwnOff own mu → (∀ p ∈ own, ∀ q ∈ Led c, p.1 ≠ q.1) → Fr h₀ env.locals h (updL (ps c) fun z => if st.contains z then u z else m₀ z) → News h₀ env.locals h (Led c ++ (cst ++ own)) →
      wpAny (model prog w) A (assign target env (.str ⟨#[ch]⟩ t')) (fun _ s₂ => wpAny (model prog w) A (execs body env) (GPost h₀ env.locals Led cst ps nm st m₀ (P (i + 1)) B own (PySem.strIterType x) { s with heap := h, toks := tk } Q) E s₂) E { s with heap := h, toks := tk })
    (done : ∀ c (u : Str → Option Value) h tk, B c → Fr h₀ env.locals h (updL (ps c) fun z => if st.contains z then u z else m₀ z) → News h₀ env.locals h (Led c ++ cst) → Q .next { s with heap := h, toks := tk })
    (hgo : ∀ I v, letOwnedTupleGo target (.ref I) v = pure ()) :
    wpAny (model prog w) A (pyIter (.str x t)) (fun it s₂ => TurnsAt prog w A h₀ env target body Q E it s₂) E s := by
  refine wpAny_pyIter_strU ?_
  have hL : env.locals ∉ [s.heap.objs.size] := fun hm => absurd F.ns.lt ((List.mem_singleton.mp hm) ▸ Nat.lt_irrefl _)
  have hmu' : ∀ a ∈ mu, a ∉ [s.heap.objs.size] := fun a ha hm => absurd (hmu a ha) ((List.mem_singleton.mp hm) ▸ Nat.lt_irrefl _)
  by_cases ha : x.cps.all (· < 128) = true
  · have e : PySem.strIterType x = "str_ascii_iterator" := by unfold PySem.strIterType; rw [if_pos ha]
    rw [e] at turn ⊢
    refine loop_core (c₀ := c₀) (mu := mu) (nm := nm) (it := "str_ascii_iterator") (Walks.strAscii hh _ x t) (fun i v s Q E st q => wpAny_of_eq (hgo _ v) q) (fun i h st => ?_) hL (next_is_new F) hmu' ⟨_, Heap.get?_push_size _ rfl, rfl, rfl⟩ (F.push _) (fun p hp => ⟨Heap.get?_push_of_some _ (N p hp).1, (N p hp).2⟩) hnx (fun p hp => Nat.ne_of_lt (Heap.lt_size (N p (hnx p hp)).1)) hk0 hnm hP hB (fun i v c u h tk own hin hPv hPc hoff hw hLI => ?_) done
    · obtain ⟨o, ho, hc, _⟩ := st; exact ⟨o, ho, hc⟩
    · obtain ⟨ch, t', hx, rfl⟩ := hPv; exact turn i ch t' c u h tk own hx hPc hoff (fun p hp q hq e => hLI q hq (e.symm.trans (List.mem_singleton.mp (hw p hp))))
  · have e : PySem.strIterType x = "str_iterator" := by unfold PySem.strIterType; rw [if_neg ha]
    rw [e] at turn ⊢
    refine loop_core (c₀ := c₀) (mu := mu) (nm := nm) (it := "str_iterator") (Walks.strWide hh _ x t) (fun i v s Q E st q => wpAny_of_eq (hgo _ v) q) (fun i h st => ?_) hL (next_is_new F) hmu' ⟨_, Heap.get?_push_size _ rfl, rfl, rfl⟩ (F.push _) (fun p hp => ⟨Heap.get?_push_of_some _ (N p hp).1, (N p hp).2⟩) hnx (fun p hp => Nat.ne_of_lt (Heap.lt_size (N p (hnx p hp)).1)) hk0 hnm hP hB (fun i v c u h tk own hin hPv hPc hoff hw hLI => ?_) done
    · obtain ⟨o, ho, hc, _⟩ := st; exact ⟨o, ho, hc⟩
    · obtain ⟨ch, t', hx, rfl⟩ := hPv; exact turn i ch t' c u h tk own hx hPc hoff (fun p hp q hq e => hLI q hq (e.symm.trans (List.mem_singleton.mp (hw p hp))))
theorem list_not_striter (x : Str) : (Value.type "list") ≠ .type (PySem.strIterType x) := by
  unfold PySem.strIterType; split <;> (intro e; injection e with e; revert e; decide)
def AllNe (d : Nat) : List (Addr × Obj) → Prop
  | [] => True
  | p :: r => @Ne Nat p.1 d ∧ AllNe d r
theorem allNe_of {d : Addr} : ∀ {l : List (Addr × Obj)}, (∀ p ∈ l, p.1 ≠ d) → AllNe d l
  | [], _ => trivial
  | p :: _, h => ⟨h p (.head _), allNe_of fun q hq => h q (.tail _ hq)⟩
theorem allNe_all {d : Addr} : ∀ {l : List (Addr × Obj)}, AllNe d l → ∀ p ∈ l, p.1 ≠ d
  | [], _ => fun _ h => nomatch h
  | _ :: _, h => fun q hq => by
    rcases List.mem_cons.mp hq with e | hq
    · rw [e]; exact h.1
    · exact allNe_all h.2 q hq
/-- a loop over range(a, b) that turns one int, the ledger kept -/
theorem loop_acc {y : Str} {r : Addr} {a₀ b₀ : Int} {t₀ u₀ v₀ : Tok} {m₀ : Str → Option Value} {news : List (Addr × Obj)} {c₀ : Int} {tc₀ : Nat} (st : List Str) (P : Nat → Int → Prop)
    (hh : A.handled = none) (hr : IsRange s.heap r a₀ b₀ 1 t₀ u₀ v₀) (hsmall : Builtin.Range.small a₀ b₀ 1 = true) (F : Fr h₀ env.locals s.heap m₀) (N : News h₀ env.locals s.heap news) (hy : m₀ y = some (.int c₀ tc₀)) (hP : P 0 c₀)
    (turn : ∀ i (t : Nat) c (tc : Nat) (u : Str → Option Value) h (tk : Nat) own, i < (b₀ - a₀).toNat → P i c → Fr h₀ env.locals h (fun w => if w = y then some (.int c tc) else if st.contains w then u w else m₀ w) → News h₀ env.locals h (news ++ own) →
      wpAny (model prog w) A (assign target env (.int (a₀ + (i : Int)) t)) (fun _ s₂ => wpAny (model prog w) A (execs body env) (GPost h₀ env.locals (fun _ : Int × Nat => []) news (fun c => [(y, .int c.1 c.2)]) [y] st m₀ (fun c => P (i + 1) c.1) (fun c => P (b₀ - a₀).toNat c.1) own "range_iterator" { s with heap := h, toks := tk } Q) E s₂) E { s with heap := h, toks := tk })
    (done : ∀ c (tc : Nat) (u : Str → Option Value) h (tk : Nat), P (b₀ - a₀).toNat c → Fr h₀ env.locals h (fun w => if w = y then some (.int c tc) else if st.contains w then u w else m₀ w) → News h₀ env.locals h news → Q .next { s with heap := h, toks := tk })
    (hgo : ∀ I v, letOwnedTupleGo target (.ref I) v = pure ()) :
    wpAny (model prog w) A (pyIter (.ref r)) (fun it s₂ => TurnsAt prog w A h₀ env target body Q E it s₂) E s :=
  loop_range (σ := Int × Nat) [] (fun _ => []) news (fun c => [(y, .int c.1 c.2)]) [y] st (fun i c => P i c.1) (fun c => P (b₀ - a₀).toNat c.1) (c₀, tc₀) hh hr hsmall (rangeSize_nat a₀ b₀) (fun _ h => nomatch h) F N (fun p hp => hp)
    (List.forall_mem_cons.mpr ⟨hy, fun _ h => nomatch h⟩) (fun _ => rfl) hP (fun _ h => h)
    (fun i t c u h tk own hi hPc _ _ F₁ N₁ => turn i t c.1 c.2 u h tk own hi hPc F₁ N₁) (fun c u h tk hPc F₁ N₁ => done c.1 c.2 u h tk hPc F₁ N₁) hgo
theorem acc_end {L : Addr} {y : Str} {news own all : List (Addr × Obj)} {st : List Str} {m₀ m' : Str → Option Value} {a : Int} {ta : Nat} (P : Int → Prop) {it : String} {s₁ : Shared} {h' : Heap} {tk : Nat} (F : Fr h₀ L h' m') (N : News h₀ L h' all) (h1 : ∀ p ∈ news, p ∈ all) (h2 : ∀ p ∈ own, p ∈ all)
    (hy : m' y = some (.int a ta)) (h5 : ∀ z, [y].contains z = false → st.contains z = false → m' z = m₀ z) (h6 : P a) :
    GEnd h₀ L (fun _ : Int × Nat => []) news (fun c => [(y, .int c.1 c.2)]) [y] st m₀ (fun c => P c.1) own it s₁ { s₁ with heap := h', toks := tk } :=
  GEnd.intro (a, ta) F N (fun _ h => nomatch h) h1 h2 (fun _ h => nomatch h) (List.forall_mem_cons.mpr ⟨hy, fun _ h => nomatch h⟩) h5 h6
theorem tup_len {vs : List Value} {cs : List Int} (h : IntsAre vs cs) : (vs.toArray.size : Int) = (cs.length : Int) := by rw [List.size_toArray, ints_length h]
end
end
section
open PySem PySem.W PyProof.Rows PySem.Calls
/-- refs to lists of these values -/
inductive Lists (h : Heap) : List Value → List (List Value) → Prop
  | nil : Lists h [] []
  | cons {r : Addr} {vs : List Value} {rs : List Value} {vss : List (List Value)} : h.IsList r vs.toArray → Lists h rs vss → Lists h (.ref r :: rs) (vs :: vss)
theorem Lists.length {h : Heap} {rs : List Value} {vss : List (List Value)} (x : Lists h rs vss) : rs.length = vss.length := by
  induction x with
  | nil => rfl
  | cons _ _ ih => rw [List.length_cons, List.length_cons, ih]
theorem Lists.get {h : Heap} {rs : List Value} {vss : List (List Value)} (x : Lists h rs vss) : ∀ {i : Nat} {v : Value}, rs[i]? = some v → ∃ r vs, v = .ref r ∧ vss[i]? = some vs ∧ h.IsList r vs.toArray := by
  induction x with
  | nil => intro i v e; cases e
  | cons h1 _ ih =>
    intro i v e
    cases i with
    | zero => cases e; exact ⟨_, _, rfl, rfl, h1⟩
    | succ i => exact ih e
theorem Lists.keeps {h h' : Heap} {rs : List Value} {vss : List (List Value)} (x : Lists h rs vss) (k : ∀ b o, h.get? b = some o → h'.get? b = some o) : Lists h' rs vss := by
  induction x with
  | nil => exact .nil
  | cons h1 _ ih => exact .cons (h1.at fun o e => k _ o e) ih

section
variable {prog : Program} {w : World} {A : Around} {R : Result → Shared → Prop} {s : Shared}
variable {iter : Expr} {x y : Str} {p1 p2 p3 p4 : Pos} {scope : Scope} {pos : Pos}
/-- [y for x in .. for y in x] -/
abbrev flatE (iter : Expr) (x y : Str) (p1 p2 p3 p4 : Pos) (scope : Scope) (pos : Pos) : Expr := .ListComp (.Name y p1) [⟨.Name x p2, iter, [], 0⟩, ⟨.Name y p3, .Name x p4, [], 0⟩] scope pos

theorem flat_turn0 (it acc : Value) (env : Env) : compTurn (flatE iter x y p1 p2 p3 p4 scope pos) 0 it acc env = (standAt iter.pos >>= fun _ => pyNext it >>= fun r => match r with
      | none => pure (.done .next)
      | some v => letOwnedTupleGo (.Name x p2) it v >>= fun _ => assign (.Name x p2) env v >>= fun _ =>
        (eval (.Name x p4) env >>= fun u => standAt (Expr.pos (.Name x p4)) >>= fun _ => foldedSetIterable (.Name x p4) env u >>= fun u' =>
          holding [u'] (pyIter u') >>= fun it' => runOwn (.compStart (flatE iter x y p1 p2 p3 p4 scope pos) 1 it' acc env) env >>= fun _ =>
          again (.compLoop (flatE iter x y p1 p2 p3 p4 scope pos) 0 it acc env))) := by rfl
theorem flat_turn1 (it acc : Value) (env : Env) : compTurn (flatE iter x y p1 p2 p3 p4 scope pos) 1 it acc env = (standAt (Expr.pos (.Name x p4)) >>= fun _ => pyNext it >>= fun r => match r with
      | none => pure (.done .next)
      | some v => letOwnedTupleGo (.Name y p3) it v >>= fun _ => assign (.Name y p3) env v >>= fun _ =>
        (eval (.Name y p1) env >>= fun u => call (.builtin "list.append") [acc, u] >>= fun _ => pure ()) >>= fun _ =>
          again (.compLoop (flatE iter x y p1 p2 p3 p4 scope pos) 1 it acc env)) := by rfl

theorem flat_start1 {it acc : Value} {env : Env}
    (h0 : codeAny (model prog w) A (.compLoop (flatE iter x y p1 p2 p3 p4 scope pos) 1 it acc env) R s)
    (h : wpAny (model prog w) A (pyIter it) (fun it' s' => codeAny (model prog w) A (.compLoop (flatE iter x y p1 p2 p3 p4 scope pos) 1 it' acc env) R s') (notedBy (model prog w) A env fun x s' => R (.error x) s') s) :
    codeAny (model prog w) A (.compStart (flatE iter x y p1 p2 p3 p4 scope pos) 1 it acc env) R s := by
  refine codeAny_of_tree ?_
  show wpAny _ _ ((compStart (flatE iter x y p1 p2 p3 p4 scope pos) 1 it acc env).onRaise (fun x => do noteFrame x env; standAt theWindowsPlace)) _ _ s
  refine wpAny_notedAt ?_
  unfold compStart
  show wpAny _ _ (ask >>= _) _ _ s
  refine wpAny_bind (wpAny_askSetting (wpAny_ite ?_))
  split
  · first
      | exact wpAny_bind (wpAny_pure (wpAny_pure (And.intro rfl h0)))
      | exact wpAny_pure (And.intro rfl h0)
  · first
      | exact wpAny_bind (wpAny_rule (wpAny_bind (wpAny_standAt (wpAny_bind (wpAny_mono h (fun it' s' h' => wpAny_pure (And.intro rfl h')) fun _ _ x => x)))))
      | (refine wpAny_bind (wpAny_rule ?_); show wpAny _ _ (standAt (Expr.pos (.Name x p4)) >>= _) _ _ s; exact wpAny_bind (wpAny_standAt (wpAny_bind (wpAny_mono h (fun it' s' h' => wpAny_pure (And.intro rfl h')) fun _ _ x => x))))

/-- the inner loop: all that stood stands, but for the block's names, its list and the loop's own iterator -/
theorem flat_inner {I r D C : Addr} {env : Env} {vs : List Value} {ys : List Value} {m : Str → Option Value} {R : Result → Shared → Prop} {h₀ : Heap}
    (hh : A.handled = none) (hC : env.locals = C) (hk : env.scope.kind = .function) (hy : env.kindOf y = some .local) (hdx : (y == ("__debug__" : Str)) = false)
    (hI0 : h₀.get? I = none) (hC0 : h₀.get? C = none) (hD0 : h₀.get? D = none) (hIC : I ≠ C) (hID : I ≠ D) (hDC : D ≠ C)
    (hit : s.heap.IsListIter I r 0) (hr : h₀.IsList r vs.toArray) (hD : s.heap.PlainList D ys.toArray) (hn : s.heap.Ns C m) (keep : ∀ b o, h₀.get? b = some o → s.heap.get? b = some o) (hsz : ys.length + vs.length ≤ sizeLine)
    (done : ∀ h' tk, (∀ b o, b ≠ I → b ≠ C → b ≠ D → s.heap.get? b = some o → h'.get? b = some o) → h'.PlainList D (ys ++ vs).toArray → (∃ m', h'.Ns C m') → R (.ok .next) { s with heap := h', toks := tk }) :
    codeAny (model prog w) A (.compLoop (flatE iter x y p1 p2 p3 p4 scope pos) 1 (.ref I) (.ref D) env) R s := by
  subst hC
  obtain ⟨orr, horr, _⟩ := id hr
  have hrI : r ≠ I := fun e => by rw [e, hI0] at horr; cases horr
  have hrC : r ≠ env.locals := fun e => by rw [e, hC0] at horr; cases horr
  have hrD : r ≠ D := fun e => by rw [e, hD0] at horr; cases horr
  refine codeAny_loop rfl (fun k s' => ∃ h' tk j, s' = { s with heap := h', toks := tk } ∧ j ≤ vs.length ∧ k = vs.length + 1 - j ∧ h'.IsListIter I r j ∧ h'.PlainList D (ys ++ vs.take j).toArray ∧ (∃ m', h'.Ns env.locals m') ∧
      (∀ b o, b ≠ I → b ≠ env.locals → b ≠ D → s.heap.get? b = some o → h'.get? b = some o)) ?_ (vs.length + 1) ⟨s.heap, s.toks, 0, rfl, Nat.zero_le _, rfl, hit, by simpa using hD, ⟨m, hn⟩, fun _ _ _ _ _ e => e⟩
  rintro k s' ⟨h', tk, j, rfl, hj, rfl, hit', hD', ⟨m', hn'⟩, hk'⟩
  show wpAny _ A ((compTurn (flatE iter x y p1 p2 p3 p4 scope pos) 1 (.ref I) (.ref D) env).onRaise (fun x => do noteFrame x env; theTreesLotGoes x)) _ _ _
  refine wpAny_noted ?_
  rw [flat_turn1]
  have hr' : h'.IsList r vs.toArray := hr.at fun o e => hk' r o hrI hrC hrD (keep r o e)
  refine wpAny_bind (wpAny_standAt (wpAny_bind ?_))
  by_cases hlt : j < vs.length
  · refine wpAny_pyNext_list_item hit' hr' (x := vs[j]) (by simp [hlt]) fun h₁ hit₁ hs₁ => ?_
    refine wpAny_bind (wpAny_of_eq (a := ()) rfl ?_)
    have hn₁ := hn'.sameBut hs₁ (Ne.symm hIC)
    refine wpAny_bind (wpAny_assign_Name (wpAny_storeName_local hy hn₁ (fun h₂ hn₂ hs₂ => ?_) (by rw [hk]; rfl)))
    refine wpAny_bind (wpAny_bind (wpAny_Name (wpAny_loadName_local hk hy hn₂ (v := vs[j]) (if_pos rfl) ?_) hdx))
    have hD₂ : h₂.PlainList D (ys ++ vs.take j).toArray := (hD'.at fun o e => hs₁.extBut D o (Ne.symm hID) e).at fun o e => hs₂.extBut D o hDC e
    refine wpAny_bind (wpAny_list_append_plain hD₂ (fun h₃ hD₃ hs₃ => ?_) (by simp; omega))
    refine wpAny_pure (wpAny_pure ⟨rfl, vs.length + 1 - (j + 1), by omega, h₃, _, j + 1, rfl, hlt, rfl, ?_, ?_, ⟨_, hn₂.sameBut hs₃ (Ne.symm hDC)⟩, ?_⟩)
    · exact (hit₁.extBut hs₂.extBut hIC).extBut hs₃.extBut hID
    · have e : (ys ++ vs.take (j + 1)).toArray = (ys ++ vs.take j).toArray.push vs[j] := by
        rw [List.take_add_one, List.getElem?_eq_getElem hlt]
        simp
      rw [e]; exact hD₃
    · intro b o hb1 hb2 hb3 e
      exact hs₃.extBut b o hb3 (hs₂.extBut b o hb2 (hs₁.extBut b o hb1 (hk' b o hb1 hb2 hb3 e)))
  · have hjn : j = vs.length := by omega
    subst hjn
    refine wpAny_pyNext_list_end hh hit' hr' (by simp) fun h₁ he₁ => ?_
    refine wpAny_pure (done h₁ tk (fun b o hb1 hb2 hb3 e => he₁ b o hb1 (hk' b o hb1 hb2 hb3 e)) ?_ ⟨m', hn'.extBut he₁ (Ne.symm hIC)⟩)
    have := hD'.at fun o e => he₁ D o (Ne.symm hID) e
    rw [List.take_length] at this
    exact this

/-- the block, whatever is done with its list -/
theorem flat_core {E : Value → Shared → Prop} {RR : Value → Env → Result → Shared → Prop} {env : Env} {L0 : Addr} {rs : List Value} {vss : List (List Value)}
    (hh : A.handled = none) (hcell : ∀ z ∈ scope.names, z.2 ≠ .cell) (hkind : scope.kind = .function)
    (hx : scope.names.lookup x = some .local) (hy : scope.names.lookup y = some .local) (hdx : (x == ("__debug__" : Str)) = false) (hdy : (y == ("__debug__" : Str)) = false)
    (hR : s.heap.IsList L0 rs.toArray) (hL : Lists s.heap rs vss) (hsz : vss.flatten.length ≤ sizeLine)
    (hRR : ∀ D C n h' tk, Kept s.heap h' → s.heap.get? D = none → s.heap.get? C = none → D ≠ C → s.heap.objs.size ≤ D → h'.get? D = some (listOf vss.flatten.toArray n) → (∃ m', h'.Ns C m') → RR (.ref D) (compEnv scope C env) (.ok .next) { s with heap := h', toks := tk }) :
    wpAny (model prog w) A (pyIter (.ref L0)) (fun it s₂ => wpAny (model prog w) A (newList []) (fun acc s₃ => wpAny (model prog w) A (newFunctionEnv scope env.globals [] [] env.qual none .none (some env)) (fun cenv s₄ =>
      codeAny (model prog w) A (.compStart (flatE iter x y p1 p2 p3 p4 scope pos) 0 it acc { cenv with scope := scope }) (RR acc { cenv with scope := scope }) s₄) E s₃) E s₂) E s := by
  refine wpAny_pyIter_list hR ?_
  refine wpAny_newObj_type ?_ (by show ([] : List Value).toArray.size ≤ sizeLine; exact Nat.zero_le _)
  refine wpAny_newFunctionEnv hcell (by intro z hz; cases hz) (fun h₁ hns₁ hsb₁ => ?_) hkind
  dsimp only at hns₁ hsb₁ ⊢
  -- the three new addresses
  generalize hH1 : s.heap.push { cls := .type "list_iterator", data := .fields #[.ref L0, .int 0 0] } = H1 at hns₁ hsb₁ ⊢
  generalize hH2 : H1.push { cls := .type "list", dict := none, data := .seq ([] : List Value).toArray } = H2 at hns₁ hsb₁ ⊢
  have z1 : H1.objs.size = s.heap.objs.size + 1 := by rw [← hH1, Heap.size_push]
  have z2 : H2.objs.size = s.heap.objs.size + 2 := by rw [← hH2, Heap.size_push, z1]
  have fresh : ∀ a, s.heap.objs.size ≤ a → s.heap.get? a = none := fun a ha => by
    cases e : s.heap.get? a with
    | none => rfl
    | some o' => exact absurd (Heap.lt_size e) (Nat.not_lt.mpr ha)
  generalize hI : s.heap.objs.size = I at *
  generalize hD : H1.objs.size = D at *
  generalize hC : H2.objs.size = C at *
  have hIC : I ≠ C := by refine neN ?_; omega
  have hID : I ≠ D := by refine neN ?_; omega
  have hDC : D ≠ C := by refine neN ?_; omega
  have hI0 : s.heap.get? I = none := fresh _ (Nat.le_refl _)
  have hD0 : s.heap.get? D = none := fresh _ (by rw [z1]; exact Nat.le_succ _)
  have hC0 : s.heap.get? C = none := fresh _ (by rw [z2]; exact Nat.le_add_right _ _)
  have old2 : ∀ b o, s.heap.get? b = some o → H2.get? b = some o := fun b o e => hH2 ▸ Heap.get?_push_of_some _ (hH1 ▸ Heap.get?_push_of_some _ e)
  have keep1 : ∀ b o, s.heap.get? b = some o → h₁.get? b = some o := fun b o e => hsb₁.extBut b o (fun q => by rw [q, hC0] at e; cases e) (Heap.get?_push_of_some _ (old2 b o e))
  have itI : H1.get? I = some { cls := .type "list_iterator", data := .fields #[.ref L0, .int 0 0] } := by rw [← hH1, ← hI]; exact Heap.get?_push_size _ rfl
  have hit₁ : h₁.IsListIter I L0 0 := ⟨_, hsb₁.extBut _ _ hIC (Heap.get?_push_of_some _ (hH2 ▸ Heap.get?_push_of_some _ itI)), rfl, rfl⟩
  have lsD : H2.get? D = some { cls := .type "list", dict := none, data := .seq ([] : List Value).toArray } := by rw [← hH2, ← hD]; exact Heap.get?_push_size _ rfl
  have hD₁ : h₁.PlainList D ([] : List Value).toArray := ⟨0, hsb₁.extBut _ _ hDC (Heap.get?_push_of_some _ lsD)⟩
  obtain ⟨oR, hoR, _⟩ := id hR
  have hRI : L0 ≠ I := fun e => by rw [e, hI0] at hoR; cases hoR
  have hRC : L0 ≠ C := fun e => by rw [e, hC0] at hoR; cases hoR
  have hRD : L0 ≠ D := fun e => by rw [e, hD0] at hoR; cases hoR
  -- the outer loop
  have loop : ∀ s₃ : Shared, s₃ = { s with heap := h₁, toks := s.toks + ([] : List (Str × Value)).length } →
      codeAny (model prog w) A (.compLoop (flatE iter x y p1 p2 p3 p4 scope pos) 0 (.ref I) (.ref D) { newEnv scope C env.globals [] env.qual none .none (some env) 0 with scope := scope })
        (RR (.ref D) (compEnv scope C env)) s₃ := by
    rintro s₃ rfl
    refine codeAny_loop rfl (fun k s' => ∃ h' tk i, s' = { s with heap := h', toks := tk } ∧ i ≤ rs.length ∧ k = rs.length + 1 - i ∧ h'.IsListIter I L0 i ∧ h'.PlainList D ((vss.take i).flatten).toArray ∧ (∃ m', h'.Ns C m') ∧
      (∀ b o, s.heap.get? b = some o → h'.get? b = some o)) ?_ (rs.length + 1) ⟨h₁, _, 0, rfl, Nat.zero_le _, rfl, hit₁, hD₁, ⟨_, hns₁⟩, keep1⟩
    rintro k s' ⟨h', tk, i, rfl, hi, rfl, hit', hD', ⟨m', hn'⟩, hk'⟩
    show wpAny _ A ((compTurn (flatE iter x y p1 p2 p3 p4 scope pos) 0 (.ref I) (.ref D) _).onRaise (fun x => do noteFrame x _; theTreesLotGoes x)) _ _ _
    refine wpAny_noted ?_
    rw [flat_turn0]
    have hr' : h'.IsList L0 rs.toArray := hR.at fun o e => hk' _ o e
    refine wpAny_bind (wpAny_standAt (wpAny_bind ?_))
    by_cases hlt : i < rs.length
    · refine wpAny_pyNext_list_item hit' hr' (x := rs[i]) (by simp [hlt]) fun h₂ hit₂ hs₂ => ?_
      obtain ⟨r, vs, er, ev, hr⟩ := hL.get (List.getElem?_eq_getElem hlt)
      rw [er]
      refine wpAny_bind (wpAny_of_eq (a := ()) rfl ?_)
      have hn₂ := hn'.sameBut hs₂ (Ne.symm hIC)
      refine wpAny_bind (wpAny_assign_Name (wpAny_storeName_local hx hn₂ (fun h₃ hn₃' hs₃' => ?_) (by show (scope.kind == _ || _) = false; rw [hkind]; rfl)))
      have hn₃ : h₃.Ns C (fun z => if z = x then some (.ref r) else m' z) := hn₃'
      have hs₃ : Heap.SameBut C h₂ h₃ := hs₃'
      clear hn₃' hs₃'
      refine wpAny_bind (wpAny_Name (wpAny_loadName_local hkind hx hn₃ (v := .ref r) (if_pos rfl) ?_) hdx)
      refine wpAny_bind (wpAny_standAt (wpAny_bind (wpAny_of_eq (a := .ref r) rfl (wpAny_bind (wpAny_holding ?_)))))
      have keep3 : ∀ b o, s.heap.get? b = some o → h₃.get? b = some o := fun b o e => hs₃.extBut b o (fun q => by rw [q, hC0] at e; cases e) (hs₂.extBut b o (fun q => by rw [q, hI0] at e; cases e) (hk' b o e))
      refine wpAny_pyIter_list (hr.at fun o e => keep3 _ o e) ?_
      refine wpAny_bind (wpAny_runOwn ?_)
      have hlt3 : C < h₃.objs.size := hn₃.lt
      have hvl : vss.take (i + 1) = vss.take i ++ [vs] := by rw [List.take_add_one, ev]; rfl
      have hszi : ((vss.take i).flatten).length + vs.length ≤ sizeLine := by
        have e1 : ((vss.take (i + 1)).flatten).length ≤ vss.flatten.length := by
          have := congrArg List.flatten (List.take_append_drop (i + 1) vss)
          rw [List.flatten_append] at this
          rw [← this, List.length_append]
          exact Nat.le_add_right _ _
        rw [hvl, List.flatten_append, List.length_append] at e1
        simp only [List.flatten_cons, List.flatten_nil, List.append_nil] at e1
        omega
      -- the inner loop, from a state with a new iterator
      have hD₃ : h₃.PlainList D ((vss.take i).flatten).toArray := (hD'.at fun o e => hs₂.extBut D o (Ne.symm hID) e).at fun o e => hs₃.extBut D o hDC e
      have hit₃ : h₃.IsListIter I L0 (i + 1) := hit₂.extBut hs₃.extBut hIC
      obtain ⟨oD, hoD⟩ := id hD₃
      have hlD : D < h₃.objs.size := Heap.lt_size hoD
      obtain ⟨oI, hoI, _⟩ := id hit₃
      have hlI : I < h₃.objs.size := Heap.lt_size hoI
      have hI'0 : s.heap.get? h₃.objs.size = none := fresh _ (Nat.le_of_lt hlI)
      have fin : ∀ h' tk, (∀ b o, b ≠ h₃.objs.size → b ≠ C → b ≠ D → (h₃.push { cls := .type "list_iterator", data := .fields #[.ref r, .int 0 0] }).get? b = some o → h'.get? b = some o) → h'.PlainList D ((vss.take i).flatten ++ vs).toArray → (∃ m', h'.Ns C m') →
          ∃ h'' tk' j, ({ s with heap := h', toks := tk } : Shared) = { s with heap := h'', toks := tk' } ∧ j ≤ rs.length ∧ rs.length + 1 - (i + 1) = rs.length + 1 - j ∧ h''.IsListIter I L0 j ∧ h''.PlainList D ((vss.take j).flatten).toArray ∧ (∃ m', h''.Ns C m') ∧ (∀ b o, s.heap.get? b = some o → h''.get? b = some o) := by
        intro h' tk hk hp hm
        refine ⟨h', tk, i + 1, rfl, hlt, rfl, ?_, ?_, hm, fun b o e => hk b o (fun q => by rw [q, hI'0] at e; cases e) (fun q => by rw [q, hC0] at e; cases e) (fun q => by rw [q, hD0] at e; cases e) (Heap.get?_push_of_some _ (keep3 b o e))⟩
        · exact hit₃.at fun o e => hk I o (Nat.ne_of_lt hlI) hIC hID (Heap.get?_push_of_some _ e)
        · rw [hvl, List.flatten_append]
          simpa using hp
      refine flat_start1 ?_ (wpAny_pyIter_listiter (i := 0) (l := r) ⟨_, Heap.get?_push_size _ rfl, rfl, rfl⟩ ?_)
      all_goals
        refine flat_inner (h₀ := s.heap) (C := C) (vs := vs) (ys := (vss.take i).flatten) (A := A.mark none) (by simpa [Around.mark] using hh) rfl hkind hy hdy hI'0 hC0 hD0 (Nat.ne_of_gt hlt3) (Nat.ne_of_gt hlD) hDC
          ⟨_, Heap.get?_push_size _ rfl, rfl, rfl⟩ hr (hD₃.at fun o e => Heap.get?_push_of_some _ e) (hn₃.push _) (fun b o e => Heap.get?_push_of_some _ (keep3 b o e)) hszi ?_
        intro h' tk hk hp hm
        exact wpAny_pure ⟨rfl, rs.length + 1 - (i + 1), by omega, fin h' tk hk hp hm⟩
    · have hin : i = rs.length := by omega
      subst hin
      refine wpAny_pyNext_list_end hh hit' hr' (by simp) fun h₂ he₂ => ?_
      rw [hL.length, List.take_length] at hD'
      obtain ⟨n, hn⟩ := hD'
      exact wpAny_pure (hRR D C n h₂ tk (fun b o e => he₂ b o (fun q => by rw [q, hI0] at e; cases e) (hk' b o e)) hD0 hC0 hDC (by rw [z1]; exact Nat.le_succ _) (he₂ _ _ (Ne.symm hID) hn) ⟨m', hn'.extBut he₂ (Ne.symm hIC)⟩)
  exact codeAny_compStart_list (loop _ rfl) (wpAny_pyIter_listiter hit₁ (loop _ rfl))

theorem flat_comp {E : Value → Shared → Prop} {Q : Value → Shared → Prop} {env : Env} {L0 : Addr} {rs : List Value} {vss : List (List Value)}
    (hh : A.handled = none) (hfree : ∀ z ∈ scope.names, z.2 ≠ .free) (hcell : ∀ z ∈ scope.names, z.2 ≠ .cell) (hkind : scope.kind = .function) (hnames : ∀ z ∈ scope.names, z.2 = .local → scope.names.lookup z.1 = some .local)
    (hx : scope.names.lookup x = some .local) (hy : scope.names.lookup y = some .local) (hdx : (x == ("__debug__" : Str)) = false) (hdy : (y == ("__debug__" : Str)) = false)
    (hR : s.heap.IsList L0 rs.toArray) (hL : Lists s.heap rs vss) (hsz : vss.flatten.length ≤ sizeLine)
    (he : ∀ Q' : Value → Shared → Prop, Q' (.ref L0) s → wpAny (model prog w) A (eval iter env) Q' E s)
    (done : ∀ D n h' tk, Kept s.heap h' → s.heap.get? D = none → s.heap.objs.size ≤ D → h'.get? D = some (listOf vss.flatten.toArray n) → Q (.ref D) { s with heap := h', toks := tk })
    (hs : ∀ z, foldedSetIterable iter env z = pure z) :
    wpAny (model prog w) A (eval (flatE iter x y p1 p2 p3 p4 scope pos) env) Q E s := by
  refine wpAny_ListComp hfree hkind hnames (he _ ?_) hs
  refine flat_core (RR := fun acc e r s' => ∃ m, s'.heap.Ns e.locals m ∧ ∀ h', Heap.SameBut e.locals s'.heap h' → match r with | .ok _ => Q acc { s' with heap := h' } | .error x => wpAny (model prog w) A (passOn "comprehension.variables-let-go" x e) Q E { s' with heap := h' }) hh hcell hkind hx hy hdx hdy hR hL hsz fun D C n h' tk hk hD hC hDC hlo hl hm => ?_
  obtain ⟨m', hm⟩ := hm
  exact ⟨m', hm, fun h₃ (hs₃ : Heap.SameBut C h' h₃) => done D n h₃ tk (fun b o e => hs₃.extBut b o (fun q => by rw [q, hC] at e; cases e) (hk b o e)) hD hlo (hs₃.extBut _ _ hDC hl)⟩

/-- it bound to a name of the frame's -/
theorem flat_assign {E : Value → Shared → Prop} {Q : Flow → Shared → Prop} {env : Env} {L0 : Addr} {rs : List Value} {vss : List (List Value)} {h₀ : Heap} {m₀ : Str → Option Value} {news : List (Addr × Obj)} {v : Str} {pv spos : Pos}
    (hh : A.handled = none) (hfree : ∀ z ∈ scope.names, z.2 ≠ .free) (hcell : ∀ z ∈ scope.names, z.2 ≠ .cell) (hkind : scope.kind = .function) (hnames : ∀ z ∈ scope.names, z.2 = .local → scope.names.lookup z.1 = some .local)
    (hx : scope.names.lookup x = some .local) (hy : scope.names.lookup y = some .local) (hdx : (x == ("__debug__" : Str)) = false) (hdy : (y == ("__debug__" : Str)) = false)
    (F : Fr h₀ env.locals s.heap m₀) (N : News h₀ env.locals s.heap news)
    (hR : s.heap.IsList L0 rs.toArray) (hL : Lists s.heap rs vss) (hsz : vss.flatten.length ≤ sizeLine)
    (he : ∀ Q' : Value → Shared → Prop, Q' (.ref L0) s → wpAny (model prog w) A (eval iter env) Q' E s)
    (hsw : swapsWith (flatE iter x y p1 p2 p3 p4 scope pos) (some (.Name v pv)) spos.line env = pure true) (hv : env.kindOf v = some .local) (hp : (env.scope.kind == .class || (env.scope.kind == .module && env.locals != env.globals)) = false)
    (done : ∀ D n h' tk, Fr h₀ env.locals h' (fun z => if z = v then some (.ref D) else m₀ z) → News h₀ env.locals h' ((D, listOf vss.flatten.toArray n) :: news) → (∀ p ∈ news, p.1 < D) → Q .next { s with heap := h', toks := tk })
    (hs : ∀ z, foldedSetIterable iter env z = pure z) :
    wpAny (model prog w) A (exec (.Assign [.Name v pv] (flatE iter x y p1 p2 p3 p4 scope pos) spos) env) Q E s := by
  rw [exec_Assign_Name_used v pv (flatE iter x y p1 p2 p3 p4 scope pos) spos hsw]
  refine wpAny_bind (wpAny_standAt (wpAny_bind ?_))
  show wpAny _ _ (comprehension (flatE iter x y p1 p2 p3 p4 scope pos) scope env (firstIterPos _ pos) (newList []) false (eval iter env) (some _) >>= fun _ => pure ()) _ _ s
  refine wpAny_bind (wpAny_comprehension_use rfl hs hfree hkind hnames (he _ ?_))
  refine flat_core (RR := fun acc e r s' => match r with
      | .ok _ => wpAny (model prog w) A (assign (.Name v pv) env acc) (fun _ s'' => ∃ m, s''.heap.Ns e.locals m ∧ ∀ h', Heap.SameBut e.locals s''.heap h' → wpAny (model prog w) A (pure ()) (fun _ s₁ => wpAny (model prog w) A (pure Flow.next) Q E s₁) E { s'' with heap := h' }) E s'
      | .error x => ∃ m, s'.heap.Ns e.locals m ∧ ∀ h', Heap.SameBut e.locals s'.heap h' → wpAny (model prog w) A (passOn "comprehension.variables-let-go" x e) (fun _ s₁ => wpAny (model prog w) A (pure ()) (fun _ s₁ => wpAny (model prog w) A (pure Flow.next) Q E s₁) E s₁) E { s' with heap := h' }) hh hcell hkind hx hy hdx hdy hR hL hsz fun D C n h' tk hk hD hC hDC hlo hl hm => ?_
  obtain ⟨m', hm⟩ := hm
  have hLs : ∃ o, s.heap.get? env.locals = some o := let ⟨o, _, _, e, _⟩ := F.ns; ⟨o, e⟩
  obtain ⟨oL, hoL⟩ := hLs
  have hCL : C ≠ env.locals := fun q => by rw [q, hoL] at hC; cases hC
  have hDL : D ≠ env.locals := fun q => by rw [q, hoL] at hD; cases hD
  have old : ∀ b, h₀.get? b ≠ none → s.heap.get? b ≠ none := fun b hb q => by
    cases e : h₀.get? b with
    | none => exact hb e
    | some o => rw [F.keep b o e] at q; cases q
  have F1 := F.keeps hk
  refine wpAny_assign_Name (wpAny_storeName_local hv F1.ns (fun h₂ hn₂ hs₂ => ⟨m', hm.sameBut hs₂ hCL, fun h₃ (hs₃ : Heap.SameBut C h₂ h₃) => wpAny_pure (wpAny_pure ?_)⟩) hp)
  have keep3 : ∀ b o, b ≠ env.locals → s.heap.get? b = some o → h₃.get? b = some o := fun b o hb e => hs₃.extBut b o (fun q => by rw [q, hC] at e; cases e) (hs₂.extBut b o hb (hk b o e))
  refine done D n h₃ _ ⟨hn₂.sameBut hs₃ (Ne.symm hCL), fun b o e => keep3 b o (fun q => Nat.ne_of_lt (Nat.lt_of_lt_of_le (Heap.lt_size e) F.above) q) (F.keep b o e), F.above⟩ ?_ (fun p hp => Nat.lt_of_lt_of_le (Heap.lt_size (N p hp).1) hlo)
  intro p hp
  rcases List.mem_cons.mp hp with rfl | hp
  · exact ⟨hs₃.extBut _ _ hDC (hs₂.extBut _ _ hDL hl), hDL, by
      cases e : h₀.get? D with
      | none => rfl
      | some o => rw [F.keep D o e] at hD; cases hD⟩
  · exact ⟨keep3 _ _ (N p hp).2.1 (N p hp).1, (N p hp).2⟩
end
end
section
open PySem PySem.W PyProof.Rows PySem.Calls
section
variable {prog : Program} {w : World} {A₀ A : Around} {s : Shared} {base h₀ : Heap} {outer : List Env} {L : Addr} {m : Str → Option Value} {env : Env} {K : Frag} {p : Program} {loose : List Str} {mean : ExcName → Option Value} {mg mb : Str → Option Value}
  {R : Result → Shared → Prop} {name qual : Str} {params : Arguments} {body : List Stmt} {scope : Scope} {dV kV doc pm cdv ct oc : Value} {an od : Option Addr} {osl : Array (Option Value)} {f : Addr} {args : Args} {binds : List (Str × Value)} {lst : List (Addr × Obj)}

/-- the end of a call that leaves all that stood as it stood -/
def LookEnd (g h : Heap) (lst : List (Addr × Obj)) (R : Result → Shared → Prop) (v : Value) (s' : Shared) : Prop :=
  ∃ L' m' news', Fr g L' s'.heap m' ∧ News g L' s'.heap news' ∧ (∀ p ∈ lst, p ∈ news') ∧ (Kept h s'.heap → R (.ok (.ret v)) s')
theorem LookEnd.intro {g h h' : Heap} {lst news' : List (Addr × Obj)} {R : Result → Shared → Prop} {v : Value} {s₁ : Shared} {tk : Nat} {L' : Addr} {m' : Str → Option Value} (F : Fr g L' h' m') (N : News g L' h' news') (hs : ∀ p ∈ lst, p ∈ news') (k : Kept h h' → R (.ok (.ret v)) { s₁ with heap := h', toks := tk }) :
    LookEnd g h lst R v { s₁ with heap := h', toks := tk } := ⟨L', m', news', F, N, hs, k⟩

theorem p_look (B : Below A₀ base outer h₀) (F : Fr h₀ L s.heap m) (X₀ : K.In h₀) (N : News h₀ L s.heap lst) (T : Top p loose mean mg mb h₀) (hA : A.frames = some (env :: outer)) (hf : env.frame = some L) (hke : env.scope.kind = .function)
    (ho : K.lookup f = some ⟨oc, od, .func (fnOf name qual params body scope dV kV doc pm an cdv ct), osl⟩) (hcd : codeIn K cdv qual = true) (hroom : A.depth < recursionLimit)
    (hbind : BindsTo s (fnOf name qual params body scope dV kV doc pm an cdv ct) args binds) (hloc : ∀ y ∈ binds, scope.names.lookup y.1 = some .local)
    (h : ∀ g L' h₁, Fr g L' h₁ (fun y => binds.reverse.lookup y) → News g L' h₁ lst → Below A base (env :: outer) g → K.In g → Top p loose mean mg mb g →
      wpAny (model prog w) (A.deeper (envOf qual scope L' f cdv)) (execs body (envOf qual scope L' f cdv))
        (fun fl s' => LookEnd g s.heap lst R (match fl with | .ret v => v | _ => .none) s')
        (fun e s' => wpAny (model prog w) (A.deeper (envOf qual scope L' f cdv)) (leaving (envOf qual scope L' f cdv) e) (fun _ s'' => R (.error e) s'') (fun e' s'' => R (.error e') s'') s')
        { s with heap := h₁, toks := s.toks + binds.length })
    (hco : scope.isCoroutine = false) (hgen : scope.isGenerator = false) (hk : scope.kind = .function)
    (hcell : ∀ x ∈ scope.names, x.2 ≠ .cell) : codeAny (model prog w) A (.call (.ref f) args) R s := by
  obtain ⟨FG, BG, st, _⟩ := groundX (R := R) B F N hA hf hke
  refine codeAny_call_def (fd := fnOf name qual params body scope dV kV doc pm an cdv ct) (body := body) (binds := binds) hroom ((X₀.keeps F.keep) _ _ ho) rfl (T.nolimit.keeps F.keep) (codeRec_of (X₀.keeps F.keep) hcd) rfl hbind hcell hloc (fun h₁ hns hk₁ => ?_) hco hgen hk
  refine wpAny_mono (h _ s.heap.objs.size h₁ ⟨hns, fun b o e => hk₁ b o (of_hideAll _ e), Nat.le_of_eq (hideAll_size _ _)⟩
    (fun p hp => ⟨hk₁ _ _ (N p hp).1, Nat.ne_of_lt (Heap.lt_size (N p hp).1), hideAll_none _ (List.mem_map_of_mem hp)⟩) BG (X₀.keeps st) (T.keeps st)) (fun fl s' hl => ?_) fun _ _ y => y
  obtain ⟨L', m', news', F', N', hs, k⟩ := hl
  refine k fun b o e => ?_
  by_cases hb : b ∈ lst.map (·.1)
  · obtain ⟨q, hq, rfl⟩ := List.mem_map.mp hb
    have := (N q hq).1
    rw [e] at this
    injection this with this
    rw [this]
    exact (N' _ (hs q hq)).1
  · exact F'.keep b o (hideAll_get _ e hb)

/-- a class is called: all that stood is the ground -/
theorem p_make {C fI : Addr} {rest : List Value} {kw : List (Str × Value)} {bs : Addr → List (Str × Value)} (B : Below A₀ base outer h₀) (F : Fr h₀ L s.heap m) (X₀ : K.In h₀) (T : Top p loose mean mg mb h₀) (hA : A.frames = some (env :: outer)) (hf : env.frame = some L) (hke : env.scope.kind = .function)
    (hm : makesIn K C = true) (hi : findIn K (.ref C) "__init__" = some (some (.ref fI))) (hfn : isFn K (.ref fI) = true)
    (ho : K.lookup fI = some ⟨oc, od, .func (fnOf name qual params body scope dV kV doc pm an cdv ct), osl⟩) (hcd : codeIn K cdv qual = true) (hroom : (A.under (.builtin "type.__call__" ⟨.ref C :: rest, kw⟩)).depth < recursionLimit) (hA' : (A.under (.builtin "type.__call__" ⟨.ref C :: rest, kw⟩)).frames = some (env :: outer))
    (hbind : ∀ x (s' : Shared), BindsTo s' (fnOf name qual params body scope dV kV doc pm an cdv ct) ⟨.ref x :: rest, kw⟩ (bs x)) (hloc : ∀ x, ∀ y ∈ bs x, scope.names.lookup y.1 = some .local)
    (h : ∀ x dx L' h₁, dx < x → Fr s.heap L' h₁ (fun y => (bs x).reverse.lookup y) → News s.heap L' h₁ [(x, instObj C dx), (dx, dictOf [] 0)] → Below (A.under (.builtin "type.__call__" ⟨.ref C :: rest, kw⟩)) base (env :: outer) s.heap → K.In s.heap → Top p loose mean mg mb s.heap →
      wpAny (model prog w) ((A.under (.builtin "type.__call__" ⟨.ref C :: rest, kw⟩)).deeper (envOf qual scope L' fI cdv)) (execs body (envOf qual scope L' fI cdv))
        (fun fl s' => InitBack x R (.ok (.ret (match fl with | .ret v => v | _ => .none))) s')
        (fun e s' => wpAny (model prog w) ((A.under (.builtin "type.__call__" ⟨.ref C :: rest, kw⟩)).deeper (envOf qual scope L' fI cdv)) (leaving (envOf qual scope L' fI cdv) e) (fun _ s'' => R (.error e) s'') (fun e' s'' => R (.error e') s'') s')
        { s with heap := h₁, toks := s.toks + (bs x).length })
    (hco : scope.isCoroutine = false) (hgen : scope.isGenerator = false) (hk : scope.kind = .function)
    (hcell : ∀ x ∈ scope.names, x.2 ≠ .cell) : codeAny (model prog w) A (.call (.ref C) ⟨rest, kw⟩) R s := by
  obtain ⟨hh, g, d, t, os⟩ := s
  have X := X₀.keeps F.keep
  have B₁ := pushX B F hf hke
  refine make_core (makes_of X hm) (looks_findIn X hi) (fun self => bind_fn X self (beq_iff_eq.mp hfn)) (.inl rfl) ?_
  have k : ∀ b o, hh.get? b = some o → ((hh.push emptyDict).push (instObj C hh.objs.size)).get? b = some o := fun b o e => Heap.get?_push_of_some _ (Heap.get?_push_of_some _ e)
  refine codeAny_call_def (fd := fnOf name qual params body scope dV kV doc pm an cdv ct) (body := body) (binds := bs (hh.objs.size + 1)) hroom ((X.keeps k) _ _ ho) rfl ((T.nolimit.keeps F.keep).keeps k) (codeRec_of (X.keeps k) hcd) rfl (hbind _ _) hcell (hloc _) (fun h₁ hns hk₁ => ?_) hco hgen hk
  refine wpAny_mono (h (hh.objs.size + 1) hh.objs.size _ h₁ (Nat.lt_succ_self _) ⟨hns, fun b o e => hk₁ b o (k b o e), ?_⟩ (fun p hp => ?_) ⟨hA', B₁.stays, B₁.frames⟩ X (T.keeps F.keep)) (fun fl s' hl => ?_) fun _ _ y => y
  · simp only [Heap.size_push]; omega
  · have hx : ((hh.push emptyDict).push (instObj C hh.objs.size)).get? (hh.objs.size + 1) = some (instObj C hh.objs.size) := by heap_get
    have hd : ((hh.push emptyDict).push (instObj C hh.objs.size)).get? hh.objs.size = some emptyDict := by heap_get
    rcases List.mem_cons.mp hp with rfl | hp
    · exact ⟨hk₁ _ _ hx, by simp only [Heap.size_push, ne_eq]; exact Nat.ne_of_lt (Nat.lt_succ_self _), Heap.get?_none_of_le (by show hh.objs.size ≤ _; omega)⟩
    · rw [List.mem_singleton.mp hp]
      exact ⟨hk₁ _ _ hd, by simp only [Heap.size_push, ne_eq]; exact Nat.ne_of_lt (by omega), Heap.get?_none_of_le (by show hh.objs.size ≤ _; omega)⟩
  · exact hl
end
/-- what a call has made, beside what there was -/
theorem news_join {g h h' : Heap} {L L' : Addr} {m : Str → Option Value} {news lst : List (Addr × Obj)} (F : Fr g L h m) (N : News g L h news) (k : Kept h h') (N' : News h L' h' lst) : News g L h' (lst ++ news) := by
  intro p hp
  rcases List.mem_append.mp hp with hp | hp
  · obtain ⟨h1, _, h3⟩ := N' p hp
    refine ⟨h1, fun e => ?_, ?_⟩
    · obtain ⟨o, es, ep, ho, _⟩ := F.ns
      rw [e, ho] at h3; cases h3
    · cases q : g.get? p.1 with
      | none => rfl
      | some o => rw [F.keep _ _ q] at h3; cases h3
  · exact news_kept N k p hp
theorem news_sub {g h : Heap} {L : Addr} {news lst : List (Addr × Obj)} (N : News g L h news) (k : ∀ p ∈ lst, p ∈ news) : News g L h lst := fun p hp => N p (k p hp)
/-- what a call made at a point of the walk leans on, the tokens apart -/
structure Cx0 (K : Params → Frag) (vw : Program) (w : World) (mean : ExcName → Option Value) (mg mb : Str → Option Value) (dp un : Nat) (env : Env) (outer : List Env) (A₀ : Around) (base h₀ : Heap) (L : Addr) (m : Str → Option Value) (s : Shared) : Prop where
  B : Below A₀ base outer h₀
  F : Fr h₀ L s.heap m
  X : (K w.params).In h₀
  T : Top vw (loo vw) mean mg mb h₀
  hf : env.frame = some L
  hke : env.scope.kind = .function
  hdp : dp + 20 < recursionLimit
  hun : un + 200 < cLine
end
section
open PySem PySem.W PyProof.Rows PySem.Calls
theorem ne_of_le {x : Str} (h : 2 ≤ x.length) : (x.length == 0) = false := by simp; omega
theorem hne1 {x : Str} (h : 2 ≤ x.length) : (x.length == 0) = false := ne_of_le h
theorem hne2 {x y : Str} (h : 2 ≤ x.length) : ((x ++ y).length == 0) = false := ne_of_le (by rw [Str.length_append]; omega)
theorem hne3 {x y z : Str} (h : 2 ≤ x.length) : ((x ++ y ++ z).length == 0) = false := ne_of_le (by rw [Str.length_append, Str.length_append]; omega)
section
variable {w : World} {mean : ExcName → Option Value} {mg mb : Str → Option Value} {dp un : Nat} {gd : Option (List Code)} {env : Env} {outer : List Env} {A₀ : Around} {base h₀ : Heap} {L : Addr} {m : Str → Option Value} {s : Shared} {Q E : Value → Shared → Prop}


end
end
section
open PySem PySem.W PyProof.Rows PySem.Calls
theorem ite_no {b : Bool} {P Q : Prop} (h : b = true) (k : Q) : if (!b) = true then P else Q := by subst h; exact k
theorem ite_yes {b : Bool} {P Q : Prop} (h : b = false) (k : P) : if (!b) = true then P else Q := by subst h; exact k
/-- y stands nowhere in x -/
abbrev lacks (x y : Str) : Bool := (Builtin.Str.occurrences x y 0 x.length 1).isEmpty
theorem replace_text {prog : Program} {w : World} {A : Around} {E : Value → Shared → Prop} {s : Shared} {x y z r : Str} {t u v : Nat} {Q : Value → Shared → Prop} (hx : x.length ≤ 40) (hz : z.length ≤ 14) (hyz : (y == z) = false) (hr : Txt.replace x y z = r) (hu : 1 ≤ u) (hv : v = u + 1)
    (hq : ∀ (t' k : Nat), Q (.str r t') { s with toks := k }) : wpAny (model prog w) A (call (.builtin "str.replace") [.str x t, .str y u, .str z v]) Q E s := by
  subst hr
  have a1 : @Ne Nat u 0 := by omega
  have a2 : @Ne Nat v 0 := by omega
  have a3 : @Ne Nat u v := by omega
  exact SC.replaceW a1 a2 a3 hyz (by omega) hz hq
section
variable {w : World} {mean : ExcName → Option Value} {mg mb : Str → Option Value} {dp un : Nat} {gd : Option (List Code)} {env : Env} {outer : List Env} {A₀ : Around} {base h₀ : Heap} {L : Addr} {m : Str → Option Value} {s : Shared} {Q E : Value → Shared → Prop}


end
end
section
open PySem PySem.W PyProof.Rows PySem.Calls
section
variable {w : World} {mean : ExcName → Option Value} {mg mb : Str → Option Value} {dp un : Nat} {gd : Option (List Code)} {env : Env} {outer : List Env} {A₀ : Around} {base h₀ : Heap} {L : Addr} {m : Str → Option Value} {s : Shared} {Q E : Value → Shared → Prop}


end
end
section
open PySem PySem.W PyProof.Rows PySem.Calls
def colF (z : Int) (l : List Int) : Int := l.foldl (fun c x => if x = 9 then c - c.fmod z + z else c + 1) 0
theorem tab_is : Str.ofString "\t" = (⟨#[9]⟩ : Str) := by decide +kernel
theorem sign_yes {n c : Nat} {x : String} (hx : Str.ofString x = (⟨#[c]⟩ : Str)) (h : ((⟨#[n]⟩ : Str) == Str.ofString x) = true) : n = c := by
  have h1 : (⟨#[n]⟩ : Str) = Str.ofString x := eq_of_beq h
  rw [hx] at h1
  injection h1 with h2
  simpa using h2
theorem sign_no {n c : Nat} {x : String} (hx : Str.ofString x = (⟨#[c]⟩ : Str)) (h : ((⟨#[n]⟩ : Str) == Str.ofString x) = false) : n ≠ c := by
  intro e
  subst e
  rw [hx] at h
  simp at h
theorem colF_snoc (z : Int) (l : List Int) (n : Int) : colF z (l ++ [n]) = if n = 9 then colF z l - (colF z l).fmod z + z else colF z l + 1 := by
  unfold colF; rw [List.foldl_append]; rfl
theorem col_tab {z a : Int} {pre : List Int} {n : Nat} (hz1 : 1 ≤ z) (hz4 : z ≤ 4) (e : a = colF z pre) (h0 : 0 ≤ a) (h8 : a ≤ 8 * (pre.length : Int)) (h : ((⟨#[n]⟩ : Str) == Str.ofString "\t") = true) :
    a - a.fmod z + z = colF z (pre ++ [(n : Int)]) ∧ 0 ≤ a - a.fmod z + z ∧ a - a.fmod z + z ≤ 8 * ((pre ++ [(n : Int)]).length : Int) := by
  have h1 := sign_yes tab_is h
  subst h1
  have h2 := Int.fmod_nonneg_of_pos a (b := z) (by omega)
  have h3 := Int.fmod_lt_of_pos a (b := z) (by omega)
  refine ⟨by rw [colF_snoc, ← e]; rfl, by omega, ?_⟩
  rw [List.length_append, List.length_singleton]
  omega
theorem col_one {z a : Int} {pre : List Int} {n : Nat} (e : a = colF z pre) (h0 : 0 ≤ a) (h8 : a ≤ 8 * (pre.length : Int)) (h : ((⟨#[n]⟩ : Str) == Str.ofString "\t") = false) :
    a + 1 = colF z (pre ++ [(n : Int)]) ∧ 0 ≤ a + 1 ∧ a + 1 ≤ 8 * ((pre ++ [(n : Int)]).length : Int) := by
  have h1 := sign_no tab_is h
  refine ⟨by rw [colF_snoc, ← e, if_neg (by omega)], by omega, ?_⟩
  rw [List.length_append, List.length_singleton]
  omega
section
variable {w : World} {mean : ExcName → Option Value} {mg mb : Str → Option Value} {dp un : Nat} {gd : Option (List Code)} {env : Env} {outer : List Env} {A₀ : Around} {base h₀ : Heap} {L : Addr} {m : Str → Option Value} {s : Shared} {Q E : Value → Shared → Prop}


end
end
section
open PySem PySem.W PyProof.Rows PySem.Calls
def cntF (y : Str) (l : List Str) : Int := (l.filter (fun z => z == y)).length
theorem cnt_step {y z : Str} {ys : List Str} {i : Nat} (hz : ys[i]? = some z) : cntF y (ys.take (i + 1)) = cntF y (ys.take i) + (if z = y then 1 else 0) := by
  rw [List.take_add_one, hz]
  unfold cntF
  rw [List.filter_append, List.length_append]
  by_cases e : z = y
  · subst e; simp
  · simp [e]
theorem cnt_yes {y z : Str} {ys : List Str} {i : Nat} {a : Int} (hz : ys[i]? = some z) (ha : a = cntF y (ys.take i)) (e : z = y) : a + 1 = cntF y (ys.take (i + 1)) := by rw [cnt_step hz, if_pos e, ha]
theorem cnt_yesB {y z : Str} {ys : List Str} {i : Nat} {a : Int} {b : Bool} (hz : ys[i]? = some z) (ha : a = cntF y (ys.take i)) (hb : b = true → z = y) (e : b = true) : a + 1 = cntF y (ys.take (i + 1)) := cnt_yes hz ha (hb e)
theorem cnt_no {y z : Str} {ys : List Str} {i : Nat} {a : Int} (hz : ys[i]? = some z) (ha : a = cntF y (ys.take i)) (e : z ≠ y) : a = cntF y (ys.take (i + 1)) := by rw [cnt_step hz, if_neg e, ha, Int.add_zero]
section
variable {w : World} {mean : ExcName → Option Value} {mg mb : Str → Option Value} {dp un : Nat} {gd : Option (List Code)} {env : Env} {outer : List Env} {A₀ : Around} {base h₀ : Heap} {L : Addr} {m : Str → Option Value} {s : Shared} {Q E : Value → Shared → Prop}


end
end
section
open PySem PySem.W PyProof.Rows PySem.Calls
theorem list_news {g h : Heap} {L l S : Addr} {o : Obj} {r : List (Addr × Obj)} {items : Array Value} (x : g.IsList l items) (N : News g L h ((S, o) :: r)) : l ≠ S := by
  obtain ⟨_, ho, _⟩ := x
  have := (N _ (.head _)).2
  have h1 := Heap.lt_size ho
  have h2 := News.fresh N (.head _)
  intro e
  subst e
  rw [ho] at h2
  cases h2
theorem mem_flat {α : Type} {xss : List (List α)} {xs : List α} {x : α} {i : Nat} (h : xss[i]? = some xs) (hx : x ∈ xs) : x ∈ xss.flatten := List.mem_flatten.mpr ⟨xs, List.mem_of_getElem? h, hx⟩
theorem mem_flat2 {α : Type} {xss : List (List α)} {xs : List α} {x : α} {i j : Nat} (h : xss[i]? = some xs) (hx : xs[j]? = some x) : x ∈ xss.flatten := mem_flat h (List.mem_of_getElem? hx)
theorem coh_in {vss : List (List Value)} {vs : List Value} {i : Nat} {y : Str} {t : Nat} (hc : Coh vss.flatten) (h : vss[i]? = some vs) (hm : Value.str y t ∈ vs) : ∀ (z : Str) (u : Nat), Value.str z u ∈ vss.flatten → u = t → z = y := fun z u h1 e => hc _ _ _ h1 (e ▸ mem_flat h hm)
/-- texts' lists -/
inductive Texts2 : List (List Value) → List (List Str) → Prop
  | nil : Texts2 [] []
  | cons {vs : List Value} {ys : List Str} {vss : List (List Value)} {yss : List (List Str)} : TextsAre vs ys → Texts2 vss yss → Texts2 (vs :: vss) (ys :: yss)
theorem Texts2.flat {vss : List (List Value)} {yss : List (List Str)} (h : Texts2 vss yss) : TextsAre vss.flatten yss.flatten := by
  induction h with
  | nil => exact .nil
  | cons h1 _ ih => exact h1.append ih
theorem Texts2.length {vss : List (List Value)} {yss : List (List Str)} (h : Texts2 vss yss) : vss.length = yss.length := by
  induction h with
  | nil => rfl
  | cons _ _ ih => rw [List.length_cons, List.length_cons, ih]
theorem Texts2.get {vss : List (List Value)} {yss : List (List Str)} (h : Texts2 vss yss) : ∀ {i : Nat} {vs : List Value}, vss[i]? = some vs → ∃ ys, yss[i]? = some ys ∧ TextsAre vs ys := by
  induction h with
  | nil => intro i vs e; cases e
  | cons h1 _ ih =>
    intro i vs e
    cases i with
    | zero => cases e; exact ⟨_, rfl, h1⟩
    | succ i => exact ih e
/-- a block's column -/
def colS (z : Int) (b : Str) : Int := colF z (KStt.codes b)
theorem colF_bound (z : Int) (hz1 : 1 ≤ z) (hz4 : z ≤ 4) : ∀ l : List Int, 0 ≤ colF z l ∧ colF z l ≤ 8 * (l.length : Int) := by
  intro l
  induction h : l.length generalizing l with
  | zero => cases l with
    | nil => exact ⟨Int.le_refl 0, Int.le_refl 0⟩
    | cons _ _ => cases h
  | succ n ih =>
    obtain ⟨m, x, rfl⟩ : ∃ m x, l = m ++ [x] := ⟨l.dropLast, l.getLast (by intro e; rw [e] at h; cases h), (List.dropLast_concat_getLast _).symm⟩
    rw [List.length_append, List.length_singleton] at h
    obtain ⟨h1, h2⟩ := ih m (by omega)
    rw [colF_snoc]
    have h3 := Int.fmod_nonneg_of_pos (colF z m) (b := z) (by omega)
    have h4 := Int.fmod_lt_of_pos (colF z m) (b := z) (by omega)
    split <;> omega
theorem colS_bound {z : Int} {b : Str} (hz1 : 1 ≤ z) (hz4 : z ≤ 4) (hb : b.length ≤ 40) : 0 ≤ colS z b ∧ colS z b ≤ 320 := by
  have := colF_bound z hz1 hz4 (KStt.codes b)
  rw [KStt.codes_length] at this
  unfold colS
  omega
/-- one block's share added -/
def shStep (z : Int) (all : List Str) (a : Int × Int) (b : Str) : Int × Int := (a.1 + (12 : Int).fdiv (cntF b all) * (colS z b - a.2), colS z b)
def shareF (z : Int) (all bs : List Str) : Int := (bs.foldl (shStep z all) (0, 0)).1
abbrev shP (z : Int) (all bs : List Str) (i : Nat) (a b : Int) : Prop := (List.foldl (shStep z all) (0, 0) (List.take i bs)) = (a, b) ∧ -3840 * (i : Int) ≤ a ∧ a ≤ 3840 * (i : Int) ∧ 0 ≤ b ∧ b ≤ 320
theorem sh_snoc {z : Int} {all bs : List Str} {i : Nat} {b : Str} (hb : bs[i]? = some b) : (bs.take (i + 1)).foldl (shStep z all) (0, 0) = shStep z all ((bs.take i).foldl (shStep z all) (0, 0)) b := by
  rw [List.take_add_one, hb, List.foldl_append]; rfl
theorem fdiv_bound {c : Int} (h : 1 ≤ c) : 0 ≤ (12 : Int).fdiv c ∧ (12 : Int).fdiv c ≤ 12 := by
  have h1 : (12 : Int).fdiv c = 12 / c := Int.fdiv_eq_ediv_of_nonneg _ (by omega)
  rw [h1]
  exact ⟨Int.ediv_nonneg (by decide) (by omega), Int.ediv_le_self _ (by decide)⟩
theorem cnt_le {b : Str} {all : List Str} {n : Nat} (_h : 1 ≤ cntF b all) (h : all.length ≤ n) : cntF b all ≤ n := by
  unfold cntF
  have := List.length_filter_le (fun z => z == b) all
  omega
theorem cnt_pos {b : Str} {all : List Str} (h : b ∈ all) : 1 ≤ cntF b all := by
  unfold cntF
  have : 0 < (all.filter (fun z => z == b)).length := List.length_pos_of_mem (List.mem_filter.mpr ⟨h, beq_self_eq_true b⟩)
  omega
theorem sh_fin {z : Int} {all : List Str} {yss : List (List Str)} {bs : List Str} {i : Nat} {a b : Int} (hy : yss[i]? = some bs) (hp : List.foldl (shStep z all) (0, 0) (List.take bs.length bs) = (a, b)) : a = shareF z all (yss.getD i []) := by
  rw [List.take_length] at hp
  rw [List.getD_eq_getElem?_getD, hy]
  show a = shareF z all bs
  unfold shareF
  rw [hp]
theorem sh_all {z : Int} {all : List Str} {yss : List (List Str)} {n : Nat} (hn : n = yss.length) : (List.range n).map (fun i => shareF z all (yss.getD i [])) = yss.map (shareF z all) := by
  subst hn
  apply List.ext_getElem
  · simp
  · intro i h1 h2
    simp at h1 ⊢
    rw [List.getElem?_eq_getElem h1]; rfl
theorem sh_turn {z : Int} {all bs : List Str} {i : Nat} {a b : Int} {x : Str} (hb : bs[i]? = some x) (hp : List.foldl (shStep z all) (0, 0) (List.take i bs) = (a, b)) (h1 : -3840 * (i : Int) ≤ a) (h2 : a ≤ 3840 * (i : Int)) (h3 : 0 ≤ b) (h4 : b ≤ 320)
    (q1 : 0 ≤ (12 : Int).fdiv (cntF x all)) (q2 : (12 : Int).fdiv (cntF x all) ≤ 12) (c1 : 0 ≤ colF z (KStt.codes x)) (c2 : colF z (KStt.codes x) ≤ 320) :
    shP z all bs (i + 1) (a + (12 : Int).fdiv (cntF x all) * (colF z (KStt.codes x) - b)) (colF z (KStt.codes x)) := by
  have m1 : (12 : Int).fdiv (cntF x all) * (colF z (KStt.codes x) - b) ≤ 12 * 320 := by
    refine Int.le_trans (Int.mul_le_mul_of_nonneg_left (by omega : colF z (KStt.codes x) - b ≤ 320) q1) (Int.mul_le_mul_of_nonneg_right q2 (by decide))
  have m2 : -(12 * 320) ≤ (12 : Int).fdiv (cntF x all) * (colF z (KStt.codes x) - b) := by
    have := Int.mul_le_mul_of_nonneg_left (by omega : -320 ≤ colF z (KStt.codes x) - b) q1
    have h5 := Int.mul_le_mul_of_nonpos_right q2 (by decide : (-320 : Int) ≤ 0)
    omega
  refine ⟨by rw [sh_snoc hb, hp]; rfl, ?_, ?_, c1, c2⟩
  · push_cast; omega
  · push_cast; omega
section
variable {w : World} {mean : ExcName → Option Value} {mg mb : Str → Option Value} {dp un : Nat} {gd : Option (List Code)} {env : Env} {outer : List Env} {A₀ : Around} {base h₀ : Heap} {L : Addr} {m : Str → Option Value} {s : Shared} {Q E : Value → Shared → Prop}


end
end
section
open PySem PySem.W PyProof.Rows PySem.Calls
structure WsP where
  n : Int
  b : Int
  nt : Int
  cs : List Int
def bump (l : List Int) (b : Nat) : List Int :=
  let l' := if l.length ≤ b then l ++ List.replicate (b - l.length + 1) 0 else l
  l'.set b (l'.getD b 0 + 1)
def wsF : List Nat → WsP → WsP
  | [], s => s
  | c :: r, s => if c = 32 then wsF r ⟨s.n + 1, s.b + 1, s.nt, s.cs⟩ else if c = 9 then wsF r ⟨s.n + 1, 0, s.nt + 1, bump s.cs s.b.toNat⟩ else s
structure WsV where
  n : Int
  tn : Nat
  b : Int
  tb : Nat
  nt : Int
  tt : Nat
  C : Addr
  vs : List Value
  k : Nat
  cs : List Int
abbrev wsP (x : Str) (cst : List (Addr × Obj)) (i : Nat) (n b nt : Int) (C : Addr) (vs : List Value) (cs : List Int) : Prop := AllNe C cst ∧ IntsAre vs cs ∧ wsF (x.cps.toList.drop i) ⟨n, b, nt, cs⟩ = wsF x.cps.toList ⟨0, 0, 0, []⟩ ∧ 0 ≤ n ∧ n ≤ i ∧ 0 ≤ b ∧ b ≤ i ∧ 0 ≤ nt ∧ nt ≤ i ∧ cs.length ≤ i + 1 ∧ ∀ q ∈ cs, 0 ≤ q ∧ q ≤ i
abbrev wsB (x : Str) (cst : List (Addr × Obj)) (n b nt : Int) (C : Addr) (vs : List Value) (cs : List Int) : Prop := AllNe C cst ∧ IntsAre vs cs ∧ (⟨n, b, nt, cs⟩ : WsP) = wsF x.cps.toList ⟨0, 0, 0, []⟩ ∧ 0 ≤ n ∧ n ≤ x.cps.size ∧ 0 ≤ b ∧ b ≤ x.cps.size ∧ 0 ≤ nt ∧ nt ≤ x.cps.size ∧ cs.length ≤ x.cps.size + 1 ∧ ∀ q ∈ cs, 0 ≤ q ∧ q ≤ x.cps.size
theorem wsP_all {x : Str} {cst : List (Addr × Obj)} {n b nt : Int} {C : Addr} {vs : List Value} {cs : List Int} (h : wsP x cst x.cps.size n b nt C vs cs) : wsB x cst n b nt C vs cs := by
  obtain ⟨h0, h1, h2, r⟩ := h
  refine ⟨h0, h1, ?_, r⟩
  rw [List.drop_eq_nil_of_le (by simp)] at h2
  exact h2
abbrev psW (c : WsV) : List (Str × Value) := [(Str.ofString "nt", .int c.nt c.tt), (Str.ofString "n", .int c.n c.tn), (Str.ofString "b", .int c.b c.tb), (Str.ofString "count", .ref c.C)]
abbrev ledW (c : WsV) : List (Addr × Obj) := [(c.C, listOf c.vs.toArray c.k)]
theorem loop_ws {prog : Program} {w : World} {A : Around} {E : Value → Shared → Prop} {s : Shared} {env : Env} {h₀ : Heap} {target : Expr} {body : List Stmt} {Q : Flow → Shared → Prop} {x : Str} {t : Tok} {m₀ : Str → Option Value} {C : Addr} {cst : List (Addr × Obj)} {t1 t2 t3 : Nat}
    (hx60 : x.cps.size ≤ 60) (hC : AllNe C cst) (hh : A.handled = none) (F : Fr h₀ env.locals s.heap m₀) (N : News h₀ env.locals s.heap ((C, listOf #[] 0) :: cst)) (h1 : m₀ (Str.ofString "nt") = some (.int 0 t1)) (h2 : m₀ (Str.ofString "n") = some (.int 0 t2)) (h3 : m₀ (Str.ofString "b") = some (.int 0 t3)) (h4 : m₀ (Str.ofString "count") = some (.ref C))
    (turn : ∀ i ch (t' : Nat) (n : Int) (tn : Nat) (b : Int) (tb : Nat) (nt : Int) (tt : Nat) (C : Addr) (vs : List Value) (k : Nat) (cs : List Int) (u : Str → Option Value) h tk own, x.cps[i]? = some ch → i < 60 → (∀ p ∈ own, p.1 ≠ C) → wsP x cst i n b nt C vs cs → Fr h₀ env.locals h (fun z => if z = Str.ofString "nt" then some (.int nt tt) else if z = Str.ofString "n" then some (.int n tn) else if z = Str.ofString "b" then some (.int b tb) else if z = Str.ofString "count" then some (.ref C) else if [Str.ofString "ch"].contains z then u z else m₀ z) → News h₀ env.locals h ((C, listOf vs.toArray k) :: (cst ++ own)) →
      wpAny (model prog w) A (assign target env (.str ⟨#[ch]⟩ t')) (fun _ s₂ => wpAny (model prog w) A (execs body env) (GPost h₀ env.locals ledW cst psW [Str.ofString "nt", Str.ofString "n", Str.ofString "b", Str.ofString "count"] [Str.ofString "ch"] m₀ (fun c => wsP x cst (i + 1) c.n c.b c.nt c.C c.vs c.cs) (fun c => wsB x cst c.n c.b c.nt c.C c.vs c.cs) own (PySem.strIterType x) { s with heap := h, toks := tk } Q) E s₂) E { s with heap := h, toks := tk })
    (done : ∀ (n : Int) (tn : Nat) (b : Int) (tb : Nat) (nt : Int) (tt : Nat) (C : Addr) (vs : List Value) (k : Nat) (cs : List Int) (u : Str → Option Value) h tk, wsB x cst n b nt C vs cs → Fr h₀ env.locals h (fun z => if z = Str.ofString "nt" then some (.int nt tt) else if z = Str.ofString "n" then some (.int n tn) else if z = Str.ofString "b" then some (.int b tb) else if z = Str.ofString "count" then some (.ref C) else if [Str.ofString "ch"].contains z then u z else m₀ z) → News h₀ env.locals h ((C, listOf vs.toArray k) :: cst) → Q .next { s with heap := h, toks := tk })
    (hgo : ∀ I v, letOwnedTupleGo target (.ref I) v = pure ()) :
    wpAny (model prog w) A (pyIter (.str x t)) (fun it s₂ => TurnsAt prog w A h₀ env target body Q E it s₂) E s :=
  loop_str (σ := WsV) [] ledW cst psW [Str.ofString "nt", Str.ofString "n", Str.ofString "b", Str.ofString "count"] [Str.ofString "ch"] (fun i c => wsP x cst i c.n c.b c.nt c.C c.vs c.cs) (fun c => wsB x cst c.n c.b c.nt c.C c.vs c.cs) ⟨0, t2, 0, t3, 0, t1, C, [], 0, []⟩ hh (fun _ h => nomatch h) F N (fun p hp => hp)
    (List.forall_mem_cons.mpr ⟨h1, List.forall_mem_cons.mpr ⟨h2, List.forall_mem_cons.mpr ⟨h3, List.forall_mem_cons.mpr ⟨h4, fun _ h => nomatch h⟩⟩⟩⟩) (fun _ => rfl) (show wsP x cst 0 0 0 0 C [] [] from ⟨hC, .nil, rfl, by decide, by decide, by decide, by decide, by decide, by decide, by decide, fun _ h => nomatch h⟩) (fun c h => wsP_all h)
    (fun i ch t' c u h tk own hx hP _ hol F₁ N₁ => turn i ch t' c.n c.tn c.b c.tb c.nt c.tt c.C c.vs c.k c.cs u h tk own hx (Nat.lt_of_lt_of_le (Array.getElem?_eq_some_iff.mp hx).1 hx60) (fun p hp => hol p hp _ (.head _)) hP F₁ N₁) (fun c u h tk hP F₁ N₁ => done c.n c.tn c.b c.tb c.nt c.tt c.C c.vs c.k c.cs u h tk hP F₁ N₁) hgo
theorem ws_end {x : Str} {h₀ : Heap} {L C : Addr} {cst own all : List (Addr × Obj)} {m₀ m' : Str → Option Value} {n b nt : Int} {tn tb tt k : Nat} {vs : List Value} {cs : List Int} {s₁ : Shared} {h' : Heap} {tk : Nat} (R : Int → Int → Int → Addr → List Value → List Int → Prop) (F : Fr h₀ L h' m') (N : News h₀ L h' all) (hC : (C, listOf vs.toArray k) ∈ all)
    (h1 : ∀ p ∈ cst, p ∈ all) (h2 : ∀ p ∈ own, p ∈ all) (y1 : m' (Str.ofString "nt") = some (.int nt tt)) (y2 : m' (Str.ofString "n") = some (.int n tn)) (y3 : m' (Str.ofString "b") = some (.int b tb)) (y4 : m' (Str.ofString "count") = some (.ref C))
    (h5 : ∀ z, [Str.ofString "nt", Str.ofString "n", Str.ofString "b", Str.ofString "count"].contains z = false → [Str.ofString "ch"].contains z = false → m' z = m₀ z) (h6 : R n b nt C vs cs) :
    GEnd h₀ L ledW cst psW [Str.ofString "nt", Str.ofString "n", Str.ofString "b", Str.ofString "count"] [Str.ofString "ch"] m₀ (fun c => R c.n c.b c.nt c.C c.vs c.cs) own (PySem.strIterType x) s₁ { s₁ with heap := h', toks := tk } :=
  GEnd.intro ⟨n, tn, b, tb, nt, tt, C, vs, k, cs⟩ F N (fun p hp => by rw [List.mem_singleton.mp hp]; exact hC) h1 h2 (fun p hp => by rw [List.mem_singleton.mp hp]; exact list_not_striter x)
    (List.forall_mem_cons.mpr ⟨y1, List.forall_mem_cons.mpr ⟨y2, List.forall_mem_cons.mpr ⟨y3, List.forall_mem_cons.mpr ⟨y4, fun _ h => nomatch h⟩⟩⟩⟩) h5 h6
theorem sp_is : Str.ofString " " = (⟨#[32]⟩ : Str) := by decide +kernel
theorem drop_at {x : Str} {i ch : Nat} (hz : x.cps[i]? = some ch) : x.cps.toList.drop i = ch :: x.cps.toList.drop (i + 1) := by
  have h : x.cps.toList[i]? = some ch := by simpa using hz
  obtain ⟨h1, h2⟩ := List.getElem?_eq_some_iff.mp h
  rw [← h2]; exact List.drop_eq_getElem_cons h1
theorem ws_sp {x : Str} {cst : List (Addr × Obj)} {i ch : Nat} {n b nt : Int} {C : Addr} {vs : List Value} {cs : List Int} (hz : x.cps[i]? = some ch) (e : ((⟨#[ch]⟩ : Str) == Str.ofString " ") = true) (h : wsP x cst i n b nt C vs cs) : wsP x cst (i + 1) (n + 1) (b + 1) nt C vs cs := by
  obtain ⟨h0, h1, h2, h3, h4, h5, h6, h7, h8, h9, h10⟩ := h
  have hc := sign_yes sp_is e
  subst hc
  refine ⟨h0, h1, ?_, by omega, by push_cast; omega, by omega, by push_cast; omega, h7, by push_cast; omega, by omega, fun q hq => ⟨(h10 q hq).1, by have := (h10 q hq).2; push_cast; omega⟩⟩
  rw [drop_at hz, wsF, if_pos rfl] at h2
  exact h2
theorem bump_len (l : List Int) (b : Nat) : (bump l b).length ≤ max l.length (b + 1) := by
  unfold bump
  simp only [List.length_set]
  split
  · simp; omega
  · omega
theorem bump_mem {l : List Int} {b : Nat} {i : Int} (h : ∀ q ∈ l, 0 ≤ q ∧ q ≤ i) (hi : 0 ≤ i) : ∀ q ∈ bump l b, 0 ≤ q ∧ q ≤ i + 1 := by
  intro q hq
  unfold bump at hq
  have key : ∀ l' : List Int, (∀ q ∈ l', 0 ≤ q ∧ q ≤ i) → q ∈ l'.set b (l'.getD b 0 + 1) → 0 ≤ q ∧ q ≤ i + 1 := by
    intro l' h' hm
    rcases List.mem_or_eq_of_mem_set hm with hm | hm
    · have := h' q hm; omega
    · subst hm
      rw [List.getD_eq_getElem?_getD]
      cases e : l'[b]? with
      | none => simp; omega
      | some z => have := h' z (List.mem_of_getElem? e); simp; omega
  refine key _ ?_ hq
  split
  · intro z hz
    rcases List.mem_append.mp hz with hz | hz
    · exact h z hz
    · rw [(List.mem_replicate.mp hz).2]; omega
  · exact h
theorem ws_tab {x : Str} {cst : List (Addr × Obj)} {i ch : Nat} {n b nt : Int} {C C' : Addr} {vs vs' : List Value} {cs cs' : List Int} (hz : x.cps[i]? = some ch) (e : ((⟨#[ch]⟩ : Str) == Str.ofString "\t") = true) (h : wsP x cst i n b nt C vs cs) (h0' : AllNe C' cst) (h1' : IntsAre vs' cs') (hb : cs' = bump cs b.toNat) : wsP x cst (i + 1) (n + 1) 0 (nt + 1) C' vs' cs' := by
  obtain ⟨h0, h1, h2, h3, h4, h5, h6, h7, h8, h9, h10⟩ := h
  have hc := sign_yes tab_is e
  subst hc
  subst hb
  have hl := bump_len cs b.toNat
  refine ⟨h0', h1', ?_, by omega, by push_cast; omega, by omega, by push_cast; omega, by omega, by push_cast; omega, by omega, fun q hq => ?_⟩
  · rw [drop_at hz, wsF, if_neg (by decide), if_pos rfl] at h2
    exact h2
  · have := bump_mem h10 (by omega) q hq
    push_cast; omega
theorem ws_brk {x : Str} {cst : List (Addr × Obj)} {i ch : Nat} {n b nt : Int} {C : Addr} {vs : List Value} {cs : List Int} (hz : x.cps[i]? = some ch) (e1 : ((⟨#[ch]⟩ : Str) == Str.ofString " ") = false) (e2 : ((⟨#[ch]⟩ : Str) == Str.ofString "\t") = false) (h : wsP x cst i n b nt C vs cs) : wsB x cst n b nt C vs cs := by
  obtain ⟨h0, h1, h2, h3, h4, h5, h6, h7, h8, h9, h10⟩ := h
  have hi : i < x.cps.size := (Array.getElem?_eq_some_iff.mp hz).1
  refine ⟨h0, h1, ?_, h3, by omega, h5, by omega, h7, by omega, by omega, fun q hq => ?_⟩
  · rw [drop_at hz, wsF, if_neg (sign_no sp_is e1), if_neg (sign_no tab_is e2)] at h2
    exact h2
  · have := h10 q hq; omega
theorem bump_old {cs : List Int} {b : Int} (h : b < cs.length) (h0 : 0 ≤ b) : cs.set b.toNat (cs.getD b.toNat 0 + 1) = bump cs b.toNat := by
  unfold bump; rw [if_neg (by omega)]
theorem bump_new {cs : List Int} {b : Int} (h : (cs.length : Int) ≤ b) (h0 : 0 ≤ b) : (cs ++ (List.replicate (b - cs.length + 1).toNat [0]).flatten).set b.toNat ((cs ++ (List.replicate (b - cs.length + 1).toNat [0]).flatten).getD b.toNat 0 + 1) = bump cs b.toNat := by
  unfold bump; rw [if_pos (by omega), List.flatten_replicate_singleton]
  have : (b - cs.length + 1).toNat = b.toNat - cs.length + 1 := by omega
  rw [this]
theorem news_ne {h₀ h : Heap} {L a b : Addr} {oa ob : Obj} {news : List (Addr × Obj)} (N : News h₀ L h news) (ha : (a, oa) ∈ news) (hb : (b, ob) ∈ news) (hc : oa.cls ≠ ob.cls) : @Ne Nat a b := by
  intro e
  have h1 := (N _ ha).1
  have h2 := (N _ hb).1
  subst e
  rw [h1] at h2
  injection h2 with h2
  exact hc (congrArg Obj.cls h2)
/-- what indent_level sums -/
def ilF (z : Int) (cs : List Int) : Nat → Int
  | 0 => 0
  | i + 1 => ilF z cs i + (z + i).fdiv z * cs.getD (z + i).toNat 0
abbrev ilP (z : Int) (cs : List Int) (i : Nat) (a : Int) : Prop := a = ilF z cs i ∧ 0 ≤ a ∧ a ≤ 4000 * i
abbrev pIl {vs : List Value} {cs : List Int} (z : Int) (_ : IntsAre vs cs) : Nat → Int → Prop := fun i a => ilP z cs i a
theorem getD_bound {cs : List Int} {n : Nat} (h : ∀ q ∈ cs, 0 ≤ q ∧ q ≤ (n : Int)) (hn : n ≤ 60) (k : Nat) : 0 ≤ cs.getD k 0 ∧ cs.getD k 0 ≤ 60 := by
  rw [List.getD_eq_getElem?_getD]
  cases e : cs[k]? with
  | none => exact ⟨by decide, by decide⟩
  | some z => have := h z (List.mem_of_getElem? e); simp only [Option.getD_some]; omega
theorem il_turn {z : Int} {cs : List Int} {i : Nat} {a : Int} (h : ilP z cs i a) (h8 : 0 ≤ (z + (i : Int)).fdiv z * cs.getD (z + (i : Int)).toNat 0) (h9 : (z + (i : Int)).fdiv z * cs.getD (z + (i : Int)).toNat 0 ≤ 4000) : ilP z cs (i + 1) (a + (z + (i : Int)).fdiv z * cs.getD (z + (i : Int)).toNat 0) := by
  obtain ⟨h1, h2, h3⟩ := h
  refine ⟨by rw [h1]; rfl, by omega, by push_cast; omega⟩
theorem fdiv_small {a z : Int} (hz : 1 ≤ z) (ha : 0 ≤ a) (hb : a ≤ 66) : 0 ≤ a.fdiv z ∧ a.fdiv z ≤ 66 := by
  rw [Int.fdiv_eq_ediv_of_nonneg _ (by omega)]
  have h1 := Int.ediv_nonneg ha (by omega : 0 ≤ z)
  have h2 := Int.ediv_le_self z ha
  exact ⟨h1, Int.le_trans h2 hb⟩
theorem mul_small {a b : Int} (h1 : 0 ≤ a ∧ a ≤ 66) (h2 : 0 ≤ b ∧ b ≤ 60) : 0 ≤ a * b ∧ a * b ≤ 4000 := by
  refine ⟨Int.mul_nonneg h1.1 h2.1, ?_⟩
  exact Int.le_trans (Int.mul_le_mul h1.2 h2.2 h2.1 (by decide)) (by decide)

theorem strip2 {α β : Type} {f : α → β → Prop} {a : α} {b : β} (h : f a b) : f a b := h
abbrev tupO (vs : Array Value) : Obj := { cls := .type "tuple", data := .seq vs }
abbrev entO (p : Params) (nm : String) (t : Tok) (v : Value) : DictEntry := { hash := PyData.keyHash p (Str.ofString nm), key := .str (Str.ofString nm) t, val := v }
theorem news_0145 {g h : Heap} {L : Addr} {e0 e1 e2 e3 e4 e5 : Addr × Obj} (N : News g L h [e0, e1, e2, e3, e4, e5]) : News g L h [e0, e1, e4, e5] := news_sub N (by walk_at "mem_sub")
/-- a Whitespace object and what hangs on it -/
abbrev wsObjs (p : Params) (D d T Tc : Addr) (raw : Value) (n b nt : Int) (simple : Bool) (vs : List Value) (tn tb tt t1 t2 t3 t4 t5 : Tok) : List (Addr × Obj) :=
  [(T, tupO #[.ref Tc, .int b tb]), (Tc, tupO vs.toArray), (D, instObj 279 d), (d, dictOf [entO p "raw" t1 raw, entO p "n" t2 (.int n tn), entO p "nt" t3 (.int nt tt), entO p "norm" t4 (.ref T), entO p "is_simple" t5 (.bool simple)] 5)]
/-- the level that a text's Whitespace tells -/
def lvF (z : Int) (x : Str) : Int := (wsF x.cps.toList ⟨0, 0, 0, []⟩).b + z * (ilF z (wsF x.cps.toList ⟨0, 0, 0, []⟩).cs ((wsF x.cps.toList ⟨0, 0, 0, []⟩).cs.length - z).toNat + (wsF x.cps.toList ⟨0, 0, 0, []⟩).nt)
structure WsRec (x : Str) (D d T Tc : Addr) (raw : Value) (n b nt : Int) (simple : Bool) (vs : List Value) (cs : List Int) (tn tb tt t1 t2 t3 t4 t5 : Tok) : Prop where
  hxy : x.cps.size ≤ 60
  hI : IntsAre vs cs
  hw : (⟨n, b, nt, cs⟩ : WsP) = wsF x.cps.toList ⟨0, 0, 0, []⟩
  hb0 : 0 ≤ b
  hb1 : b ≤ x.cps.size
  hn0 : 0 ≤ nt
  hn1 : nt ≤ x.cps.size
  hcl : cs.length ≤ x.cps.size + 1
  hcs : ∀ q ∈ cs, 0 ≤ q ∧ q ≤ x.cps.size
theorem lv_is {x : Str} {n b nt z : Int} {cs : List Int} (hw : (⟨n, b, nt, cs⟩ : WsP) = wsF x.cps.toList ⟨0, 0, 0, []⟩) : b + z * (ilF z cs (cs.length - z).toNat + nt) = lvF z x := by
  unfold lvF; rw [← hw]
theorem lv_bound {z i b nt : Int} (hz1 : 1 ≤ z) (hz4 : z ≤ 4) (hb0 : 0 ≤ b) (hb1 : b ≤ 60) (hn0 : 0 ≤ nt) (hn1 : nt ≤ 60) (h0 : 0 ≤ i) (h1 : i ≤ 244000) : 0 ≤ b + z * (i + nt) ∧ b + z * (i + nt) ≤ 2000000 := by
  have e1 : z = 1 ∨ z = 2 ∨ z = 3 ∨ z = 4 := by omega
  rcases e1 with rfl | rfl | rfl | rfl <;> omega
end
section
open PySem PySem.W PyProof.Rows PySem.Calls
section
variable {w : World} {mean : ExcName → Option Value} {mg mb : Str → Option Value} {dp un : Nat} {gd : Option (List Code)} {env : Env} {outer : List Env} {A₀ : Around} {base h₀ : Heap} {L : Addr} {m : Str → Option Value} {s : Shared} {Q E : Value → Shared → Prop}
end
end
section
open PySem PySem.W PyProof.Rows PySem.Calls
section
variable {w : World} {mean : ExcName → Option Value} {mg mb : Str → Option Value} {dp un : Nat} {gd : Option (List Code)} {env : Env} {outer : List Env} {A₀ : Around} {base h₀ : Heap} {L : Addr} {m : Str → Option Value} {s : Shared} {Q E : Value → Shared → Prop}
end
end
section
open PySem PySem.W PyProof.Rows PySem.Calls
section
variable {w : World} {mean : ExcName → Option Value} {mg mb : Str → Option Value} {dp un : Nat} {gd : Option (List Code)} {env : Env} {outer : List Env} {A₀ : Around} {base h₀ : Heap} {L : Addr} {m : Str → Option Value} {s : Shared} {Q E : Value → Shared → Prop}
theorem comp_end4 {h₀ : Heap} {L I C D : Addr} {m : Str → Option Value} {s₁ : Shared} {oI oC oD : Obj} {S : List (Addr × Obj) → Prop} {rest : Value → List (Addr × Obj) → Prop} {y : Value} {h' : Heap} {tk : Nat} {news' : List (Addr × Obj)} {e1 e2 e3 e4 : Addr × Obj}
    (F : Fr h₀ L h' m) (N : News h₀ L h' (e1 :: e2 :: e3 :: e4 :: (I, oI) :: (C, oC) :: (D, oD) :: news')) (off : LCg.Off3 I C D news') (hS : S news') (r : rest y news') :
    LCg.CompEnd h₀ L m s₁ I oI C oC D oD S rest y { s₁ with heap := h', toks := tk } := LCg.CompEnd.intro F N news' (fun p hp => .tail _ (.tail _ (.tail _ (.tail _ hp)))) off hS r
theorem one_range {h : Heap} {r : Addr} {v : Value} {t1 t2 t3 : Tok} (x : IsRange h r 0 (#[v].size : Int) 1 t1 t2 t3) : IsRange h r 0 1 1 t1 t2 t3 := x
theorem one_int {a b : Int} {t : Tok} (h : a = b) : IntsAre [.int a t] [b] := by subst h; exact .cons _ _ .nil
end
end
section
open PySem PySem.W PyProof.Rows PySem.Calls
section
variable {w : World} {mean : ExcName → Option Value} {mg mb : Str → Option Value} {dp un : Nat} {gd : Option (List Code)} {env : Env} {outer : List Env} {A₀ : Around} {base h₀ : Heap} {L : Addr} {m : Str → Option Value} {s : Shared} {Q E : Value → Shared → Prop}
theorem comp_end4' {h₀ : Heap} {L I C D : Addr} {m : Str → Option Value} {s₁ : Shared} {oI oC oD : Obj} {S : List (Addr × Obj) → Prop} {rest : Value → List (Addr × Obj) → Prop} {y : Value} {h' : Heap} {tk : Nat} {news' : List (Addr × Obj)} {e1 e2 e3 e4 : Addr × Obj}
    (F : Fr h₀ L h' m) (N : News h₀ L h' (e1 :: e2 :: e3 :: e4 :: (I, oI) :: (C, oC) :: (D, oD) :: news')) (off : LCg.Off3 I C D news') (hS : S news') (r : rest y news') :
    LCg.CompEnd h₀ L m s₁ I oI C oC D oD S rest y { s₁ with heap := h', toks := tk } := LCg.CompEnd.intro F N news' (fun p hp => .tail _ (.tail _ (.tail _ (.tail _ hp)))) off hS r
theorem two_range {h : Heap} {r : Addr} {v v' : Value} {t1 t2 t3 : Tok} (x : IsRange h r 0 (#[v, v'].size : Int) 1 t1 t2 t3) : IsRange h r 0 2 1 t1 t2 t3 := x
theorem two_int {a b a' b' : Int} {t t' : Tok} (h : a = b) (h' : a' = b') : IntsAre [.int a t, .int a' t'] [b, b'] := by subst h h'; exact .cons _ _ (.cons _ _ .nil)
end
end
section
open PySem PySem.W PyProof.Rows PySem.Calls
open PySem.Builtin.Re
theorem slot_re_search : Slot "re.Pattern" "search" "re.Pattern.search" :=
  .of (owner := "re.Pattern") (n := "search") (by rw [typeLookup_type, builtinLookup_eq_fast]; kernel_rfl) (by decide +kernel) (by decide +kernel) (by decide +kernel)
    (by first | exact .inl (by decide +kernel) | exact .inr (by decide +kernel)) (by rw [isSubtype_type]; kernel_rfl)
theorem type_re_search : typeOf (.builtin "re.Pattern.search") = pure (.type "method_descriptor") := by show builtinType _ = _; rw [builtinType_eq_fast]; kernel_rfl
theorem entry_re_search : entryFor table "re.Pattern.search" = some Builtin.«re.Pattern.search» := entryFor_of_tree (by kernel_rfl)
theorem args_re_search (a b : Value) : argsOk "re.Pattern.search" ⟨[a, b], []⟩ := by unfold argsOk; kernel_rfl
theorem plain_re : PlainAttrs "re.Pattern" := ⟨⟨"object.__getattribute__", by rw [typeLookup_type, builtinLookup_eq_fast]; kernel_rfl, by decide +kernel⟩, by rw [typeLookup_type, builtinLookup_eq_fast]; kernel_rfl⟩
theorem named_search (v : Value) : reNamed "re.Pattern.search" "search" ["string", "pos", "endpos"] 1 [v] [] = pure [some v, none, none] := by kernel_rfl

/-- a code's set lets no sign of the text in -/
def Refuses (code : Array Nat) (c : Nat) : Prop := ∀ seen, ∃ seen', Sre.inSet code c code.size 5 true seen = .ok (false, seen')
theorem admitted_none (m : Sre.M) (h : ∀ c ∈ m.text, Refuses m.code c) (hl : m.lim ≤ m.text.size) : ∀ (fuel s : Nat) (seen : Sre.Seen), ∃ seen', Sre.M.admitted m fuel s seen = .ok (none, seen') := by
  intro fuel
  induction fuel with
  | zero => intro s seen; exact ⟨_, rfl⟩
  | succ n ih =>
    intro s seen
    unfold Sre.M.admitted
    by_cases hs : s ≥ m.lim
    · rw [if_pos hs]; exact ⟨_, rfl⟩
    · rw [if_neg hs]
      have hlt : s < m.text.size := by omega
      obtain ⟨seen', e⟩ := h (m.text.getD s 0) (by rw [Array.getD_eq_getD_getElem?, Array.getElem?_eq_getElem hlt]; exact Array.getElem_mem hlt) seen
      rw [e]
      exact ih (s + 1) seen'
theorem drive_said {m : Sre.M} (e1 : m.outcome = none) (e2 : m.answer = some false) (e3 : m.frames = []) : ∀ n, n ≠ 0 → reDrive n m = pure { m with outcome := some .failed } := by
  intro n hn
  cases n with
  | zero => exact absurd rfl hn
  | succ n =>
    have h1 : m.step = { m with outcome := some .failed } := by
      unfold Sre.M.step; rw [e1, e2, e3]; rfl
    have h2 : m.runFor reTurnSteps = { m with outcome := some .failed } := by
      show (if m.outcome.isSome then m else Sre.M.runFor 3 m.step) = _
      rw [e1, h1]; rfl
    show (if (m.runFor reTurnSteps).outcome.isSome then pure (m.runFor reTurnSteps) else _) = _
    rw [h2]; rfl
abbrev codeN : Array Nat := #[14, 10, 4, 1, 1, 22, 0, 31, 16, 127, 0, 13, 7, 22, 0, 31, 16, 127, 0, 1]
abbrev codeV : Array Nat := #[14, 14, 4, 1, 1, 9, 4294966783, 0, 0, 2147483648, 0, 0, 0, 0, 0, 13, 11, 9, 4294966783, 0, 0, 2147483648, 0, 0, 0, 0, 0, 1]
theorem attempt_none {m : Sre.M} {i : Nat} {b : Bool} (hc : m.hasFirstSet = true) (ht : ∀ c ∈ m.text, Refuses m.code c) (hl : m.lim ≤ m.text.size) (o : m.outcome = none) (f : m.frames = []) :
    (m.attemptFrom i b).outcome = none ∧ (m.attemptFrom i b).answer = some false ∧ (m.attemptFrom i b).frames = [] := by
  unfold Sre.M.attemptFrom
  rw [hc]
  obtain ⟨seen', e⟩ := admitted_none m ht hl (m.lim + 1 - i) i m.seen
  simp only [Bool.not_true, Bool.false_eq_true, if_false]
  rw [e]
  exact ⟨o, rfl, f⟩
theorem search_N {text : Array Nat} (hr : ∀ c ∈ text, Refuses codeN c) {lim : Nat} (hl : lim ≤ text.size) :
    (Sre.forSearch codeN text 0 0 lim false).outcome = none ∧ (Sre.forSearch codeN text 0 0 lim false).answer = some false ∧ (Sre.forSearch codeN text 0 0 lim false).frames = [] := by
  unfold Sre.forSearch
  dsimp only
  split
  · exact ⟨rfl, rfl, rfl⟩
  · exact attempt_none rfl hr hl rfl rfl
theorem search_V {text : Array Nat} (hr : ∀ c ∈ text, Refuses codeV c) {lim : Nat} (hl : lim ≤ text.size) :
    (Sre.forSearch codeV text 0 0 lim false).outcome = none ∧ (Sre.forSearch codeV text 0 0 lim false).answer = some false ∧ (Sre.forSearch codeV text 0 0 lim false).frames = [] := by
  unfold Sre.forSearch
  dsimp only
  split
  · exact ⟨rfl, rfl, rfl⟩
  · exact attempt_none rfl hr hl rfl rfl
theorem refuses_N {c : Nat} (h1 : 32 ≤ c) (h2 : c ≠ 127) : Refuses codeN c := by
  intro seen
  refine ⟨((seen.add 22).add 16).add 0, ?_⟩
  have e1 : (decide (0 ≤ c) && decide (c ≤ 31)) = false := by simp; omega
  have e2 : (c == 127) = false := by simp [h2]
  show Sre.inSet codeN c (19 + 1) 5 true seen = _
  unfold Sre.inSet
  show (if (decide (0 ≤ c) && decide (c ≤ 31)) = true then _ else _) = _
  rw [e1]
  show Sre.inSet codeN c (18 + 1) 8 true (seen.add 22) = _
  unfold Sre.inSet
  show (if (c == 127) = true then _ else _) = _
  rw [e2]
  rfl
theorem refuses_V {c : Nat} (h : (decide (c < 256) && (codeV.getD (6 + c / 32) 0).testBit (c % 32)) = false) : Refuses codeV c := by
  intro seen
  refine ⟨(seen.add 9).add 0, ?_⟩
  show Sre.inSet codeV c (27 + 1) 5 true seen = _
  unfold Sre.inSet
  show (if (decide (c < 256) && (codeV.getD (5 + (1 + c / 32)) 0).testBit (c % 32)) = true then _ else _) = _
  rw [show 5 + (1 + c / 32) = 6 + c / 32 by omega, h]
  rfl
section
variable {prog : Program} {w : World} {A : Around} {E : Value → Shared → Prop} {s : Shared}
theorem wp_rules {M : Model} {Q : PUnit → Shared → Prop} (b : Nat → Bool) (nm : Nat → String) : ∀ (l : List Nat), Q .unit s → wpAny M A (forIn l PUnit.unit fun i _ => if b i = true then (do rule (nm i); pure (ForInStep.yield PUnit.unit)) else pure (ForInStep.yield PUnit.unit)) Q E s := by
  intro l
  induction l with
  | nil => intro h; exact wpAny_pure h
  | cons i r ih =>
    intro h
    rw [List.forIn_cons]
    refine wpAny_bind ?_
    cases b i with
    | true => rw [if_pos rfl]; exact wpAny_bind (wpAny_rule (wpAny_pure (ih h)))
    | false => rw [if_neg Bool.false_ne_true]; exact wpAny_pure (ih h)
theorem run_said {M : Model} {m : Sre.M} (e1 : m.outcome = none) (e2 : m.answer = some false) (e3 : m.frames = []) {Q : Option Sre.M → Shared → Prop} (h : Q none s) : wpAny M A (reRunToEnd m) Q E s := by
  unfold reRunToEnd
  rw [drive_said e1 e2 e3 _ (by decide)]
  refine wpAny_bind (wpAny_pure (wpAny_bind (wp_rules _ _ _ ?_)))
  exact wpAny_pure h
theorem getMethod_search {P : Addr} {o : Obj} {pl : Sem Bool} {Q : Value × List Value → Shared → Prop} (ho : s.heap.get? P = some o) (hc : o.cls = .type "re.Pattern") (hd : o.dict = none) {M : Model}
    (h : Q (.builtin "re.Pattern.search", [.ref P]) s) : wpAny M A (getMethod (.ref P) "search" pl) Q E s :=
  getMethod_builtin ⟨o, ho, hc⟩ plain_re slot_re_search type_re_search (fun a e => by injection e with e; subst e; exact ⟨o, ho, hd⟩) h
theorem call_search {P Cd : Addr} {o oc : Obj} {v1 v2 v4 v5 : Value} {t1 t2 : Tok} {xs : Array Value} {n : Nat} {x : Str} {t : Tok} {code : Array Nat} {Q : Value → Shared → Prop}
    (ho : s.heap.get? P = some o) (hc : o.cls = .type "re.Pattern") (hd : o.data = .fields #[v1, v2, .int 0 t1, v4, v5, .ref Cd, .int 0 t2]) (hoc : s.heap.get? Cd = some oc) (hx : oc.data = .seq xs n) (hcode : (xs.map reRawOf).map (·.toNat) = code)
    (hs : ∀ lim, lim ≤ x.cps.size → (Sre.forSearch code x.cps 0 0 lim false).outcome = none ∧ (Sre.forSearch code x.cps 0 0 lim false).answer = some false ∧ (Sre.forSearch code x.cps 0 0 lim false).frames = [])
    (h : Q .none s) : wpAny (model prog w) A (call (.builtin "re.Pattern.search") [.ref P, .str x t]) Q E s := by
  refine wpAny_call_entry slot_re_search ⟨o, ho, hc⟩ entry_re_search ?_ (args_re_search _ _)
  unfold Builtin.«re.Pattern.search»
  refine wpAny_bind ?_
  unfold reTarget
  dsimp only
  rw [named_search]
  refine wpAny_bind (wpAny_pure ?_)
  dsimp only
  refine wpAny_bind (wpAny_pure (wpAny_bind (wpAny_pure (wpAny_bind (wpAny_fieldsOf ho hd ?_)))))
  have e1 : reTextOf (Value.str x t) = pure (x.cps, 0) := rfl
  have e2 : ∀ t : Tok, (reRawNat (Value.int 0 t) == 0 && (0 : Nat) == 1) = false := fun _ => rfl
  have e3 : ∀ t : Tok, (reRawNat (Value.int 0 t) == 1 && (0 : Nat) == 0) = false := fun _ => rfl
  rw [e1]
  refine wpAny_bind (wpAny_pure ?_)
  dsimp only
  rw [if_neg (show ¬ _ from by rw [show (#[v1, v2, Value.int 0 t1, v4, v5, Value.ref Cd, Value.int 0 t2].getD 6 Value.none) = Value.int 0 t2 from rfl, e2]; exact Bool.false_ne_true)]
  rw [if_neg (show ¬ _ from by rw [show (#[v1, v2, Value.int 0 t1, v4, v5, Value.ref Cd, Value.int 0 t2].getD 6 Value.none) = Value.int 0 t2 from rfl, e3]; exact Bool.false_ne_true)]
  have e4 : reNoCollectionInside (Value.str x t) 0 = pure () := rfl
  rw [e4]
  refine wpAny_bind (wpAny_pure ?_)
  have e5 : reRawItems (#[v1, v2, Value.int 0 t1, v4, v5, Value.ref Cd, Value.int 0 t2].getD 5 Value.none) = (do return ((← seqItems? (.ref Cd)).getD #[]).map reRawOf) := rfl
  rw [e5]
  refine wpAny_bind (wpAny_bind ?_)
  unfold seqItems?
  refine wpAny_bind (wpAny_load hoc ?_)
  rw [hx]
  refine wpAny_pure (wpAny_pure (wpAny_pure ?_))
  unfold reAnswer
  dsimp only [Option.getD_some]
  rw [hcode, show min (Int.toNat 0) x.cps.size = 0 from Nat.zero_min _, show reRawNat (#[v1, v2, Value.int 0 t1, v4, v5, Value.ref Cd, Value.int 0 t2].getD 2 Value.none) = 0 from rfl]
  have hle : min (2 ^ 63 - 1 : Int).toNat x.cps.size ≤ x.cps.size := Nat.min_le_right _ _
  generalize min (2 ^ 63 - 1 : Int).toNat x.cps.size = lim at hle ⊢
  obtain ⟨h1, h2, h3⟩ := hs lim hle
  exact wpAny_bind (run_said (m := Sre.forSearch code x.cps 0 0 lim false) h1 h2 h3 (wpAny_pure ⟨_, rfl, h⟩))
/-- the texts that a Headers' regexes let pass -/
def okN (x : Str) : Bool := x.cps.all fun c => decide (32 ≤ c) && decide (c ≠ 127)
def okV (x : Str) : Bool := x.cps.all fun c => !(decide (c < 256) && (codeV.getD (6 + c / 32) 0).testBit (c % 32))
theorem okN_hs {x : Str} (h : okN x = true) : ∀ lim, lim ≤ x.cps.size → (Sre.forSearch codeN x.cps 0 0 lim false).outcome = none ∧ (Sre.forSearch codeN x.cps 0 0 lim false).answer = some false ∧ (Sre.forSearch codeN x.cps 0 0 lim false).frames = [] := by
  intro lim hl
  unfold okN at h
  rw [Array.all_eq_true'] at h
  exact search_N (fun c hc => by have := h c hc; simp only [Bool.and_eq_true, decide_eq_true_eq] at this; exact refuses_N this.1 this.2) hl
theorem okV_hs {x : Str} (h : okV x = true) : ∀ lim, lim ≤ x.cps.size → (Sre.forSearch codeV x.cps 0 0 lim false).outcome = none ∧ (Sre.forSearch codeV x.cps 0 0 lim false).answer = some false ∧ (Sre.forSearch codeV x.cps 0 0 lim false).frames = [] := by
  intro lim hl
  unfold okV at h
  rw [Array.all_eq_true'] at h
  exact search_V (fun c hc => refuses_V (by have := h c hc; cases e : (decide (c < 256) && (codeV.getD (6 + c / 32) 0).testBit (c % 32)) with | false => rfl | true => rw [e] at this; exact absurd this (by decide))) hl
end
end
section
open PySem PySem.W PyProof.Rows PySem.Calls
abbrev rawN : Array Value := #[.int 14 0, .int 10 0, .int 4 0, .int 1 0, .int 1 0, .int 22 0, .int 0 0, .int 31 0, .int 16 0, .int 127 0, .int 0 0, .int 13 0, .int 7 0, .int 22 0, .int 0 0, .int 31 0, .int 16 0, .int 127 0, .int 0 0, .int 1 0]
abbrev rawV : Array Value := #[.int 14 0, .int 14 0, .int 4 0, .int 1 0, .int 1 0, .int 9 0, .int 4294966783 0, .int 0 0, .int 0 0, .int 2147483648 0, .int 0 0, .int 0 0, .int 0 0, .int 0 0, .int 0 0, .int 13 0, .int 11 0, .int 9 0, .int 4294966783 0, .int 0 0, .int 0 0, .int 2147483648 0, .int 0 0, .int 0 0, .int 0 0, .int 0 0, .int 0 0, .int 1 0]
theorem raw_N : (rawN.map PySem.Builtin.Re.reRawOf).map (·.toNat) = codeN := by decide +kernel
theorem raw_V : (rawV.map PySem.Builtin.Re.reRawOf).map (·.toNat) = codeV := by decide +kernel
section
variable {prog : Program} {w : World} {A : Around} {E : Value → Shared → Prop} {s : Shared} {p : Params}
end
section
variable {w : World} {mean : ExcName → Option Value} {mg mb : Str → Option Value} {dp un : Nat} {gd : Option (List Code)} {env : Env} {outer : List Env} {A₀ : Around} {base h₀ : Heap} {L : Addr} {m : Str → Option Value} {s : Shared} {Q E : Value → Shared → Prop}
end
end
section
open PySem PySem.W PyProof.Rows PySem.Calls
/-- a row of a table: its tuple, its name and its word -/
structure Row where
  a : Addr
  k : Str
  tk : Nat
  v : Str
  tv : Nat
abbrev Row.o (r : Row) : Obj := tupO #[.str r.k r.tk, .str r.v r.tv]
abbrev rowVs (ts : List Row) : List Value := ts.map fun r => .ref r.a
abbrev rowObjs (ts : List Row) : List (Addr × Obj) := ts.map fun r => (r.a, r.o)
section
variable {prog : Program} {w : World} {A : Around} {E : Value → Shared → Prop} {s : Shared} {env : Env} {h₀ : Heap} {target : Expr} {body : List Stmt} {Q : Flow → Shared → Prop}
/-- a search through a table's rows -/
theorem loop_rows {H : Addr} {ts : List Row} {m₀ : Str → Option Value} {news : List (Addr × Obj)} (st : List Str) (no : Row → Prop)
    (hh : A.handled = none) (hl : s.heap.IsList H (rowVs ts).toArray) (hHL : H ≠ env.locals) (F : Fr h₀ env.locals s.heap m₀) (N : News h₀ env.locals s.heap news) (hts : ∀ p ∈ rowObjs ts, p ∈ news)
    (turn : ∀ i r (u : Str → Option Value) h tk own, ts[i]? = some r → (∀ q ∈ ts.take i, no q) → Fr h₀ env.locals h (fun z => if st.contains z then u z else m₀ z) → News h₀ env.locals h ((r.a, r.o) :: (news ++ own)) →
      wpAny (model prog w) A (assign target env (.ref r.a)) (fun _ s₂ => wpAny (model prog w) A (execs body env) (GPost h₀ env.locals (fun _ : Unit => []) news (fun _ => []) [] st m₀ (fun _ => ∀ q ∈ ts.take (i + 1), no q) (fun _ => ∀ q ∈ ts, no q) own "list_iterator" { s with heap := h, toks := tk } Q) E s₂) E { s with heap := h, toks := tk })
    (done : ∀ (u : Str → Option Value) h tk, (∀ q ∈ ts, no q) → Fr h₀ env.locals h (fun z => if st.contains z then u z else m₀ z) → News h₀ env.locals h news → Q .next { s with heap := h, toks := tk }) :
    wpAny (model prog w) A (pyIter (.ref H)) (fun it s₂ => TurnsAt prog w A h₀ env target body Q E it s₂) E s :=
  loop_list (σ := Unit) [] (fun _ => []) news (fun _ => []) [] st (fun i _ => ∀ q ∈ ts.take i, no q) (fun _ => ∀ q ∈ ts, no q) () hh hl hHL (fun h => nomatch h) (fun _ h => nomatch h) F N (fun p hp => hp) (fun _ h => nomatch h) (fun _ => rfl) (fun _ h => nomatch h)
    (fun _ h => by rw [List.length_map, List.take_length] at h; exact h)
    (fun i v _ u h tk own hi hv hP _ F₁ N₁ => by
      rw [List.length_map] at hi
      have hr : ts[i]? = some ts[i] := List.getElem?_eq_getElem hi
      rw [List.getElem?_map, hr] at hv
      injection hv with hv
      subst hv
      exact turn i _ u h tk own hr hP F₁ (fun p hp => by
        rcases List.mem_cons.mp hp with rfl | hp
        · exact N₁ _ (List.mem_append.mpr (.inr (List.mem_append.mpr (.inl (hts _ (List.mem_map.mpr ⟨_, List.getElem_mem hi, rfl⟩))))))
        · exact N₁ p hp))
    (fun _ u h tk hP F₁ N₁ => done u h tk hP F₁ N₁)
end
/-- what a table tells of a name in small letters -/
def getF (ts : List Row) (y : Str) : Value := match ts.find? (fun r => Txt.lower r.k == y) with | some r => .str r.v r.tv | none => .none
theorem get_hit {ts : List Row} {y : Str} {i : Nat} {r : Row} (h : ts[i]? = some r) (hn : ∀ q ∈ ts.take i, (Txt.lower q.k == y) = false) (hy : (Txt.lower r.k == y) = true) : getF ts y = .str r.v r.tv := by
  unfold getF
  have : ts.find? (fun r => Txt.lower r.k == y) = some r := by
    obtain ⟨hi, e⟩ := List.getElem?_eq_some_iff.mp h
    have e2 : ts = ts.take i ++ r :: ts.drop (i + 1) := by
      rw [← e, List.getElem_cons_drop, List.take_append_drop]
    rw [e2, List.find?_append, List.find?_eq_none.mpr (fun q hq => by rw [hn q hq]; exact Bool.false_ne_true), List.find?_cons, hy]
    rfl
  rw [this]
theorem get_miss {ts : List Row} {y : Str} (hn : ∀ q ∈ ts, (Txt.lower q.k == y) = false) : getF ts y = .none := by
  unfold getF
  rw [List.find?_eq_none.mpr (fun q hq => by rw [hn q hq]; exact Bool.false_ne_true)]
theorem take_snoc {ts : List Row} {i : Nat} {r : Row} {no : Row → Prop} (h : ts[i]? = some r) (hn : ∀ q ∈ ts.take i, no q) (hy : no r) : ∀ q ∈ ts.take (i + 1), no q := by
  intro q hq
  rw [List.take_add_one, h] at hq
  rcases List.mem_append.mp hq with hq | hq
  · exact hn q hq
  · simp at hq; subst hq; exact hy
theorem getF_cases (ts : List Row) (y : Str) : (getF ts y = .none ∧ ts.find? (fun r => Txt.lower r.k == y) = none) ∨ ∃ r, getF ts y = .str r.v r.tv ∧ ts.find? (fun r => Txt.lower r.k == y) = some r := by
  unfold getF
  cases h : ts.find? (fun r => Txt.lower r.k == y) with
  | none => exact .inl ⟨rfl, rfl⟩
  | some r => exact .inr ⟨r, rfl, rfl⟩
section
variable {w : World} {mean : ExcName → Option Value} {mg mb : Str → Option Value} {dp un : Nat} {gd : Option (List Code)} {env : Env} {outer : List Env} {A₀ : Around} {base h₀ : Heap} {L : Addr} {m : Str → Option Value} {s : Shared} {Q E : Value → Shared → Prop}
abbrev tabObjs (p : Params) (I d H : Addr) (t1 : Tok) (n : Nat) (ts : List Row) : List (Addr × Obj) := (H, listOf (rowVs ts).toArray n) :: (I, instObj 184 d) :: (d, dictOf [entO p "_headers" t1 (.ref H)] 1) :: rowObjs ts
end
end
section
open PySem PySem.W PyProof.Rows PySem.Calls
section
variable {prog : Program} {w : World} {A : Around} {E : Value → Shared → Prop} {s : Shared} {h₀ : Heap}
theorem tab_add {p : Params} {I d H D L : Addr} {t1 : Tok} {n : Nat} {ts : List Row} {rest : List (Addr × Obj)} {x y : Str} {t u : Nat} {m : Str → Option Value} {Q' : Value → Shared → Prop} (F : Fr h₀ L s.heap m) (N : News h₀ L s.heap ((D, tupO #[.str x t, .str y u]) :: (tabObjs p I d H t1 n ts ++ rest)))
    (hrest : ∀ p ∈ rest, p.1 ≠ H) (hlen : ts.length ≤ 100) (h : ∀ h' n', Fr h₀ L h' m → News h₀ L h' (tabObjs p I d H t1 n' (ts ++ [⟨D, x, t, y, u⟩]) ++ rest) → Q' .none { s with heap := h' }) :
    wpAny (model prog w) A (call (.builtin "list.append") [.ref H, .ref D]) Q' E s := by
  have N1 : News h₀ L s.heap ((H, listOf (rowVs ts).toArray n) :: (D, tupO #[.str x t, .str y u]) :: (I, instObj 184 d) :: (d, dictOf [entO p "_headers" t1 (.ref H)] 1) :: (rowObjs ts ++ rest)) := news_sub N (fun q hq => by
    rcases List.mem_cons.mp hq with rfl | hq
    · exact .tail _ (.head _)
    · rcases List.mem_cons.mp hq with rfl | hq
      · exact .head _
      · exact .tail _ (.tail _ hq))
  have hne : ∀ q ∈ (D, tupO #[.str x t, .str y u]) :: (I, instObj 184 d) :: (d, dictOf [entO p "_headers" t1 (.ref H)] 1) :: (rowObjs ts ++ rest), q.1 ≠ H := by
    intro q hq
    by_cases hr : q ∈ rest
    · exact hrest q hr
    · refine news_ne N1 (a := q.1) (oa := q.2) (.tail _ hq) (.head _) ?_
      rcases List.mem_cons.mp hq with rfl | hq
      · intro e; injection e with e; revert e; decide
      · rcases List.mem_cons.mp hq with rfl | hq
        · intro e; cases e
        · rcases List.mem_cons.mp hq with rfl | hq
          · intro e; injection e with e; revert e; decide
          · rcases List.mem_append.mp hq with hq | hq
            · obtain ⟨r, _, rfl⟩ := List.mem_map.mp hq
              intro e; injection e with e; revert e; decide
            · exact absurd hq hr
  refine append_head F N1 hne (by rw [List.length_map, sizeLine_eq]; omega) fun h' n' F' N' => h h' n' F' (news_sub N' (fun q hq => ?_))
  rcases List.mem_cons.mp hq with rfl | hq
  · rw [show rowVs (ts ++ [⟨D, x, t, y, u⟩]) = rowVs ts ++ [.ref D] from List.map_append ..]; exact .head _
  · refine .tail _ ?_
    rcases List.mem_cons.mp hq with rfl | hq
    · exact .tail _ (.head _)
    · refine List.mem_cons.mpr ?_
      rcases List.mem_cons.mp hq with rfl | hq
      · exact .inr (.tail _ (.head _))
      · rcases List.mem_append.mp hq with hq | hq
        · rw [show rowObjs (ts ++ [⟨D, x, t, y, u⟩]) = rowObjs ts ++ [(D, tupO #[.str x t, .str y u])] from List.map_append ..] at hq
          rcases List.mem_append.mp hq with hq | hq
          · exact .inr (.tail _ (.tail _ (List.mem_append.mpr (.inl hq))))
          · exact .inl (List.mem_singleton.mp hq)
        · exact .inr (.tail _ (.tail _ (List.mem_append.mpr (.inr hq))))
end
section
variable {w : World} {mean : ExcName → Option Value} {mg mb : Str → Option Value} {dp un : Nat} {gd : Option (List Code)} {env : Env} {outer : List Env} {A₀ : Around} {base h₀ : Heap} {L : Addr} {m : Str → Option Value} {s : Shared} {Q E : Value → Shared → Prop}
end
end
section
open PySem PySem.W PyProof.Rows PySem.Calls
section
variable {prog : Program} {w : World} {A₀ A : Around} {s : Shared} {base h₀ : Heap} {outer : List Env} {L : Addr} {m : Str → Option Value} {env : Env} {K : Frag} {p : Program} {loose : List Str} {mean : ExcName → Option Value} {mg mb : Str → Option Value}
  {R : Result → Shared → Prop} {name qual : Str} {params : Arguments} {body : List Stmt} {scope : Scope} {dV kV doc pm cdv ct oc : Value} {an od : Option Addr} {osl : Array (Option Value)} {f : Addr} {args : Args} {binds : List (Str × Value)} {lst : List (Addr × Obj)}

/-- a class is called: all that stood is the ground -/
theorem p_makeK {C fI : Addr} {rest : List Value} {kw : List (Str × Value)} {bs : Addr → List (Str × Value)} (B : Below A₀ base outer h₀) (F : Fr h₀ L s.heap m) (X₀ : K.In h₀) (T : Top p loose mean mg mb h₀) (hA : A.frames = some (env :: outer)) (hf : env.frame = some L) (hke : env.scope.kind = .function)
    (hm : makesIn K C = true) (hi : findIn K (.ref C) "__init__" = some (some (.ref fI))) (hfn : isFn K (.ref fI) = true)
    (ho : K.lookup fI = some ⟨oc, od, .func (fnOf name qual params body scope dV kV doc pm an cdv ct), osl⟩) (hcd : codeIn K cdv qual = true) (hroom : (A.under (.builtin "type.__call__" ⟨.ref C :: rest, kw⟩)).depth < recursionLimit) (hA' : (A.under (.builtin "type.__call__" ⟨.ref C :: rest, kw⟩)).frames = some (env :: outer))
    (hbind : ∀ x (s' : Shared), K.In s'.heap → BindsTo s' (fnOf name qual params body scope dV kV doc pm an cdv ct) ⟨.ref x :: rest, kw⟩ (bs x)) (hloc : ∀ x, ∀ y ∈ bs x, scope.names.lookup y.1 = some .local)
    (h : ∀ x dx L' h₁, dx < x → Fr s.heap L' h₁ (fun y => (bs x).reverse.lookup y) → News s.heap L' h₁ [(x, instObj C dx), (dx, dictOf [] 0)] → Below (A.under (.builtin "type.__call__" ⟨.ref C :: rest, kw⟩)) base (env :: outer) s.heap → K.In s.heap → Top p loose mean mg mb s.heap →
      wpAny (model prog w) ((A.under (.builtin "type.__call__" ⟨.ref C :: rest, kw⟩)).deeper (envOf qual scope L' fI cdv)) (execs body (envOf qual scope L' fI cdv))
        (fun fl s' => InitBack x R (.ok (.ret (match fl with | .ret v => v | _ => .none))) s')
        (fun e s' => wpAny (model prog w) ((A.under (.builtin "type.__call__" ⟨.ref C :: rest, kw⟩)).deeper (envOf qual scope L' fI cdv)) (leaving (envOf qual scope L' fI cdv) e) (fun _ s'' => R (.error e) s'') (fun e' s'' => R (.error e') s'') s')
        { s with heap := h₁, toks := s.toks + (bs x).length })
    (hco : scope.isCoroutine = false) (hgen : scope.isGenerator = false) (hk : scope.kind = .function)
    (hcell : ∀ x ∈ scope.names, x.2 ≠ .cell) : codeAny (model prog w) A (.call (.ref C) ⟨rest, kw⟩) R s := by
  obtain ⟨hh, g, d, t, os⟩ := s
  have X := X₀.keeps F.keep
  have B₁ := pushX B F hf hke
  refine make_core (makes_of X hm) (looks_findIn X hi) (fun self => bind_fn X self (beq_iff_eq.mp hfn)) (.inl rfl) ?_
  have k : ∀ b o, hh.get? b = some o → ((hh.push emptyDict).push (instObj C hh.objs.size)).get? b = some o := fun b o e => Heap.get?_push_of_some _ (Heap.get?_push_of_some _ e)
  refine codeAny_call_def (fd := fnOf name qual params body scope dV kV doc pm an cdv ct) (body := body) (binds := bs (hh.objs.size + 1)) hroom ((X.keeps k) _ _ ho) rfl ((T.nolimit.keeps F.keep).keeps k) (codeRec_of (X.keeps k) hcd) rfl (hbind _ _ (X.keeps k)) hcell (hloc _) (fun h₁ hns hk₁ => ?_) hco hgen hk
  refine wpAny_mono (h (hh.objs.size + 1) hh.objs.size _ h₁ (Nat.lt_succ_self _) ⟨hns, fun b o e => hk₁ b o (k b o e), ?_⟩ (fun p hp => ?_) ⟨hA', B₁.stays, B₁.frames⟩ X (T.keeps F.keep)) (fun fl s' hl => ?_) fun _ _ y => y
  · simp only [Heap.size_push]; omega
  · have hx : ((hh.push emptyDict).push (instObj C hh.objs.size)).get? (hh.objs.size + 1) = some (instObj C hh.objs.size) := by heap_get
    have hd : ((hh.push emptyDict).push (instObj C hh.objs.size)).get? hh.objs.size = some emptyDict := by heap_get
    rcases List.mem_cons.mp hp with rfl | hp
    · exact ⟨hk₁ _ _ hx, by simp only [Heap.size_push, ne_eq]; exact Nat.ne_of_lt (Nat.lt_succ_self _), Heap.get?_none_of_le (by show hh.objs.size ≤ _; omega)⟩
    · rw [List.mem_singleton.mp hp]
      exact ⟨hk₁ _ _ hd, by simp only [Heap.size_push, ne_eq]; exact Nat.ne_of_lt (by omega), Heap.get?_none_of_le (by show hh.objs.size ≤ _; omega)⟩
  · exact hl
end
section
variable {w : World} {mean : ExcName → Option Value} {mg mb : Str → Option Value} {dp un : Nat} {gd : Option (List Code)} {env : Env} {outer : List Env} {A₀ : Around} {base h₀ : Heap} {L : Addr} {m : Str → Option Value} {s : Shared} {Q E : Value → Shared → Prop}
end
end
section
open PySem PySem.W PyProof.Rows PySem.Calls
section
variable {prog : Program} {w : World} {A₀ A : Around} {s : Shared} {base h₀ : Heap} {outer : List Env} {L : Addr} {m : Str → Option Value} {env : Env} {K : Frag} {p : Program} {loose : List Str} {mean : ExcName → Option Value} {mg mb : Str → Option Value}
  {R : Result → Shared → Prop} {name qual : Str} {params : Arguments} {body : List Stmt} {scope : Scope} {dV kV doc pm cdv ct oc : Value} {an od : Option Addr} {osl : Array (Option Value)} {f : Addr} {args : Args} {binds : List (Str × Value)} {lst : List (Addr × Obj)}

theorem p_look2 (B : Below A₀ base outer h₀) (F : Fr h₀ L s.heap m) (X₀ : K.In h₀) (N : News h₀ L s.heap lst) (T : Top p loose mean mg mb h₀) (hA : A.frames = some (env :: outer)) (hf : env.frame = some L) (hke : env.scope.kind = .function)
    (ho : K.lookup f = some ⟨oc, od, .func (fnOf name qual params body scope dV kV doc pm an cdv ct), osl⟩) (hcd : codeIn K cdv qual = true) (hroom : A.depth < recursionLimit)
    (hbind : BindsTo s (fnOf name qual params body scope dV kV doc pm an cdv ct) args binds) (hloc : ∀ y ∈ binds, scope.names.lookup y.1 = some .local)
    (h : ∀ g L' h₁, g.objs.size = s.heap.objs.size → Fr g L' h₁ (fun y => binds.reverse.lookup y) → News g L' h₁ lst → Below A base (env :: outer) g → K.In g → Top p loose mean mg mb g →
      wpAny (model prog w) (A.deeper (envOf qual scope L' f cdv)) (execs body (envOf qual scope L' f cdv))
        (fun fl s' => LookEnd g s.heap lst R (match fl with | .ret v => v | _ => .none) s')
        (fun e s' => wpAny (model prog w) (A.deeper (envOf qual scope L' f cdv)) (leaving (envOf qual scope L' f cdv) e) (fun _ s'' => R (.error e) s'') (fun e' s'' => R (.error e') s'') s')
        { s with heap := h₁, toks := s.toks + binds.length })
    (hco : scope.isCoroutine = false) (hgen : scope.isGenerator = false) (hk : scope.kind = .function)
    (hcell : ∀ x ∈ scope.names, x.2 ≠ .cell) : codeAny (model prog w) A (.call (.ref f) args) R s := by
  obtain ⟨FG, BG, st, _⟩ := groundX (R := R) B F N hA hf hke
  refine codeAny_call_def (fd := fnOf name qual params body scope dV kV doc pm an cdv ct) (body := body) (binds := binds) hroom ((X₀.keeps F.keep) _ _ ho) rfl (T.nolimit.keeps F.keep) (codeRec_of (X₀.keeps F.keep) hcd) rfl hbind hcell hloc (fun h₁ hns hk₁ => ?_) hco hgen hk
  refine wpAny_mono (h _ s.heap.objs.size h₁ (hideAll_size _ _) ⟨hns, fun b o e => hk₁ b o (of_hideAll _ e), Nat.le_of_eq (hideAll_size _ _)⟩
    (fun p hp => ⟨hk₁ _ _ (N p hp).1, Nat.ne_of_lt (Heap.lt_size (N p hp).1), hideAll_none _ (List.mem_map_of_mem hp)⟩) BG (X₀.keeps st) (T.keeps st)) (fun fl s' hl => ?_) fun _ _ y => y
  obtain ⟨L', m', news', F', N', hs, k⟩ := hl
  refine k fun b o e => ?_
  by_cases hb : b ∈ lst.map (·.1)
  · obtain ⟨q, hq, rfl⟩ := List.mem_map.mp hb
    have := (N q hq).1
    rw [e] at this
    injection this with this
    rw [this]
    exact (N' _ (hs q hq)).1
  · exact F'.keep b o (hideAll_get _ e hb)


end
section
variable {w : World} {mean : ExcName → Option Value} {mg mb : Str → Option Value} {dp un : Nat} {gd : Option (List Code)} {env : Env} {outer : List Env} {A₀ : Around} {base h₀ : Heap} {L : Addr} {m : Str → Option Value} {s : Shared} {Q E : Value → Shared → Prop}
end
end
section
open PySem PySem.W PyProof.Rows PySem.Calls
section
variable {w : World} {mean : ExcName → Option Value} {mg mb : Str → Option Value} {dp un : Nat} {gd : Option (List Code)} {env : Env} {outer : List Env} {A₀ : Around} {base h₀ : Heap} {L : Addr} {m : Str → Option Value} {s : Shared} {Q E : Value → Shared → Prop}
end
end
section
open PySem PySem.W PyProof.Rows PySem.Calls
/-- what the loops of _law_paid turn -/
structure PSt where
  ts : List Row
  n : Nat
  ls : List Row
  nl : Nat
  pvs : List Value
  np : Nat
  pay : List Int
abbrev ledP (H Ll Pd : Addr) (c : PSt) : List (Addr × Obj) := (H, listOf (rowVs c.ts).toArray c.n) :: (Ll, listOf (rowVs c.ls).toArray c.nl) :: (Pd, listOf c.pvs.toArray c.np) :: (rowObjs c.ts ++ rowObjs c.ls)
abbrev hdP (p : Params) (I d H : Addr) (t1 : Tok) (O : Addr) (ovs : List Value) (no : Nat) : List (Addr × Obj) := [(I, instObj 184 d), (d, dictOf [entO p "_headers" t1 (.ref H)] 1), (O, listOf ovs.toArray no)]
abbrev shp (p : Params) (I d H : Addr) (t1 : Tok) (O : Addr) (ovs : List Value) (no : Nat) (Ll Pd : Addr) (c : PSt) (tail : List (Addr × Obj)) : List (Addr × Obj) :=
  (H, listOf (rowVs c.ts).toArray c.n) :: (I, instObj 184 d) :: (d, dictOf [entO p "_headers" t1 (.ref H)] 1) :: (Ll, listOf (rowVs c.ls).toArray c.nl) :: (Pd, listOf c.pvs.toArray c.np) :: (O, listOf ovs.toArray no) :: (rowObjs c.ts ++ (rowObjs c.ls ++ tail))
structure Ap (H Ll Pd : Addr) (l : List (Addr × Obj)) : Prop where
  a : H ≠ Ll
  b : H ≠ Pd
  c : Ll ≠ Pd
  all : ∀ p ∈ l, p.1 ≠ H ∧ p.1 ≠ Ll ∧ p.1 ≠ Pd
theorem Ap.more {H Ll Pd : Addr} {e : Addr × Obj} {tail own : List (Addr × Obj)} (h : Ap H Ll Pd (e :: tail)) (ho : OwnOff own [H, Ll, Pd]) : Ap H Ll Pd (e :: (tail ++ own)) :=
  ⟨h.a, h.b, h.c, fun p hp => by
    rcases List.mem_cons.mp hp with rfl | hp
    · exact h.all _ (.head _)
    · rcases List.mem_append.mp hp with hp | hp
      · exact h.all p (.tail _ hp)
      · exact ⟨ho p hp H (.head _), ho p hp Ll (.tail _ (.head _)), ho p hp Pd (.tail _ (.tail _ (.head _)))⟩⟩
section
variable {prog : Program} {w : World} {A : Around} {E : Value → Shared → Prop} {s : Shared} {env : Env} {h₀ : Heap} {target : Expr} {body : List Stmt} {Q : Flow → Shared → Prop}
variable {p : Params} {I d H O Ll Pd : Addr} {t1 : Tok} {ovs : List Value} {no : Nat} {c : PSt} {tail own : List (Addr × Obj)}
theorem shp_led : ∀ q ∈ ledP H Ll Pd c ++ ((hdP p I d H t1 O ovs no ++ tail) ++ own), q ∈ shp p I d H t1 O ovs no Ll Pd c (tail ++ own) := by
  intro q hq; revert hq
  simp only [ledP, hdP, shp, List.mem_cons, List.mem_append, List.not_mem_nil, or_false, false_or]
  repeat' (refine or_in ?_ ?_)
  all_goals (intro hp; walk_at "or_find")
theorem led_shp : ∀ q ∈ shp p I d H t1 O ovs no Ll Pd c (tail ++ own), q ∈ ledP H Ll Pd c ++ ((hdP p I d H t1 O ovs no ++ tail) ++ own) := by
  intro q hq; revert hq
  simp only [ledP, hdP, shp, List.mem_cons, List.mem_append, List.not_mem_nil, or_false, false_or]
  repeat' (refine or_in ?_ ?_)
  all_goals (intro hp; walk_at "or_find")
theorem shp_led0 : ∀ q ∈ ledP H Ll Pd c ++ (hdP p I d H t1 O ovs no ++ tail), q ∈ shp p I d H t1 O ovs no Ll Pd c tail := by
  intro q hq; revert hq
  simp only [ledP, hdP, shp, List.mem_cons, List.mem_append, List.not_mem_nil, or_false, false_or]
  repeat' (refine or_in ?_ ?_)
  all_goals (intro hp; walk_at "or_find")
theorem led_shp0 : ∀ q ∈ shp p I d H t1 O ovs no Ll Pd c tail, q ∈ ledP H Ll Pd c ++ (hdP p I d H t1 O ovs no ++ tail) := by
  intro q hq; revert hq
  simp only [ledP, hdP, shp, List.mem_cons, List.mem_append, List.not_mem_nil, or_false, false_or]
  repeat' (refine or_in ?_ ?_)
  all_goals (intro hp; walk_at "or_find")
theorem row_cls {ts : List Row} : ∀ q ∈ rowObjs ts, q.2.cls = .type "tuple" := by
  intro q hq
  obtain ⟨r, _, rfl⟩ := List.mem_map.mp hq
  rfl
/-- the loop over an order -/
theorem loop_pk {ord : List Int} {m₀ : Str → Option Value} (st : List Str) (P : Nat → PSt → Prop) (c₀ : PSt)
    (hh : A.handled = none) (hO : IntsAre ovs ord) (F : Fr h₀ env.locals s.heap m₀) (N : News h₀ env.locals s.heap (shp p I d H t1 O ovs no Ll Pd c₀ tail)) (hA : Ap H Ll Pd ((O, listOf ovs.toArray no) :: tail)) (hP : P 0 c₀)
    (turn : ∀ i k (t : Tok) c (u : Str → Option Value) h tk own, ord[i]? = some k → P i c → Ap H Ll Pd ((O, listOf ovs.toArray no) :: (tail ++ own)) → Fr h₀ env.locals h (fun z => if st.contains z then u z else m₀ z) → News h₀ env.locals h (shp p I d H t1 O ovs no Ll Pd c (tail ++ own)) →
      wpAny (model prog w) A (assign target env (.int k t)) (fun _ s₂ => wpAny (model prog w) A (execs body env) (GPost h₀ env.locals (ledP H Ll Pd) (hdP p I d H t1 O ovs no ++ tail) (fun _ => []) [] st m₀ (P (i + 1)) (P ord.length) own "list_iterator" { s with heap := h, toks := tk } Q) E s₂) E { s with heap := h, toks := tk })
    (done : ∀ c (u : Str → Option Value) h tk, P ord.length c → Fr h₀ env.locals h (fun z => if st.contains z then u z else m₀ z) → News h₀ env.locals h (shp p I d H t1 O ovs no Ll Pd c tail) → Q .next { s with heap := h, toks := tk }) :
    wpAny (model prog w) A (pyIter (.ref O)) (fun it s₂ => TurnsAt prog w A h₀ env target body Q E it s₂) E s := by
  have hOm : (O, listOf ovs.toArray no) ∈ shp p I d H t1 O ovs no Ll Pd c₀ tail := .tail _ (.tail _ (.tail _ (.tail _ (.tail _ (.head _)))))
  have hOa := hA.all _ (.head _)
  refine loop_list (σ := PSt) [H, Ll, Pd] (ledP H Ll Pd) (hdP p I d H t1 O ovs no ++ tail) (fun _ => []) [] st P (P ord.length) c₀ hh (News.isList N hOm) (N _ hOm).2.1 ?_ ?_ F N shp_led0 (fun _ h => nomatch h) (fun _ => rfl) hP (fun c h => by rw [hO.length] at h; exact h) ?_ ?_
  · intro hm
    rcases List.mem_cons.mp hm with e | hm
    · exact hOa.1 e
    · rcases List.mem_cons.mp hm with e | hm
      · exact hOa.2.1 e
      · exact hOa.2.2 (List.mem_singleton.mp hm)
  · intro a ha
    rcases List.mem_cons.mp ha with rfl | ha
    · exact Heap.lt_size (N _ (.head _)).1
    · rcases List.mem_cons.mp ha with rfl | ha
      · exact Heap.lt_size (N _ (.tail _ (.tail _ (.tail _ (.head _))))).1
      · rw [List.mem_singleton.mp ha]; exact Heap.lt_size (N _ (.tail _ (.tail _ (.tail _ (.tail _ (.head _)))))).1
  · intro i v c u h tk own hi hv hPc hoff F₁ N₁
    have hlt : i < ord.length := by rw [← hO.length]; exact hi
    obtain ⟨t, ht⟩ := hO.get i _ (List.getElem?_eq_getElem hlt)
    rw [hv] at ht
    injection ht with ht
    subst ht
    exact turn i _ t c u h tk own (List.getElem?_eq_getElem hlt) hPc (hA.more hoff) F₁ (news_sub N₁ led_shp)
  · intro c u h tk hPc F₁ N₁
    exact done c u h tk hPc F₁ (news_sub N₁ led_shp0)
/-- the loop over a row's places -/
theorem loop_pj {r : Addr} {n : Nat} {tr ur vr : Tok} {m₀ : Str → Option Value} (st : List Str) (P : Nat → PSt → Prop) (c₀ : PSt)
    (hh : A.handled = none) (hr : IsRange s.heap r 0 (n : Int) 1 tr ur vr) (hn : n ≤ 1000) (F : Fr h₀ env.locals s.heap m₀) (N : News h₀ env.locals s.heap (shp p I d H t1 O ovs no Ll Pd c₀ tail)) (hA : Ap H Ll Pd ((O, listOf ovs.toArray no) :: tail)) (hP : P 0 c₀)
    (turn : ∀ i (t : Tok) c (u : Str → Option Value) h tk own, i < n → P i c → Ap H Ll Pd ((O, listOf ovs.toArray no) :: (tail ++ own)) → Fr h₀ env.locals h (fun z => if st.contains z then u z else m₀ z) → News h₀ env.locals h (shp p I d H t1 O ovs no Ll Pd c (tail ++ own)) →
      wpAny (model prog w) A (assign target env (.int (0 + (i : Int)) t)) (fun _ s₂ => wpAny (model prog w) A (execs body env) (GPost h₀ env.locals (ledP H Ll Pd) (hdP p I d H t1 O ovs no ++ tail) (fun _ => []) [] st m₀ (P (i + 1)) (P n) own "range_iterator" { s with heap := h, toks := tk } Q) E s₂) E { s with heap := h, toks := tk })
    (done : ∀ c (u : Str → Option Value) h tk, P n c → Fr h₀ env.locals h (fun z => if st.contains z then u z else m₀ z) → News h₀ env.locals h (shp p I d H t1 O ovs no Ll Pd c tail) → Q .next { s with heap := h, toks := tk })
    (hgo : ∀ I v, letOwnedTupleGo target (.ref I) v = pure ()) :
    wpAny (model prog w) A (pyIter (.ref r)) (fun it s₂ => TurnsAt prog w A h₀ env target body Q E it s₂) E s := by
  refine loop_range (σ := PSt) (n := n) [H, Ll, Pd] (ledP H Ll Pd) (hdP p I d H t1 O ovs no ++ tail) (fun _ => []) [] st P (P n) c₀ hh hr (small_one (by omega) (by omega) (by omega) (by omega)) ?_ ?_ F N shp_led0 (fun _ h => nomatch h) (fun _ => rfl) hP (fun c h => h) ?_ ?_ hgo
  · have := rangeSize_nat 0 (n : Int); rw [this]; omega
  · intro a ha
    rcases List.mem_cons.mp ha with rfl | ha
    · exact Heap.lt_size (N _ (.head _)).1
    · rcases List.mem_cons.mp ha with rfl | ha
      · exact Heap.lt_size (N _ (.tail _ (.tail _ (.tail _ (.head _))))).1
      · rw [List.mem_singleton.mp ha]; exact Heap.lt_size (N _ (.tail _ (.tail _ (.tail _ (.tail _ (.head _)))))).1
  · intro i t c u h tk own hi hPc hoff _ F₁ N₁
    exact turn i t c u h tk own hi hPc (hA.more hoff) F₁ (news_sub N₁ led_shp)
  · intro c u h tk hPc F₁ N₁
    exact done c u h tk hPc F₁ (news_sub N₁ led_shp0)
theorem pst_end {st : List Str} {m₀ m' : Str → Option Value} {L : Addr} {P : PSt → Prop} {it : String} {s₁ : Shared} {h' : Heap} {tk : Nat} (F : Fr h₀ L h' m') (N : News h₀ L h' (shp p I d H t1 O ovs no Ll Pd c (tail ++ own))) (h5 : ∀ z, st.contains z = false → m' z = m₀ z) (hP : P c)
    (h1 : Value.type "list" ≠ .type it) (h2 : Value.type "tuple" ≠ .type it) :
    GEnd h₀ L (ledP H Ll Pd) (hdP p I d H t1 O ovs no ++ tail) (fun _ : PSt => []) [] st m₀ P own it s₁ { s₁ with heap := h', toks := tk } :=
  GEnd.intro c F N (fun q hq => shp_led q (List.mem_append.mpr (.inl hq))) (fun q hq => shp_led q (List.mem_append.mpr (.inr (List.mem_append.mpr (.inl hq))))) (fun q hq => shp_led q (List.mem_append.mpr (.inr (List.mem_append.mpr (.inr hq)))))
    (fun q hq => by
      rcases List.mem_cons.mp hq with rfl | hq
      · exact h1
      · rcases List.mem_cons.mp hq with rfl | hq
        · exact h1
        · rcases List.mem_cons.mp hq with rfl | hq
          · exact h1
          · rcases List.mem_append.mp hq with hq | hq <;> (rw [row_cls q hq]; exact h2))
    (fun _ h => nomatch h) (fun z _ h => h5 z h) hP
end
end
section
open PySem PySem.W PyProof.Rows PySem.Calls
/-- an order's list -/
structure ORow where
  a : Addr
  vs : List Value
abbrev ordObjs (rs : List ORow) : List (Addr × Obj) := rs.map fun r => (r.a, listOf r.vs.toArray 0)
inductive OrdsAre : List ORow → List (List Int) → Prop
  | nil : OrdsAre [] []
  | cons {r : ORow} {o : List Int} {rs : List ORow} {os : List (List Int)} : IntsAre r.vs o → OrdsAre rs os → OrdsAre (r :: rs) (o :: os)
theorem OrdsAre.length {rs : List ORow} {os : List (List Int)} (h : OrdsAre rs os) : rs.length = os.length := by
  induction h with
  | nil => rfl
  | cons _ _ ih => rw [List.length_cons, List.length_cons, ih]
theorem OrdsAre.get {rs : List ORow} {os : List (List Int)} (h : OrdsAre rs os) : ∀ {i : Nat} {r : ORow}, rs[i]? = some r → ∃ o, os[i]? = some o ∧ IntsAre r.vs o := by
  induction h with
  | nil => intro i r e; cases e
  | cons h1 _ ih =>
    intro i r e
    cases i with
    | zero => cases e; exact ⟨_, rfl, h1⟩
    | succ i => exact ih e
abbrev ORD : List (List Int) := [[0, 1, 2, 3], [0, 2, 3, 1], [0, 3, 1, 2], [1, 0, 3, 2], [1, 2, 0, 3], [1, 3, 2, 0], [2, 0, 1, 3], [2, 1, 3, 0], [2, 3, 0, 1], [3, 0, 2, 1], [3, 1, 0, 2], [3, 2, 1, 0]]
theorem ords_pack {g h : Heap} {L D a1 a2 a3 a4 a5 a6 a7 a8 a9 a10 a11 a12 : Addr} {v1 v2 v3 v4 v5 v6 v7 v8 v9 v10 v11 v12 : List Value} (N : News g L h [(D, listOf #[.ref a1, .ref a2, .ref a3, .ref a4, .ref a5, .ref a6, .ref a7, .ref a8, .ref a9, .ref a10, .ref a11, .ref a12] 0), (a12, listOf v12.toArray 0), (a11, listOf v11.toArray 0), (a10, listOf v10.toArray 0), (a9, listOf v9.toArray 0), (a8, listOf v8.toArray 0), (a7, listOf v7.toArray 0), (a6, listOf v6.toArray 0), (a5, listOf v5.toArray 0), (a4, listOf v4.toArray 0), (a3, listOf v3.toArray 0), (a2, listOf v2.toArray 0), (a1, listOf v1.toArray 0)]) : News g L h ((D, listOf (([⟨a1, v1⟩, ⟨a2, v2⟩, ⟨a3, v3⟩, ⟨a4, v4⟩, ⟨a5, v5⟩, ⟨a6, v6⟩, ⟨a7, v7⟩, ⟨a8, v8⟩, ⟨a9, v9⟩, ⟨a10, v10⟩, ⟨a11, v11⟩, ⟨a12, v12⟩] : List ORow).map fun r => Value.ref r.a).toArray 0) :: ordObjs [⟨a1, v1⟩, ⟨a2, v2⟩, ⟨a3, v3⟩, ⟨a4, v4⟩, ⟨a5, v5⟩, ⟨a6, v6⟩, ⟨a7, v7⟩, ⟨a8, v8⟩, ⟨a9, v9⟩, ⟨a10, v10⟩, ⟨a11, v11⟩, ⟨a12, v12⟩]) := by
  refine news_sub N ?_
  simp only [ordObjs, List.map_cons, List.map_nil]
  intro p hp; revert hp
  simp only [List.mem_cons, List.not_mem_nil, or_false]
  repeat' (refine or_in ?_ ?_)
  all_goals (intro hp; walk_at "or_find")
theorem ords_are {a1 a2 a3 a4 a5 a6 a7 a8 a9 a10 a11 a12 : Addr} {v1 v2 v3 v4 v5 v6 v7 v8 v9 v10 v11 v12 : List Value} (h1 : IntsAre v1 [0, 1, 2, 3]) (h2 : IntsAre v2 [0, 2, 3, 1]) (h3 : IntsAre v3 [0, 3, 1, 2]) (h4 : IntsAre v4 [1, 0, 3, 2]) (h5 : IntsAre v5 [1, 2, 0, 3]) (h6 : IntsAre v6 [1, 3, 2, 0]) (h7 : IntsAre v7 [2, 0, 1, 3]) (h8 : IntsAre v8 [2, 1, 3, 0]) (h9 : IntsAre v9 [2, 3, 0, 1]) (h10 : IntsAre v10 [3, 0, 2, 1]) (h11 : IntsAre v11 [3, 1, 0, 2]) (h12 : IntsAre v12 [3, 2, 1, 0]) : OrdsAre [⟨a1, v1⟩, ⟨a2, v2⟩, ⟨a3, v3⟩, ⟨a4, v4⟩, ⟨a5, v5⟩, ⟨a6, v6⟩, ⟨a7, v7⟩, ⟨a8, v8⟩, ⟨a9, v9⟩, ⟨a10, v10⟩, ⟨a11, v11⟩, ⟨a12, v12⟩] ORD := .cons h1 (.cons h2 (.cons h3 (.cons h4 (.cons h5 (.cons h6 (.cons h7 (.cons h8 (.cons h9 (.cons h10 (.cons h11 (.cons h12 .nil)))))))))))
theorem four_ints {a b c d : Int} {t u v x : Tok} : IntsAre [.int a t, .int b u, .int c v, .int d x] [a, b, c, d] := .cons _ _ (.cons _ _ (.cons _ _ (.cons _ _ .nil)))
section
variable {w : World} {mean : ExcName → Option Value} {mg mb : Str → Option Value} {dp un : Nat} {gd : Option (List Code)} {env : Env} {outer : List Env} {A₀ : Around} {base h₀ : Heap} {L : Addr} {m : Str → Option Value} {s : Shared} {Q E : Value → Shared → Prop}
end
end
section
open PySem PySem.W PyProof.Rows PySem.Calls
abbrev PT := List (Str × Str) × List (Str × Str) × List Int
structure PD where
  NS : List (List Str)
  PS : List (List Int)
  WS : List Str
def PD.nm (D : PD) (k j : Nat) : Str := (D.NS.getD k []).getD j ⟨#[]⟩
def PD.pr (D : PD) (k j : Nat) : Int := (D.PS.getD k []).getD j 0
def PD.wd (D : PD) (k : Nat) : Str := D.WS.getD k ⟨#[]⟩
def hitJ (D : PD) (k : Nat) (st : PT) (j : Nat) : PT := (st.1, st.2.1 ++ [(D.nm k j, D.wd k)], st.2.2.set k (st.2.2.getD k 0 + D.pr k j))
/-- one place's turn -/
def stepJ (D : PD) (k : Nat) (st : PT) (j : Nat) : PT :=
  match st.1.find? (fun r => Txt.lower r.1 == Txt.lower (D.nm k j)) with
  | some r => if r.2 == D.wd k then hitJ D k st j else st
  | none => hitJ D k (st.1 ++ [(D.nm k j, D.wd k)], st.2) j
def stepK (D : PD) (st : PT) (k : Int) : PT := (List.range (D.NS.getD k.toNat []).length).foldl (stepJ D k.toNat) st
abbrev tabOf (rs : List Row) : List (Str × Str) := rs.map fun r => (r.k, r.v)
abbrev absS (c : PSt) : PT := (tabOf c.ts, tabOf c.ls, c.pay)
structure PInv (st : PT) (B : Int) (T : Nat) (c : PSt) : Prop where
  e : absS c = st
  hi : IntsAre c.pvs c.pay
  hl : c.pay.length = 4
  hb : ∀ q ∈ c.pay, -B ≤ q ∧ q ≤ B
  ht : c.ts.length ≤ T
  hls : c.ls.length ≤ T
  hk : ∀ r ∈ c.ts, r.k.length ≤ 100
theorem find_tab {ts : List Row} {y : Str} : (tabOf ts).find? (fun r => Txt.lower r.1 == y) = (ts.find? (fun r => Txt.lower r.k == y)).map fun r => (r.k, r.v) := by
  rw [tabOf, List.find?_map]; rfl
theorem ints_set' {vs : List Value} {ns : List Int} (h : IntsAre vs ns) (k : Nat) {x : Int} {u : Tok} : IntsAre (vs.set k (.int x u)) (ns.set k x) := by
  induction h generalizing k with
  | nil => exact .nil
  | cons a t r ih =>
    cases k with
    | zero => exact .cons _ _ r
    | succ k => exact .cons _ _ (ih k)
theorem set_bound {l : List Int} {k : Nat} {x B B' : Int} (h : ∀ q ∈ l, -B ≤ q ∧ q ≤ B) (hx : -B' ≤ x ∧ x ≤ B') (hB : B ≤ B') : ∀ q ∈ l.set k x, -B' ≤ q ∧ q ≤ B' := by
  intro q hq
  rcases List.mem_or_eq_of_mem_set hq with hq | rfl
  · have := h q hq; omega
  · exact hx
theorem getD_bnd {l : List Int} {k : Nat} {B : Int} (h : ∀ q ∈ l, -B ≤ q ∧ q ≤ B) (hB : 0 ≤ B) : -B ≤ l.getD k 0 ∧ l.getD k 0 ≤ B := by
  rw [List.getD_eq_getElem?_getD]
  cases e : l[k]? with
  | none => simp only [Option.getD_none]; omega
  | some z => exact h z (List.mem_of_getElem? e)
section
variable {D : PD} {k j : Nat} {st : PT} {B : Int} {T : Nat} {c : PSt} {n wd : Str} {q : Int} {a a' : Addr} {t u t' u' : Nat} {np nl nt : Nat} {r : Row}
theorem inv_new (h : PInv st B T c) (hB : 0 ≤ B) (hn : D.nm k j = n) (hw : D.wd k = wd) (hq : D.pr k j = q) (hqb : -2000000 ≤ q ∧ q ≤ 2000000) (hnl : n.length ≤ 100) (hf : c.ts.find? (fun r => Txt.lower r.k == Txt.lower n) = none) {tp : Tok} :
    PInv (stepJ D k st j) (B + 2000000) (T + 1) ⟨c.ts ++ [⟨a, n, t, wd, u⟩], nt, c.ls ++ [⟨a', n, t', wd, u'⟩], nl, c.pvs.set k (.int (c.pay.getD k 0 + q) tp), np, c.pay.set k (c.pay.getD k 0 + q)⟩ := by
  obtain ⟨e, hi, hl, hb, ht, hls, hk⟩ := h
  refine ⟨?_, ints_set' hi k, by rw [List.length_set]; exact hl, set_bound hb ?_ (by omega), by simp; exact ht, by simp; exact hls, ?_⟩
  · subst e
    unfold stepJ
    rw [hn, find_tab, hf]
    simp only [Option.map_none, hitJ, absS, tabOf, List.map_append, List.map_cons, List.map_nil, hn, hw, hq]
  · have := getD_bnd (k := k) hb hB; omega
  · intro r hr
    rcases List.mem_append.mp hr with hr | hr
    · exact hk r hr
    · rw [List.mem_singleton.mp hr]; exact hnl
theorem inv_hit (h : PInv st B T c) (hB : 0 ≤ B) (hn : D.nm k j = n) (hw : D.wd k = wd) (hq : D.pr k j = q) (hqb : -2000000 ≤ q ∧ q ≤ 2000000) (hf : c.ts.find? (fun r => Txt.lower r.k == Txt.lower n) = some r) (hv : (r.v == wd) = true) {tp : Tok} :
    PInv (stepJ D k st j) (B + 2000000) (T + 1) ⟨c.ts, nt, c.ls ++ [⟨a', n, t', wd, u'⟩], nl, c.pvs.set k (.int (c.pay.getD k 0 + q) tp), np, c.pay.set k (c.pay.getD k 0 + q)⟩ := by
  obtain ⟨e, hi, hl, hb, ht, hls, hk⟩ := h
  refine ⟨?_, ints_set' hi k, by rw [List.length_set]; exact hl, set_bound hb ?_ (by omega), by show c.ts.length ≤ T + 1; omega, by simp; exact hls, hk⟩
  · subst e
    unfold stepJ
    rw [hn, find_tab, hf]
    simp only [Option.map_some, hw, hv, if_true, hitJ, absS, tabOf, List.map_append, List.map_cons, List.map_nil, hn, hq]
  · have := getD_bnd (k := k) hb hB; omega
theorem inv_old (h : PInv st B T c) (hn : D.nm k j = n) (hw : D.wd k = wd) (hf : c.ts.find? (fun r => Txt.lower r.k == Txt.lower n) = some r) (hv : (r.v == wd) = false) : PInv (stepJ D k st j) (B + 2000000) (T + 1) c := by
  obtain ⟨e, hi, hl, hb, ht, hls, hk⟩ := h
  refine ⟨?_, hi, hl, fun q hq => by have := hb q hq; omega, by omega, by omega, hk⟩
  subst e
  unfold stepJ
  rw [hn, find_tab, hf]
  simp only [Option.map_some, hw, hv, Bool.false_eq_true, if_false]
theorem inv_more {B' : Int} {T' : Nat} (h : PInv st B T c) (hB : B ≤ B') (hT : T ≤ T') : PInv st B' T' c :=
  ⟨h.e, h.hi, h.hl, fun q hq => by have := h.hb q hq; omega, Nat.le_trans h.ht hT, Nat.le_trans h.hls hT, h.hk⟩
end
/-- what the inner loop keeps -/
abbrev pjP (D : PD) (k : Nat) (st : PT) (B : Int) (T : Nat) (j : Nat) (c : PSt) : Prop := PInv ((List.range j).foldl (stepJ D k) st) (B + 2000000 * (j : Int)) (T + j) c
abbrev pkP (D : PD) (st : PT) (B : Int) (ord : List Int) (i : Nat) (c : PSt) : Prop := PInv ((ord.take i).foldl (stepK D) st) (B + 4000000 * (i : Int)) (2 * i) c
theorem pj_step {D : PD} {k : Nat} {st : PT} {B : Int} {T j : Nat} {c : PSt} (h : PInv (stepJ D k ((List.range j).foldl (stepJ D k) st) j) (B + 2000000 * (j : Int) + 2000000) (T + j + 1) c) : pjP D k st B T (j + 1) c := by
  have e : (List.range (j + 1)).foldl (stepJ D k) st = stepJ D k ((List.range j).foldl (stepJ D k) st) j := by
    rw [List.range_succ, List.foldl_append]; rfl
  show PInv _ _ _ _
  rw [e]
  exact inv_more h (by push_cast; omega) (by omega)
theorem pk_step {D : PD} {st : PT} {B : Int} {ord : List Int} {i n : Nat} {k : Int} {c : PSt} (hk : ord[i]? = some k) (hn : (D.NS.getD k.toNat []).length = n) (hn2 : n ≤ 2) (h : pjP D k.toNat ((ord.take i).foldl (stepK D) st) (B + 4000000 * (i : Int)) (2 * i) n c) : pkP D st B ord (i + 1) c := by
  show PInv _ _ _ _
  rw [List.take_add_one, hk, List.foldl_append]
  show PInv (stepK D _ k) _ _ _
  unfold stepK
  rw [hn]
  exact inv_more h (by push_cast; omega) (by omega)
theorem strs_count {vs : List Value} {ys : List Str} (h : StrsAre vs ys) : vs.length = ys.length := by
  induction h with
  | nil => rfl
  | cons _ _ _ ih => rw [List.length_cons, List.length_cons, ih]
theorem strs_get {vs : List Value} {ys : List Str} (h : StrsAre vs ys) : ∀ {i : Nat} {y : Str}, ys[i]? = some y → ∃ t : Nat, vs[i]? = some (.str y t) := by
  induction h with
  | nil => intro i y e; cases e
  | cons a t _ ih =>
    intro i y e
    cases i with
    | zero => cases e; exact ⟨t, rfl⟩
    | succ i => exact ih e
/-- the lists that _law_paid reads -/
structure PData (h : Heap) (D : PD) (Ln Lp Lw : Addr) (rn rp wv : List Value) : Prop where
  hn : h.IsList Ln rn.toArray
  hp : h.IsList Lp rp.toArray
  hw : h.IsList Lw wv.toArray
  row : ∀ k : Nat, k < 4 → ∃ (r : Addr) (vs : List Value) (ys : List Str) (r' : Addr) (pv : List Value) (ps : List Int) (wd : Str) (wt : Nat), rn[k]? = some (.ref r) ∧ h.IsList r vs.toArray ∧ StrsAre vs ys ∧ D.NS[k]? = some ys ∧ rp[k]? = some (.ref r') ∧ h.IsList r' pv.toArray ∧ IntsAre pv ps ∧ D.PS[k]? = some ps ∧ wv[k]? = some (.str wd wt) ∧ D.WS[k]? = some wd ∧
    ps.length = ys.length ∧ 1 ≤ ys.length ∧ ys.length ≤ 2 ∧ (∀ y ∈ ys, y.length ≤ 100 ∧ (Txt.lower y).length ≤ 100 ∧ okN y = true ∧ okN (Txt.lower y) = true ∧ okN (Txt.lower (Txt.lower y)) = true) ∧ (∀ q ∈ ps, -2000000 ≤ q ∧ q ≤ 2000000) ∧ okV wd = true
theorem row_at {h : Heap} {D : PD} {Ln Lp Lw : Addr} {rn rp wv : List Value} (H : PData h D Ln Lp Lw rn rp wv) {k : Int} (h0 : 0 ≤ k) (h4 : k < 4) :
    ∃ (r : Addr) (vs : List Value) (ys : List Str) (r' : Addr) (pv : List Value) (ps : List Int) (wd : Str) (wt : Nat), rn.toArray[k.toNat]? = some (.ref r) ∧ h.IsList r vs.toArray ∧ StrsAre vs ys ∧ D.NS.getD k.toNat [] = ys ∧ rp.toArray[k.toNat]? = some (.ref r') ∧ h.IsList r' pv.toArray ∧ IntsAre pv ps ∧ D.PS.getD k.toNat [] = ps ∧ wv.toArray[k.toNat]? = some (.str wd wt) ∧ D.wd k.toNat = wd ∧
    ps.length = ys.length ∧ 1 ≤ ys.length ∧ ys.length ≤ 2 ∧ vs.length = ys.length ∧ (∀ y ∈ ys, y.length ≤ 100 ∧ (Txt.lower y).length ≤ 100 ∧ okN y = true ∧ okN (Txt.lower y) = true ∧ okN (Txt.lower (Txt.lower y)) = true) ∧ (∀ q ∈ ps, -2000000 ≤ q ∧ q ≤ 2000000) ∧ okV wd = true := by
  obtain ⟨r, vs, ys, r', pv, ps, wd, wt, e1, e2, e3, e4, e5, e6, e7, e8, e9, e10, e11, e12, e13, e14, e15, e16⟩ := H.row k.toNat (by omega)
  refine ⟨r, vs, ys, r', pv, ps, wd, wt, by simpa using e1, e2, e3, by rw [List.getD_eq_getElem?_getD, e4]; rfl, by simpa using e5, e6, e7, by rw [List.getD_eq_getElem?_getD, e8]; rfl, by simpa using e9, by unfold PD.wd; rw [List.getD_eq_getElem?_getD, e10]; rfl, e11, e12, e13, strs_count e3, e14, e15, e16⟩
theorem place_at {D : PD} {k : Nat} {vs pv : List Value} {ys : List Str} {ps : List Int} {i n : Nat} (hi : i < n) (hn : n = ys.length) (hT : StrsAre vs ys) (hI : IntsAre pv ps) (hl : ps.length = ys.length) (eN : D.NS.getD k [] = ys) (eP : D.PS.getD k [] = ps)
    (hy : ∀ y ∈ ys, y.length ≤ 100 ∧ (Txt.lower y).length ≤ 100 ∧ okN y = true ∧ okN (Txt.lower y) = true ∧ okN (Txt.lower (Txt.lower y)) = true) (hq : ∀ q ∈ ps, -2000000 ≤ q ∧ q ≤ 2000000) :
    ∃ (y : Str) (ty : Nat) (q : Int) (tq : Tok), vs.toArray[(0 + (i : Int)).toNat]? = some (.str y ty) ∧ pv.toArray[(0 + (i : Int)).toNat]? = some (.int q tq) ∧ D.nm k i = y ∧ D.pr k i = q ∧ (y.length ≤ 100 ∧ (Txt.lower y).length ≤ 100 ∧ okN y = true ∧ okN (Txt.lower y) = true ∧ okN (Txt.lower (Txt.lower y)) = true) ∧ (-2000000 ≤ q ∧ q ≤ 2000000) := by
  have h1 : i < ys.length := by omega
  have h2 : i < ps.length := by omega
  obtain ⟨ty, ht⟩ := strs_get hT (List.getElem?_eq_getElem h1)
  obtain ⟨tq, htq⟩ := hI.get i _ (List.getElem?_eq_getElem h2)
  refine ⟨ys[i], ty, ps[i], tq, ?_, ?_, ?_, ?_, hy _ (List.getElem_mem h1), hq _ (List.getElem_mem h2)⟩
  · rw [show (0 + (i : Int)).toNat = i by omega]; simpa using ht
  · rw [show (0 + (i : Int)).toNat = i by omega]; simpa using htq
  · unfold PD.nm; rw [eN, List.getD_eq_getElem?_getD, List.getElem?_eq_getElem h1]; rfl
  · unfold PD.pr; rw [eP, List.getD_eq_getElem?_getD, List.getElem?_eq_getElem h2]; rfl
section
variable {prog : Program} {w : World} {A : Around} {E : Value → Shared → Prop} {s : Shared} {h₀ : Heap} {p : Params} {I d H O Ll Pd D L : Addr} {t1 : Tok} {ovs : List Value} {no : Nat} {c : PSt} {tail : List (Addr × Obj)} {m : Str → Option Value}
theorem shp_ne {X : Addr} {oX : Obj} (N : News h₀ L s.heap (shp p I d H t1 O ovs no Ll Pd c tail)) (hX : (X, oX) ∈ shp p I d H t1 O ovs no Ll Pd c tail) (hc : oX.cls = .type "list") {q : Addr × Obj} (hq : q ∈ (I, instObj 184 d) :: (d, dictOf [entO p "_headers" t1 (.ref H)] 1) :: (rowObjs c.ts ++ rowObjs c.ls)) : q.1 ≠ X := by
  have hm : q ∈ shp p I d H t1 O ovs no Ll Pd c tail := by
    rcases List.mem_cons.mp hq with rfl | hq
    · exact .tail _ (.head _)
    · rcases List.mem_cons.mp hq with rfl | hq
      · exact .tail _ (.tail _ (.head _))
      · refine .tail _ (.tail _ (.tail _ (.tail _ (.tail _ (.tail _ ?_)))))
        rcases List.mem_append.mp hq with hq | hq
        · exact List.mem_append.mpr (.inl hq)
        · exact List.mem_append.mpr (.inr (List.mem_append.mpr (.inl hq)))
  refine news_ne N (a := q.1) (oa := q.2) hm hX ?_
  rw [hc]
  rcases List.mem_cons.mp hq with rfl | hq
  · intro e; cases e
  · rcases List.mem_cons.mp hq with rfl | hq
    · intro e; injection e with e; revert e; decide
    · have : q.2.cls = .type "tuple" := by rcases List.mem_append.mp hq with hq | hq <;> exact row_cls q hq
      rw [this]; intro e; injection e with e; revert e; decide
/-- laid.append -/
theorem laid_add {x y : Str} {t u : Nat} {Q' : Value → Shared → Prop} (F : Fr h₀ L s.heap m) (N : News h₀ L s.heap ((D, tupO #[.str x t, .str y u]) :: shp p I d H t1 O ovs no Ll Pd c tail)) (hA : Ap H Ll Pd ((O, listOf ovs.toArray no) :: tail)) (hlen : c.ls.length ≤ 1000)
    (h : ∀ h' n', Fr h₀ L h' m → News h₀ L h' (shp p I d H t1 O ovs no Ll Pd { c with ls := c.ls ++ [⟨D, x, t, y, u⟩], nl := n' } tail) → Q' .none { s with heap := h' }) :
    wpAny (model prog w) A (call (.builtin "list.append") [.ref Ll, .ref D]) Q' E s := by
  have N0 := news_sub N (fun q (hq : q ∈ shp p I d H t1 O ovs no Ll Pd c tail) => .tail _ hq)
  have hLm : (Ll, listOf (rowVs c.ls).toArray c.nl) ∈ shp p I d H t1 O ovs no Ll Pd c tail := .tail _ (.tail _ (.tail _ (.head _)))
  have N1 : News h₀ L s.heap ((Ll, listOf (rowVs c.ls).toArray c.nl) :: (D, tupO #[.str x t, .str y u]) :: (H, listOf (rowVs c.ts).toArray c.n) :: (Pd, listOf c.pvs.toArray c.np) :: (O, listOf ovs.toArray no) :: (tail ++ ((I, instObj 184 d) :: (d, dictOf [entO p "_headers" t1 (.ref H)] 1) :: (rowObjs c.ts ++ rowObjs c.ls)))) := news_sub N (by
    simp only [shp]
    walk_at "mem_sub")
  refine append_head F N1 ?_ (by rw [List.length_map, sizeLine_eq]; omega) fun h' n' F' N' => h h' n' F' (news_sub N' (by
    simp only [shp]
    rw [show rowVs (c.ls ++ [⟨D, x, t, y, u⟩]) = rowVs c.ls ++ [.ref D] from List.map_append .., show rowObjs (c.ls ++ [⟨D, x, t, y, u⟩]) = rowObjs c.ls ++ [(D, tupO #[.str x t, .str y u])] from List.map_append ..]
    walk_at "mem_sub"))
  intro q hq
  rcases List.mem_cons.mp hq with rfl | hq
  · exact news_ne N1 (.tail _ (.head _)) (.head _) (by intro e; injection e with e; revert e; decide)
  · rcases List.mem_cons.mp hq with rfl | hq
    · exact hA.a
    · rcases List.mem_cons.mp hq with rfl | hq
      · exact hA.c.symm
      · rcases List.mem_cons.mp hq with rfl | hq
        · exact (hA.all _ (.head _)).2.1
        · rcases List.mem_append.mp hq with hq | hq
          · exact (hA.all _ (.tail _ hq)).2.1
          · exact shp_ne N0 hLm rfl hq
/-- paid[k] = .. -/
theorem pay_set {k x : Int} {t u : Tok} {Q' : Unit → Shared → Prop} (F : Fr h₀ L s.heap m) (N : News h₀ L s.heap (shp p I d H t1 O ovs no Ll Pd c tail)) (hA : Ap H Ll Pd ((O, listOf ovs.toArray no) :: tail)) (hi : IntsAre c.pvs c.pay) (h0 : 0 ≤ k) (h1 : k < c.pay.length) (hl : c.pay.length = 4)
    (h : ∀ h', Fr h₀ L h' m → News h₀ L h' (shp p I d H t1 O ovs no Ll Pd { c with pvs := c.pvs.set k.toNat (.int x u), pay := c.pay.set k.toNat x } tail) → Q' () { s with heap := h' }) :
    wpAny (model prog w) A (setItem (.ref Pd) (.int k t) (.int x u)) Q' E s := by
  have hPm : (Pd, listOf c.pvs.toArray c.np) ∈ shp p I d H t1 O ovs no Ll Pd c tail := .tail _ (.tail _ (.tail _ (.tail _ (.head _))))
  have N1 : News h₀ L s.heap ((Pd, listOf c.pvs.toArray c.np) :: (H, listOf (rowVs c.ts).toArray c.n) :: (Ll, listOf (rowVs c.ls).toArray c.nl) :: (O, listOf ovs.toArray no) :: (tail ++ ((I, instObj 184 d) :: (d, dictOf [entO p "_headers" t1 (.ref H)] 1) :: (rowObjs c.ts ++ rowObjs c.ls)))) := news_sub N (by
    simp only [shp]
    walk_at "mem_sub")
  refine ksa_set F N1 (.head ?_) hi h0 h1 (by omega) fun h' F' N' _ _ _ => h h' F' (news_sub N' (by
    simp only [shp]
    walk_at "mem_sub"))
  intro q hq
  rcases List.mem_cons.mp hq with rfl | hq
  · exact hA.b
  · rcases List.mem_cons.mp hq with rfl | hq
    · exact hA.c
    · rcases List.mem_cons.mp hq with rfl | hq
      · exact (hA.all _ (.head _)).2.2
      · rcases List.mem_append.mp hq with hq | hq
        · exact (hA.all _ (.tail _ hq)).2.2
        · exact shp_ne N hPm rfl hq
theorem shp_tab : ∀ q ∈ tabObjs p I d H t1 c.n c.ts, q ∈ shp p I d H t1 O ovs no Ll Pd c tail := by
  simp only [tabObjs, shp]
  walk_at "mem_sub"
abbrev rstP (O : Addr) (ovs : List Value) (no : Nat) (Ll Pd : Addr) (c : PSt) (tail : List (Addr × Obj)) : List (Addr × Obj) := (Ll, listOf (rowVs c.ls).toArray c.nl) :: (Pd, listOf c.pvs.toArray c.np) :: (O, listOf ovs.toArray no) :: (rowObjs c.ls ++ tail)
theorem tab_shp {n : Nat} {ts : List Row} : ∀ q ∈ shp p I d H t1 O ovs no Ll Pd { c with ts := ts, n := n } tail, q ∈ tabObjs p I d H t1 n ts ++ rstP O ovs no Ll Pd c tail := by
  simp only [tabObjs, shp, rstP]
  walk_at "mem_sub"
theorem shp_rst : ∀ q ∈ tabObjs p I d H t1 c.n c.ts ++ rstP O ovs no Ll Pd c tail, q ∈ shp p I d H t1 O ovs no Ll Pd c tail := by
  simp only [tabObjs, shp, rstP]
  walk_at "mem_sub"
theorem rst_ne (N : News h₀ L s.heap (shp p I d H t1 O ovs no Ll Pd c tail)) (hA : Ap H Ll Pd ((O, listOf ovs.toArray no) :: tail)) : ∀ q ∈ rstP O ovs no Ll Pd c tail, q.1 ≠ H := by
  intro q hq
  rcases List.mem_cons.mp hq with rfl | hq
  · exact hA.a.symm
  · rcases List.mem_cons.mp hq with rfl | hq
    · exact hA.b.symm
    · rcases List.mem_cons.mp hq with rfl | hq
      · exact (hA.all _ (.head _)).1
      · rcases List.mem_append.mp hq with hq | hq
        · exact shp_ne N (.head _) rfl (.tail _ (.tail _ (List.mem_append.mpr (.inr hq))))
        · exact (hA.all _ (.tail _ hq)).1
end
section
variable {w : World} {mean : ExcName → Option Value} {mg mb : Str → Option Value} {dp un : Nat} {gd : Option (List Code)} {env : Env} {outer : List Env} {A₀ : Around} {base h₀ : Heap} {L : Addr} {m : Str → Option Value} {s : Shared}
end
end
section
open PySem PySem.W PyProof.Rows PySem.Calls
abbrev eTx : Str := Str.ofString "e"
/-- the state after an order -/
def stO (D : PD) (pay ord : List Int) : PT := ord.foldl (stepK D) ([], [], pay)
def orderF (D : PD) (pay : List Int) (ord : List Int) : List Int := (stO D pay ord).2.2
abbrev k0O (ord : List Int) : Nat := (ord.getD (0 : Int).toNat 0).toNat
structure Good1 (D : PD) (many : Int) (ord : List Int) (st : PT) : Prop where
  again : ∃ q, (st.1 ++ [(Txt.lower (D.nm (k0O ord) 0), eTx)]).find? (fun r => Txt.lower r.1 == Txt.lower (Txt.lower (D.nm (k0O ord) 0))) = some q ∧ q.2 = D.wd (k0O ord)
  many : many = (st.1.length : Int)
  same : st.1 = st.2.1
  ok : ∀ q ∈ st.1, PyData.strOk q.1 = true ∧ PyData.strOk q.2 = true
  okf : PyData.strOk (Txt.lower (D.nm (k0O ord) 0)) = true
def Good (D : PD) (many : Int) : Prop := ∀ ord ∈ ORD, ∀ pay, Good1 D many ord (stO D pay ord)
structure POut (pay : List Int) (B : Int) (c : PSt) : Prop where
  e : c.pay = pay
  hi : IntsAre c.pvs c.pay
  hl : c.pay.length = 4
  hb : ∀ q ∈ c.pay, -B ≤ q ∧ q ≤ B
abbrev poP (D : PD) (i : Nat) (c : PSt) : Prop := POut ((ORD.take i).foldl (orderF D) [0, 0, 0, 0]) (16000000 * (i : Int)) c
theorem po_start {D : PD} {pvs : List Value} {np : Nat} (h : IntsAre pvs [0, 0, 0, 0]) : poP D 0 ⟨[], 0, [], 0, pvs, np, [0, 0, 0, 0]⟩ := ⟨rfl, h, rfl, fun q hq => by simp at hq; subst hq; decide⟩
theorem ord_range {i : Nat} {o : List Int} (h : ORD[i]? = some o) : o.length = 4 ∧ ∀ k ∈ o, 0 ≤ k ∧ k < 4 := by
  have : o ∈ ORD := List.mem_of_getElem? h
  revert this
  generalize o = o
  intro h
  simp only [ORD, List.mem_cons, List.not_mem_nil, or_false] at h
  rcases h with rfl | rfl | rfl | rfl | rfl | rfl | rfl | rfl | rfl | rfl | rfl | rfl <;> exact ⟨rfl, by decide⟩
theorem mid_start {D : PD} {pay : List Int} {B : Int} {c : PSt} {o : List Int} {n : Nat} (h : POut pay B c) : pkP D ([], [], c.pay) B o 0 ⟨[], n, [], 0, c.pvs, c.np, c.pay⟩ :=
  ⟨rfl, h.hi, h.hl, fun q hq => by have := h.hb q hq; simp only [Int.natCast_zero, Int.mul_zero, Int.add_zero]; exact this, Nat.le_refl _, Nat.le_refl _, fun _ h => nomatch h⟩
theorem in_start {D : PD} {k : Nat} {st : PT} {B : Int} {T : Nat} {c : PSt} (h : PInv st B T c) : pjP D k st B T 0 c := inv_more h (by simp) (by omega)
theorem out_step {D : PD} {i : Nat} {o : List Int} {c1 c : PSt} {ts : List Row} {n : Nat} (ho : ORD[i]? = some o) (h1 : poP D i c1) (h2 : pkP D ([], [], c1.pay) (16000000 * (i : Int)) o o.length c) : poP D (i + 1) { c with ts := ts, n := n } := by
  obtain ⟨e, hi, hl, hb, _⟩ := h2
  rw [List.take_length] at e
  refine ⟨?_, hi, hl, fun q hq => ?_⟩
  · show c.pay = _
    rw [List.take_add_one, ho, List.foldl_append]
    show c.pay = orderF D _ o
    rw [← h1.e]
    unfold orderF stO
    rw [← e]
  · have := hb q hq
    have h4 := (ord_range ho).1
    rw [h4] at this
    push_cast at this ⊢
    omega
/-- the first one's row -/
theorem o0_range {i : Nat} {o : List Int} (ho : ORD[i]? = some o) : 0 ≤ o.getD (0 : Int).toNat 0 ∧ o.getD (0 : Int).toNat 0 < 4 := by
  obtain ⟨h1, h2⟩ := ord_range ho
  refine h2 _ ?_
  rw [List.getD_eq_getElem?_getD, List.getElem?_eq_getElem (by rw [h1]; decide)]
  exact List.getElem_mem _
theorem first_at {D : PD} {k : Nat} {vs : List Value} {ys : List Str} (eN : D.NS.getD k [] = ys) (h1 : 1 ≤ ys.length) (hT : StrsAre vs ys) (hy : ∀ y ∈ ys, y.length ≤ 100 ∧ (Txt.lower y).length ≤ 100 ∧ okN y = true ∧ okN (Txt.lower y) = true ∧ okN (Txt.lower (Txt.lower y)) = true) :
    ∃ (y : Str) (ty : Nat), vs.toArray[(0 : Int).toNat]? = some (.str y ty) ∧ D.nm k 0 = y ∧ (y.length ≤ 100 ∧ (Txt.lower y).length ≤ 100 ∧ okN y = true ∧ okN (Txt.lower y) = true ∧ okN (Txt.lower (Txt.lower y)) = true) := by
  have h : 0 < ys.length := h1
  obtain ⟨ty, ht⟩ := strs_get hT (List.getElem?_eq_getElem h)
  refine ⟨ys[0], ty, by simpa using ht, ?_, hy _ (List.getElem_mem h)⟩
  unfold PD.nm; rw [eN, List.getD_eq_getElem?_getD, List.getElem?_eq_getElem h]; rfl
theorem again_find {D : PD} {many : Int} {i : Nat} {o : List Int} {c1 c : PSt} {B : Int} {y0 wd : Str} {a : Addr} {tf te : Nat} (G : Good D many) (ho : ORD[i]? = some o) (h : pkP D ([], [], c1.pay) B o o.length c) (hy : D.nm (o.getD (0 : Int).toNat 0).toNat 0 = y0) (hw : D.wd (o.getD (0 : Int).toNat 0).toNat = wd) :
    ∃ r, (c.ts ++ [(⟨a, Txt.lower y0, tf, eTx, te⟩ : Row)]).find? (fun r => Txt.lower r.k == Txt.lower (Txt.lower y0)) = some r ∧ r.v = wd := by
  have g := (G o (List.mem_of_getElem? ho) c1.pay).again
  have e := h.e
  rw [List.take_length] at e
  have e1 : (stO D c1.pay o).1 = tabOf c.ts := by unfold stO; rw [← e]
  rw [e1, show D.nm (k0O o) 0 = y0 from hy, show D.wd (k0O o) = wd from hw] at g
  have e2 : tabOf c.ts ++ [(Txt.lower y0, eTx)] = tabOf (c.ts ++ [(⟨a, Txt.lower y0, tf, eTx, te⟩ : Row)]) := by rw [tabOf, tabOf, List.map_append]; rfl
  rw [e2, find_tab] at g
  obtain ⟨q, hq, hw'⟩ := g
  cases hf : (c.ts ++ [(⟨a, Txt.lower y0, tf, eTx, te⟩ : Row)]).find? (fun r => Txt.lower r.k == Txt.lower (Txt.lower y0)) with
  | none => rw [hf] at hq; cases hq
  | some r => rw [hf] at hq; simp only [Option.map_some, Option.some.injEq] at hq; subst hq; exact ⟨r, rfl, hw'⟩
theorem many_is {D : PD} {many : Int} {i : Nat} {o : List Int} {c1 c : PSt} {B : Int} (G : Good D many) (ho : ORD[i]? = some o) (h : pkP D ([], [], c1.pay) B o o.length c) : many = (c.ts.length : Int) := by
  have g := (G o (List.mem_of_getElem? ho) c1.pay).many
  have e := h.e
  rw [List.take_length] at e
  have e1 : (stO D c1.pay o).1 = tabOf c.ts := by unfold stO; rw [← e]
  rw [e1, List.length_map] at g
  exact g
theorem tabs_same {D : PD} {many : Int} {i : Nat} {o : List Int} {c1 c : PSt} {B : Int} (G : Good D many) (ho : ORD[i]? = some o) (h : pkP D ([], [], c1.pay) B o o.length c) : tabOf c.ts = tabOf c.ls ∧ (∀ q ∈ tabOf c.ts, PyData.strOk q.1 = true ∧ PyData.strOk q.2 = true) := by
  have g1 := (G o (List.mem_of_getElem? ho) c1.pay).same
  have g2 := (G o (List.mem_of_getElem? ho) c1.pay).ok
  have e := h.e
  rw [List.take_length] at e
  have e1 : (stO D c1.pay o).1 = tabOf c.ts := by unfold stO; rw [← e]
  have e2 : (stO D c1.pay o).2.1 = tabOf c.ls := by unfold stO; rw [← e]
  rw [e1, e2] at g1
  rw [e1] at g2
  exact ⟨g1, g2⟩
theorem f_ok {D : PD} {many : Int} {i : Nat} {o : List Int} {y0 : Str} (G : Good D many) (ho : ORD[i]? = some o) (hy : D.nm (o.getD (0 : Int).toNat 0).toNat 0 = y0) : PyData.strOk (Txt.lower y0) = true := by
  have g := (G o (List.mem_of_getElem? ho) []).okf
  rw [show D.nm (k0O o) 0 = y0 from hy] at g
  exact g
def rowDat (q : Str × Str) : Dat := .tuple [.str q.1, .str q.2]
theorem row_dats {news : List (Addr × Obj)} : ∀ (ts : List Row), (∀ p ∈ rowObjs ts, p ∈ news) → DatAll news (rowVs ts) ((tabOf ts).map rowDat)
  | [], _ => .nil
  | r :: ts, h => .cons (.tuple (n := 0) (vs := [.str r.k r.tk, .str r.v r.tv]) (h _ (.head _)) (.cons (.str _ _) (.cons (.str _ _) .nil))) (row_dats ts fun p hp => h p (.tail _ hp))
theorem row_ok {q : Str × Str} (h : PyData.strOk q.1 = true ∧ PyData.strOk q.2 = true) : kqdOk 8 (rowDat q) = true := by
  unfold rowDat
  simp [kqdOk, h.1, h.2]
theorem e_ok : PyData.strOk eTx = true := by decide +kernel
section
variable {prog : Program} {w : World} {A : Around} {E : Value → Shared → Prop} {s : Shared} {h₀ : Heap} {L : Addr} {m : Str → Option Value} {news : List (Addr × Obj)} {a b : Addr} {xs ys : List Value} {ka kb : Nat} {Q : Value → Shared → Prop}
/-- a list and a list -/
theorem list_plus (F : Fr h₀ L s.heap m) (N : News h₀ L s.heap news) (ha : (a, listOf xs.toArray ka) ∈ news) (hb : (b, listOf ys.toArray kb) ∈ news) (hz : xs.length + ys.length ≤ 1000) (h : ∀ D h', Fr h₀ L h' m → News h₀ L h' ((D, listOf (xs ++ ys).toArray 0) :: news) → Q (.ref D) { s with heap := h' }) :
    wpAny (model prog w) A (binaryOp .Add (.ref a) (.ref b)) Q E s := by
  refine PySem.P.add_list (N _ ha).1 (N _ hb).1 (h _ _ (F.push _) ?_) (by rw [List.size_toArray, List.size_toArray, sizeLine_eq]; omega)
  have := N.push F (listOf (xs ++ ys).toArray 0)
  simpa using this
/-- the items are those that were laid, and one more -/
theorem items_ne {D2 D3 tp : Addr} {ts ls : List Row} {f : Str} {tf te : Nat} {k2 k3 : Nat} (N : News h₀ L s.heap news) (m2 : (D2, listOf (rowVs ts).toArray k2) ∈ news) (m3 : (D3, listOf (rowVs ls ++ [Value.ref tp]).toArray k3) ∈ news) (mt : (tp, tupO #[.str f tf, .str eTx te]) ∈ news)
    (hts : ∀ p ∈ rowObjs ts, p ∈ news) (hls : ∀ p ∈ rowObjs ls, p ∈ news) (e : tabOf ts = tabOf ls ++ [(f, eTx)]) (ok : ∀ q ∈ tabOf ls, PyData.strOk q.1 = true ∧ PyData.strOk q.2 = true) (okf : PyData.strOk f = true) (hu : A.units + 64 < cLine) (h : Q (.bool false) s) :
    wpAny (model prog w) A (compareOp .NotEq (.ref D2) (.ref D3)) Q E s := by
  have e2 : rowVs ls ++ [Value.ref tp] = rowVs (ls ++ [⟨tp, f, tf, eTx, te⟩]) := by rw [rowVs, rowVs, List.map_append]; rfl
  have e3 : tabOf (ls ++ [⟨tp, f, tf, eTx, te⟩]) = tabOf ls ++ [(f, eTx)] := by rw [tabOf, tabOf, List.map_append]; rfl
  rw [e2] at m3
  have hok : ∀ q ∈ tabOf ls ++ [(f, eTx)], PyData.strOk q.1 = true ∧ PyData.strOk q.2 = true := fun q hq => by
    rcases List.mem_append.mp hq with hq | hq
    · exact ok q hq
    · rw [List.mem_singleton.mp hq]; exact ⟨okf, e_ok⟩
  have hd : ∀ d ∈ (tabOf ls ++ [(f, eTx)]).map rowDat, kqdOk 8 d = true := fun d hd => by
    obtain ⟨q, hq, rfl⟩ := List.mem_map.mp hd
    exact row_ok (hok q hq)
  refine kqd_ne (n₁ := news) (n₂ := news) (ds := (tabOf ls ++ [(f, eTx)]).map rowDat) (es := (tabOf ls ++ [(f, eTx)]).map rowDat) N m2 rfl rfl (e ▸ row_dats ts hts) (fun p hp => hp) m3 rfl rfl (e3 ▸ row_dats _ fun p hp => ?_) (fun p hp => hp) hd hd hu (by simpa using h)
  rw [rowObjs, List.map_append] at hp
  rcases List.mem_append.mp hp with hp | hp
  · exact hls p hp
  · rw [List.mem_singleton.mp hp]; exact mt
end
section
variable {w : World} {mean : ExcName → Option Value} {mg mb : Str → Option Value} {dp un : Nat} {gd : Option (List Code)} {env : Env} {outer : List Env} {A₀ : Around} {base h₀ : Heap} {L : Addr} {m : Str → Option Value} {s : Shared}
end
theorem hk_snoc {ts : List Row} {x : Row} (h : ∀ r ∈ ts, r.k.length ≤ 100) (hx : x.k.length ≤ 100) : ∀ r ∈ ts ++ [x], r.k.length ≤ 100 := fun r hr => by
  rcases List.mem_append.mp hr with hr | hr
  · exact h r hr
  · rw [List.mem_singleton.mp hr]; exact hx
theorem tab_e {ts ls : List Row} {a : Addr} {f : Str} {t te : Nat} (h : tabOf ts = tabOf ls) : tabOf (ts ++ [(⟨a, f, t, eTx, te⟩ : Row)]) = tabOf ls ++ [(f, eTx)] := by
  rw [← h, tabOf, tabOf, List.map_append]; rfl
theorem news_one {g h h' : Heap} {L D : Addr} {m : Str → Option Value} {o : Obj} {news : List (Addr × Obj)} (F : Fr g L h m) (N : News g L h news) (k : Kept h h') (hn : h.get? D = none) (ho : h'.get? D = some o) : News g L h' ((D, o) :: news) := by
  intro p hp
  rcases List.mem_cons.mp hp with rfl | hp
  · refine ⟨ho, fun e => ?_, ?_⟩
    · obtain ⟨oL, _, _, hL, _⟩ := F.ns
      rw [show D = L from e, hL] at hn; cases hn
    · cases q : g.get? D with
      | none => rfl
      | some o' => rw [F.keep _ _ q] at hn; cases hn
  · exact news_kept N k p hp
section
variable {p : Params} {I d H O Ll Pd : Addr} {t1 : Tok} {ovs : List Value} {no : Nat} {c : PSt} {tail : List (Addr × Obj)}
theorem ts_shp : ∀ q ∈ rowObjs c.ts, q ∈ shp p I d H t1 O ovs no Ll Pd c tail := fun q hq => .tail _ (.tail _ (.tail _ (.tail _ (.tail _ (.tail _ (List.mem_append.mpr (.inl hq)))))))
theorem ls_shp : ∀ q ∈ rowObjs c.ls, q ∈ shp p I d H t1 O ovs no Ll Pd c tail := fun q hq => .tail _ (.tail _ (.tail _ (.tail _ (.tail _ (.tail _ (List.mem_append.mpr (.inr (List.mem_append.mpr (.inl hq)))))))))
theorem tl_shp : ∀ q ∈ tail, q ∈ shp p I d H t1 O ovs no Ll Pd c tail := fun q hq => .tail _ (.tail _ (.tail _ (.tail _ (.tail _ (.tail _ (List.mem_append.mpr (.inr (List.mem_append.mpr (.inr hq)))))))))
end
abbrev cstO (Po : Addr) (rs : List ORow) : List (Addr × Obj) := (Po, listOf (rs.map fun r => Value.ref r.a).toArray 0) :: ordObjs rs
theorem out_end {h₀ : Heap} {L Pd Po : Addr} {rs : List ORow} {c : PSt} {own all : List (Addr × Obj)} {st : List Str} {m₀ m' : Str → Option Value} {P : PSt → Prop} {s₁ : Shared} {h' : Heap} {tk : Nat} (F : Fr h₀ L h' m') (N : News h₀ L h' all) (hc : (Pd, listOf c.pvs.toArray c.np) ∈ all) (h1 : ∀ q ∈ cstO Po rs ++ own, q ∈ all)
    (h5 : ∀ z, st.contains z = false → m' z = m₀ z) (hP : P c) : GEnd h₀ L (fun c : PSt => [(Pd, listOf c.pvs.toArray c.np)]) (cstO Po rs) (fun _ => []) [] st m₀ P own "list_iterator" s₁ { s₁ with heap := h', toks := tk } :=
  GEnd.intro c F N (fun q hq => by rw [List.mem_singleton.mp hq]; exact hc) (fun q hq => h1 q (List.mem_append.mpr (.inl hq))) (fun q hq => h1 q (List.mem_append.mpr (.inr hq))) (fun q hq => by rw [List.mem_singleton.mp hq]; intro e; injection e with e; revert e; decide) (fun _ h => nomatch h) (fun z _ h => h5 z h) hP
theorem mem4 {a b c d p : Addr × Obj} {l : List (Addr × Obj)} (h : p ∈ l) : p ∈ a :: b :: c :: d :: l := .tail _ (.tail _ (.tail _ (.tail _ h)))
section
variable {prog : Program} {w : World} {A : Around} {E : Value → Shared → Prop} {s : Shared} {h₀ : Heap} {L : Addr} {m : Str → Option Value} {Q : Value → Shared → Prop}
variable {p : Params} {I d H O Ll Pd : Addr} {t1 : Tok} {ovs : List Value} {no : Nat} {c : PSt} {tail : List (Addr × Obj)}
theorem items_ne4 {D4 D6 tp l' a : Addr} {o' : Obj} {f : Str} {t tf te te' k2 k3 n' : Nat} (N : News h₀ L s.heap ((D6, listOf (rowVs c.ls ++ [Value.ref tp]).toArray k3) :: (l', o') :: (tp, tupO #[.str f tf, .str eTx te]) :: (D4, listOf (rowVs (c.ts ++ [(⟨a, f, t, eTx, te'⟩ : Row)])).toArray k2) :: shp p I d H t1 O ovs no Ll Pd { c with ts := c.ts ++ [(⟨a, f, t, eTx, te'⟩ : Row)], n := n' } tail))
    (T : tabOf c.ts = tabOf c.ls ∧ (∀ q ∈ tabOf c.ts, PyData.strOk q.1 = true ∧ PyData.strOk q.2 = true)) (okf : PyData.strOk f = true) (hu : A.units + 64 < cLine) (h : Q (.bool false) s) : wpAny (model prog w) A (compareOp .NotEq (.ref D4) (.ref D6)) Q E s :=
  items_ne (ls := c.ls) N (.tail _ (.tail _ (.tail _ (.head _)))) (.head _) (.tail _ (.tail _ (.head _))) (fun q hq => mem4 (ts_shp (c := { c with ts := c.ts ++ [(⟨a, f, t, eTx, te'⟩ : Row)], n := n' }) q hq)) (fun q hq => mem4 (ls_shp (c := { c with ts := c.ts ++ [(⟨a, f, t, eTx, te'⟩ : Row)], n := n' }) q hq)) (tab_e T.1) (T.1 ▸ T.2) okf hu h
theorem out_end4 {Po : Addr} {rs : List ORow} {own : List (Addr × Obj)} {e1 e2 e3 e4 : Addr × Obj} {st : List Str} {m₀ m' : Str → Option Value} {P : PSt → Prop} {s₁ : Shared} {h' : Heap} {tk : Nat} (F : Fr h₀ L h' m') (N : News h₀ L h' (e1 :: e2 :: e3 :: e4 :: shp p I d H t1 O ovs no Ll Pd c (cstO Po rs ++ own)))
    (h5 : ∀ z, st.contains z = false → m' z = m₀ z) (hP : P c) : GEnd h₀ L (fun c : PSt => [(Pd, listOf c.pvs.toArray c.np)]) (cstO Po rs) (fun _ => []) [] st m₀ P own "list_iterator" s₁ { s₁ with heap := h', toks := tk } :=
  out_end F N (mem4 (.tail _ (.tail _ (.tail _ (.tail _ (.head _)))))) (fun q hq => mem4 (tl_shp q hq)) h5 hP
end
end
section
open PySem PySem.W PyProof.Rows PySem.Calls
section
variable {prog : Program} {w : World} {A : Around} {E : Value → Shared → Prop} {s : Shared} {env : Env} {h₀ : Heap} {target : Expr} {body : List Stmt} {Q : Flow → Shared → Prop}
def OffOf (l : List (Addr × Obj)) (a : Addr) : Prop := ∀ q ∈ l, q.1 ≠ a
theorem news_last {g h : Heap} {L : Addr} {x : Addr × Obj} {l : List (Addr × Obj)} (N : News g L h (l ++ [x])) : News g L h (x :: l) := news_sub N (fun p hp => by
  rcases List.mem_cons.mp hp with rfl | hp
  · exact List.mem_append.mpr (.inr (.head _))
  · exact List.mem_append.mpr (.inl hp))
theorem fresh_ne {g h h' : Heap} {L L' : Addr} {news lst : List (Addr × Obj)} (N : News g L h news) (N' : News h L' h' lst) : ∀ p ∈ news, ∀ q ∈ lst, q.1 ≠ p.1 := fun p hp q hq e => by
  have h1 := (N p hp).1
  have h2 := (N' q hq).2.2
  rw [e, h1] at h2
  cases h2
/-- the loop over the orders -/
theorem loop_po {Po Pd : Addr} {rs : List ORow} {OS : List (List Int)} {m₀ : Str → Option Value} (st : List Str) (P : Nat → PSt → Prop) (c₀ : PSt)
    (hh : A.handled = none) (hO : OrdsAre rs OS) (F : Fr h₀ env.locals s.heap m₀) (N : News h₀ env.locals s.heap ((Pd, listOf c₀.pvs.toArray c₀.np) :: cstO Po rs)) (hA : ∀ q ∈ cstO Po rs, q.1 ≠ Pd) (hP : P 0 c₀)
    (turn : ∀ i (r : ORow) o c (u : Str → Option Value) h tk own, i < OS.length → OS[i]? = some o → IntsAre r.vs o → P i c → OffOf ((r.a, listOf r.vs.toArray 0) :: (cstO Po rs ++ own)) Pd → Fr h₀ env.locals h (fun z => if st.contains z then u z else m₀ z) → News h₀ env.locals h ((Pd, listOf c.pvs.toArray c.np) :: (r.a, listOf r.vs.toArray 0) :: (cstO Po rs ++ own)) →
      wpAny (model prog w) A (assign target env (.ref r.a)) (fun _ s₂ => wpAny (model prog w) A (execs body env) (GPost h₀ env.locals (fun c : PSt => [(Pd, listOf c.pvs.toArray c.np)]) (cstO Po rs) (fun _ => []) [] st m₀ (P (i + 1)) (P OS.length) own "list_iterator" { s with heap := h, toks := tk } Q) E s₂) E { s with heap := h, toks := tk })
    (done : ∀ c (u : Str → Option Value) h tk, P OS.length c → Fr h₀ env.locals h (fun z => if st.contains z then u z else m₀ z) → News h₀ env.locals h ((Pd, listOf c.pvs.toArray c.np) :: cstO Po rs) → Q .next { s with heap := h, toks := tk }) :
    wpAny (model prog w) A (pyIter (.ref Po)) (fun it s₂ => TurnsAt prog w A h₀ env target body Q E it s₂) E s := by
  have hlen : (rs.map fun r => Value.ref r.a).length = OS.length := by rw [List.length_map, hO.length]
  refine loop_list (σ := PSt) (vs := rs.map fun r => Value.ref r.a) [Pd] (fun c => [(Pd, listOf c.pvs.toArray c.np)]) (cstO Po rs) (fun _ => []) [] st P (P OS.length) c₀ hh (News.isList N (.tail _ (.head _))) (N _ (.tail _ (.head _))).2.1 (fun hm => hA _ (.head _) (List.mem_singleton.mp hm)) (fun a ha => by rw [List.mem_singleton.mp ha]; exact Heap.lt_size (N _ (.head _)).1) F N (fun q hq => hq) (fun _ h => nomatch h) (fun _ => rfl) hP (fun c h => by rw [hlen] at h; exact h) ?_ ?_
  · intro i v c u h tk own hi hv hPc hoff F₁ N₁
    rw [List.length_map] at hi
    have hr : rs[i]? = some rs[i] := List.getElem?_eq_getElem hi
    obtain ⟨o, ho, hI⟩ := hO.get hr
    rw [List.getElem?_map, hr] at hv
    injection hv with hv
    subst hv
    have hm : (rs[i].a, listOf rs[i].vs.toArray 0) ∈ cstO Po rs := .tail _ (List.mem_map.mpr ⟨_, List.getElem_mem hi, rfl⟩)
    refine turn i rs[i] o c u h tk own (by rw [← hO.length]; exact hi) ho hI hPc ?_ F₁ ?_
    · intro q hq
      rcases List.mem_cons.mp hq with rfl | hq
      · exact hA _ hm
      · rcases List.mem_append.mp hq with hq | hq
        · exact hA q hq
        · exact hoff q hq Pd (.head _)
    · have N₂ : News h₀ env.locals h ((Pd, listOf c.pvs.toArray c.np) :: (cstO Po rs ++ own)) := N₁
      intro q hq
      rcases List.mem_cons.mp hq with rfl | hq
      · exact N₂ _ (.head _)
      · rcases List.mem_cons.mp hq with rfl | hq
        · exact N₂ _ (.tail _ (List.mem_append.mpr (.inl hm)))
        · exact N₂ q (.tail _ hq)
  · intro c u h tk hPc F₁ N₁
    exact done c u h tk hPc F₁ N₁
end
theorem shp_start {g h : Heap} {L : Addr} {p : Params} {I d H O Ll Pd : Addr} {t1 : Tok} {ovs pvs : List Value} {n np : Nat} {pay : List Int} {tail : List (Addr × Obj)} (N : News g L h ((Ll, listOf #[] 0) :: (tabObjs p I d H t1 n [] ++ ((Pd, listOf pvs.toArray np) :: (O, listOf ovs.toArray 0) :: tail)))) :
    News g L h (shp p I d H t1 O ovs 0 Ll Pd ⟨[], n, [], 0, pvs, np, pay⟩ tail) := news_sub N (by
  simp only [shp, tabObjs, rowVs, rowObjs, List.map_nil, List.nil_append]
  walk_at "mem_sub")
def FreshNe (news lst : List (Addr × Obj)) : Prop := ∀ p ∈ news, ∀ q ∈ lst, q.1 ≠ p.1
theorem ap_start {p : Params} {I d H O Ll Pd : Addr} {t1 : Tok} {oO oP : Obj} {n : Nat} {tail : List (Addr × Obj)} (hH : FreshNe ((Pd, oP) :: (O, oO) :: tail) (tabObjs p I d H t1 n [])) (ha : OffOf ((O, oO) :: tail) Pd)
    (l1 : ∀ q ∈ tabObjs p I d H t1 n [] ++ ((Pd, oP) :: (O, oO) :: tail), q.1 < Ll) : Ap H Ll Pd ((O, oO) :: tail) := by
  have lt : ∀ {a b : Addr}, a < b → a ≠ b := fun h => Nat.ne_of_lt h
  refine ⟨lt (l1 (H, _) (List.mem_append.mpr (.inl (.head _)))), hH _ (.head _) (H, _) (.head _), (lt (l1 (Pd, oP) (List.mem_append.mpr (.inr (.head _))))).symm, fun q hq => ⟨(hH q (.tail _ hq) (H, _) (.head _)).symm, lt (l1 q (List.mem_append.mpr (.inr (.tail _ hq)))), ha q hq⟩⟩
section
variable {prog : Program} {w : World} {A : Around} {E : Value → Shared → Prop} {s : Shared} {env : Env} {h₀ : Heap} {target : Expr} {body : List Stmt} {Q : Flow → Shared → Prop}
variable {p : Params} {I d H O Ll Pd : Addr} {t1 : Tok} {ovs : List Value} {no : Nat} {tail : List (Addr × Obj)} {D : PD} {sp : PT} {B : Int} {T : Nat}
theorem loop_mid {ord : List Int} {m₀ : Str → Option Value} (st : List Str) {c₀ : PSt} (hord : ∀ k ∈ ord, 0 ≤ k ∧ k < 4)
    (hh : A.handled = none) (hO : IntsAre ovs ord) (F : Fr h₀ env.locals s.heap m₀) (N : News h₀ env.locals s.heap (shp p I d H t1 O ovs no Ll Pd c₀ tail)) (hA : Ap H Ll Pd ((O, listOf ovs.toArray no) :: tail)) (hP : pkP D sp B ord 0 c₀)
    (turn : ∀ i k (t : Tok) c (u : Str → Option Value) h tk own, i < ord.length → ord[i]? = some k → 0 ≤ k → k < 4 → pkP D sp B ord i c → Ap H Ll Pd ((O, listOf ovs.toArray no) :: (tail ++ own)) → Fr h₀ env.locals h (fun z => if st.contains z then u z else m₀ z) → News h₀ env.locals h (shp p I d H t1 O ovs no Ll Pd c (tail ++ own)) →
      wpAny (model prog w) A (assign target env (.int k t)) (fun _ s₂ => wpAny (model prog w) A (execs body env) (GPost h₀ env.locals (ledP H Ll Pd) (hdP p I d H t1 O ovs no ++ tail) (fun _ => []) [] st m₀ (pkP D sp B ord (i + 1)) (pkP D sp B ord ord.length) own "list_iterator" { s with heap := h, toks := tk } Q) E s₂) E { s with heap := h, toks := tk })
    (done : ∀ c (u : Str → Option Value) h tk, pkP D sp B ord ord.length c → Fr h₀ env.locals h (fun z => if st.contains z then u z else m₀ z) → News h₀ env.locals h (shp p I d H t1 O ovs no Ll Pd c tail) → Q .next { s with heap := h, toks := tk }) :
    wpAny (model prog w) A (pyIter (.ref O)) (fun it s₂ => TurnsAt prog w A h₀ env target body Q E it s₂) E s :=
  loop_pk st (pkP D sp B ord) c₀ hh hO F N hA hP (fun i k t c u h tk own hk hPc hA' F' N' => turn i k t c u h tk own (List.getElem?_eq_some_iff.mp hk).1 hk (hord k (List.mem_of_getElem? hk)).1 (hord k (List.mem_of_getElem? hk)).2 hPc hA' F' N') done
theorem loop_in {r : Addr} {n k : Nat} {ys : List Str} {tr ur vr : Tok} {m₀ : Str → Option Value} (st : List Str) {c₀ : PSt}
    (_hys : D.NS.getD k [] = ys) (hh : A.handled = none) (hr : IsRange s.heap r 0 (n : Int) 1 tr ur vr) (hn : n ≤ 1000) (F : Fr h₀ env.locals s.heap m₀) (N : News h₀ env.locals s.heap (shp p I d H t1 O ovs no Ll Pd c₀ tail)) (hA : Ap H Ll Pd ((O, listOf ovs.toArray no) :: tail)) (hP : pjP D k sp B T 0 c₀)
    (turn : ∀ i (t : Tok) c (u : Str → Option Value) h tk own, i < n → pjP D k sp B T i c → Ap H Ll Pd ((O, listOf ovs.toArray no) :: (tail ++ own)) → Fr h₀ env.locals h (fun z => if st.contains z then u z else m₀ z) → News h₀ env.locals h (shp p I d H t1 O ovs no Ll Pd c (tail ++ own)) →
      wpAny (model prog w) A (assign target env (.int (0 + (i : Int)) t)) (fun _ s₂ => wpAny (model prog w) A (execs body env) (GPost h₀ env.locals (ledP H Ll Pd) (hdP p I d H t1 O ovs no ++ tail) (fun _ => []) [] st m₀ (pjP D k sp B T (i + 1)) (pjP D k sp B T n) own "range_iterator" { s with heap := h, toks := tk } Q) E s₂) E { s with heap := h, toks := tk })
    (done : ∀ c (u : Str → Option Value) h tk, pjP D k sp B T n c → Fr h₀ env.locals h (fun z => if st.contains z then u z else m₀ z) → News h₀ env.locals h (shp p I d H t1 O ovs no Ll Pd c tail) → Q .next { s with heap := h, toks := tk })
    (hgo : ∀ I v, letOwnedTupleGo target (.ref I) v = pure ()) :
    wpAny (model prog w) A (pyIter (.ref r)) (fun it s₂ => TurnsAt prog w A h₀ env target body Q E it s₂) E s :=
  loop_pj st (pjP D k sp B T) c₀ hh hr hn F N hA hP turn done hgo
end
theorem place_at' {D : PD} {k : Nat} {vs pv : List Value} {ys : List Str} {ps : List Int} {i : Nat} (hi : i < ys.length) (eN : D.NS.getD k [] = ys) (eP : D.PS.getD k [] = ps) (hl : ps.length = ys.length) (hT : StrsAre vs ys) (hI : IntsAre pv ps)
    (hy : ∀ y ∈ ys, y.length ≤ 100 ∧ (Txt.lower y).length ≤ 100 ∧ okN y = true ∧ okN (Txt.lower y) = true ∧ okN (Txt.lower (Txt.lower y)) = true) (hq : ∀ q ∈ ps, -2000000 ≤ q ∧ q ≤ 2000000) :
    ∃ (y : Str) (ty : Nat) (q : Int) (tq : Tok), vs.toArray[(0 + (i : Int)).toNat]? = some (.str y ty) ∧ pv.toArray[(0 + (i : Int)).toNat]? = some (.int q tq) ∧ D.nm k i = y ∧ D.pr k i = q ∧ (y.length ≤ 100 ∧ (Txt.lower y).length ≤ 100 ∧ okN y = true ∧ okN (Txt.lower y) = true ∧ okN (Txt.lower (Txt.lower y)) = true) ∧ (-2000000 ≤ q ∧ q ≤ 2000000) :=
  place_at hi rfl hT hI hl eN eP hy hq
section
variable {w : World} {mean : ExcName → Option Value} {mg mb : Str → Option Value} {dp un : Nat} {gd : Option (List Code)} {env : Env} {outer : List Env} {A₀ : Around} {base h₀ : Heap} {L : Addr} {m : Str → Option Value} {s : Shared} {Q E : Value → Shared → Prop}
theorem cont1 {z a : Str} (h : ¬z = a) : [a].contains z = false := by simp [h]
theorem cont2 {z a b : Str} (h : ¬z = a) (h' : ¬z = b) : [a, b].contains z = false := by simp [h, h']
theorem po_fin {D : PD} {c : PSt} (h : poP D ORD.length c) : IntsAre c.pvs (ORD.foldl (orderF D) [0, 0, 0, 0]) := by
  have e := h.e
  rw [List.take_length] at e
  exact e ▸ h.hi
end
end
section
open PySem PySem.W PyProof.Rows PySem.Calls
/-- a row's blocks, by its three remainders -/
def blkR (a b e : Nat) : List Str :=
  let f : Str := ⟨Array.replicate (2 + b * 2) 32⟩
  let r : Str := ⟨Array.replicate e 32⟩
  match a with
  | 0 => [⟨f.cps ++ #[9]⟩]
  | 1 => [⟨f.cps ++ #[9]⟩, ⟨f.cps ++ #[9] ++ r.cps ++ #[9]⟩]
  | 2 => [⟨f.cps ++ #[9]⟩, ⟨f.cps ++ #[9] ++ r.cps ++ #[32]⟩]
  | _ => [⟨f.cps ++ #[32]⟩]
def allB : List (List Str) := (List.range 4).flatMap fun a => (List.range 2).flatMap fun b => (List.range 5).map fun e => blkR a b e
theorem fr1_is (c : Int) : ∃ b, b < 2 ∧ fr1 c = (⟨Array.replicate (2 + b * 2) 32⟩ : Str) := by
  have h1 := Int.fmod_nonneg_of_pos (c.fdiv 4) (b := 2) (by decide)
  have h2 := Int.fmod_lt_of_pos (c.fdiv 4) (b := 2) (by decide)
  unfold fr1
  generalize (c.fdiv 4).fmod 2 = x at h1 h2
  have : x = 0 ∨ x = 1 := by omega
  rcases this with rfl | rfl
  · exact ⟨0, by decide, by decide +kernel⟩
  · exact ⟨1, by decide, by decide +kernel⟩
theorem fr2_is (c : Int) : ∃ e, e < 5 ∧ fr2 c = (⟨Array.replicate e 32⟩ : Str) := by
  have h1 := Int.fmod_nonneg_of_pos (c.fdiv 8) (b := 5) (by decide)
  have h2 := Int.fmod_lt_of_pos (c.fdiv 8) (b := 5) (by decide)
  unfold fr2
  generalize (c.fdiv 8).fmod 5 = x at h1 h2
  have : x = 0 ∨ x = 1 ∨ x = 2 ∨ x = 3 ∨ x = 4 := by omega
  rcases this with rfl | rfl | rfl | rfl | rfl
  · exact ⟨0, by decide, by decide +kernel⟩
  · exact ⟨1, by decide, by decide +kernel⟩
  · exact ⟨2, by decide, by decide +kernel⟩
  · exact ⟨3, by decide, by decide +kernel⟩
  · exact ⟨4, by decide, by decide +kernel⟩
theorem tab_str : Str.ofString "\t" = (⟨#[9]⟩ : Str) := by decide +kernel
theorem blk_in (c : Int) : blk c ∈ allB := by
  obtain ⟨b, hb, e1⟩ := fr1_is c
  obtain ⟨e, he, e2⟩ := fr2_is c
  have key : ∀ a, a < 4 → blkR a b e ∈ allB := fun a ha => List.mem_flatMap.mpr ⟨a, List.mem_range.mpr ha, List.mem_flatMap.mpr ⟨b, List.mem_range.mpr hb, List.mem_map.mpr ⟨e, List.mem_range.mpr he, rfl⟩⟩⟩
  unfold blk
  rw [e1, e2, tab_str, sp_is]
  split
  · exact key 0 (by decide)
  · split
    · exact key 1 (by decide)
    · split
      · exact key 2 (by decide)
      · exact key 3 (by decide)
abbrev mks : List Str := [⟨#[]⟩, Str.ofString "&", Str.ofString "<\x0d", Str.ofString "\"\n"]
abbrev wds : List Str := [⟨#[]⟩, Str.ofString "&amp;", Str.ofString "&lt;&#xD;", Str.ofString "&quot;&#xA;"]
/-- a block written -/
def escB (b : Str) : Str := if lacks b (Str.ofString "\t") then b else Txt.replace b (Str.ofString "\t") (Str.ofString "&#x9;")
def nmF (up : Bool) (b : Str) : Str := if up then Txt.upper (escB b) else escB b
theorem lv_all : ∀ bs ∈ allB, ∀ b ∈ bs, ∀ mk ∈ mks, ∀ z ∈ [(1 : Int), 2, 3, 4], lvF z (b ++ mk) = colS z b := by decide +kernel
theorem len_all : ∀ bs ∈ allB, (bs.length = 1 ∨ bs.length = 2) ∧ bs.Nodup ∧ ∀ b ∈ bs, b.length ≤ 40 ∧ ∀ mk ∈ mks, (b ++ mk).cps.size ≤ 60 := by decide +kernel
/-- what is asked of a name -/
def okName (y : Str) : Bool := decide (y.length ≤ 100) && decide ((Txt.lower y).length ≤ 100) && okN y && okN (Txt.lower y) && okN (Txt.lower (Txt.lower y)) && PyData.strOk y && PyData.strOk (Txt.lower y)
def lkB (b : Str) : Str := Txt.lower (escB b)
def okB (b : Str) : Bool := okName (nmF true b) && okName (nmF false b) && (Txt.lower (nmF true b) == lkB b) && (Txt.lower (lkB b) == lkB b)
theorem ok_all : ∀ bs ∈ allB, ∀ b ∈ bs, okB b = true := by decide +kernel
theorem ok_wds : ∀ x ∈ wds, okV x = true ∧ PyData.strOk x = true := by decide +kernel
end
section
open PySem PySem.W PyProof.Rows PySem.Calls
def blksU : List Str := allB.flatten.eraseDups
theorem inU : ∀ bs ∈ allB, ∀ b ∈ bs, b ∈ blksU := by decide +kernel
theorem lk_inj0 : ∀ b ∈ blksU, ∀ b' ∈ blksU, (lkB b == lkB b') = (b == b') := by decide +kernel
theorem lk_inj {bs bs' : List Str} {b b' : Str} (h : bs ∈ allB) (h' : bs' ∈ allB) (hb : b ∈ bs) (hb' : b' ∈ bs') : (lkB b == lkB b') = (b == b') := lk_inj0 b (inU _ h _ hb) b' (inU _ h' _ hb')
end
section
open PySem PySem.W PyProof.Rows PySem.Calls
/-- what a row's blocks cost -/
def prc (z : Int) : List Str → List Int
  | [b] => [colS z b]
  | [b, b'] => [colS z b, colS z b' - colS z b]
  | _ => []
def rowOf (y0 y1 y2 y3 : List Str) (k : Nat) : List Str := [y0, y1, y2, y3].getD k []
def DD (y0 y1 y2 y3 : List Str) (u0 u1 u2 u3 : Bool) (z : Int) : PD :=
  ⟨[y0.map (nmF u0), y1.map (nmF u1), y2.map (nmF u2), y3.map (nmF u3)], [prc z y0, prc z y1, prc z y2, prc z y3], wds⟩
abbrev AS := List (Str × Nat) × List Int
section
variable (W : Nat → Str) (U : Nat → Bool)
def toPT (x : AS) : PT := (x.1.map (fun p => (nmF (U p.2) p.1, W p.2)), x.1.map (fun p => (nmF (U p.2) p.1, W p.2)), x.2)
end
def stepA (k : Nat) (x : AS) (bq : Str × Int) : AS := if x.1.any (fun p => p.1 == bq.1) then x else (x.1 ++ [(bq.1, k)], x.2.set k (x.2.getD k 0 + bq.2))
theorem len_two {α : Type} {l : List α} (h : l.length = 2) : ∃ a b, l = [a, b] := by
  match l, h with
  | [a, b], _ => exact ⟨a, b, rfl⟩
def InB (b : Str) : Prop := ∃ bs ∈ allB, b ∈ bs
theorem low_nm {b : Str} (h : InB b) (u : Bool) : Txt.lower (nmF u b) = lkB b := by
  obtain ⟨bs, h1, h2⟩ := h
  have := ok_all bs h1 b h2
  unfold okB at this
  simp only [Bool.and_eq_true, beq_iff_eq] at this
  cases u
  · rfl
  · exact this.1.2
theorem lk_eq {b b' : Str} (h : InB b) (h' : InB b') : (lkB b == lkB b') = (b == b') := by
  obtain ⟨bs, h1, h2⟩ := h
  obtain ⟨bs', h1', h2'⟩ := h'
  exact lk_inj h1 h1' h2 h2'
theorem find_rep {W : Nat → Str} {U : Nat → Bool} {b : Str} (hb : InB b) (u : Bool) : ∀ (S : List (Str × Nat)), (∀ p ∈ S, InB p.1) →
    (S.map (fun p => (nmF (U p.2) p.1, W p.2))).find? (fun r => Txt.lower r.1 == Txt.lower (nmF u b)) = (S.find? (fun p => p.1 == b)).map (fun p => (nmF (U p.2) p.1, W p.2)) := by
  intro S hS
  rw [List.find?_map]
  congr 1
  induction S with
  | nil => rfl
  | cons p S ih =>
    have e : (Txt.lower (nmF (U p.2) p.1) == Txt.lower (nmF u b)) = (p.1 == b) := by
      rw [low_nm (hS p (.head _)), low_nm hb, lk_eq (hS p (.head _)) hb]
    rw [List.find?_cons, List.find?_cons, ih fun q hq => hS q (.tail _ hq)]
    simp only [Function.comp_apply, e]
theorem step_rep {D : PD} {W : Nat → Str} {U : Nat → Bool} {k j : Nat} {b : Str} {q : Int} {x : AS} (hb : InB b) (hn : D.nm k j = nmF (U k) b) (hw : D.wd k = W k) (hq : D.pr k j = q) (hS : ∀ p ∈ x.1, InB p.1) (hne : ∀ p ∈ x.1, p.1 = b → W p.2 ≠ W k) :
    stepJ D k (toPT W U x) j = toPT W U (stepA k x (b, q)) := by
  unfold stepJ toPT
  simp only []
  rw [hn, find_rep hb (U k) x.1 hS]
  cases h : x.1.find? (fun p => p.1 == b) with
  | none =>
    have ha : x.1.any (fun p => p.1 == b) = false := by
      rw [List.any_eq_false]
      intro p hp
      have := List.find?_eq_none.mp h p hp
      simpa using this
    simp only [Option.map_none, stepA, ha, Bool.false_eq_true, if_false, hitJ, hn, hw, hq, List.map_append, List.map_cons, List.map_nil]
  | some p =>
    have hp := List.mem_of_find?_eq_some h
    have hpb : p.1 = b := by have := List.find?_some h; simpa using this
    have ha : x.1.any (fun p => p.1 == b) = true := List.any_eq_true.mpr ⟨p, hp, by simp [hpb]⟩
    have hwn : (W p.2 == D.wd k) = false := by
      rw [hw]; exact beq_eq_false_iff_ne.mpr (hne p hp hpb)
    simp only [Option.map_some, stepA, ha, if_true, hwn, Bool.false_eq_true, if_false]
/-- a row's turn -/
def rowA (k : Nat) (bqs : List (Str × Int)) (x : AS) : AS := bqs.foldl (stepA k) x
theorem stepA_mem {k : Nat} {bq : Str × Int} {x : AS} {p : Str × Nat} (h : p ∈ (stepA k x bq).1) : p ∈ x.1 ∨ p = (bq.1, k) := by
  unfold stepA at h
  split at h
  · exact .inl h
  · rcases List.mem_append.mp h with h | h
    · exact .inl h
    · exact .inr (List.mem_singleton.mp h)
/-- one row of one or two blocks -/
theorem row_rep {D : PD} {W : Nat → Str} {U : Nat → Bool} {k : Nat} {bs : List Str} {z : Int} {x : AS} (hbs : bs ∈ allB) (hN : D.NS.getD k [] = bs.map (nmF (U k))) (hP : D.PS.getD k [] = prc z bs) (hw : D.wd k = W k) (hS : ∀ p ∈ x.1, InB p.1) (hne : ∀ p ∈ x.1, W p.2 ≠ W k) :
    stepK D (toPT W U x) (k : Int) = toPT W U (rowA k (bs.zip (prc z bs)) x) := by
  obtain ⟨hl, hnd, _⟩ := len_all bs hbs
  unfold stepK
  rw [Int.toNat_natCast, hN, List.length_map]
  rcases hl with hl | hl
  · obtain ⟨b, rfl⟩ := List.length_eq_one_iff.mp hl
    have hb : InB b := ⟨_, hbs, .head _⟩
    show stepJ D k (toPT W U x) 0 = toPT W U (stepA k x (b, colS z b))
    refine step_rep hb ?_ hw ?_ hS fun p hp _ => hne p hp
    · unfold PD.nm; rw [hN]; rfl
    · unfold PD.pr; rw [hP]; rfl
  · obtain ⟨b, b', rfl⟩ := len_two hl
    have hb : InB b := ⟨_, hbs, .head _⟩
    have hb' : InB b' := ⟨_, hbs, .tail _ (.head _)⟩
    have hd : b ≠ b' := by
      intro e; subst e; simp at hnd
    show stepJ D k (stepJ D k (toPT W U x) 0) 1 = toPT W U (stepA k (stepA k x (b, colS z b)) (b', colS z b' - colS z b))
    rw [step_rep (q := colS z b) hb (by unfold PD.nm; rw [hN]; rfl) hw (by unfold PD.pr; rw [hP]; rfl) hS fun p hp _ => hne p hp]
    refine step_rep hb' (by unfold PD.nm; rw [hN]; rfl) hw (by unfold PD.pr; rw [hP]; rfl) (fun p hp => ?_) fun p hp e => ?_
    · rcases stepA_mem hp with hp | rfl
      · exact hS p hp
      · exact hb
    · rcases stepA_mem hp with hp | rfl
      · exact hne p hp
      · exact absurd e hd
theorem rowA_mem {k : Nat} : ∀ {bqs : List (Str × Int)} {x : AS} {p : Str × Nat}, p ∈ (rowA k bqs x).1 → p ∈ x.1 ∨ (p.2 = k ∧ p.1 ∈ bqs.map (·.1))
  | [], _, _, h => .inl h
  | bq :: r, x, p, h => by
    rcases rowA_mem (bqs := r) (x := stepA k x bq) h with h | h
    · rcases stepA_mem h with h | rfl
      · exact .inl h
      · exact .inr ⟨rfl, .head _⟩
    · exact .inr ⟨h.1, .tail _ h.2⟩
theorem stepA_any {k : Nat} {x : AS} {bq : Str × Int} {b : Str} : (stepA k x bq).1.any (fun p => p.1 == b) = (x.1.any (fun p => p.1 == b) || (bq.1 == b)) := by
  unfold stepA
  split
  · rename_i h
    cases e : (bq.1 == b) with
    | false => simp
    | true => rw [beq_iff_eq.mp e] at h; rw [h]; rfl
  · simp
theorem rowA_any {k : Nat} {b : Str} : ∀ {bqs : List (Str × Int)} {x : AS}, (rowA k bqs x).1.any (fun p => p.1 == b) = (x.1.any (fun p => p.1 == b) || (bqs.map (·.1)).any (· == b))
  | [], x => by simp [rowA]
  | bq :: r, x => by
    show (rowA k r (stepA k x bq)).1.any _ = _
    rw [rowA_any (bqs := r), stepA_any]
    simp [Bool.or_assoc]
theorem stepA_nodup {k : Nat} {x : AS} {bq : Str × Int} (h : (x.1.map (·.1)).Nodup) : ((stepA k x bq).1.map (·.1)).Nodup := by
  unfold stepA
  split
  · exact h
  · rename_i hn
    rw [List.map_append, List.nodup_append]
    refine ⟨h, by simp, ?_⟩
    intro a ha b hb e
    simp at hb
    subst hb; subst e
    obtain ⟨p, hp, hpe⟩ := List.mem_map.mp ha
    exact hn (List.any_eq_true.mpr ⟨p, hp, by simp [hpe]⟩)
theorem rowA_nodup {k : Nat} : ∀ {bqs : List (Str × Int)} {x : AS}, (x.1.map (·.1)).Nodup → ((rowA k bqs x).1.map (·.1)).Nodup
  | [], _, h => h
  | _ :: r, _, h => rowA_nodup (bqs := r) (stepA_nodup h)
/-- a row's gain where these stood already -/
def gain (seen : Str → Bool) (z : Int) : List Str → Int
  | [b] => if seen b then 0 else colS z b
  | [b, b'] => (if seen b then 0 else colS z b) + (if seen b' then 0 else colS z b' - colS z b)
  | _ => 0
theorem set_self {l : List Int} {k : Nat} : l.set k (l.getD k 0 + 0) = l := by
  rw [Int.add_zero]
  apply List.ext_getElem
  · simp
  · intro i h1 h2
    rw [List.getElem_set]
    split
    · rename_i e; subst e; rw [List.getD_eq_getElem?_getD, List.getElem?_eq_getElem h2]; rfl
    · rfl
theorem row_pay {k : Nat} {bs : List Str} {z : Int} {x : AS} (hbs : bs ∈ allB) (hk : k < x.2.length) : (rowA k (bs.zip (prc z bs)) x).2 = x.2.set k (x.2.getD k 0 + gain (fun b => x.1.any (fun p => p.1 == b)) z bs) := by
  obtain ⟨hl, hnd, _⟩ := len_all bs hbs
  rcases hl with hl | hl
  · obtain ⟨b, rfl⟩ := List.length_eq_one_iff.mp hl
    show (stepA k x (b, colS z b)).2 = x.2.set k (x.2.getD k 0 + (if x.1.any (fun p => p.1 == b) then 0 else colS z b))
    unfold stepA
    show (if x.1.any (fun p => p.1 == b) then x else _).2 = _
    split
    · exact set_self.symm
    · rfl
  · obtain ⟨b, b', rfl⟩ := len_two hl
    have hd : (b == b') = false := by
      rw [beq_eq_false_iff_ne]; intro e; subst e; simp at hnd
    show (stepA k (stepA k x (b, colS z b)) (b', colS z b' - colS z b)).2 = _
    have e1 : (stepA k x (b, colS z b)).1.any (fun p => p.1 == b') = x.1.any (fun p => p.1 == b') := by rw [stepA_any]; simp only [hd, Bool.or_false]
    have e2 : (stepA k x (b, colS z b)).2 = x.2.set k (x.2.getD k 0 + (if x.1.any (fun p => p.1 == b) then 0 else colS z b)) := by
      unfold stepA
      show (if x.1.any (fun p => p.1 == b) then x else _).2 = _
      split
      · exact set_self.symm
      · rfl
    have e3 : (stepA k (stepA k x (b, colS z b)) (b', colS z b' - colS z b)).2 = (stepA k x (b, colS z b)).2.set k ((stepA k x (b, colS z b)).2.getD k 0 + (if x.1.any (fun p => p.1 == b') then 0 else colS z b' - colS z b)) := by
      rw [← e1]
      generalize stepA k x (b, colS z b) = y
      unfold stepA
      show (if y.1.any (fun p => p.1 == b') then y else _).2 = _
      split
      · exact set_self.symm
      · rfl
    rw [e3, e2, List.set_set]
    show _ = x.2.set k (x.2.getD k 0 + ((if x.1.any (fun p => p.1 == b) then 0 else colS z b) + (if x.1.any (fun p => p.1 == b') then 0 else colS z b' - colS z b)))
    congr 1
    rw [List.getD_eq_getElem?_getD, List.getElem?_set_self hk]
    simp only [Option.getD_some]
    omega
end
section
open PySem PySem.W PyProof.Rows PySem.Calls
def Wd (k : Nat) : Str := wds.getD k ⟨#[]⟩
def Up (u0 u1 u2 u3 : Bool) (k : Nat) : Bool := [u0, u1, u2, u3].getD k false
theorem wd_ne : ∀ a, a < 4 → ∀ b, b < 4 → a ≠ b → Wd a ≠ Wd b := by decide +kernel
theorem wd_ok (k : Nat) (h : k < 4) : okV (Wd k) = true ∧ PyData.strOk (Wd k) = true := by
  have : ∀ k, k < 4 → okV (Wd k) = true ∧ PyData.strOk (Wd k) = true := by decide +kernel
  exact this k h
section
variable {y0 y1 y2 y3 : List Str} {u0 u1 u2 u3 : Bool} {z : Int}
abbrev rw4 (y0 y1 y2 y3 : List Str) : Nat → List Str := rowOf y0 y1 y2 y3
theorem row_in (h0 : y0 ∈ allB) (h1 : y1 ∈ allB) (h2 : y2 ∈ allB) (h3 : y3 ∈ allB) {k : Nat} (hk : k < 4) : rowOf y0 y1 y2 y3 k ∈ allB := by
  match k, hk with
  | 0, _ => exact h0
  | 1, _ => exact h1
  | 2, _ => exact h2
  | 3, _ => exact h3
theorem row_NS {k : Nat} (hk : k < 4) : (DD y0 y1 y2 y3 u0 u1 u2 u3 z).NS.getD k [] = (rowOf y0 y1 y2 y3 k).map (nmF (Up u0 u1 u2 u3 k)) ∧ (DD y0 y1 y2 y3 u0 u1 u2 u3 z).PS.getD k [] = prc z (rowOf y0 y1 y2 y3 k) ∧ (DD y0 y1 y2 y3 u0 u1 u2 u3 z).wd k = Wd k := by
  match k, hk with
  | 0, _ => exact ⟨rfl, rfl, rfl⟩
  | 1, _ => exact ⟨rfl, rfl, rfl⟩
  | 2, _ => exact ⟨rfl, rfl, rfl⟩
  | 3, _ => exact ⟨rfl, rfl, rfl⟩
/-- stood it in these rows -/
def seen (y0 y1 y2 y3 : List Str) (R : List Nat) (b : Str) : Bool := R.any fun r => (rowOf y0 y1 y2 y3 r).contains b
structure XInv (y0 y1 y2 y3 : List Str) (R : List Nat) (x : AS) : Prop where
  mem : ∀ p ∈ x.1, p.2 ∈ R ∧ InB p.1
  any : ∀ b, x.1.any (fun p => p.1 == b) = seen y0 y1 y2 y3 R b
  nd : (x.1.map (·.1)).Nodup
theorem xinv_nil {pay : List Int} : XInv y0 y1 y2 y3 [] ([], pay) := ⟨(fun _ h => nomatch h), (fun _ => rfl), .nil⟩
theorem zip_fst {bs : List Str} (h : bs ∈ allB) : (bs.zip (prc z bs)).map (·.1) = bs := by
  obtain ⟨hl, _, _⟩ := len_all bs h
  rcases hl with hl | hl
  · obtain ⟨b, rfl⟩ := List.length_eq_one_iff.mp hl; rfl
  · obtain ⟨b, b', rfl⟩ := len_two hl; rfl
theorem contains_any (l : List Str) (b : Str) : l.any (· == b) = l.contains b := by
  induction l with
  | nil => rfl
  | cons a l ih => rw [List.any_cons, List.contains_cons, ih, Bool.beq_comm]
theorem xinv_step (h0 : y0 ∈ allB) (h1 : y1 ∈ allB) (h2 : y2 ∈ allB) (h3 : y3 ∈ allB) {R : List Nat} {x : AS} {k : Nat} (X : XInv y0 y1 y2 y3 R x) (hk : k < 4) (hR : k ∉ R) (hR4 : ∀ r ∈ R, r < 4) :
    stepK (DD y0 y1 y2 y3 u0 u1 u2 u3 z) (toPT Wd (Up u0 u1 u2 u3) x) (k : Int) = toPT Wd (Up u0 u1 u2 u3) (rowA k ((rowOf y0 y1 y2 y3 k).zip (prc z (rowOf y0 y1 y2 y3 k))) x) ∧
    XInv y0 y1 y2 y3 (R ++ [k]) (rowA k ((rowOf y0 y1 y2 y3 k).zip (prc z (rowOf y0 y1 y2 y3 k))) x) ∧
    (x.2.length = 4 → (rowA k ((rowOf y0 y1 y2 y3 k).zip (prc z (rowOf y0 y1 y2 y3 k))) x).2 = x.2.set k (x.2.getD k 0 + gain (seen y0 y1 y2 y3 R) z (rowOf y0 y1 y2 y3 k))) := by
  have hin := row_in h0 h1 h2 h3 hk
  obtain ⟨e1, e2, e3⟩ := row_NS (y0 := y0) (y1 := y1) (y2 := y2) (y3 := y3) (u0 := u0) (u1 := u1) (u2 := u2) (u3 := u3) (z := z) hk
  have hp := fun (hl : x.2.length = 4) => row_pay (k := k) (x := x) (z := z) hin (by rw [hl]; exact hk)
  have hf : (fun b => x.1.any (fun p => p.1 == b)) = seen y0 y1 y2 y3 R := funext X.any
  rw [hf] at hp
  refine ⟨row_rep hin e1 e2 e3 (fun p hp => (X.mem p hp).2) fun p hp => wd_ne _ (hR4 _ (X.mem p hp).1) _ hk fun e => hR (e ▸ (X.mem p hp).1), ⟨fun p hp => ?_, fun b => ?_, rowA_nodup X.nd⟩, hp⟩
  · rcases rowA_mem hp with hp | ⟨e, hp⟩
    · exact ⟨List.mem_append.mpr (.inl (X.mem p hp).1), (X.mem p hp).2⟩
    · rw [zip_fst hin] at hp
      exact ⟨List.mem_append.mpr (.inr (e ▸ .head _)), _, hin, hp⟩
  · rw [rowA_any, X.any, zip_fst hin, contains_any]
    unfold seen
    rw [List.any_append]
    simp
theorem rowA_pre {k : Nat} : ∀ {bqs : List (Str × Int)} {x : AS}, ∃ t, (rowA k bqs x).1 = x.1 ++ t
  | [], x => ⟨[], by simp [rowA]⟩
  | bq :: r, x => by
    obtain ⟨t, ht⟩ := rowA_pre (k := k) (bqs := r) (x := stepA k x bq)
    have : ∃ t', (stepA k x bq).1 = x.1 ++ t' := by
      unfold stepA
      split
      · exact ⟨[], by simp⟩
      · exact ⟨[(bq.1, k)], rfl⟩
    obtain ⟨t', ht'⟩ := this
    exact ⟨t' ++ t, by show (rowA k r (stepA k x bq)).1 = _; rw [ht, ht', List.append_assoc]⟩
/-- an order's state -/
theorem stO_is (h0 : y0 ∈ allB) (h1 : y1 ∈ allB) (h2 : y2 ∈ allB) (h3 : y3 ∈ allB) {a b c d : Nat} (h4 : ∀ r ∈ [a, b, c, d], r < 4) (hnd : [a, b, c, d].Nodup) {pay : List Int} :
    ∃ x : AS, stO (DD y0 y1 y2 y3 u0 u1 u2 u3 z) pay [(a : Int), (b : Int), (c : Int), (d : Int)] = toPT Wd (Up u0 u1 u2 u3) x ∧ XInv y0 y1 y2 y3 [a, b, c, d] x ∧
      (∃ t, x.1 = ((rowOf y0 y1 y2 y3 a).getD 0 ⟨#[]⟩, a) :: t) ∧
      (pay.length = 4 → ∃ p1 p2 p3, p1 = pay.set a (pay.getD a 0 + gain (seen y0 y1 y2 y3 []) z (rowOf y0 y1 y2 y3 a)) ∧ p2 = p1.set b (p1.getD b 0 + gain (seen y0 y1 y2 y3 [a]) z (rowOf y0 y1 y2 y3 b)) ∧ p3 = p2.set c (p2.getD c 0 + gain (seen y0 y1 y2 y3 [a, b]) z (rowOf y0 y1 y2 y3 c)) ∧ x.2 = p3.set d (p3.getD d 0 + gain (seen y0 y1 y2 y3 [a, b, c]) z (rowOf y0 y1 y2 y3 d))) := by
  simp only [List.nodup_cons, List.mem_cons, List.not_mem_nil, or_false, not_or, List.nodup_nil, and_true] at hnd
  obtain ⟨⟨n1, n2, n3⟩, ⟨n4, n5⟩, n6⟩ := hnd
  have m1 : ¬ b = a := fun e => n1 e.symm
  have m2 : ¬ c = a := fun e => n2 e.symm
  have m3 : ¬ d = a := fun e => n3 e.symm
  have m4 : ¬ c = b := fun e => n4 e.symm
  have m5 : ¬ d = b := fun e => n5 e.symm
  have m6 : ¬ d = c := fun e => n6.1 e.symm
  have ka := h4 a (by simp)
  have kb := h4 b (by simp)
  have kc := h4 c (by simp)
  have kd := h4 d (by simp)
  obtain ⟨s1, X1, q1⟩ := xinv_step (u0 := u0) (u1 := u1) (u2 := u2) (u3 := u3) (z := z) h0 h1 h2 h3 (xinv_nil (pay := pay)) ka (by simp) (by simp)
  obtain ⟨s2, X2, q2⟩ := xinv_step (u0 := u0) (u1 := u1) (u2 := u2) (u3 := u3) (z := z) h0 h1 h2 h3 X1 kb (by simp [m1]) (by simp [ka])
  obtain ⟨s3, X3, q3⟩ := xinv_step (u0 := u0) (u1 := u1) (u2 := u2) (u3 := u3) (z := z) h0 h1 h2 h3 X2 kc (by simp [m2, m4]) (by simp [ka, kb])
  obtain ⟨s4, X4, q4⟩ := xinv_step (u0 := u0) (u1 := u1) (u2 := u2) (u3 := u3) (z := z) h0 h1 h2 h3 X3 kd (by simp [m3, m5, m6]) (by simp [ka, kb, kc])
  refine ⟨_, ?_, X4, ?_, fun hl => ?_⟩
  · show stepK _ (stepK _ (stepK _ (stepK _ (toPT Wd (Up u0 u1 u2 u3) ([], pay)) (a : Int)) (b : Int)) (c : Int)) (d : Int) = _
    rw [s1, s2, s3, s4]
  · have hd : ∃ t, (rowA a ((rowOf y0 y1 y2 y3 a).zip (prc z (rowOf y0 y1 y2 y3 a))) ([], pay)).1 = ((rowOf y0 y1 y2 y3 a).getD 0 ⟨#[]⟩, a) :: t := by
      have hin := row_in h0 h1 h2 h3 ka
      obtain ⟨hl, _, _⟩ := len_all _ hin
      generalize rowOf y0 y1 y2 y3 a = bs at hl
      rcases hl with hl | hl
      · obtain ⟨b, rfl⟩ := List.length_eq_one_iff.mp hl; exact ⟨_, rfl⟩
      · obtain ⟨b, b', rfl⟩ := len_two hl
        obtain ⟨t, ht⟩ := rowA_pre (k := a) (bqs := [(b', colS z b' - colS z b)]) (x := stepA a ([], pay) (b, colS z b))
        exact ⟨t, ht⟩
    obtain ⟨t0, e0⟩ := hd
    obtain ⟨t1, e1⟩ := rowA_pre (k := b) (bqs := (rowOf y0 y1 y2 y3 b).zip (prc z (rowOf y0 y1 y2 y3 b))) (x := rowA a ((rowOf y0 y1 y2 y3 a).zip (prc z (rowOf y0 y1 y2 y3 a))) ([], pay))
    obtain ⟨t2, e2⟩ := rowA_pre (k := c) (bqs := (rowOf y0 y1 y2 y3 c).zip (prc z (rowOf y0 y1 y2 y3 c))) (x := rowA b ((rowOf y0 y1 y2 y3 b).zip (prc z (rowOf y0 y1 y2 y3 b))) (rowA a ((rowOf y0 y1 y2 y3 a).zip (prc z (rowOf y0 y1 y2 y3 a))) ([], pay)))
    obtain ⟨t3, e3⟩ := rowA_pre (k := d) (bqs := (rowOf y0 y1 y2 y3 d).zip (prc z (rowOf y0 y1 y2 y3 d))) (x := rowA c ((rowOf y0 y1 y2 y3 c).zip (prc z (rowOf y0 y1 y2 y3 c))) (rowA b ((rowOf y0 y1 y2 y3 b).zip (prc z (rowOf y0 y1 y2 y3 b))) (rowA a ((rowOf y0 y1 y2 y3 a).zip (prc z (rowOf y0 y1 y2 y3 a))) ([], pay))))
    exact ⟨t0 ++ t1 ++ t2 ++ t3, by rw [e3, e2, e1, e0]; rfl⟩
  · have r1 := q1 hl
    have r2 := q2 (by rw [r1, List.length_set]; exact hl)
    have r3 := q3 (by rw [r2, List.length_set, r1, List.length_set]; exact hl)
    have r4 := q4 (by rw [r3, List.length_set, r2, List.length_set, r1, List.length_set]; exact hl)
    exact ⟨_, _, _, r1, r2, r3, r4⟩
/-- what an order pays -/
def payF (g : List Nat → Nat → Int) (p : List Int) (o : Nat × Nat × Nat × Nat) : List Int :=
  let p1 := p.set o.1 (p.getD o.1 0 + g [] o.1)
  let p2 := p1.set o.2.1 (p1.getD o.2.1 0 + g [o.1] o.2.1)
  let p3 := p2.set o.2.2.1 (p2.getD o.2.2.1 0 + g [o.1, o.2.1] o.2.2.1)
  p3.set o.2.2.2 (p3.getD o.2.2.2 0 + g [o.1, o.2.1, o.2.2.1] o.2.2.2)
theorem payF_len {g : List Nat → Nat → Int} {p : List Int} {o : Nat × Nat × Nat × Nat} : (payF g p o).length = p.length := by
  unfold payF; simp only [List.length_set]
abbrev okO (o : Nat × Nat × Nat × Nat) : Prop := (∀ r ∈ [o.1, o.2.1, o.2.2.1, o.2.2.2], r < 4) ∧ [o.1, o.2.1, o.2.2.1, o.2.2.2].Nodup
abbrev intO (o : Nat × Nat × Nat × Nat) : List Int := [(o.1 : Int), (o.2.1 : Int), (o.2.2.1 : Int), (o.2.2.2 : Int)]
abbrev gainF (y0 y1 y2 y3 : List Str) (z : Int) (R : List Nat) (k : Nat) : Int := gain (seen y0 y1 y2 y3 R) z (rowOf y0 y1 y2 y3 k)
theorem ord_pay (h0 : y0 ∈ allB) (h1 : y1 ∈ allB) (h2 : y2 ∈ allB) (h3 : y3 ∈ allB) {o : Nat × Nat × Nat × Nat} (ho : okO o) {pay : List Int} (hl : pay.length = 4) :
    orderF (DD y0 y1 y2 y3 u0 u1 u2 u3 z) pay (intO o) = payF (gainF y0 y1 y2 y3 z) pay o := by
  obtain ⟨x, e, _, _, hq⟩ := stO_is (u0 := u0) (u1 := u1) (u2 := u2) (u3 := u3) (z := z) h0 h1 h2 h3 ho.1 ho.2 (pay := pay)
  obtain ⟨q1, q2, q3, e1, e2, e3, e4⟩ := hq hl
  show (stO _ _ _).2.2 = _
  rw [e]
  show x.2 = _
  subst e1; subst e2; subst e3
  exact e4
theorem fold_pay (h0 : y0 ∈ allB) (h1 : y1 ∈ allB) (h2 : y2 ∈ allB) (h3 : y3 ∈ allB) : ∀ (l : List (Nat × Nat × Nat × Nat)), (∀ o ∈ l, okO o) → ∀ {pay : List Int}, pay.length = 4 →
    (l.map intO).foldl (orderF (DD y0 y1 y2 y3 u0 u1 u2 u3 z)) pay = l.foldl (payF (gainF y0 y1 y2 y3 z)) pay
  | [], _, _, _ => rfl
  | o :: l, h, pay, hl => by
    show (l.map intO).foldl _ (orderF _ pay (intO o)) = l.foldl _ (payF _ pay o)
    rw [ord_pay h0 h1 h2 h3 (h o (.head _)) hl]
    exact fold_pay h0 h1 h2 h3 l (fun o ho => h o (.tail _ ho)) (payF_len.trans hl)
end
end
section
open PySem PySem.W PyProof.Rows PySem.Calls
section
variable {y0 y1 y2 y3 : List Str} {u0 u1 u2 u3 : Bool} {z : Int}
/-- whether a row has a block, as a number -/
def one (b : Bool) : Int := if b then 1 else 0
theorem filter_nodup {b : Str} : ∀ {l : List Str}, l.Nodup → ((l.filter (fun x => x == b)).length : Int) = one (l.contains b)
  | [], _ => rfl
  | a :: l, h => by
    have h' := List.nodup_cons.mp h
    have ih := filter_nodup (b := b) h'.2
    rw [List.filter_cons, List.contains_cons]
    cases e : (a == b) with
    | false =>
      have e' : (b == a) = false := by rw [Bool.beq_comm]; exact e
      simp only [Bool.false_eq_true, if_false, e', Bool.false_or]; exact ih
    | true =>
      have e' : (b == a) = true := by rw [Bool.beq_comm]; exact e
      have : b = a := beq_iff_eq.mp e'
      subst this
      have hn : l.contains b = false := by
        cases hc : l.contains b with
        | false => rfl
        | true => exact absurd (List.contains_iff_mem.mp hc) h'.1
      rw [hn] at ih
      simp only [if_true, List.length_cons, e', Bool.true_or]
      push_cast
      rw [ih]; rfl
theorem cnt_rows (h0 : y0 ∈ allB) (h1 : y1 ∈ allB) (h2 : y2 ∈ allB) (h3 : y3 ∈ allB) (b : Str) : cntF b [y0, y1, y2, y3].flatten = one (y0.contains b) + one (y1.contains b) + one (y2.contains b) + one (y3.contains b) := by
  unfold cntF
  simp only [List.flatten_cons, List.flatten_nil, List.append_nil, List.filter_append, List.length_append]
  push_cast
  rw [filter_nodup (len_all _ h0).2.1, filter_nodup (len_all _ h1).2.1, filter_nodup (len_all _ h2).2.1, filter_nodup (len_all _ h3).2.1]
  omega
/-- the orders, as naturals; who came ahead of a row -/
def ordN : List (Nat × Nat × Nat × Nat) := [(0, 1, 2, 3), (0, 2, 3, 1), (0, 3, 1, 2), (1, 0, 3, 2), (1, 2, 0, 3), (1, 3, 2, 0), (2, 0, 1, 3), (2, 1, 3, 0), (2, 3, 0, 1), (3, 0, 2, 1), (3, 1, 0, 2), (3, 2, 1, 0)]
def preN (r : Nat) (o : Nat × Nat × Nat × Nat) : List Nat := [o.1, o.2.1, o.2.2.1, o.2.2.2].takeWhile (· != r)
theorem ord_N : ORD = ordN.map intO := by decide +kernel
def cntR (Rs : List (List Nat)) (m : List Nat → Bool) : Int := Rs.foldl (fun t R => t + if m R then 0 else 1) 0
theorem pre0 : [0, 1, 2, 3].map (fun r => ordN.map (preN r)) = [[[], [], [], [1], [1, 2], [1, 3, 2], [2], [2, 1, 3], [2, 3], [3], [3, 1], [3, 2, 1]], [[0], [0, 2, 3], [0, 3], [], [], [], [2, 0], [2], [2, 3, 0], [3, 0, 2], [3], [3, 2]], [[0, 1], [0], [0, 3, 1], [1, 0, 3], [1], [1, 3], [], [], [], [3, 0], [3, 1, 0], [3]], [[0, 1, 2], [0, 2], [0], [1, 0], [1, 2, 0], [1], [2, 0, 1], [2, 1], [2], [], [], []]] := by decide +kernel
theorem pay_all (g : List Nat → Nat → Int) : ordN.foldl (payF g) [0, 0, 0, 0] = [0, 1, 2, 3].map (fun r => (ordN.map (preN r)).foldl (fun t R => t + g R r) 0) := by
  show _ = ([0, 1, 2, 3].zip ([0, 1, 2, 3].map (fun r => ordN.map (preN r)))).map (fun x => x.2.foldl (fun t R => t + g R x.1) 0)
  rw [pre0]
  have e0 : ∀ p0 p1 p2 p3 : Int, payF g [p0, p1, p2, p3] (0, 1, 2, 3) = [p0 + g [] 0, p1 + g [0] 1, p2 + g [0, 1] 2, p3 + g [0, 1, 2] 3] := fun _ _ _ _ => rfl
  have e1 : ∀ p0 p1 p2 p3 : Int, payF g [p0, p1, p2, p3] (0, 2, 3, 1) = [p0 + g [] 0, p1 + g [0, 2, 3] 1, p2 + g [0] 2, p3 + g [0, 2] 3] := fun _ _ _ _ => rfl
  have e2 : ∀ p0 p1 p2 p3 : Int, payF g [p0, p1, p2, p3] (0, 3, 1, 2) = [p0 + g [] 0, p1 + g [0, 3] 1, p2 + g [0, 3, 1] 2, p3 + g [0] 3] := fun _ _ _ _ => rfl
  have e3 : ∀ p0 p1 p2 p3 : Int, payF g [p0, p1, p2, p3] (1, 0, 3, 2) = [p0 + g [1] 0, p1 + g [] 1, p2 + g [1, 0, 3] 2, p3 + g [1, 0] 3] := fun _ _ _ _ => rfl
  have e4 : ∀ p0 p1 p2 p3 : Int, payF g [p0, p1, p2, p3] (1, 2, 0, 3) = [p0 + g [1, 2] 0, p1 + g [] 1, p2 + g [1] 2, p3 + g [1, 2, 0] 3] := fun _ _ _ _ => rfl
  have e5 : ∀ p0 p1 p2 p3 : Int, payF g [p0, p1, p2, p3] (1, 3, 2, 0) = [p0 + g [1, 3, 2] 0, p1 + g [] 1, p2 + g [1, 3] 2, p3 + g [1] 3] := fun _ _ _ _ => rfl
  have e6 : ∀ p0 p1 p2 p3 : Int, payF g [p0, p1, p2, p3] (2, 0, 1, 3) = [p0 + g [2] 0, p1 + g [2, 0] 1, p2 + g [] 2, p3 + g [2, 0, 1] 3] := fun _ _ _ _ => rfl
  have e7 : ∀ p0 p1 p2 p3 : Int, payF g [p0, p1, p2, p3] (2, 1, 3, 0) = [p0 + g [2, 1, 3] 0, p1 + g [2] 1, p2 + g [] 2, p3 + g [2, 1] 3] := fun _ _ _ _ => rfl
  have e8 : ∀ p0 p1 p2 p3 : Int, payF g [p0, p1, p2, p3] (2, 3, 0, 1) = [p0 + g [2, 3] 0, p1 + g [2, 3, 0] 1, p2 + g [] 2, p3 + g [2] 3] := fun _ _ _ _ => rfl
  have e9 : ∀ p0 p1 p2 p3 : Int, payF g [p0, p1, p2, p3] (3, 0, 2, 1) = [p0 + g [3] 0, p1 + g [3, 0, 2] 1, p2 + g [3, 0] 2, p3 + g [] 3] := fun _ _ _ _ => rfl
  have e10 : ∀ p0 p1 p2 p3 : Int, payF g [p0, p1, p2, p3] (3, 1, 0, 2) = [p0 + g [3, 1] 0, p1 + g [3] 1, p2 + g [3, 1, 0] 2, p3 + g [] 3] := fun _ _ _ _ => rfl
  have e11 : ∀ p0 p1 p2 p3 : Int, payF g [p0, p1, p2, p3] (3, 2, 1, 0) = [p0 + g [3, 2, 1] 0, p1 + g [3, 2] 1, p2 + g [3] 2, p3 + g [] 3] := fun _ _ _ _ => rfl
  simp only [ordN, List.foldl_cons, List.foldl_nil, e0, e1, e2, e3, e4, e5, e6, e7, e8, e9, e10, e11]
  rfl
theorem cnt_ok : ∀ m0 m1 m2 m3 : Bool, ∀ r, r < 4 → [m0, m1, m2, m3].getD r false = true → cntR (ordN.map (preN r)) (fun R => R.any (fun i => [m0, m1, m2, m3].getD i false)) = (12 : Int).fdiv (one m0 + one m1 + one m2 + one m3) := by decide +kernel
theorem row_contains (b : Str) : (fun i => (rowOf y0 y1 y2 y3 i).contains b) = (fun i => [y0.contains b, y1.contains b, y2.contains b, y3.contains b].getD i false) := by
  funext i
  match i with
  | 0 => rfl
  | 1 => rfl
  | 2 => rfl
  | 3 => rfl
  | _ + 4 => rfl
theorem sum_mul (m : List Nat → Bool) (q : Int) : ∀ (Rs : List (List Nat)) (t : Int), Rs.foldl (fun t R => t + if m R then 0 else q) (t * q) = (Rs.foldl (fun t R => t + if m R then 0 else 1) t) * q
  | [], _ => rfl
  | R :: Rs, t => by
    rw [List.foldl_cons, List.foldl_cons, ← sum_mul m q Rs, Int.add_mul]
    cases m R with
    | true => simp only [if_true, Int.zero_mul]
    | false => simp only [Bool.false_eq_true, if_false, Int.one_mul]
theorem sum_add (A B : List Nat → Int) : ∀ (Rs : List (List Nat)) (s t : Int), Rs.foldl (fun t R => t + (A R + B R)) (s + t) = Rs.foldl (fun t R => t + A R) s + Rs.foldl (fun t R => t + B R) t
  | [], _, _ => rfl
  | R :: Rs, s, t => by
    rw [List.foldl_cons, List.foldl_cons, List.foldl_cons, ← sum_add A B Rs]
    congr 1
    omega
theorem gain_sum {all : List Str} {y : List Str} (hy : y ∈ allB) {Rs : List (List Nat)} {s : List Nat → Str → Bool} (h : ∀ b ∈ y, cntR Rs (fun R => s R b) = (12 : Int).fdiv (cntF b all)) :
    Rs.foldl (fun t R => t + gain (s R) z y) 0 = shareF z all y := by
  have key : ∀ b ∈ y, ∀ q : Int, Rs.foldl (fun t R => t + if s R b then 0 else q) 0 = (12 : Int).fdiv (cntF b all) * q := fun b hb q => by
    rw [← h b hb]
    exact (congrArg (fun t0 => Rs.foldl (fun t R => t + if s R b then 0 else q) t0) (Int.zero_mul q).symm).trans (sum_mul (fun R => s R b) q Rs 0)
  obtain ⟨hl, _, _⟩ := len_all _ hy
  rcases hl with hl | hl
  · obtain ⟨b, rfl⟩ := List.length_eq_one_iff.mp hl
    refine (key b (.head _) (colS z b)).trans ?_
    show _ = 0 + (12 : Int).fdiv _ * (colS z b - 0)
    rw [Int.sub_zero, Int.zero_add]
  · obtain ⟨b, b', rfl⟩ := len_two hl
    refine (sum_add (fun R => if s R b then 0 else colS z b) (fun R => if s R b' then 0 else colS z b' - colS z b) Rs 0 0).trans ?_
    rw [key b (.head _), key b' (.tail _ (.head _))]
    show _ = 0 + (12 : Int).fdiv _ * (colS z b - 0) + (12 : Int).fdiv _ * (colS z b' - colS z b)
    rw [Int.sub_zero, Int.zero_add]
/-- what is paid is what each one's share is -/
theorem paid_shares (h0 : y0 ∈ allB) (h1 : y1 ∈ allB) (h2 : y2 ∈ allB) (h3 : y3 ∈ allB) : ORD.foldl (orderF (DD y0 y1 y2 y3 u0 u1 u2 u3 z)) [0, 0, 0, 0] = [y0, y1, y2, y3].map (shareF z [y0, y1, y2, y3].flatten) := by
  have key : ∀ r, r < 4 → (ordN.map (preN r)).foldl (fun t R => t + gainF y0 y1 y2 y3 z R r) 0 = shareF z [y0, y1, y2, y3].flatten (rowOf y0 y1 y2 y3 r) := fun r hr =>
    gain_sum (row_in h0 h1 h2 h3 hr) fun b hb => by
      have hc : (fun i => (rowOf y0 y1 y2 y3 i).contains b) r = true := List.contains_iff_mem.mpr hb
      unfold seen
      rw [cnt_rows h0 h1 h2 h3, row_contains]
      rw [row_contains] at hc
      exact cnt_ok _ _ _ _ r hr hc
  rw [ord_N, fold_pay h0 h1 h2 h3 ordN (by decide) rfl, pay_all]
  simp only [List.map_cons, List.map_nil]
  rw [key 0 (by decide), key 1 (by decide), key 2 (by decide), key 3 (by decide)]
  rfl
end
end
section
open PySem PySem.W PyProof.Rows PySem.Calls
section
variable {y0 y1 y2 y3 : List Str} {u0 u1 u2 u3 : Bool} {z : Int}
theorem ord_form {ord : List Int} (h : ord ∈ ORD) : ∃ a b c d : Nat, ord = [(a : Int), (b : Int), (c : Int), (d : Int)] ∧ (∀ r ∈ [a, b, c, d], r < 4) ∧ [a, b, c, d].Nodup ∧ ∀ r, r < 4 → r ∈ [a, b, c, d] := by
  simp only [ORD, List.mem_cons, List.not_mem_nil, or_false] at h
  rcases h with rfl | rfl | rfl | rfl | rfl | rfl | rfl | rfl | rfl | rfl | rfl | rfl
  · exact ⟨0, 1, 2, 3, rfl, by decide, by decide, by decide⟩
  · exact ⟨0, 2, 3, 1, rfl, by decide, by decide, by decide⟩
  · exact ⟨0, 3, 1, 2, rfl, by decide, by decide, by decide⟩
  · exact ⟨1, 0, 3, 2, rfl, by decide, by decide, by decide⟩
  · exact ⟨1, 2, 0, 3, rfl, by decide, by decide, by decide⟩
  · exact ⟨1, 3, 2, 0, rfl, by decide, by decide, by decide⟩
  · exact ⟨2, 0, 1, 3, rfl, by decide, by decide, by decide⟩
  · exact ⟨2, 1, 3, 0, rfl, by decide, by decide, by decide⟩
  · exact ⟨2, 3, 0, 1, rfl, by decide, by decide, by decide⟩
  · exact ⟨3, 0, 2, 1, rfl, by decide, by decide, by decide⟩
  · exact ⟨3, 1, 0, 2, rfl, by decide, by decide, by decide⟩
  · exact ⟨3, 2, 1, 0, rfl, by decide, by decide, by decide⟩
theorem okB_at {b : Str} (h : InB b) : okB b = true := by
  obtain ⟨bs, h1, h2⟩ := h
  exact ok_all bs h1 b h2
theorem okName_at {b : Str} (h : InB b) (u : Bool) : okName (nmF u b) = true := by
  have := okB_at h
  unfold okB at this
  simp only [Bool.and_eq_true, beq_iff_eq] at this
  cases u
  · exact this.1.1.2
  · exact this.1.1.1
theorem lk_low {b : Str} (h : InB b) : Txt.lower (lkB b) = lkB b := by
  have := okB_at h
  unfold okB at this
  simp only [Bool.and_eq_true, beq_iff_eq] at this
  exact this.2
theorem first_in {bs : List Str} (h : bs ∈ allB) : bs.getD 0 ⟨#[]⟩ ∈ bs := by
  obtain ⟨hl, _, _⟩ := len_all bs h
  rcases hl with hl | hl
  · obtain ⟨b, rfl⟩ := List.length_eq_one_iff.mp hl; exact .head _
  · obtain ⟨b, b', rfl⟩ := len_two hl; exact .head _
theorem mem_rows {r : Nat} (hr : r < 4) {b : Str} (h : b ∈ rowOf y0 y1 y2 y3 r) : b ∈ [y0, y1, y2, y3].flatten := by
  match r, hr with
  | 0, _ => exact List.mem_flatten.mpr ⟨y0, by simp, h⟩
  | 1, _ => exact List.mem_flatten.mpr ⟨y1, by simp, h⟩
  | 2, _ => exact List.mem_flatten.mpr ⟨y2, by simp, h⟩
  | 3, _ => exact List.mem_flatten.mpr ⟨y3, by simp, h⟩
theorem rows_mem {b : Str} (h : b ∈ [y0, y1, y2, y3].flatten) : ∃ r, r < 4 ∧ b ∈ rowOf y0 y1 y2 y3 r := by
  obtain ⟨bs, h1, h2⟩ := List.mem_flatten.mp h
  simp only [List.mem_cons, List.not_mem_nil, or_false] at h1
  rcases h1 with rfl | rfl | rfl | rfl
  · exact ⟨0, by decide, h2⟩
  · exact ⟨1, by decide, h2⟩
  · exact ⟨2, by decide, h2⟩
  · exact ⟨3, by decide, h2⟩
/-- all that the walk asks -/
theorem good_all (h0 : y0 ∈ allB) (h1 : y1 ∈ allB) (h2 : y2 ∈ allB) (h3 : y3 ∈ allB) {many : Int} (hmany : ∀ l : List Str, l.Nodup → (∀ b, b ∈ l ↔ b ∈ [y0, y1, y2, y3].flatten) → many = (l.length : Int)) : Good (DD y0 y1 y2 y3 u0 u1 u2 u3 z) many := by
  intro ord hord pay
  obtain ⟨a, b, c, d, rfl, h4, hnd, hall⟩ := ord_form hord
  obtain ⟨x, e, X, ⟨t, ht⟩, _⟩ := stO_is (u0 := u0) (u1 := u1) (u2 := u2) (u3 := u3) (z := z) h0 h1 h2 h3 h4 hnd (pay := pay)
  rw [e]
  have ha : a < 4 := h4 a (.head _)
  have hin := row_in h0 h1 h2 h3 ha
  obtain ⟨eN, _, eW⟩ := row_NS (y0 := y0) (y1 := y1) (y2 := y2) (y3 := y3) (u0 := u0) (u1 := u1) (u2 := u2) (u3 := u3) (z := z) ha
  have hb0 : InB ((rowOf y0 y1 y2 y3 a).getD 0 ⟨#[]⟩) := ⟨_, hin, first_in hin⟩
  have hk0 : k0O [(a : Int), (b : Int), (c : Int), (d : Int)] = a := rfl
  have hnm : (DD y0 y1 y2 y3 u0 u1 u2 u3 z).nm a 0 = nmF (Up u0 u1 u2 u3 a) ((rowOf y0 y1 y2 y3 a).getD 0 ⟨#[]⟩) := by
    unfold PD.nm
    rw [eN]
    obtain ⟨hl, _, _⟩ := len_all _ hin
    generalize rowOf y0 y1 y2 y3 a = bs at hl
    rcases hl with hl | hl
    · obtain ⟨b, rfl⟩ := List.length_eq_one_iff.mp hl; rfl
    · obtain ⟨b, b', rfl⟩ := len_two hl; rfl
  have hlow : Txt.lower ((DD y0 y1 y2 y3 u0 u1 u2 u3 z).nm a 0) = lkB ((rowOf y0 y1 y2 y3 a).getD 0 ⟨#[]⟩) := by rw [hnm]; exact low_nm hb0 _
  have hon : okName (nmF (Up u0 u1 u2 u3 a) ((rowOf y0 y1 y2 y3 a).getD 0 ⟨#[]⟩)) = true := okName_at hb0 _
  refine ⟨?_, ?_, rfl, ?_, ?_⟩
  · rw [hk0, hlow, lk_low hb0, eW]
    refine ⟨(nmF (Up u0 u1 u2 u3 a) ((rowOf y0 y1 y2 y3 a).getD 0 ⟨#[]⟩), Wd a), ?_, rfl⟩
    show ((toPT Wd (Up u0 u1 u2 u3) x).1 ++ _).find? _ = _
    unfold toPT
    rw [ht]
    show List.find? _ ((nmF (Up u0 u1 u2 u3 a) ((rowOf y0 y1 y2 y3 a).getD 0 ⟨#[]⟩), Wd a) :: _) = _
    rw [List.find?_cons, low_nm hb0, beq_self_eq_true]
  · rw [hmany (x.1.map (·.1)) X.nd ?_]
    · show ((x.1.map (·.1)).length : Int) = ((x.1.map _).length : Int)
      rw [List.length_map, List.length_map]
    · intro b'
      have hx := X.any b'
      constructor
      · intro hm
        obtain ⟨p, hp, rfl⟩ := List.mem_map.mp hm
        have h1' : x.1.any (fun q => q.1 == p.1) = true := List.any_eq_true.mpr ⟨p, hp, beq_self_eq_true _⟩
        rw [hx] at h1'
        obtain ⟨r, hr, hc⟩ := List.any_eq_true.mp h1'
        exact mem_rows (h4 r hr) (List.contains_iff_mem.mp hc)
      · intro hm
        obtain ⟨r, hr, hc⟩ := rows_mem hm
        have h1' : seen y0 y1 y2 y3 [a, b, c, d] b' = true := List.any_eq_true.mpr ⟨r, hall r hr, List.contains_iff_mem.mpr hc⟩
        rw [← hx] at h1'
        obtain ⟨p, hp, he⟩ := List.any_eq_true.mp h1'
        exact List.mem_map.mpr ⟨p, hp, beq_iff_eq.mp he⟩
  · intro q hq
    obtain ⟨p, hp, rfl⟩ := List.mem_map.mp hq
    obtain ⟨h5, h6⟩ := X.mem p hp
    have := okName_at h6 (Up u0 u1 u2 u3 p.2)
    unfold okName at this
    simp only [Bool.and_eq_true] at this
    exact ⟨this.1.2, (wd_ok _ (h4 _ h5)).2⟩
  · rw [hk0, hnm]
    unfold okName at hon
    simp only [Bool.and_eq_true] at hon
    exact hon.2
end
end
section
open PySem PySem.W PyProof.Rows PySem.Calls
section
variable {prog : Program} {w : World} {A : Around} {E : Value → Shared → Prop} {s : Shared} {h₀ : Heap} {L : Addr} {m : Str → Option Value} {env : Env}
variable {elt iter : Expr} {x : Str} {px : Pos} {scope : Scope} {cl : List (Str × Addr)} {pos : Pos}
abbrev oneE (elt iter : Expr) (x : Str) (px : Pos) (scope : Scope) (pos : Pos) : Expr := .ListComp elt [⟨.Name x px, iter, [], 0⟩] scope pos
theorem one_turn (it acc : Value) (e : Env) : compTurn (oneE elt iter x px scope pos) 0 it acc e = (standAt iter.pos >>= fun _ => pyNext it >>= fun r => match r with
      | none => pure (.done .next)
      | some v => letOwnedTupleGo (.Name x px) it v >>= fun _ => assign (.Name x px) e v >>= fun _ =>
        (eval elt e >>= fun u => call (.builtin "list.append") [acc, u] >>= fun _ => pure ()) >>= fun _ =>
          again (.compLoop (oneE elt iter x px scope pos) 0 it acc e)) := by rfl
/-- what a comprehension over a list of any length leans on: J says of the values, of what they have made and of the tokens -/
structure CompT (prog : Program) (w : World) (A : Around) (h₀ : Heap) (L : Addr) (m : Str → Option Value) (env : Env) (elt : Expr) (x : Str) (scope : Scope) (cl : List (Str × Addr)) (me : Addr → Str → Option Value) (Q : Value → Shared → Prop) (xv : Value) (s : Shared) : Prop where
  go : ∃ (L0 : Addr) (its : List Value) (news : List (Addr × Obj)) (J : Nat → List Value → List (Addr × Obj) → Nat → Prop), xv = .ref L0 ∧ A.handled = none ∧ Fr h₀ L s.heap m ∧ News h₀ L s.heap news ∧ s.heap.IsList L0 its.toArray ∧ its.length ≤ 1000 ∧ J 0 [] [] s.toks ∧ (∀ i ys mk t t', t ≤ t' → J i ys mk t → J i ys mk t') ∧
    (∀ i v I oI C oC D m₂ h (tk : Nat) ys mk (E' : Value → Shared → Prop), its[i]? = some v → J i ys mk tk → LCg.NsObj oC m₂ → m₂ x = some v → Kept s.heap h → Fr h₀ L h m → News h₀ L h ((I, oI) :: (C, oC) :: (D, LCg.lst ys) :: (mk ++ news)) →
      wpAny (model prog w) A (eval elt (compEnvC scope cl C env)) (fun y s' => ∃ h' tk' mk', s' = { s with heap := h', toks := tk' } ∧ Kept h h' ∧ (∀ p ∈ mk', h.get? p.1 = none ∧ h'.get? p.1 = some p.2) ∧ J (i + 1) (ys ++ [y]) (mk ++ mk') tk') E' { s with heap := h, toks := tk }) ∧
    (∀ D ys mk h (tk : Nat), J its.length ys mk tk → Fr h₀ L h (me D) → News h₀ L h ((D, LCg.lst ys) :: (mk ++ news)) → s.heap.get? D = none → (∀ p ∈ mk, s.heap.get? p.1 = none) → Q (.ref D) { s with heap := h, toks := tk })
theorem comp_T {me : Addr → Str → Option Value} {Q Q' : Value → Shared → Prop} {use : Option (Value → Sem Unit)} {xv : Value} {s₁ : Shared} (hcell : ∀ y ∈ scope.names, y.2 ≠ .cell) (hkind : scope.kind = .function) (hx : scope.names.lookup x = some .local)
    (h₁ : CompT prog w A h₀ L m env elt x scope cl me Q xv s₁)
    (hend : ∀ (news : List (Addr × Obj)) (D C : Addr) ys (mk : List (Addr × Obj)) h₂ tk m', Fr h₀ L s₁.heap m → News h₀ L s₁.heap news → Kept s₁.heap h₂ → h₂.get? D = some (LCg.lst ys) → (∀ p ∈ mk, h₂.get? p.1 = some p.2 ∧ s₁.heap.get? p.1 = none ∧ p.1 ≠ C) → h₂.Ns C m' → D ≠ C → s₁.heap.get? D = none → s₁.heap.get? C = none →
      (∀ h'' tk', tk ≤ tk' → Fr h₀ L h'' (me D) → News h₀ L h'' ((D, LCg.lst ys) :: (mk ++ news)) → Q (.ref D) { s₁ with heap := h'', toks := tk' }) → compPost (model prog w) A E use Q' (.ref D) C (.ok .next) { s₁ with heap := h₂, toks := tk }) :
    wpAny (model prog w) A (pyIter xv) (fun it s₂ => wpAny (model prog w) A (newList []) (fun acc s₃ => wpAny (model prog w) A (newFunctionEnv scope env.globals cl [] env.qual none .none (some env)) (fun cenv s₄ =>
      codeAny (model prog w) A (.compStart (oneE elt iter x px scope pos) 0 it acc { cenv with scope := relabel scope env }) (compPost (model prog w) A E use Q' acc cenv.locals) s₄) E s₃) E s₂) E s₁ := by
  obtain ⟨L0, its, news, J, rfl, hh, F, N, hl, hsz, hJ0, hJm, el, fin⟩ := h₁.go
  refine wpAny_pyIter_list hl ?_
  refine wpAny_newObj_type ?_ (by show ([] : List Value).toArray.size ≤ sizeLine; exact Nat.zero_le _)
  refine wpAny_newFunctionEnv hcell (by intro z hz; cases hz) (fun h₁ hns₁ hsb₁ => ?_) hkind
  dsimp only at hns₁ hsb₁ ⊢
  generalize hH1 : s₁.heap.push { cls := .type "list_iterator", data := .fields #[.ref L0, .int 0 0] } = H1 at hns₁ hsb₁ ⊢
  generalize hH2 : H1.push { cls := .type "list", dict := none, data := .seq ([] : List Value).toArray } = H2 at hns₁ hsb₁ ⊢
  have z1 : H1.objs.size = s₁.heap.objs.size + 1 := by rw [← hH1, Heap.size_push]
  have z2 : H2.objs.size = s₁.heap.objs.size + 2 := by rw [← hH2, Heap.size_push, z1]
  have fresh : ∀ a, s₁.heap.objs.size ≤ a → s₁.heap.get? a = none := fun a ha => by
    cases e : s₁.heap.get? a with
    | none => rfl
    | some o' => exact absurd (Heap.lt_size e) (Nat.not_lt.mpr ha)
  generalize hI : s₁.heap.objs.size = I at *
  generalize hD : H1.objs.size = D at *
  generalize hC : H2.objs.size = C at *
  have hIC : I ≠ C := by refine neN ?_; omega
  have hID : I ≠ D := by refine neN ?_; omega
  have hDC : D ≠ C := by refine neN ?_; omega
  have hI0 : s₁.heap.get? I = none := fresh _ (Nat.le_refl _)
  have hD0 : s₁.heap.get? D = none := fresh _ (by rw [z1]; exact Nat.le_succ _)
  have hC0 : s₁.heap.get? C = none := fresh _ (by rw [z2]; exact Nat.le_add_right _ _)
  have old2 : ∀ b o, s₁.heap.get? b = some o → H2.get? b = some o := fun b o e => hH2 ▸ Heap.get?_push_of_some _ (hH1 ▸ Heap.get?_push_of_some _ e)
  have keep1 : Kept s₁.heap h₁ := fun b o e => hsb₁.extBut b o (fun q => by rw [q, hC0] at e; cases e) (Heap.get?_push_of_some _ (old2 b o e))
  have itI : H1.get? I = some { cls := .type "list_iterator", data := .fields #[.ref L0, .int 0 0] } := by rw [← hH1, ← hI]; exact Heap.get?_push_size _ rfl
  have hit₁ : h₁.IsListIter I L0 0 := ⟨_, hsb₁.extBut _ _ hIC (Heap.get?_push_of_some _ (hH2 ▸ Heap.get?_push_of_some _ itI)), rfl, rfl⟩
  have lsD : H2.get? D = some (LCg.lst []) := by rw [← hH2, ← hD]; exact Heap.get?_push_size _ rfl
  have hD₁ : h₁.get? D = some (LCg.lst []) := hsb₁.extBut _ _ hDC (Heap.get?_push_of_some _ lsD)
  have none₀ : ∀ a, s₁.heap.get? a = none → h₀.get? a = none := fun a ha => by
    cases e : h₀.get? a with
    | none => rfl
    | some o' => rw [F.keep a o' e] at ha; cases ha
  obtain ⟨oL, _, _, hoL, _⟩ := F.ns
  have neL : ∀ a, s₁.heap.get? a = none → a ≠ L := fun a ha e => by rw [e, hoL] at ha; cases ha
  obtain ⟨oR, hoR, _⟩ := id hl
  have loop : ∀ s₃ : Shared, s₃ = { s₁ with heap := h₁, toks := s₁.toks + ([] : List (Str × Value)).length } →
      codeAny (model prog w) A (.compLoop (oneE elt iter x px scope pos) 0 (.ref I) (.ref D) (compEnvC scope cl C env)) (compPost (model prog w) A E use Q' (.ref D) C) s₃ := by
    rintro s₃ rfl
    refine codeAny_loop rfl (fun k s' => ∃ h' tk i ys mk, s' = { s₁ with heap := h', toks := tk } ∧ i ≤ its.length ∧ k = its.length + 1 - i ∧ h'.IsListIter I L0 i ∧ h'.get? D = some (LCg.lst ys) ∧ ys.length = i ∧ (∃ m', h'.Ns C m') ∧ Kept s₁.heap h' ∧
      (∀ p ∈ mk, h'.get? p.1 = some p.2 ∧ s₁.heap.get? p.1 = none ∧ p.1 ≠ I ∧ p.1 ≠ D ∧ p.1 ≠ C) ∧ J i ys mk tk) ?_ (its.length + 1) ⟨h₁, _, 0, [], [], rfl, Nat.zero_le _, rfl, hit₁, hD₁, rfl, ⟨_, hns₁⟩, keep1, (fun _ h => nomatch h), hJ0⟩
    rintro k s' ⟨h', tk, i, ys, mk, rfl, hi, rfl, hit', hD', hyl, ⟨m', hn'⟩, hk', hmk, hJ⟩
    show wpAny _ A ((compTurn (oneE elt iter x px scope pos) 0 (.ref I) (.ref D) _).onRaise (fun x => do noteFrame x _; theTreesLotGoes x)) _ _ _
    refine wpAny_noted ?_
    rw [one_turn]
    have hr' : h'.IsList L0 its.toArray := hl.at fun o e => hk' _ o e
    refine wpAny_bind (wpAny_standAt (wpAny_bind ?_))
    by_cases hlt : i < its.length
    · refine wpAny_pyNext_list_item hit' hr' (x := its[i]) (by simp [hlt]) fun h₂ hit₂ hs₂ => ?_
      refine wpAny_bind (wpAny_of_eq (a := ()) rfl ?_)
      have hn₂ := hn'.sameBut hs₂ (Ne.symm hIC)
      refine wpAny_bind (wpAny_assign_Name (wpAny_storeName_local (lookup_relabel_local hx) hn₂ (fun h₃ hn₃ hs₃ => ?_) (by simp [compEnvC, relabel, hkind])))
      have but : ∀ b o, b ≠ I → b ≠ C → h'.get? b = some o → h₃.get? b = some o := fun b o b1 b2 e => hs₃.extBut b o b2 (hs₂.extBut b o b1 e)
      have k3 : Kept s₁.heap h₃ := fun b o e => but b o (fun q => by rw [q, hI0] at e; cases e) (fun q => by rw [q, hC0] at e; cases e) (hk' b o e)
      have F₃ : Fr h₀ L h₃ m := fr_kept F k3
      obtain ⟨oC, heC', hoC⟩ := LCg.ns_obj hn₃
      have heC : h₃.get? C = some oC := heC'
      have hit₃ : h₃.IsListIter I L0 (i + 1) := hit₂.extBut hs₃.extBut hIC
      obtain ⟨oI, heI, _⟩ := id hit₃
      have zD3 : h₃.get? D = some (LCg.lst ys) := but D _ (Ne.symm hID) hDC hD'
      have mk3 : ∀ p ∈ mk, h₃.get? p.1 = some p.2 := fun p hp => but _ _ (hmk p hp).2.2.1 (hmk p hp).2.2.2.2 (hmk p hp).1
      have N₃ : News h₀ L h₃ ((I, oI) :: (C, oC) :: (D, LCg.lst ys) :: (mk ++ news)) := fun p hp => by
        rcases List.mem_cons.mp hp with rfl | hp
        · exact ⟨heI, neL _ hI0, none₀ _ hI0⟩
        · rcases List.mem_cons.mp hp with rfl | hp
          · exact ⟨heC, neL _ hC0, none₀ _ hC0⟩
          · rcases List.mem_cons.mp hp with rfl | hp
            · exact ⟨zD3, neL _ hD0, none₀ _ hD0⟩
            · rcases List.mem_append.mp hp with hp | hp
              · exact ⟨mk3 p hp, neL _ (hmk p hp).2.1, none₀ _ (hmk p hp).2.1⟩
              · exact news_kept N k3 p hp
      refine wpAny_bind (wpAny_bind (wpAny_mono (el i its[i] I oI C oC D _ h₃ _ ys mk _ (List.getElem?_eq_getElem hlt) (hJm _ _ _ _ _ ?_ hJ) hoC (by simp) k3 F₃ N₃) (fun y s₄ hy => ?_) fun _ _ e => e))
      · first | exact Nat.le_refl _ | exact Nat.le_succ _ | omega
      obtain ⟨h₄, tk₄, mk', rfl, k4, hmk', hJ4⟩ := hy
      have zD := k4 _ _ zD3
      refine wpAny_bind (append_at (hsz := by show ys.toArray.size ≤ sizeLine; rw [List.size_toArray, hyl, sizeLine_eq]; omega) zD fun h₅ hs₅ hD₅ => ?_)
      have k5 : ∀ b o, b ≠ D → h₄.get? b = some o → h₅.get? b = some o := fun b o b1 e => hs₅.extBut b o b1 e
      refine wpAny_pure (wpAny_pure ⟨rfl, its.length + 1 - (i + 1), by omega, h₅, tk₄, i + 1, ys ++ [y], mk ++ mk', rfl, hlt, rfl, ?_, ?_, ?_, ?_, ?_, ?_, hJ4⟩)
      · exact hit₃.at fun o e => k5 _ o hID (k4 _ _ e)
      · exact hD₅.trans (congrArg some (LCg.lst_snoc ys y))
      · rw [List.length_append, List.length_singleton, hyl]
      · exact ⟨_, (hoC.ns (k4 _ _ heC)).sameBut hs₅ (Ne.symm hDC)⟩
      · exact fun b o e => k5 b o (fun q => by rw [q, hD0] at e; cases e) (k4 _ _ (k3 b o e))
      · intro p hp
        rcases List.mem_append.mp hp with hp | hp
        · exact ⟨k5 _ _ (hmk p hp).2.2.2.1 (k4 _ _ (mk3 p hp)), (hmk p hp).2⟩
        · obtain ⟨a1, a2⟩ := hmk' p hp
          have nI : p.1 ≠ I := fun q => by rw [q, heI] at a1; cases a1
          have nD : p.1 ≠ D := fun q => by rw [q, zD3] at a1; cases a1
          have nC : p.1 ≠ C := fun q => by rw [q, heC] at a1; cases a1
          refine ⟨k5 _ _ nD a2, ?_, nI, nD, nC⟩
          cases e : s₁.heap.get? p.1 with
          | none => rfl
          | some o' => rw [k3 _ _ e] at a1; cases a1
    · obtain rfl : i = its.length := Nat.le_antisymm hi (Nat.not_lt.mp hlt)
      refine wpAny_pyNext_list_end hh hit' hr' (by simp) fun h₂ he₂ => ?_
      have k2 : Kept s₁.heap h₂ := fun b o e => he₂ b o (fun q => by rw [q, hI0] at e; cases e) (hk' b o e)
      refine wpAny_pure (hend news D C ys mk h₂ _ m' F N k2 (he₂ _ _ (Ne.symm hID) hD') (fun p hp => ⟨he₂ _ _ (hmk p hp).2.2.1 (hmk p hp).1, (hmk p hp).2.1, (hmk p hp).2.2.2.2⟩) (hn'.extBut he₂ (Ne.symm hIC)) hDC hD0 hC0 fun h'' tk' hle F'' N'' => fin D ys mk h'' tk' (hJm _ _ _ _ _ (Nat.le_trans ?_ hle) hJ) F'' N'' hD0 (fun p hp => (hmk p hp).2.1))
      first | exact Nat.le_refl _ | exact Nat.le_succ _ | omega
  exact codeAny_compStart_list (loop _ rfl) (wpAny_pyIter_listiter hit₁ (loop _ rfl))
theorem eval_T {Q : Value → Shared → Prop} (_F₀ : Fr h₀ L s.heap m) (hclos : closureFor scope env = pure cl) (hcell : ∀ y ∈ scope.names, y.2 ≠ .cell) (hkind : scope.kind = .function)
    (hnames : ∀ y ∈ scope.names, y.2 = .local → scope.names.lookup y.1 = some .local) (hx : scope.names.lookup x = some .local)
    (h : wpAny (model prog w) A (eval iter env) (CompT prog w A h₀ L m env elt x scope cl (fun _ => m) Q) E s)
    (hs : ∀ x, foldedSetIterable iter env x = pure x := by intro _; rfl) :
    wpAny (model prog w) A (eval (oneE elt iter x px scope pos) env) Q E s := by
  rw [eval_ListComp]
  refine wpAny_comprehension_free (use := none) rfl hs hclos hkind hnames (wpAny_mono h (fun xv s₁ h₁ => comp_T hcell hkind hx h₁ ?_) fun _ _ e => e)
  intro news D C ys mk h₂ tk m' F N k2 hD hmk hn hDC hD0 hC0 fin
  refine ⟨m', hn, fun h'' hs'' => ?_⟩
  have hCL : C ≠ L := fun q => by obtain ⟨o, _, _, e, _⟩ := F.ns; rw [q, e] at hC0; cases hC0
  have none₀ : ∀ a, s₁.heap.get? a = none → h₀.get? a = none := fun a ha => by
    cases e : h₀.get? a with
    | none => rfl
    | some o' => rw [F.keep a o' e] at ha; cases ha
  have neL : ∀ a, s₁.heap.get? a = none → a ≠ L := fun a ha e => by obtain ⟨o, _, _, e', _⟩ := F.ns; rw [e, e'] at ha; cases ha
  have k'' : Kept s₁.heap h'' := fun b o e => hs''.extBut b o (fun q => by rw [q, hC0] at e; cases e) (k2 b o e)
  refine fin h'' tk (Nat.le_refl _) (fr_kept F k'') fun p hp => ?_
  rcases List.mem_cons.mp hp with rfl | hp
  · exact ⟨hs''.extBut _ _ hDC hD, neL _ hD0, none₀ _ hD0⟩
  · rcases List.mem_append.mp hp with hp | hp
    · obtain ⟨a1, a2, a5⟩ := hmk p hp
      exact ⟨hs''.extBut _ _ a5 a1, neL _ a2, none₀ _ a2⟩
    · exact news_kept N k'' p hp
/-- it bound to a name of the frame's -/
theorem assign_T {Q : Flow → Shared → Prop} {v : Str} {pv spos : Pos} (_F₀ : Fr h₀ L s.heap m) (hLe : env.locals = L) (hclos : closureFor scope env = pure cl) (hcell : ∀ y ∈ scope.names, y.2 ≠ .cell) (hkind : scope.kind = .function)
    (hnames : ∀ y ∈ scope.names, y.2 = .local → scope.names.lookup y.1 = some .local) (hx : scope.names.lookup x = some .local)
    (hsw : swapsWith (oneE elt iter x px scope pos) (some (.Name v pv)) spos.line env = pure true) (hv : env.kindOf v = some .local) (hp : (env.scope.kind == .class || (env.scope.kind == .module && env.locals != env.globals)) = false)
    (h : wpAny (model prog w) A (eval iter env) (CompT prog w A h₀ L m env elt x scope cl (fun D z => if z = v then some (.ref D) else m z) (fun _ s' => Q .next s')) E s)
    (hs : ∀ x, foldedSetIterable iter env x = pure x := by intro _; rfl) :
    wpAny (model prog w) A (exec (.Assign [.Name v pv] (oneE elt iter x px scope pos) spos) env) Q E s := by
  subst hLe
  rw [exec_Assign_Name_used _ _ _ _ hsw]
  refine wpAny_bind (wpAny_standAt (wpAny_bind ?_))
  show wpAny _ A (do let _ ← comprehension (oneE elt iter x px scope pos) scope env _ (newList []) false (eval iter env) (some (assign (.Name v pv) env))) _ _ s
  refine wpAny_bind (wpAny_mono (wpAny_comprehension_free (use := some (assign (.Name v pv) env)) (Q := fun _ s' => Q .next s') rfl hs hclos hkind hnames
    (wpAny_mono h (fun xv s₁ h₁ => comp_T hcell hkind hx h₁ ?_) fun _ _ e => e)) (fun _ s' hq => wpAny_pure (wpAny_pure hq)) fun _ _ e => e)
  intro news D C ys mk h₂ tk m' F N k2 hD hmk hn hDC hD0 hC0 fin
  have hCL : C ≠ env.locals := fun q => by obtain ⟨o, _, _, e, _⟩ := F.ns; rw [q, e] at hC0; cases hC0
  have none₀ : ∀ a, s₁.heap.get? a = none → h₀.get? a = none := fun a ha => by
    cases e : h₀.get? a with
    | none => rfl
    | some o' => rw [F.keep a o' e] at ha; cases ha
  have neL : ∀ a, s₁.heap.get? a = none → a ≠ env.locals := fun a ha e => by obtain ⟨o, _, _, e', _⟩ := F.ns; rw [e, e'] at ha; cases ha
  show wpAny _ A (assign (.Name v pv) env (.ref D)) _ _ _
  refine wpAny_assign_Name (wpAny_storeName_local hv (fr_kept F k2).ns (fun h₃ hn₃ hs₃ => ⟨m', hn.sameBut hs₃ hCL, fun h'' (hs'' : Heap.SameBut C h₃ h'') => ?_⟩) hp)
  have keep3 : ∀ b o, b ≠ env.locals → b ≠ C → h₂.get? b = some o → h''.get? b = some o := fun b o b1 b2 e => hs''.extBut b o b2 (hs₃.extBut b o b1 e)
  refine fin h'' (tk + 1) (Nat.le_succ _) ⟨hn₃.sameBut hs'' (Ne.symm hCL), fun b o e => keep3 b o (fun q => Nat.ne_of_lt (Nat.lt_of_lt_of_le (Heap.lt_size e) F.above) q) (fun q => by rw [q, none₀ _ hC0] at e; cases e) (k2 b o (F.keep b o e)), F.above⟩ fun p hp => ?_
  rcases List.mem_cons.mp hp with rfl | hp
  · exact ⟨keep3 _ _ (neL _ hD0) hDC hD, neL _ hD0, none₀ _ hD0⟩
  · rcases List.mem_append.mp hp with hp | hp
    · obtain ⟨a1, a2, a5⟩ := hmk p hp
      exact ⟨keep3 _ _ (neL _ a2) a5 a1, neL _ a2, none₀ _ a2⟩
    · obtain ⟨n1, n2, n3⟩ := N p hp
      exact ⟨keep3 _ _ n2 (fun q => by rw [q, hC0] at n1; cases n1) (k2 _ _ n1), n2, n3⟩
end
end
section
open PySem PySem.W PyProof.Rows PySem.Calls
/-- a row's list -/
structure BR where
  a : Addr
  vs : List Value
  n : Nat
abbrev brVs (rs : List BR) : List Value := rs.map fun r => .ref r.a
abbrev brObjs (rs : List BR) : List (Addr × Obj) := rs.map fun r => (r.a, listOf r.vs.toArray r.n)
theorem Ups.raise {lo hi hi' : Nat} {vs : List Value} {ys : List Str} (h : Ups lo hi vs ys) (hh : hi ≤ hi') : Ups lo hi' vs ys := by
  induction h with
  | nil h => exact .nil (by omega)
  | cons y t h1 _ ih => exact .cons y t h1 (ih hh)
/-- rows, so far -/
structure RowsJ (cs : List Int) (i : Nat) (ys : List Value) (mk : List (Addr × Obj)) (t : Nat) : Prop where
  go : ∃ rs : List BR, ys = brVs rs ∧ mk = brObjs rs ∧ rs.length = i ∧ Ups 1 (t + 1) (rs.map (·.vs)).flatten ((cs.take i).map blk).flatten ∧ ∀ (j : Nat) (r : BR) (c : Int), rs[j]? = some r → cs[j]? = some c → TextsAre r.vs (blk c)
theorem rowsJ_nil {cs : List Int} {t : Nat} : RowsJ cs 0 [] [] t := ⟨[], rfl, rfl, rfl, .nil (by omega), fun _ _ _ h => nomatch h⟩
theorem rowsJ_mono {cs : List Int} : ∀ i ys mk t t', t ≤ t' → RowsJ cs i ys mk t → RowsJ cs i ys mk t' := by
  rintro i ys mk t t' h ⟨rs, h1, h2, h3, h4, h5⟩
  exact ⟨rs, h1, h2, h3, h4.raise (by omega), h5⟩
theorem rowsJ_step {cs : List Int} {i : Nat} {ys : List Value} {mk : List (Addr × Obj)} {t t1 t2 : Nat} {c : Int} {D : Addr} {vs : List Value} {n : Nat} (h : RowsJ cs i ys mk t) (hc : cs[i]? = some c) (ht : t ≤ t1) (hu : Ups (t1 + 1) t2 vs (blk c)) :
    RowsJ cs (i + 1) (ys ++ [.ref D]) (mk ++ [(D, listOf vs.toArray n)]) t2 := by
  obtain ⟨rs, rfl, rfl, rfl, h4, h5⟩ := h
  refine ⟨rs ++ [⟨D, vs, n⟩], by rw [brVs, brVs, List.map_append]; rfl, by rw [brObjs, brObjs, List.map_append]; rfl, by simp, ?_, ?_⟩
  · rw [List.map_append, List.flatten_append, List.take_add_one, hc, List.map_append, List.flatten_append]
    have z := (h4.append (hu.lower (by omega : t + 1 ≤ t1 + 1))).raise (by omega : t2 ≤ t2 + 1)
    simpa using z
  · intro j r c' hr hc'
    by_cases hj : j < rs.length
    · rw [List.getElem?_append_left hj] at hr
      exact h5 j r c' hr hc'
    · have hj' : j = rs.length := by
        have := (List.getElem?_eq_some_iff.mp hr).1
        rw [List.length_append, List.length_singleton] at this
        omega
      subst hj'
      rw [List.getElem?_append_right (Nat.le_refl _), Nat.sub_self] at hr
      injection hr with hr
      subst hr
      rw [hc] at hc'
      injection hc' with hc'
      subst hc'
      exact hu.texts (by omega)
theorem rowsJ_fin {cs : List Int} {n : Nat} {ys : List Value} {mk : List (Addr × Obj)} {t : Nat} (h : RowsJ cs n ys mk t) (hn : n = cs.length) :
    ∃ rs : List BR, ys = brVs rs ∧ mk = brObjs rs ∧ rs.length = cs.length ∧ Texts2 (rs.map (·.vs)) (cs.map blk) ∧ Coh (rs.map (·.vs)).flatten := by
  obtain ⟨rs, h1, h2, h3, h4, h5⟩ := h
  subst hn
  rw [List.take_length] at h4
  refine ⟨rs, h1, h2, h3, ?_, h4.coh⟩
  clear h1 h2 h4
  induction cs generalizing rs with
  | nil => cases rs with
    | nil => exact .nil
    | cons r rs => cases h3
  | cons c cs ih => cases rs with
    | nil => cases h3
    | cons r rs => exact .cons (h5 0 r c rfl rfl) (ih rs (fun j r' c' e1 e2 => h5 (j + 1) r' c' e1 e2) (by simpa using h3))
theorem isList_lst {g h : Heap} {L D : Addr} {ys : List Value} {news : List (Addr × Obj)} (N : News g L h news) (hm : (D, LCg.lst ys) ∈ news) : h.IsList D ys.toArray := ⟨_, (N _ hm).1, rfl, _, rfl⟩
theorem isList_ints {g h : Heap} {L D : Addr} {ys : List Value} {cs : List Int} {news : List (Addr × Obj)} (_hI : IntsAre ys cs) (N : News g L h news) (hm : (D, LCg.lst ys) ∈ news) : h.IsList D ys.toArray := isList_lst N hm
theorem ints_at {vs : List Value} {ns : List Int} {i : Nat} {v : Value} (h : IntsAre vs ns) (hv : vs[i]? = some v) : ∃ (c : Int) (t : Tok), v = .int c t ∧ ns[i]? = some c := by
  induction h generalizing i with
  | nil => cases hv
  | cons a t _ ih =>
    cases i with
    | zero => cases hv; exact ⟨a, t, rfl, rfl⟩
    | succ i => exact ih hv
theorem len_four {α : Type} {l : List α} (h : l.length = 4) : ∃ a b c d, l = [a, b, c, d] := by
  match l, h with
  | [a, b, c, d], _ => exact ⟨a, b, c, d, rfl⟩
theorem rows_end {cs : List Int} {i : Nat} {ys : List Value} {mk : List (Addr × Obj)} {t : Nat} {c : Int} {D : Addr} {vs : List Value} {n : Nat} {s₁ : Shared} {h h' : Heap} {t1 t2 t3 : Nat} (hJ : RowsJ cs i ys mk t) (hc : cs[i]? = some c) (ht : t ≤ t1) (hu : Ups (t1 + 1) t2 vs (blk c)) (ht3 : t2 ≤ t3) (k : Kept h h') (hn : h.get? D = none) (ho : h'.get? D = some (listOf vs.toArray n)) :
    ∃ h'' tk' mk', ({ s₁ with heap := h', toks := t3 } : Shared) = { s₁ with heap := h'', toks := tk' } ∧ Kept h h'' ∧ (∀ p ∈ mk', h.get? p.1 = none ∧ h''.get? p.1 = some p.2) ∧ RowsJ cs (i + 1) (ys ++ [.ref D]) (mk ++ mk') tk' :=
  ⟨h', t3, [(D, listOf vs.toArray n)], rfl, k, fun p hp => by rw [List.mem_singleton.mp hp]; exact ⟨hn, ho⟩, rowsJ_mono _ _ _ _ _ ht3 (rowsJ_step hJ hc ht hu)⟩
end
section
open PySem PySem.W PyProof.Rows PySem.Calls
theorem strs_snoc {vs : List Value} {ys : List Str} {y : Str} {t : Tok} (h : StrsAre vs ys) : StrsAre (vs ++ [.str y t]) (ys ++ [y]) := by
  induction h with
  | nil => exact .cons _ _ .nil
  | cons a t _ ih => exact .cons _ _ ih
theorem strs_at {vs : List Value} {ys : List Str} {i : Nat} {v : Value} (h : StrsAre vs ys) (hv : vs[i]? = some v) : ∃ (y : Str) (t : Tok), v = .str y t ∧ ys[i]? = some y := by
  induction h generalizing i with
  | nil => cases hv
  | cons a t _ ih =>
    cases i with
    | zero => cases hv; exact ⟨a, t, rfl, rfl⟩
    | succ i => exact ih hv
theorem texts_strs {vs : List Value} {ys : List Str} (h : TextsAre vs ys) : StrsAre vs ys := by
  induction h with
  | nil => exact .nil
  | cons y t _ _ ih => exact .cons y t ih
theorem strs_len {vs : List Value} {ys : List Str} (h : StrsAre vs ys) : vs.length = ys.length := by
  induction h with
  | nil => rfl
  | cons _ _ _ ih => rw [List.length_cons, List.length_cons, ih]
/-- texts made of texts, one by one, nothing kept beside -/
structure MapJ (f : Str → Str) (bs : List Str) (i : Nat) (ys : List Value) (mk : List (Addr × Obj)) (_t : Nat) : Prop where
  hs : StrsAre ys ((bs.take i).map f)
  hm : mk = []
theorem mapJ_nil {f : Str → Str} {bs : List Str} {t : Nat} : MapJ f bs 0 [] [] t := ⟨.nil, rfl⟩
theorem mapJ_mono {f : Str → Str} {bs : List Str} : ∀ i ys mk t t', t ≤ t' → MapJ f bs i ys mk t → MapJ f bs i ys mk t' := fun _ _ _ _ _ _ h => ⟨h.hs, h.hm⟩
theorem map_end {f : Str → Str} {bs : List Str} {i : Nat} {ys : List Value} {mk : List (Addr × Obj)} {t t3 : Nat} {t' : Tok} {b : Str} {s₁ : Shared} {h h' : Heap} (hJ : MapJ f bs i ys mk t) (hb : bs[i]? = some b) (k : Kept h h') :
    ∃ h'' tk' mk', ({ s₁ with heap := h', toks := t3 } : Shared) = { s₁ with heap := h'', toks := tk' } ∧ Kept h h'' ∧ (∀ p ∈ mk', h.get? p.1 = none ∧ h''.get? p.1 = some p.2) ∧ MapJ f bs (i + 1) (ys ++ [.str (f b) t']) (mk ++ mk') tk' :=
  ⟨h', t3, [], rfl, k, (fun _ h => nomatch h), ⟨by rw [List.take_add_one, hb, List.map_append]; exact strs_snoc hJ.hs, by rw [hJ.hm]; rfl⟩⟩
theorem map_fin {f : Str → Str} {bs : List Str} {n : Nat} {ys : List Value} {mk : List (Addr × Obj)} {t : Nat} (h : MapJ f bs n ys mk t) (hn : n = bs.length) : StrsAre ys (bs.map f) ∧ mk = [] := by
  obtain ⟨h1, h2⟩ := h
  subst hn
  rw [List.take_length] at h1
  exact ⟨h1, h2⟩
end
section
open PySem PySem.W PyProof.Rows PySem.Calls
theorem ints_four {ys : List Value} {ns : List Int} (h : IntsAre ys ns) (hn : ns.length = 4) : ∃ (c0 c1 c2 c3 : Int) (t0 t1 t2 t3 : Nat), ys = [.int c0 t0, .int c1 t1, .int c2 t2, .int c3 t3] := by
  obtain ⟨a, b, c, d, rfl⟩ := len_four hn
  cases h with
  | cons _ t0 h => cases h with
    | cons _ t1 h => cases h with
      | cons _ t2 h => cases h with
        | cons _ t3 h => cases h; exact ⟨_, _, _, _, _, _, _, _, rfl⟩
theorem strs_mem {vs : List Value} {ys : List Str} (h : StrsAre vs ys) : ∀ v ∈ vs, ∃ (y : Str) (t : Nat), v = .str y t := by
  induction h with
  | nil => intro v hv; cases hv
  | cons a t _ ih =>
    intro v hv
    rcases List.mem_cons.mp hv with rfl | hv
    · exact ⟨a, t, rfl⟩
    · exact ih v hv
/-- an address is none of these -/
structure NeAll (D : Addr) (as : List Addr) : Prop where
  go : ∀ a ∈ as, a ≠ D
theorem ne_l {D a : Addr} {as : List Addr} (h : NeAll D as) (hm : a ∈ as) : a ≠ D := h.go a hm
theorem ne_r {D a : Addr} {as : List Addr} (h : NeAll D as) (hm : a ∈ as) : D ≠ a := Ne.symm (h.go a hm)
theorem neAll_nil {D : Addr} : NeAll D [] := ⟨fun _ h => nomatch h⟩
theorem neAll_one {D a : Addr} (h : a ≠ D) : NeAll D [a] := ⟨fun _ h' => by rw [List.mem_singleton.mp h']; exact h⟩
theorem neAll_and {D a : Addr} {as : List Addr} (h : a ≠ D) (k : NeAll D as) : NeAll D (a :: as) := ⟨fun b hb => (List.mem_cons.mp hb).elim (fun e => by rw [e]; exact h) (k.go b)⟩
theorem off1_ne {D : Addr} : ∀ {news : List (Addr × Obj)}, LCg.Off1 D news → NeAll D (news.map (·.1))
  | [], _ => neAll_nil
  | _ :: _, h => neAll_and h.1 (off1_ne h.2)
theorem off3_ne {I C D : Addr} : ∀ {news : List (Addr × Obj)}, LCg.Off3 I C D news → NeAll I (news.map (·.1)) ∧ NeAll C (news.map (·.1)) ∧ NeAll D (news.map (·.1))
  | [], _ => ⟨neAll_nil, neAll_nil, neAll_nil⟩
  | _ :: _, h => ⟨neAll_and h.1.1 (off3_ne h.2).1, neAll_and h.1.2.1 (off3_ne h.2).2.1, neAll_and h.1.2.2 (off3_ne h.2).2.2⟩
theorem ne8 {D a b c d e f g i : Addr} (h : a ≠ D ∧ b ≠ D ∧ c ≠ D ∧ d ≠ D ∧ e ≠ D ∧ f ≠ D ∧ g ≠ D ∧ i ≠ D) : NeAll D [a, b, c, d, e, f, g, i] := by
  obtain ⟨h1, h2, h3, h4, h5, h6, h7, h8⟩ := h
  exact neAll_and h1 (neAll_and h2 (neAll_and h3 (neAll_and h4 (neAll_and h5 (neAll_and h6 (neAll_and h7 (neAll_one h8)))))))
theorem lt9 {D a b c d e f g i j : Nat} (h : a < D ∧ b < D ∧ c < D ∧ d < D ∧ e < D ∧ f < D ∧ g < D ∧ i < D ∧ j < D) : NeAll D [a, b, c, d, e, f, g, i, j] := by
  obtain ⟨h1, h2, h3, h4, h5, h6, h7, h8, h9⟩ := h
  exact neAll_and (Nat.ne_of_lt h1) (neAll_and (Nat.ne_of_lt h2) (neAll_and (Nat.ne_of_lt h3) (neAll_and (Nat.ne_of_lt h4) (neAll_and (Nat.ne_of_lt h5) (neAll_and (Nat.ne_of_lt h6) (neAll_and (Nat.ne_of_lt h7) (neAll_and (Nat.ne_of_lt h8) (neAll_one (Nat.ne_of_lt h9)))))))))
theorem ne10 {D a b c d e f g i j k : Addr} (h : a ≠ D ∧ b ≠ D ∧ c ≠ D ∧ d ≠ D ∧ e ≠ D ∧ f ≠ D ∧ g ≠ D ∧ i ≠ D ∧ j ≠ D ∧ k ≠ D) : NeAll D [a, b, c, d, e, f, g, i, j, k] := by
  obtain ⟨h1, h2, h3⟩ := h
  exact neAll_and h1 (neAll_and h2 (ne8 h3))
theorem news_drop0 {g h : Heap} {L : Addr} {p : Addr × Obj} {rest : List (Addr × Obj)} (N : News g L h (p :: rest)) : News g L h rest := fun q hq => N q (.tail _ hq)
theorem news_drop3 {g h : Heap} {L : Addr} {a b c p : Addr × Obj} {rest : List (Addr × Obj)} (N : News g L h (a :: b :: c :: p :: rest)) : News g L h (a :: b :: c :: rest) := fun q hq => N q (by
  simp only [List.mem_cons] at hq ⊢
  rcases hq with h | h | h | h
  · exact .inl h
  · exact .inr (.inl h)
  · exact .inr (.inr (.inl h))
  · exact .inr (.inr (.inr (.inr h))))
section
variable {prog : Program} {w : World} {A : Around} {E : Value → Shared → Prop} {s : Shared} {h₀ : Heap} {L : Addr} {m : Str → Option Value} {env : Env} {news : List (Addr × Obj)} {Q : Value → Shared → Prop}
/-- a row made -/
structure RowEnd (c : Int) (s : Shared) (y : Value) (s' : Shared) : Prop where
  go : ∃ D' vs n t1 t2 t3 h', y = .ref D' ∧ s' = { s with heap := h', toks := t3 } ∧ s.toks ≤ t1 ∧ Ups (t1 + 1) t2 vs (blk c) ∧ t2 ≤ t3 ∧ Kept s.heap h' ∧ s.heap.get? D' = none ∧ h'.get? D' = some (listOf vs.toArray n)
/-- a text made -/
structure TextEnd (x : Str) (s : Shared) (y : Value) (s' : Shared) : Prop where
  go : ∃ t' t3 h', y = .str x t' ∧ s' = { s with heap := h', toks := t3 } ∧ Kept s.heap h'
variable {me : Addr → Str → Option Value} {elt : Expr} {x : Str} {scope : Scope} {cl : List (Str × Addr)}
theorem kept_none {g h : Heap} (k : Kept g h) {D : Addr} (e : h.get? D = none) : g.get? D = none := by
  cases e' : g.get? D with
  | none => rfl
  | some o => rw [k D o e'] at e; cases e
theorem ne_fresh (N : News h₀ L s.heap news) {D : Addr} (e : s.heap.get? D = none) : NeAll D (news.map (·.1)) := ⟨fun a ha q => by
  obtain ⟨p, hp, rfl⟩ := List.mem_map.mp ha
  have := (N p hp).1
  rw [q, e] at this
  cases this⟩
/-- the rows -/
theorem rows_comp {l : Addr} {c0 c1 c2 c3 : Int} {t0 t1 t2 t3 : Nat} (F : Fr h₀ L s.heap m) (N : News h₀ L s.heap news) (hm : (l, LCg.lst [.int c0 t0, .int c1 t1, .int c2 t2, .int c3 t3]) ∈ news) (hh : A.handled = none)
    (el : ∀ (c : Int) (t : Nat) I oI C oC D m₂ h (tk : Nat) ys mk (E' : Value → Shared → Prop), LCg.NsObj oC m₂ → m₂ x = some (.int c t) → Kept s.heap h → Fr h₀ L h m → News h₀ L h ((I, oI) :: (C, oC) :: (D, LCg.lst ys) :: (mk ++ news)) →
      wpAny (model prog w) A (eval elt (compEnvC scope cl C env)) (RowEnd c { s with heap := h, toks := tk }) E' { s with heap := h, toks := tk })
    (fin : ∀ D r0 r1 r2 r3 vs0 vs1 vs2 vs3 n0 n1 n2 n3 h (tk : Nat), TextsAre vs0 (blk c0) → TextsAre vs1 (blk c1) → TextsAre vs2 (blk c2) → TextsAre vs3 (blk c3) → Coh [vs0, vs1, vs2, vs3].flatten → Fr h₀ L h (me D) →
      News h₀ L h ((D, LCg.lst [.ref r0, .ref r1, .ref r2, .ref r3]) :: (r0, listOf vs0.toArray n0) :: (r1, listOf vs1.toArray n1) :: (r2, listOf vs2.toArray n2) :: (r3, listOf vs3.toArray n3) :: news) → NeAll D (news.map (·.1)) → NeAll r0 (news.map (·.1)) → NeAll r1 (news.map (·.1)) → NeAll r2 (news.map (·.1)) → NeAll r3 (news.map (·.1)) → Q (.ref D) { s with heap := h, toks := tk }) :
    CompT prog w A h₀ L m env elt x scope cl me Q (.ref l) s := by
  have hI : IntsAre [.int c0 t0, .int c1 t1, .int c2 t2, .int c3 t3] [c0, c1, c2, c3] := .cons _ _ (.cons _ _ (.cons _ _ (.cons _ _ .nil)))
  refine ⟨l, _, news, RowsJ [c0, c1, c2, c3], rfl, hh, F, N, isList_lst N hm, by simp, rowsJ_nil, rowsJ_mono, fun i v I oI C oC D m₂ h tk ys mk E' hv hJ hC hx hk F' N' => ?_, fun D ys mk h tk hJ F' N' hD hmk => ?_⟩
  · obtain ⟨c, t, rfl, hc⟩ := ints_at hI hv
    refine wpAny_mono (el c t I oI C oC D m₂ h tk ys mk E' hC hx hk F' N') (fun y s' hy => ?_) fun _ _ e => e
    obtain ⟨D', vs, n, t1, t2, t3, h', rfl, rfl, h1, h2, h3, h4, h5, h6⟩ := hy.go
    exact rows_end hJ hc h1 h2 h3 h4 h5 h6
  · obtain ⟨rs, rfl, rfl, h3, h4, h5⟩ := rowsJ_fin hJ rfl
    obtain ⟨a, b, c, d, rfl⟩ := len_four h3
    cases h4 with
    | cons q0 h4 => cases h4 with
      | cons q1 h4 => cases h4 with
        | cons q2 h4 => cases h4 with
          | cons q3 _ => exact fin D a.a b.a c.a d.a a.vs b.vs c.vs d.vs a.n b.n c.n d.n h tk q0 q1 q2 q3 h5 F' N' (ne_fresh N hD) (ne_fresh N (hmk _ (.head _))) (ne_fresh N (hmk _ (.tail _ (.head _)))) (ne_fresh N (hmk _ (.tail _ (.tail _ (.head _))))) (ne_fresh N (hmk _ (.tail _ (.tail _ (.tail _ (.head _))))))
/-- texts of texts -/
theorem map_comp (f : Str → Str) (bs : List Str) {l : Addr} {vs : List Value} (F : Fr h₀ L s.heap m) (N : News h₀ L s.heap news) (hl : s.heap.IsList l vs.toArray) (hS : StrsAre vs bs) (hsz : bs.length ≤ 1000) (hh : A.handled = none)
    (el : ∀ (b : Str) (t : Nat) I oI C oC D m₂ h (tk : Nat) ys (E' : Value → Shared → Prop), b ∈ bs → LCg.NsObj oC m₂ → m₂ x = some (.str b t) → Kept s.heap h → Fr h₀ L h m → News h₀ L h ((I, oI) :: (C, oC) :: (D, LCg.lst ys) :: news) →
      wpAny (model prog w) A (eval elt (compEnvC scope cl C env)) (TextEnd (f b) { s with heap := h, toks := tk }) E' { s with heap := h, toks := tk })
    (fin : ∀ D ws h (tk : Nat), StrsAre ws (bs.map f) → Fr h₀ L h (me D) → News h₀ L h ((D, LCg.lst ws) :: news) → NeAll D (news.map (·.1)) → Q (.ref D) { s with heap := h, toks := tk }) :
    CompT prog w A h₀ L m env elt x scope cl me Q (.ref l) s := by
  refine ⟨l, _, news, MapJ f bs, rfl, hh, F, N, hl, by rw [strs_len hS]; exact hsz, mapJ_nil, mapJ_mono, fun _ v I oI C oC D m₂ h tk ys mk E' hv hJ hC hx hk F' N' => ?_, fun D ys mk h tk hJ F' N' hD hmk => ?_⟩
  · obtain ⟨b, t, rfl, hb⟩ := strs_at hS hv
    rw [hJ.hm] at N'
    refine wpAny_mono (el b t I oI C oC D m₂ h tk ys E' (List.mem_of_getElem? hb) hC hx hk F' N') (fun y s' hy => ?_) fun _ _ e => e
    obtain ⟨t', t3, h', rfl, rfl, h4⟩ := hy.go
    exact map_end hJ hb h4
  · obtain ⟨h1, rfl⟩ := map_fin hJ (strs_len hS)
    exact fin D ys h tk h1 F' N' (ne_fresh N hD)
end
end
section
open PySem PySem.W PyProof.Rows PySem.Calls
theorem esc_facts : ∀ b ∈ blksU, b.length ≤ 40 ∧ lacks b (Str.ofString "&") = true ∧ lacks b (Str.ofString "<") = true ∧ lacks b (Str.ofString "\"") = true ∧
    ((lacks b (Str.ofString "\t") = true ∧ lacks b (Str.ofString "\n") = true ∧ lacks b (Str.ofString "\x0d") = true) ∨
     (lacks b (Str.ofString "\t") = false ∧ lacks (Txt.replace b (Str.ofString "\t") (Str.ofString "&#x9;")) (Str.ofString "\n") = true ∧ lacks (Txt.replace b (Str.ofString "\t") (Str.ofString "&#x9;")) (Str.ofString "\x0d") = true)) := by decide +kernel
section
variable {w : World} {mean : ExcName → Option Value} {mg mb : Str → Option Value} {dp un : Nat} {gd : Option (List Code)} {env : Env} {outer : List Env} {A₀ : Around} {base h₀ : Heap} {L : Addr} {m : Str → Option Value} {s : Shared} {Q E : Value → Shared → Prop}
end
end
section
open PySem PySem.W PyProof.Rows PySem.Calls
open PySem.Builtin PySem.Builtin.Str in
theorem cut_facts : ∀ b ∈ blksU, (decide (b.length < (Str.ofString "\t").length) || decide (PySem.Builtin.Str.strKind b < PySem.Builtin.Str.strKind (Str.ofString "\t"))) = false ∧ b.length ≤ 40 := by decide +kernel
theorem sj_facts : ∀ b ∈ blksU, Txt.join (Str.ofString "&#x9;") (Txt.split b (Str.ofString "\t")) = escB b ∧ JoinOk (Str.ofString "&#x9;") (Txt.split b (Str.ofString "\t")) = true ∧ b.length ≤ 40 := by decide +kernel
section
variable {prog : Program} {w : World} {A : Around} {E : Value → Shared → Prop} {s : Shared} {h₀ : Heap} {L : Addr} {m : Str → Option Value} {news : List (Addr × Obj)} {Q : Value → Shared → Prop}
theorem push_new {s : Shared} : s.heap.get? s.heap.objs.size = none := by
  cases e : s.heap.get? s.heap.objs.size with
  | none => rfl
  | some o' => exact absurd (Heap.lt_size e) (Nat.lt_irrefl _)
open PySem.Builtin PySem.Builtin.Str in
/-- a block cut at its tabs: a new list, all else as it stood -/
theorem split_blk {b : Str} {t u : Tok} (hb : b ∈ blksU) (h : ∀ D (l : List (Str × Tok)) h' k, l.map (·.1) = Txt.split b (Str.ofString "\t") → Kept s.heap h' → s.heap.get? D = none → h'.get? D = some { cls := .type "list", data := .seq (strValues l).toArray } → Q (.ref D) { s with heap := h', toks := k }) :
    wpAny (model prog w) A (call (.builtin "str.split") [.str b t, .str (Str.ofString "\t") u]) Q E s := by
  obtain ⟨h1, h40⟩ := cut_facts b hb
  have hy : ((Str.ofString "\t").length == 0) = false := by decide +kernel
  have he := fun (l : List (Str × Tok)) (k : Nat) (e : l.map (·.1) = Txt.split b (Str.ofString "\t")) => h s.heap.objs.size l (s.heap.push { cls := .type "list", data := .seq (strValues l).toArray }) k e (fun _ _ e => Heap.get?_push_of_some _ e) push_new (Heap.get?_push_size _ rfl)
  cases hf : (occurrences b (Str.ofString "\t") 0 b.length (b.length + 1)).isEmpty
  · have hn : (partsBetween b (occurrences b (Str.ofString "\t") 0 b.length (b.length + 1)) (Str.ofString "\t").length).length ≤ sizeLine := by
      have e1 := StrLaws.occ_length_le b (Str.ofString "\t") 0 b.length (b.length + 1)
      rw [length_partsBetween, sizeLine_eq]; omega
    refine call_meets F.slot_str_split (typeIs_str _ _ _) F.entry_str_split (F.args_str_split_2 _ _) (meets_str_split_sep b (Str.ofString "\t") t u h1 hy hf (by rw [sizeLine_eq]; omega) hn) ?_
    show wants Q E _ { s with toks := _, heap := s.heap.push { cls := .type "list", data := .seq (strsFrom s.toks (partsBetween b (occurrences b (Str.ofString "\t") 0 b.length (b.length + 1)) (Str.ofString "\t").length)).toArray } }
    rw [strsFrom_eq]
    exact he _ _ ((numbered_texts _ _).trans ((if_neg (ne_true_of_eq_false h1)).trans (if_neg (ne_true_of_eq_false hf))).symm)
  · exact call_meets F.slot_str_split (typeIs_str _ _ _) F.entry_str_split (F.args_str_split_2 _ _) (meets_str_split_not_found b (Str.ofString "\t") t u h1 hy hf)
      (he [(b, t)] s.toks ((if_neg (ne_true_of_eq_false h1)).trans (if_pos hf)).symm)
theorem join_blk {b : Str} {D : Addr} {l : List (Str × Tok)} {t : Tok} (hb : b ∈ blksU) (hl : s.heap.IsList D (strValues l).toArray) (ht : l.map (·.1) = Txt.split b (Str.ofString "\t")) (h : ∀ t' k, Q (.str (escB b) t') { s with toks := k }) :
    wpAny (model prog w) A (call (.builtin "str.join") [.str (Str.ofString "&#x9;") t, .ref D]) Q E s := by
  obtain ⟨e1, e2, _⟩ := sj_facts b hb
  refine SC.join hl ht e2 fun t' k => ?_
  rw [e1]
  exact h t' k
end
end
section
open PySem PySem.W PyProof.Rows PySem.Calls PySem.Spec
/-- texts, each once, as they first come -/
def metS (val : Nat → Str) : Nat → List Str
  | 0 => []
  | i + 1 => if (metS val i).any (· == val i) then metS val i else metS val i ++ [val i]
theorem metS_len (val : Nat → Str) : ∀ i, (metS val i).length ≤ i
  | 0 => Nat.le_refl _
  | i + 1 => by
    have ih := metS_len val i
    unfold metS
    split
    · omega
    · rw [List.length_append, List.length_singleton]; omega
theorem metS_nodup (val : Nat → Str) : ∀ i, (metS val i).Nodup
  | 0 => .nil
  | i + 1 => by
    unfold metS
    split
    · exact metS_nodup val i
    · rename_i h
      rw [List.nodup_append]
      refine ⟨metS_nodup val i, by simp, ?_⟩
      intro a ha b hb e
      simp at hb
      subst hb; subst e
      exact h (List.any_eq_true.mpr ⟨_, ha, beq_self_eq_true _⟩)
theorem metS_mem (val : Nat → Str) (b : Str) : ∀ i, b ∈ metS val i ↔ ∃ j, j < i ∧ val j = b
  | 0 => ⟨(fun h => nomatch h), fun ⟨_, h, _⟩ => absurd h (Nat.not_lt_zero _)⟩
  | i + 1 => by
    have ih := metS_mem val b i
    unfold metS
    split
    · rename_i h
      rw [ih]
      constructor
      · rintro ⟨j, hj, e⟩; exact ⟨j, by omega, e⟩
      · rintro ⟨j, hj, e⟩
        by_cases hji : j < i
        · exact ⟨j, hji, e⟩
        · obtain rfl : j = i := by omega
          obtain ⟨p, hp, hpe⟩ := List.any_eq_true.mp h
          have : p = b := (beq_iff_eq.mp hpe).trans e
          exact ih.mp (this ▸ hp)
    · rw [List.mem_append, List.mem_singleton, ih]
      constructor
      · rintro (⟨j, hj, e⟩ | rfl)
        · exact ⟨j, by omega, e⟩
        · exact ⟨i, by omega, rfl⟩
      · rintro ⟨j, hj, e⟩
        by_cases hji : j < i
        · exact .inl ⟨j, hji, e⟩
        · obtain rfl : j = i := by omega
          exact .inr e.symm
theorem metS_any (val : Nat → Str) (i : Nat) (k : Str) : (metS val (i + 1)).any (· == k) = ((metS val i).any (· == k) || decide (k = val i)) := by
  show (if (metS val i).any (· == val i) then metS val i else metS val i ++ [val i]).any (· == k) = _
  by_cases h : (metS val i).any (· == val i) = true
  · rw [if_pos h]
    by_cases e : k = val i
    · subst e; rw [h]; simp
    · simp [e]
  · rw [if_neg h, List.any_append]
    by_cases e : k = val i
    · subst e; simp
    · have hb : (val i == k) = false := by simpa [beq_iff_eq] using (fun h' : val i = k => e h'.symm)
      simp [hb, e]
theorem metS_step (val : Nat → Str) (i : Nat) : (metS val (i + 1)).length = if (metS val i).any (· == val i) then (metS val i).length else (metS val i).length + 1 := by
  show (if (metS val i).any (· == val i) then metS val i else metS val i ++ [val i]).length = _
  split <;> simp
end
section
open PySem PySem.W PyProof.Rows PySem.Calls PySem.Spec
section
variable {prog : Program} {w : World} {A : Around} {R : Result → Shared → Prop} {E : Value → Shared → Prop} {s : Shared}
abbrev SetS (prog : Program) (w : World) (h : Heap) (S : Addr) (l : List Str) : Prop := h.SetOf (strKind prog w) S (fun k => l.any (· == k)) l.length
/-- a set takes in what an iterator has left, texts all -/
theorem set_takes {I S : Addr} {fp wr : List Addr} {G : Array GenState → Array GenState → Prop} {n : Nat} {P : Nat → Value → Prop} {St : Nat → Shared → Prop} (W : WalksS prog w A.in1 I fp wr G n P St) (hS0 : S ∉ fp) (val : Nat → Str)
    (hv : ∀ i v, P i v → ∃ t, v = .str (val i) t) (hn : n + 1 < scanBound) : ∀ (k i : Nat) (s : Shared), i + k = n → St i s → SetS prog w s.heap S (metS val i) →
      (∀ s', Moved (S :: wr) G s s' → SetS prog w s'.heap S (metS val n) → R (.ok (.ret .none)) s') → codeAny (model prog w) A (.builtin "set.update.loop" ⟨[.ref S, .ref I], []⟩) R s := by
  have off : S ∉ wr := fun h => hS0 (W.sub _ h)
  have keepS : ∀ (l : List Str) (a b : Shared), Moved wr G a b → SetS prog w a.heap S l → SetS prog w b.heap S l := by
    rintro l a b hm ⟨o, es, ep, t, ho, rest⟩
    exact ⟨o, es, ep, t, hm.heap S o off ho, rest⟩
  intro k
  induction k with
  | zero =>
    intro i s e hst hS hR
    obtain rfl : i = n := by omega
    refine codeAny_builtin F.entry_set_update_loop ?_
    rw [Around.under_plainId F.plain_set_update_loop _]
    show wpAny _ A.in1 (pyNext (.ref I) >>= _) _ _ s
    exact wpAny_bind (W.done s _ _ hst fun s' hm => wpAny_pure (hR s' (hm.mono fun b h => .tail _ h) (keepS _ _ _ hm hS)))
  | succ k ih =>
    intro i s e hst hS hR
    refine codeAny_builtin F.entry_set_update_loop ?_
    rw [Around.under_plainId F.plain_set_update_loop _]
    show wpAny _ A.in1 (pyNext (.ref I) >>= _) _ _ s
    refine wpAny_bind (W.item i s _ _ (by omega) hst fun v s' hP hst' hm => ?_)
    obtain ⟨t, rfl⟩ := hv i v hP
    show wpAny _ A.in1 (holding [Value.str (val i) t] (setAdd S (.str (val i) t)) >>= _) _ _ s'
    refine wpAny_bind (wpAny_holding ?_)
    unfold setAdd
    refine wpAny_holding (wpAny_bind ((strKind prog w).pyHash (k := val i) (strKind_is _ _ _ _) ?_))
    have hSt : SetS prog w ({ s' with toks := s'.toks + 1 } : Shared).heap S (metS val i) := keepS _ s s' hm hS
    have room : (metS val i).length + 1 < scanBound := Nat.lt_of_le_of_lt (Nat.add_le_add_right (metS_len val i) 1) (by omega)
    refine wpAny_setAddHashed_of (knd := strKind prog w) (s := { s' with toks := s'.toks + 1 }) (strKind_is _ _ _ _) rfl hSt room fun h' same hS2 => ?_
    have hSn : SetS prog w h' S (metS val (i + 1)) := SetOf_congr hS2 (fun q => (metS_any val i q).symm) (metS_step val i).symm
    refine wpAny_pure ⟨plainId_quiet F.plain_set_update_loop _, ih (i + 1) _ (by omega) (W.frame _ s' _ _ hst' (Nat.le_succ _) fun b hb o eo => ?_) hSn fun s'' hm'' hS'' => ?_⟩
    · rw [same.2 b (fun q : b = S => hS0 (q ▸ hb))]; exact eo
    · refine hR s'' (Moved.trans W.gtrans ((hm.mono fun b h => .tail _ h).then_heap (Nat.le_succ _) fun b o hb eo => ?_) hm'') hS''
      rw [same.2 b (fun q : b = S => hb (q ▸ List.mem_cons_self))]; exact eo
end
section
variable {prog : Program} {w : World} {A : Around} {E : Value → Shared → Prop} {s : Shared} {h₀ : Heap} {L : Addr} {m : Str → Option Value} {news : List (Addr × Obj)}
set_option maxHeartbeats 3200000 in
theorem set_of_texts {l : Addr} {items : Array Value} {val : Nat → Str} {Q : Value → Shared → Prop} (hh : A.handled = none) (hl : s.heap.IsList l items) (hv : ∀ (i : Nat) (v : Value), items[i]? = some v → ∃ t, v = .str (val i) t) (hb : items.size + 1 < scanBound)
    (h : ∀ (h' : Heap) (tk : Nat), SetS prog w h' s.heap.objs.size (metS val items.size) → (∀ b o, b < s.heap.objs.size → s.heap.get? b = some o → h'.get? b = some o) → Q (.ref s.heap.objs.size) { s with heap := h', toks := tk }) :
    wpAny (model prog w) A (call (.type "set") [.ref l]) Q E s := by
  obtain ⟨c, tl, hmro⟩ := F.called_set.mro
  have hmade := F.called_set.made
  have hsub := F.called_set.sub
  refine wpAny_call (codeAny_of_tree ?_)
  show wpAny _ _ (callAny (.type "set") _) _ _ _
  refine wpAny_pure ⟨Code.quiet_builtin _ (by decide +kernel), codeAny_builtin F.entry_type_call ?_⟩
  rw [Around.under_plain (weight_type_call_type "set" [.ref l] []) rfl]
  have h1 := F.called_set.notType
  have h2 := F.called_set.canCreate
  have hct := F.typeCall_set_1 (.ref l)
  repeat (any_goals (first | assumption | wp_step))
  refine codeAny_mono (code_set_new_1 (.ref l) (E := E) (Q₁ := fun obj s₁ => ∃ led : Bool, obj = .ref s.heap.objs.size ∧ s₁ = { s with heap := s.heap.push { cls := .type "set", dict := none, data := .set #[] 0 (.fresh 0 0 led) } }) fun led => ⟨led, rfl, rfl⟩) fun r s₁ hr => ?_
  cases r with
  | error e => exact hr
  | ok fl =>
    cases fl with
    | ret obj =>
      obtain ⟨led, rfl, rfl⟩ := hr
      generalize hH1 : s.heap.push { cls := .type "set", dict := none, data := .set #[] 0 (.fresh 0 0 led) } = H1
      have z1 : H1.objs.size = s.heap.objs.size + 1 := by rw [← hH1, Heap.size_push]
      have old : ∀ b o, s.heap.get? b = some o → H1.get? b = some o := fun b o e => hH1 ▸ Heap.get?_push_of_some _ e
      have hS : H1.get? s.heap.objs.size = some { cls := .type "set", dict := none, data := .set #[] 0 (.fresh 0 0 led) } := by rw [← hH1]; exact Heap.get?_push_size _ rfl
      have hT : Shared.TypeIs { s with heap := H1 } (.ref s.heap.objs.size) "set" := ⟨_, hS, rfl⟩
      have hli := F.called_set.init.lookup
      have hbi := F.called_set.init.bind (.ref s.heap.objs.size)
      repeat (any_goals (first | assumption | wp_step))
      refine codeAny_mono (codeAny_call_builtin (R := wants (fun r s₂ => r = .none ∧ ∃ h' tk, s₂ = { s with heap := h', toks := tk } ∧ SetS prog w h' s.heap.objs.size (metS val items.size) ∧
          (∀ b o, b < s.heap.objs.size → s.heap.get? b = some o → h'.get? b = some o)) E) F.called_set.init.plain F.entry_set_init (check_set_init_1 hT ?_)) fun r₂ s₂ hr₂ => ?_
      · obtain ⟨⟨oc, od, oda, osl⟩, hol, hcl, nl, hdl⟩ := hl
        simp only at hcl hdl
        subst hcl; subst hdl
        have hol' := old _ _ hol
        have hsls := F.sub_list_set
        have hslf := F.sub_list_frozenset
        have hne : (Value.type "list" == Value.type "dict") = false := by decide
        have hl1 : H1.IsList l items := ⟨_, hol', rfl, nl, rfl⟩
        unfold Builtin.«set.__init__» noKeywords Builtin.Frozenset.updateFrom
        generalize hPI : pyIter = PI
        wp_walk
        subst hPI
        refine wpAny_pyIter_list hl1 (wpAny_bind (wpAny_runValue ?_))
        have hlS : l < s.heap.objs.size := Heap.lt_size hol
        have hh3 : A.in1.in1.in1.handled = none := by simp [hh]
        have hI : l ≠ H1.objs.size := by rw [z1]; exact Nat.ne_of_lt (Nat.lt_succ_of_lt hlS)
        have hSf : s.heap.objs.size ∉ [H1.objs.size, l] := by
          rw [z1]; simp only [List.mem_cons, List.not_mem_nil, or_false, not_or]
          exact ⟨Nat.ne_of_lt (Nat.lt_succ_self _), Nat.ne_of_gt hlS⟩
        refine set_takes ((Walks.list hh3 _ l hI items).toS) hSf val hv hb items.size 0 _ (Nat.zero_add _) ⟨⟨_, Heap.get?_push_size _ rfl, rfl, rfl⟩, hl1.push _⟩ ?hS0 ?hR
        case hS0 => exact SetOf_congr ((setObjOf_fresh (knd := strKind prog w) led).setOf (Heap.get?_push_of_some _ hS) (by unfold scanBound; omega)) (fun _ => rfl) rfl
        case hR =>
          rintro ⟨h', g', d', tk', os'⟩ hm hS'
          have eg : g' = s.gens := hm.gens
          have ed : d' = s.drawn := hm.drawn
          have eo : os' = s.os := hm.os
          subst eg; subst ed; subst eo
          refine wpAny_pure (wpAny_pure ⟨rfl, h', tk', rfl, hS', fun b o hlt e => ?_⟩)
          refine hm.heap b o ?_ (Heap.get?_push_of_some _ (old _ _ e))
          rw [z1]; simp only [List.mem_cons, List.not_mem_nil, or_false, not_or]
          exact ⟨Nat.ne_of_lt hlt, Nat.ne_of_lt (Nat.lt_succ_of_lt hlt)⟩
      · cases r₂ with
        | error e => exact hr₂
        | ok fl₂ =>
          cases fl₂ with
          | ret r =>
            obtain ⟨rfl, h', tk, rfl, hS', hk'⟩ := hr₂
            repeat (any_goals (first | assumption | wp_step))
            exact h _ _ hS' hk'
          | _ => exact hr₂.elim
    | _ => exact hr.elim
/-- a set of a list's texts: as many as there are unlike ones -/
theorem setN {l : Addr} {vs : List Value} {ys : List Str} {Q : Value → Shared → Prop} (F : Fr h₀ L s.heap m) (N : News h₀ L s.heap news) (hh : A.handled = none) (hl : s.heap.IsList l vs.toArray) (hi : TextsAre vs ys) (hb : ys.length ≤ 100)
    (h : ∀ S h' (tk : Nat) o (us : List Str), us.Nodup → (∀ b, b ∈ us ↔ b ∈ ys) → us.length ≤ 100 → Fr h₀ L h' m → News h₀ L h' ((S, o) :: news) → o.SetObjOf (strKind prog w) (fun k => us.any (· == k)) us.length → Q (.ref S) { s with heap := h', toks := tk }) :
    wpAny (model prog w) A (call (.type "set") [.ref l]) Q E s := by
  have hlen := hi.length
  have hsz : vs.toArray.size = ys.length := by rw [List.size_toArray, hlen]
  refine set_of_texts (val := fun i => ys.getD i ⟨#[]⟩) hh hl (fun i v hv => ?_) (by rw [hsz]; unfold scanBound; omega) fun h' tk hS hk => ?_
  · rw [List.getElem?_toArray] at hv
    obtain ⟨y, t, e1, e2⟩ : ∃ y t, v = .str y t ∧ ys[i]? = some y := by
      clear h hl hlen hsz hb
      induction hi generalizing i with
      | nil => cases hv
      | cons y t _ _ ih =>
        cases i with
        | zero => cases hv; exact ⟨y, t, rfl, rfl⟩
        | succ i => exact ih i hv
    exact ⟨t, by rw [e1, List.getD_eq_getElem?_getD, e2]; rfl⟩
  · rw [hsz] at hS
    obtain ⟨o, ho, hso⟩ := hS.objOf
    obtain ⟨oL, _, _, hL, _⟩ := F.ns
    have hLlt : L < s.heap.objs.size := Heap.lt_size hL
    refine h _ h' tk o (metS _ ys.length) (metS_nodup _ _) (fun b => ?_) (Nat.le_trans (metS_len _ _) hb) ⟨F.ns.at' fun o' e => hk L o' hLlt e, fun b o' e => hk b o' (Heap.lt_size (F.keep b o' e)) (F.keep b o' e), F.above⟩ (fun p hp => ?_) hso
    · rw [metS_mem]
      constructor
      · rintro ⟨j, hj, rfl⟩
        show ys.getD j _ ∈ ys
        rw [List.getD_eq_getElem?_getD, List.getElem?_eq_getElem hj]
        exact List.getElem_mem hj
      · intro hm
        obtain ⟨j, hj, e⟩ := List.getElem_of_mem hm
        exact ⟨j, hj, by show ys.getD j _ = b; rw [List.getD_eq_getElem?_getD, List.getElem?_eq_getElem hj]; exact e⟩
    · rcases List.mem_cons.mp hp with rfl | hp
      · refine ⟨ho, Nat.ne_of_gt hLlt, ?_⟩
        cases hq : h₀.get? s.heap.objs.size with
        | none => rfl
        | some o' => exact absurd (Heap.lt_size (F.keep _ _ hq)) (Nat.lt_irrefl _)
      · exact ⟨hk _ _ (Heap.lt_size (N p hp).1) (N p hp).1, (N p hp).2.1, (N p hp).2.2⟩
theorem set_len {sa : Addr} {so : Obj} {S : Str → Bool} {n : Nat} {Q : Value → Shared → Prop} (N : News h₀ L s.heap ((sa, so) :: news)) (hso : so.SetObjOf (strKind prog w) S n) (hfit : n ≤ 100)
    (h : Q (.int n (s.toks + 1)) { s with toks := s.toks + 1 + 1 }) : wpAny (model prog w) A (call (.builtin "len") [.ref sa]) Q E s :=
  len_sl1 (own := []) N hso (by omega) h
end
end
section
open PySem PySem.W PyProof.Rows PySem.Calls
/-- a turn's end: the ledger that the next turns find -/
structure TurnEnd (h₀ : Heap) (L I : Addr) (oI : Obj) (J : (Str → Option Value) → List (Addr × Obj) → Prop) (s s₂ : Shared) : Prop where
  go : ∃ h' tk m' news', s₂ = { s with heap := h', toks := tk } ∧ Fr h₀ L h' m' ∧ News h₀ L h' ((I, oI) :: news') ∧ NeAll I (news'.map (·.1)) ∧ J m' news'
def TurnPost (h₀ : Heap) (L I : Addr) (oI : Obj) (J : (Str → Option Value) → List (Addr × Obj) → Prop) (s : Shared) (Q : Flow → Shared → Prop) (f : Flow) (s₂ : Shared) : Prop :=
  match f with
  | .ret v => Q (.ret v) s₂
  | .brk => False
  | _ => TurnEnd h₀ L I oI J s s₂
/-- the turns that are left, written out -/
def Turns (prog : Program) (w : World) (A : Around) (h₀ : Heap) (env : Env) (target : Expr) (body : List Stmt) (Q : Flow → Shared → Prop) (E : Value → Shared → Prop) (s : Shared) (I : Addr) : Nat → Int → (Str → Option Value) → List (Addr × Obj) → Prop
  | 0, _, m, news => ∀ h tk, Fr h₀ env.locals h m → News h₀ env.locals h news → Q .next { s with heap := h, toks := tk }
  | k + 1, i, m, news => ∀ (t : Nat) (oI : Obj) h tk, Fr h₀ env.locals h m → News h₀ env.locals h ((I, oI) :: news) →
      wpAny (model prog w) A (assign target env (.int i t)) (fun _ s₂ => wpAny (model prog w) A (execs body env) (TurnPost h₀ env.locals I oI (Turns prog w A h₀ env target body Q E s I k (i + 1)) { s with heap := h, toks := tk } Q) E s₂) E { s with heap := h, toks := tk }
section
variable {prog : Program} {w : World} {A : Around} {E : Value → Shared → Prop} {s : Shared} {h₀ : Heap} {env : Env} {Q : Flow → Shared → Prop} {target : Expr} {body : List Stmt}
/-- a loop over range(n), turn by turn -/
theorem unroll_range {r : Addr} {t₀ u₀ v₀ : Tok} (n : Nat) {m₀ : Str → Option Value} {news : List (Addr × Obj)} (hh : A.handled = none) (hr : IsRange s.heap r 0 (n : Int) 1 t₀ u₀ v₀) (hsmall : Builtin.Range.small 0 (n : Int) 1 = true) (hsz : Builtin.Range.rangeSize 0 (n : Int) 1 = (n : Int))
    (F : Fr h₀ env.locals s.heap m₀) (N : News h₀ env.locals s.heap news) (h : ∀ I, NeAll I (news.map (·.1)) → Turns prog w A h₀ env target body Q E s I n 0 m₀ news)
    (hgo : ∀ I v, letOwnedTupleGo target (.ref I) v = pure ()) :
    wpAny (model prog w) A (pyIter (.ref r)) (fun it s₂ => TurnsAt prog w A h₀ env target body Q E it s₂) E s := by
  refine wpAny_pyIter_range hr hsmall ?_
  have W := Walks.range (prog := prog) (w := w) hh s.heap.objs.size 0 1 n
  have W' := KTurns.ofWalks W (target := target) fun i v s Q E st q => wpAny_of_eq (hgo _ v) q
  have hI0 : h₀.get? s.heap.objs.size = none := next_is_new F
  have hne : ∀ p ∈ news, p.1 ≠ s.heap.objs.size := fun p hp => Nat.ne_of_lt (Heap.lt_size (N p hp).1)
  refine ⟨s.heap.objs.size, [s.heap.objs.size], [s.heap.objs.size], n, _, _, _, m₀, news, fun i m news' => Turns prog w A h₀ env target body Q E s s.heap.objs.size (n - i) (i : Int) m news', rfl, W', fun hm => absurd F.ns.lt ((List.mem_singleton.mp hm) ▸ Nat.lt_irrefl _), fun b hb => by rw [List.mem_singleton.mp hb]; exact hI0, fun p hp hm => hne p hp (List.mem_singleton.mp hm), by show IsRangeIter _ _ _ _ _; rw [hsz]; simpa using Heap.get?_push_size _ rfl, F.push _, fun p hp => ⟨Heap.get?_push_of_some _ (N p hp).1, (N p hp).2⟩, h _ ⟨fun a ha => by obtain ⟨p, hp, rfl⟩ := List.mem_map.mp ha; exact hne p hp⟩, ?_, ?_⟩
  · rintro i v m₁ news₁ h₁ tk₁ own hin ⟨t, rfl⟩ hJ hoff hown hget hall hst F₁ N₁
    obtain ⟨k, hk⟩ : ∃ k, n - i = k + 1 := ⟨n - i - 1, by omega⟩
    rw [hk] at hJ
    have hT := hJ
    obtain ⟨oI, hst'⟩ : ∃ o, h₁.get? s.heap.objs.size = some o := ⟨_, hst⟩
    have hmI := hall _ (List.mem_singleton.mpr rfl) hI0 _ hst'
    have ho : ∀ p ∈ own, p = (s.heap.objs.size, oI) := fun p hp => by
      have e1 := List.mem_singleton.mp (hown p hp)
      have e2 := hget p hp
      rw [e1, hst'] at e2
      exact Prod.ext e1 (Option.some.inj e2).symm
    have e1 : (0 : Int) + (i : Int) * 1 = (i : Int) := by omega
    rw [e1]
    refine wpAny_mono (hT t oI h₁ tk₁ F₁ (fun p hp => N₁ p ?_)) (fun _ s₂ x => wpAny_mono x (fun f s₃ p => ?_) fun _ _ e => e) fun _ _ e => e
    · rcases List.mem_cons.mp hp with rfl | hp
      · exact List.mem_append.mpr (.inl hmI)
      · exact List.mem_append.mpr (.inr hp)
    · have fin : TurnEnd h₀ env.locals s.heap.objs.size oI (Turns prog w A h₀ env target body Q E s s.heap.objs.size k ((i : Int) + 1)) { s with heap := h₁, toks := tk₁ } s₃ → LoopStepU h₀ env.locals [s.heap.objs.size] own (fun m news' => Turns prog w A h₀ env target body Q E s s.heap.objs.size (n - (i + 1)) ((i + 1 : Nat) : Int) m news') { s with heap := h₁, toks := tk₁ } .next s₃ := by
        rintro ⟨h', tk, m', news', e, F', N', hn', hJ'⟩
        have ek : n - (i + 1) = k := by omega
        refine ⟨rfl, h', tk, m', news', e, F', fun p hp => ?_, fun p hp hm => ?_, ?_⟩
        · rcases List.mem_append.mp hp with hp | hp
          · rw [ho p hp]; exact N' _ (.head _)
          · exact N' p (.tail _ hp)
        · exact hn'.go _ (List.mem_map_of_mem hp) (List.mem_singleton.mp hm)
        · rw [ek]; push_cast; exact hJ'
      cases f with
      | ret v => exact .ret p
      | brk => exact p.elim
      | next => exact .next (fin p)
      | cont => exact .cont (fin p)
  · intro h' tk m' news' F' N' _ hJ
    rw [Nat.sub_self] at hJ
    exact hJ h' tk F' N'
theorem turns_succ {I : Addr} {k : Nat} {i : Int} {m : Str → Option Value} {news : List (Addr × Obj)} (h : ∀ (t : Nat) (oI : Obj) h tk, Fr h₀ env.locals h m → News h₀ env.locals h ((I, oI) :: news) →
      wpAny (model prog w) A (assign target env (.int i t)) (fun _ s₂ => wpAny (model prog w) A (execs body env) (TurnPost h₀ env.locals I oI (Turns prog w A h₀ env target body Q E s I k (i + 1)) { s with heap := h, toks := tk } Q) E s₂) E { s with heap := h, toks := tk }) :
    Turns prog w A h₀ env target body Q E s I (k + 1) i m news := h
theorem turns_zero {I : Addr} {i : Int} {m : Str → Option Value} {news : List (Addr × Obj)} (h : ∀ h tk, Fr h₀ env.locals h m → News h₀ env.locals h news → Q .next { s with heap := h, toks := tk }) : Turns prog w A h₀ env target body Q E s I 0 i m news := h
theorem turn_end3 {L I : Addr} {oI : Obj} {J : (Str → Option Value) → List (Addr × Obj) → Prop} {e j v : Addr × Obj} {rest : List (Addr × Obj)} {s : Shared} {h' : Heap} {tk : Nat} {m' : Str → Option Value} (F : Fr h₀ L h' m') (N : News h₀ L h' (e :: j :: v :: (I, oI) :: rest))
    (hI : NeAll I (e.1 :: rest.map (·.1))) (hJ : J m' (e :: rest)) : TurnEnd h₀ L I oI J s { s with heap := h', toks := tk } :=
  ⟨⟨h', tk, m', e :: rest, rfl, F, fun p hp => by
    rcases List.mem_cons.mp hp with rfl | hp
    · exact N _ (.tail _ (.tail _ (.tail _ (.head _))))
    · rcases List.mem_cons.mp hp with rfl | hp
      · exact N _ (.head _)
      · exact N _ (.tail _ (.tail _ (.tail _ (.tail _ hp)))), hI, hJ⟩⟩
end
end
section
open PySem PySem.W PyProof.Rows PySem.Calls
theorem dat_strs {vs : List Value} {us : List Str} (h : StrsAre vs us) : DatAll [] vs (us.map Dat.str) := by
  induction h with
  | nil => exact .nil
  | cons a t _ ih => exact .cons (.str a t) ih
theorem dat_ints {vs : List Value} {ns : List Int} (h : IntsAre vs ns) : DatAll [] vs (ns.map Dat.int) := by
  induction h with
  | nil => exact .nil
  | cons a t _ ih => exact .cons (.int a t) ih
section
variable {prog : Program} {w : World} {A : Around} {E : Value → Shared → Prop} {s : Shared} {h₀ : Heap} {L : Addr} {news : List (Addr × Obj)} {Q : Value → Shared → Prop}
theorem texts_same {a b : Addr} {xs ys : List Value} {us : List Str} (N : News h₀ L s.heap news) (ma : (a, LCg.lst xs) ∈ news) (mb : (b, LCg.lst ys) ∈ news) (hx : StrsAre xs us) (hy : StrsAre ys us) (hok : ∀ u ∈ us, PyData.strOk u = true) (hu : A.units + 64 < cLine) (h : Q (.bool false) s) :
    wpAny (model prog w) A (compareOp .NotEq (.ref a) (.ref b)) Q E s := by
  have hk : ∀ d ∈ us.map Dat.str, kqdOk 8 d = true := fun d hd => by
    obtain ⟨u, hu', rfl⟩ := List.mem_map.mp hd
    exact hok u hu'
  refine kqd_ne N ma rfl rfl (dat_strs hx) (fun _ h => nomatch h) mb rfl rfl (dat_strs hy) (fun _ h => nomatch h) hk hk hu ?_
  simpa using h
theorem texts_same2 {a b : Addr} {xs ys : List Value} {us : List Str} {rest : List (Addr × Obj)} (N : News h₀ L s.heap ((b, LCg.lst ys) :: (a, LCg.lst xs) :: rest)) (hx : StrsAre xs us) (hy : StrsAre ys us) (hok : ∀ u ∈ us, PyData.strOk u = true) (hu : A.units + 64 < cLine) (h : Q (.bool false) s) :
    wpAny (model prog w) A (compareOp .NotEq (.ref a) (.ref b)) Q E s := texts_same N (.tail _ (.head _)) (.head _) hx hy hok hu h
theorem ints_same {a b : Addr} {xs ys : List Value} {ns : List Int} {na nb : Nat} (N : News h₀ L s.heap news) (ma : (a, listOf xs.toArray na) ∈ news) (mb : (b, listOf ys.toArray nb) ∈ news) (hx : IntsAre xs ns) (hy : IntsAre ys ns) (hu : A.units + 64 < cLine) (h : Q (.bool true) s) :
    wpAny (model prog w) A (compareOp .Eq (.ref a) (.ref b)) Q E s := by
  have hk : ∀ d ∈ ns.map Dat.int, kqdOk 8 d = true := fun d hd => by
    obtain ⟨u, hu', rfl⟩ := List.mem_map.mp hd
    rfl
  refine kqd_eq N ma rfl rfl (dat_ints hx) (fun _ h => nomatch h) mb rfl rfl (dat_ints hy) (fun _ h => nomatch h) hk hk hu ?_
  simpa using h
end
theorem blk_U {c : Int} {b : Str} (h : b ∈ blk c) : b ∈ blksU := inU _ (blk_in c) _ h
theorem blk_len (c : Int) : (blk c).length = 1 ∨ (blk c).length = 2 := (len_all _ (blk_in c)).1
theorem ok_name {bs : List Str} (h : bs ∈ allB) {b : Str} (hb : b ∈ bs) (u : Bool) : okName (nmF u b) = true := by
  have := ok_all bs h b hb
  unfold okB at this
  simp only [Bool.and_eq_true] at this
  cases u
  · exact this.1.1.2
  · exact this.1.1.1
theorem esc_ok {c : Int} : ∀ u ∈ (blk c).map escB, PyData.strOk u = true := fun u hu => by
  obtain ⟨b, hb, rfl⟩ := List.mem_map.mp hu
  have := ok_name (blk_in c) hb false
  unfold okName at this
  simp only [Bool.and_eq_true] at this
  exact this.1.2
/-- a name, in great letters or not -/
def upF (u : Bool) (y : Str) : Str := if u then Txt.upper y else y
/-- a row of great letters -/
def upOf (c : Int) : Bool := decide ((c.fdiv 40).fmod 2 = 1)
theorem esc_len {c : Int} : ∀ u ∈ (blk c).map escB, u.length ≤ 100 := fun u hu => by
  obtain ⟨b, hb, rfl⟩ := List.mem_map.mp hu
  have := ok_name (blk_in c) hb false
  unfold okName at this
  simp only [Bool.and_eq_true, decide_eq_true_eq] at this
  exact this.1.1.1.1.1.1
theorem up_map (u : Bool) (bs : List Str) : (bs.map escB).map (upF u) = bs.map (nmF u) := by
  rw [List.map_map]
  refine List.map_congr_left fun b _ => ?_
  cases u <;> rfl
section
variable {prog : Program} {w : World} {A : Around} {E : Value → Shared → Prop} {s : Shared} {h₀ : Heap} {L : Addr} {m : Str → Option Value} {env : Env} {news : List (Addr × Obj)} {Q : Value → Shared → Prop}
variable {me : Addr → Str → Option Value} {elt : Expr} {x : Str} {scope : Scope} {cl : List (Str × Addr)}
/-- over a row's blocks, what is written of each -/
theorem map_row {c : Int} {l : Addr} {vs : List Value} {n : Nat} (F : Fr h₀ L s.heap m) (N : News h₀ L s.heap news) (hm : (l, listOf vs.toArray n) ∈ news) (hS : TextsAre vs (blk c)) (hh : A.handled = none)
    (el : ∀ (b : Str) (t : Nat) I oI C oC D m₂ h (tk : Nat) ys (E' : Value → Shared → Prop), b ∈ blksU → LCg.NsObj oC m₂ → m₂ x = some (.str b t) → Kept s.heap h → Fr h₀ L h m → News h₀ L h ((I, oI) :: (C, oC) :: (D, LCg.lst ys) :: news) →
      wpAny (model prog w) A (eval elt (compEnvC scope cl C env)) (TextEnd (escB b) { s with heap := h, toks := tk }) E' { s with heap := h, toks := tk })
    (fin : ∀ D ws h (tk : Nat), StrsAre ws ((blk c).map escB) → Fr h₀ L h (me D) → News h₀ L h ((D, LCg.lst ws) :: news) → NeAll D (news.map (·.1)) → Q (.ref D) { s with heap := h, toks := tk }) :
    CompT prog w A h₀ L m env elt x scope cl me Q (.ref l) s :=
  map_comp escB (blk c) F N (News.isList N hm) (texts_strs hS) (by have := blk_len c; omega) hh (fun b t I oI C oC D m₂ h tk ys E' hb => el b t I oI C oC D m₂ h tk ys E' (blk_U hb)) fin
/-- over what is written, the names -/
theorem map_names {c : Int} {l : Addr} {vs : List Value} (F : Fr h₀ L s.heap m) (N : News h₀ L s.heap news) (hm : (l, LCg.lst vs) ∈ news) (hS : StrsAre vs ((blk c).map escB)) (hh : A.handled = none)
    (el : ∀ (y : Str) (t : Nat) I oI C oC D m₂ h (tk : Nat) ys (E' : Value → Shared → Prop), y.length ≤ 100 → LCg.NsObj oC m₂ → m₂ x = some (.str y t) → Kept s.heap h → Fr h₀ L h m → News h₀ L h ((I, oI) :: (C, oC) :: (D, LCg.lst ys) :: news) →
      wpAny (model prog w) A (eval elt (compEnvC scope cl C env)) (TextEnd (upF (upOf c) y) { s with heap := h, toks := tk }) E' { s with heap := h, toks := tk })
    (fin : ∀ D ws h (tk : Nat), StrsAre ws ((blk c).map (nmF (upOf c))) → Fr h₀ L h (me D) → News h₀ L h ((D, LCg.lst ws) :: news) → NeAll D (news.map (·.1)) → Q (.ref D) { s with heap := h, toks := tk }) :
    CompT prog w A h₀ L m env elt x scope cl me Q (.ref l) s :=
  map_comp (upF (upOf c)) ((blk c).map escB) F N (isList_lst N hm) hS (by have := blk_len c; rw [List.length_map]; omega) hh (fun b t I oI C oC D m₂ h tk ys E' hb => el b t I oI C oC D m₂ h tk ys E' (esc_len b hb))
    (fun D ws h tk hW => fin D ws h tk (by rw [← up_map]; exact hW))
end
theorem up_yes {c : Int} {y : Str} (h : (c.fdiv 40).fmod 2 = 1) : upF (upOf c) y = Txt.upper y := by unfold upF upOf; rw [if_pos (decide_eq_true h)]
theorem up_no {c : Int} {y : Str} (h : ¬ (c.fdiv 40).fmod 2 = 1) : upF (upOf c) y = y := by unfold upF upOf; rw [if_neg (by simpa using h)]
theorem text_up {c : Int} {y : Str} {t : Tok} {s : Shared} {k : Nat} (h : (c.fdiv 40).fmod 2 = 1) : TextEnd (upF (upOf c) y) s (.str (Txt.upper y) t) { s with toks := k } := ⟨⟨t, k, s.heap, by rw [up_yes h], rfl, fun _ _ e => e⟩⟩
theorem text_no {c : Int} {y : Str} {t : Tok} {s : Shared} {k : Nat} (h : ¬ (c.fdiv 40).fmod 2 = 1) : TextEnd (upF (upOf c) y) s (.str y t) { s with toks := k } := ⟨⟨t, k, s.heap, by rw [up_no h], rfl, fun _ _ e => e⟩⟩
end
section
open PySem PySem.W PyProof.Rows PySem.Calls
abbrev sizeZ (k : Int) : Int := 1 + (1 + k).fmod 4
theorem size_lo (k : Int) : 1 ≤ sizeZ k := by have := Int.fmod_nonneg_of_pos (1 + k) (b := 4) (by decide); unfold sizeZ; omega
theorem size_hi (k : Int) : sizeZ k ≤ 4 := by have := Int.fmod_lt_of_pos (1 + k) (b := 4) (by decide); unfold sizeZ; omega
theorem mk_in : Str.ofString "" ∈ mks ∧ Str.ofString "&" ∈ mks ∧ Str.ofString "<\x0d" ∈ mks ∧ Str.ofString "\"\n" ∈ mks := by decide +kernel
section
variable {w : World} {mean : ExcName → Option Value} {mg mb : Str → Option Value} {dp un : Nat} {gd : Option (List Code)} {env : Env} {outer : List Env} {A₀ : Around} {base h₀ : Heap} {L : Addr} {m : Str → Option Value} {s : Shared} {Q E : Value → Shared → Prop} {news : List (Addr × Obj)}
end
end
section
open PySem PySem.W PyProof.Rows PySem.Calls
theorem lists_four {h : Heap} {q0 q1 q2 q3 : Addr} {vs0 vs1 vs2 vs3 : List Value} (h0 : h.IsList q0 vs0.toArray) (h1 : h.IsList q1 vs1.toArray) (h2 : h.IsList q2 vs2.toArray) (h3 : h.IsList q3 vs3.toArray) : Lists h [.ref q0, .ref q1, .ref q2, .ref q3] [vs0, vs1, vs2, vs3] :=
  .cons h0 (.cons h1 (.cons h2 (.cons h3 .nil)))
theorem texts2_four {vs0 vs1 vs2 vs3 : List Value} {y0 y1 y2 y3 : List Str} (h0 : TextsAre vs0 y0) (h1 : TextsAre vs1 y1) (h2 : TextsAre vs2 y2) (h3 : TextsAre vs3 y3) : Texts2 [vs0, vs1, vs2, vs3] [y0, y1, y2, y3] := .cons h0 (.cons h1 (.cons h2 (.cons h3 .nil)))
theorem flat_len (c0 c1 c2 c3 : Int) : [blk c0, blk c1, blk c2, blk c3].flatten.length ≤ 8 := by
  have h0 := blk_len c0
  have h1 := blk_len c1
  have h2 := blk_len c2
  have h3 := blk_len c3
  simp only [List.flatten_cons, List.flatten_nil, List.length_append, List.length_nil]
  omega
theorem flat_short {c0 c1 c2 c3 : Int} : ∀ b ∈ [blk c0, blk c1, blk c2, blk c3].flatten, b.length ≤ 40 := by
  intro b hb
  obtain ⟨bs, h1, h2⟩ := List.mem_flatten.mp hb
  have : bs ∈ allB := by
    simp only [List.mem_cons, List.not_mem_nil, or_false] at h1
    rcases h1 with rfl | rfl | rfl | rfl <;> exact blk_in _
  exact ((len_all _ this).2.2 b h2).1
theorem prc_len {z : Int} {bs : List Str} (h : bs ∈ allB) : (prc z bs).length = bs.length ∧ 1 ≤ bs.length ∧ bs.length ≤ 2 := by
  rcases (len_all bs h).1 with e | e
  · obtain ⟨b, rfl⟩ := List.length_eq_one_iff.mp e
    exact ⟨rfl, by simp, by simp⟩
  · obtain ⟨b, b', rfl⟩ := len_two e
    exact ⟨rfl, by simp, by simp⟩
theorem prc_bound {z : Int} {bs : List Str} (h : bs ∈ allB) (hz1 : 1 ≤ z) (hz4 : z ≤ 4) : ∀ q ∈ prc z bs, -2000000 ≤ q ∧ q ≤ 2000000 := by
  have hb := (len_all bs h).2.2
  rcases (len_all bs h).1 with e | e
  · obtain ⟨b, rfl⟩ := List.length_eq_one_iff.mp e
    intro q hq
    have h1 := colS_bound hz1 hz4 (hb b (.head _)).1
    simp only [prc, List.mem_singleton] at hq
    subst hq
    omega
  · obtain ⟨b, b', rfl⟩ := len_two e
    intro q hq
    have h1 := colS_bound hz1 hz4 (hb b (.head _)).1
    have h2 := colS_bound hz1 hz4 (hb b' (.tail _ (.head _))).1
    simp only [prc, List.mem_cons, List.not_mem_nil, or_false] at hq
    rcases hq with rfl | rfl <;> omega
theorem name_ok {bs : List Str} (h : bs ∈ allB) (u : Bool) : ∀ y ∈ bs.map (nmF u), y.length ≤ 100 ∧ (Txt.lower y).length ≤ 100 ∧ okN y = true ∧ okN (Txt.lower y) = true ∧ okN (Txt.lower (Txt.lower y)) = true := by
  intro y hy
  obtain ⟨b, hb, rfl⟩ := List.mem_map.mp hy
  have := ok_name h hb u
  unfold okName at this
  simp only [Bool.and_eq_true, decide_eq_true_eq] at this
  exact ⟨this.1.1.1.1.1.1, this.1.1.1.1.1.2, this.1.1.1.1.2, this.1.1.1.2, this.1.1.2⟩
theorem wd_all : okV (Str.ofString "") = true ∧ okV (Str.ofString "&amp;") = true ∧ okV (Str.ofString "&lt;&#xD;") = true ∧ okV (Str.ofString "&quot;&#xA;") = true ∧ Str.ofString "" = ⟨#[]⟩ := by decide +kernel
theorem row_of {h : Heap} {c : Int} {z : Int} (hz1 : 1 ≤ z) (hz4 : z ≤ 4) {e p : Addr} {vs pv : List Value} (he : h.IsList e vs.toArray) (hS : StrsAre vs ((blk c).map (nmF (upOf c)))) (hp : h.IsList p pv.toArray) (hI : IntsAre pv (prc z (blk c))) {rn rp wv : List Value} {D : PD} {k : Nat} {wd : Str} {wt : Nat}
    (e1 : rn[k]? = some (.ref e)) (e2 : D.NS[k]? = some ((blk c).map (nmF (upOf c)))) (e3 : rp[k]? = some (.ref p)) (e4 : D.PS[k]? = some (prc z (blk c))) (e5 : wv[k]? = some (.str wd wt)) (e6 : D.WS[k]? = some wd) (ho : okV wd = true) :
    ∃ (r : Addr) (vs : List Value) (ys : List Str) (r' : Addr) (pv : List Value) (ps : List Int) (wd : Str) (wt : Nat), rn[k]? = some (.ref r) ∧ h.IsList r vs.toArray ∧ StrsAre vs ys ∧ D.NS[k]? = some ys ∧ rp[k]? = some (.ref r') ∧ h.IsList r' pv.toArray ∧ IntsAre pv ps ∧ D.PS[k]? = some ps ∧ wv[k]? = some (.str wd wt) ∧ D.WS[k]? = some wd ∧
      ps.length = ys.length ∧ 1 ≤ ys.length ∧ ys.length ≤ 2 ∧ (∀ y ∈ ys, y.length ≤ 100 ∧ (Txt.lower y).length ≤ 100 ∧ okN y = true ∧ okN (Txt.lower y) = true ∧ okN (Txt.lower (Txt.lower y)) = true) ∧ (∀ q ∈ ps, -2000000 ≤ q ∧ q ≤ 2000000) ∧ okV wd = true := by
  obtain ⟨l1, l2, l3⟩ := prc_len (z := z) (blk_in c)
  refine ⟨e, vs, _, p, pv, _, wd, wt, e1, he, hS, e2, e3, hp, hI, e4, e5, e6, ?_, ?_, ?_, name_ok (blk_in c) _, prc_bound (blk_in c) hz1 hz4, ho⟩
  · rw [l1, List.length_map]
  · rw [List.length_map]; exact l2
  · rw [List.length_map]; exact l3
theorem pdata_four {h : Heap} {c0 c1 c2 c3 z : Int} (hz1 : 1 ≤ z) (hz4 : z ≤ 4) {Ln Lp Lw e0 e1 e2 e3 p0 p1 p2 p3 : Addr} {v0 v1 v2 v3 i0 i1 i2 i3 : List Value} {t0 t1 t2 t3 : Nat}
    (hn : h.IsList Ln [Value.ref e0, .ref e1, .ref e2, .ref e3].toArray) (hp : h.IsList Lp [Value.ref p0, .ref p1, .ref p2, .ref p3].toArray) (hw : h.IsList Lw [Value.str (Str.ofString "") t0, .str (Str.ofString "&amp;") t1, .str (Str.ofString "&lt;&#xD;") t2, .str (Str.ofString "&quot;&#xA;") t3].toArray)
    (a0 : h.IsList e0 v0.toArray) (a1 : h.IsList e1 v1.toArray) (a2 : h.IsList e2 v2.toArray) (a3 : h.IsList e3 v3.toArray) (b0 : h.IsList p0 i0.toArray) (b1 : h.IsList p1 i1.toArray) (b2 : h.IsList p2 i2.toArray) (b3 : h.IsList p3 i3.toArray)
    (s0 : StrsAre v0 ((blk c0).map (nmF (upOf c0)))) (s1 : StrsAre v1 ((blk c1).map (nmF (upOf c1)))) (s2 : StrsAre v2 ((blk c2).map (nmF (upOf c2)))) (s3 : StrsAre v3 ((blk c3).map (nmF (upOf c3))))
    (n0 : IntsAre i0 (prc z (blk c0))) (n1 : IntsAre i1 (prc z (blk c1))) (n2 : IntsAre i2 (prc z (blk c2))) (n3 : IntsAre i3 (prc z (blk c3))) :
    PData h (DD (blk c0) (blk c1) (blk c2) (blk c3) (upOf c0) (upOf c1) (upOf c2) (upOf c3) z) Ln Lp Lw [.ref e0, .ref e1, .ref e2, .ref e3] [.ref p0, .ref p1, .ref p2, .ref p3] [.str (Str.ofString "") t0, .str (Str.ofString "&amp;") t1, .str (Str.ofString "&lt;&#xD;") t2, .str (Str.ofString "&quot;&#xA;") t3] := by
  refine ⟨hn, hp, hw, fun k hk => ?_⟩
  obtain ⟨o0, o1, o2, o3, o4⟩ := wd_all
  match k, hk with
  | 0, _ => exact row_of hz1 hz4 a0 s0 b0 n0 rfl rfl rfl rfl rfl (congrArg some o4.symm) o0
  | 1, _ => exact row_of hz1 hz4 a1 s1 b1 n1 rfl rfl rfl rfl rfl rfl o1
  | 2, _ => exact row_of hz1 hz4 a2 s2 b2 n2 rfl rfl rfl rfl rfl rfl o2
  | 3, _ => exact row_of hz1 hz4 a3 s3 b3 n3 rfl rfl rfl rfl rfl rfl o3
section
variable {w : World} {mean : ExcName → Option Value} {mg mb : Str → Option Value} {dp un : Nat} {gd : Option (List Code)} {env : Env} {outer : List Env} {A₀ : Around} {base h₀ : Heap} {L : Addr} {m : Str → Option Value} {s : Shared} {Q E : Value → Shared → Prop} {news : List (Addr × Obj)}
theorem same_len {l us : List Str} (h1 : l.Nodup) (h2 : us.Nodup) (h : ∀ b, b ∈ us ↔ b ∈ l) : us.length = l.length :=
  Nat.le_antisymm (h2.length_le_of_subset fun b hb => (h b).mp hb) (h1.length_le_of_subset fun b hb => (h b).mpr hb)
end
end
section
open PySem PySem.W PyProof.Rows PySem.Calls
section
variable {prog : Program} {w : World} {A : Around} {E : Value → Shared → Prop} {s : Shared} {h₀ : Heap} {L : Addr} {news : List (Addr × Obj)} {Q : Value → Shared → Prop}
theorem same_items {l b : Addr} {items : Array Value} (hl : s.heap.IsList l items) (hb : s.heap.IsList b items) (hu : A.units < cLine) (h : Q (.bool true) s) : wpAny (model prog w) A (compareOp .Eq (.ref l) (.ref b)) Q E s := by
  have e : ((List.range items.size).all fun _ => true) = true := by rw [List.all_eq_true]; exact fun _ _ => rfl
  refine (SeqAt.RcAt.lists (e := fun _ => true) hl hb rfl hu fun j _ _ => SeqAt.EqAt.same _) prog w E Q ?_
  rw [e]
  exact h
end
end
section
theorem no_signs : lacks (Str.ofString "") (Str.ofString "&") = true ∧ lacks (Str.ofString "") (Str.ofString "<") = true ∧ lacks (Str.ofString "") (Str.ofString "\"") = true ∧ lacks (Str.ofString "") (Str.ofString "\t") = true ∧ lacks (Str.ofString "") (Str.ofString "\n") = true ∧ lacks (Str.ofString "") (Str.ofString "\x0d") = true := by decide +kernel
/-- a place where the walk stops, to be led on by hand -/
structure Stop (P : Prop) : Prop where
  go : P
theorem comp_end0 {h₀ : Heap} {L I C D : Addr} {m : Str → Option Value} {s₁ : Shared} {oI oC oD : Obj} {S : List (Addr × Obj) → Prop} {rest : Value → List (Addr × Obj) → Prop} {y : Value} {h' : Heap} {tk : Nat} {news' : List (Addr × Obj)}
    (F : Fr h₀ L h' m) (N : News h₀ L h' ((I, oI) :: (C, oC) :: (D, oD) :: news')) (off : LCg.Off3 I C D news') (hS : S news') (r : rest y news') :
    LCg.CompEnd h₀ L m s₁ I oI C oC D oD S rest y { s₁ with heap := h', toks := tk } := LCg.CompEnd.intro F N news' (fun p hp => hp) off hS r
theorem off3_of {I C D : Addr} : ∀ {news : List (Addr × Obj)}, NeAll I (news.map (fun x => x.1)) → NeAll C (news.map (fun x => x.1)) → NeAll D (news.map (fun x => x.1)) → LCg.Off3 I C D news
  | [], _, _, _ => trivial
  | _ :: _, a, b, c => ⟨⟨a.go _ (.head _), b.go _ (.head _), c.go _ (.head _)⟩, off3_of ⟨fun x h => a.go x (.tail _ h)⟩ ⟨fun x h => b.go x (.tail _ h)⟩ ⟨fun x h => c.go x (.tail _ h)⟩⟩
theorem comp_end0n {h₀ : Heap} {L I C D : Addr} {m : Str → Option Value} {s₁ : Shared} {oI oC oD : Obj} {S : List (Addr × Obj) → Prop} {rest : Value → List (Addr × Obj) → Prop} {y : Value} {h' : Heap} {tk : Nat} {news' : List (Addr × Obj)}
    (F : Fr h₀ L h' m) (N : News h₀ L h' ((I, oI) :: (C, oC) :: (D, oD) :: news'))
    (a : NeAll I (news'.map (fun x => x.1))) (b : NeAll C (news'.map (fun x => x.1))) (c : NeAll D (news'.map (fun x => x.1))) (hS : S news') (r : rest y news') :
    LCg.CompEnd h₀ L m s₁ I oI C oC D oD S rest y { s₁ with heap := h', toks := tk } := comp_end0 F N (off3_of a b c) hS r
theorem comp_end1 {h₀ : Heap} {L I C D : Addr} {m : Str → Option Value} {s₁ : Shared} {oI oC oD : Obj} {S : List (Addr × Obj) → Prop} {rest : Value → List (Addr × Obj) → Prop} {y : Value} {h' : Heap} {tk : Nat} {news' : List (Addr × Obj)} {e : Addr × Obj}
    (F : Fr h₀ L h' m) (N : News h₀ L h' (e :: (I, oI) :: (C, oC) :: (D, oD) :: news')) (hn : NeAll e.1 (I :: C :: D :: news'.map (fun x => x.1)))
    (a : NeAll I (news'.map (fun x => x.1))) (b : NeAll C (news'.map (fun x => x.1))) (c : NeAll D (news'.map (fun x => x.1))) (hS : S (e :: news')) (r : rest y (e :: news')) :
    LCg.CompEnd h₀ L m s₁ I oI C oC D oD S rest y { s₁ with heap := h', toks := tk } :=
  LCg.CompEnd.intro F N (e :: news') (fun p hp => by
    simp only [List.mem_cons] at hp ⊢
    rcases hp with h | h | h | h | h
    · exact .inr (.inl h)
    · exact .inr (.inr (.inl h))
    · exact .inr (.inr (.inr (.inl h)))
    · exact .inl h
    · exact .inr (.inr (.inr (.inr h)))) ⟨⟨(hn.go I (.head _)).symm, (hn.go C (.tail _ (.head _))).symm, (hn.go D (.tail _ (.tail _ (.head _)))).symm⟩, off3_of a b c⟩ hS r
end
local macro_rules | `(tactic| walk_at "CompEnd") => `(tactic| k_extra "CompEnd")
local macro_rules | `(tactic| walk_at "CompRest") => `(tactic| k_extra "CompRest")
local macro_rules | `(tactic| walk_at "CompSrc") => `(tactic| k_extra "CompSrc")
local macro_rules | `(tactic| walk_at "CompT") => `(tactic| k_extra "CompT")
local macro_rules | `(tactic| walk_at "FinA") => `(tactic| k_extra "FinA")
local macro_rules | `(tactic| walk_at "FinE") => `(tactic| k_extra "FinE")
local macro_rules | `(tactic| walk_at "GEnd") => `(tactic| k_extra "GEnd")
local macro_rules | `(tactic| walk_at "GPost") => `(tactic| k_extra "GPost")
local macro_rules | `(tactic| walk_at "KEnd") => `(tactic| k_extra "KEnd")
local macro_rules | `(tactic| walk_at "KPost") => `(tactic| k_extra "KPost")
local macro_rules | `(tactic| walk_at "TextEnd") => `(tactic| k_extra "TextEnd")
local macro_rules | `(tactic| walk_at "TurnEnd") => `(tactic| k_extra "TurnEnd")
local macro_rules | `(tactic| walk_at "TurnPost") => `(tactic| k_extra "TurnPost")
local macro_rules | `(tactic| walk_at "Turns") => `(tactic| k_extra "Turns")
local macro_rules | `(tactic| walk_at "binaryOp Add ref ref") => `(tactic| k_extra "binaryOp Add ref ref")
local macro_rules | `(tactic| walk_at "binaryOp Add str str") => `(tactic| k_extra "binaryOp Add str str")
local macro_rules | `(tactic| walk_at "binaryOp Mult str int") => `(tactic| k_extra "binaryOp Mult str int")
local macro_rules | `(tactic| walk_at "call builtin:len") => `(tactic| k_extra "call builtin:len")
local macro_rules | `(tactic| walk_at "call builtin:list.append") => `(tactic| k_extra "call builtin:list.append")
local macro_rules | `(tactic| walk_at "call builtin:re.Pattern.search") => `(tactic| k_extra "call builtin:re.Pattern.search")
local macro_rules | `(tactic| walk_at "call builtin:str.join") => `(tactic| k_extra "call builtin:str.join")
local macro_rules | `(tactic| walk_at "call builtin:str.lower") => `(tactic| k_extra "call builtin:str.lower")
local macro_rules | `(tactic| walk_at "call builtin:str.replace") => `(tactic| k_extra "call builtin:str.replace")
local macro_rules | `(tactic| walk_at "call builtin:str.split") => `(tactic| k_extra "call builtin:str.split")
local macro_rules | `(tactic| walk_at "call ref") => `(tactic| k_extra "call ref")
local macro_rules | `(tactic| walk_at "call type:range") => `(tactic| k_extra "call type:range")
local macro_rules | `(tactic| walk_at "call type:set") => `(tactic| k_extra "call type:set")
local macro_rules | `(tactic| walk_at "compareOp Eq ref ref") => `(tactic| k_extra "compareOp Eq ref ref")
local macro_rules | `(tactic| walk_at "compareOp Is str str") => `(tactic| k_extra "compareOp Is str str")
local macro_rules | `(tactic| walk_at "compareOp NotEq ref ref") => `(tactic| k_extra "compareOp NotEq ref ref")
local macro_rules | `(tactic| walk_at "eval ListComp") => `(tactic| k_extra "eval ListComp")
local macro_rules | `(tactic| walk_at "eval Name") => `(tactic| k_extra "eval Name")
local macro_rules | `(tactic| walk_at "exec Assign cons ListComp") => `(tactic| k_extra "exec Assign cons ListComp")
local macro_rules | `(tactic| walk_at "exec For Name Attribute cons nil") => `(tactic| k_extra "exec For Name Attribute cons nil")
local macro_rules | `(tactic| walk_at "exec For Name Call cons nil") => `(tactic| k_extra "exec For Name Call cons nil")
local macro_rules | `(tactic| walk_at "exec For Name Name cons nil") => `(tactic| k_extra "exec For Name Name cons nil")
local macro_rules | `(tactic| walk_at "exec For Tuple Attribute cons nil") => `(tactic| k_extra "exec For Tuple Attribute cons nil")
local macro_rules | `(tactic| walk_at "execs cons") => `(tactic| k_extra "execs cons")
local macro_rules | `(tactic| walk_at "forall") => `(tactic| k_extra "forall")
local macro_rules | `(tactic| walk_at "getMethod ref") => `(tactic| k_extra "getMethod ref")
local macro_rules | `(tactic| walk_at "hid") => `(tactic| k_extra "hid")
local macro_rules | `(tactic| walk_at "ite") => `(tactic| k_extra "ite")
local macro_rules | `(tactic| k_all) => `(tactic| k_extra "k_all")
local macro_rules | `(tactic| k_mem) => `(tactic| k_extra "k_mem")
local macro_rules | `(tactic| k_ne) => `(tactic| k_extra "k_ne")
local macro_rules | `(tactic| ktr_enter) => `(tactic| k_extra "ktr_enter")
local macro_rules | `(tactic| walk_at "pyIter ref") => `(tactic| k_extra "pyIter ref")
local macro_rules | `(tactic| walk_at "pyIter str") => `(tactic| k_extra "pyIter str")
local macro_rules | `(tactic| walk_at "setItem ref int") => `(tactic| k_extra "setItem ref int")
local macro_rules | `(tactic| walk_at "storeName") => `(tactic| k_extra "storeName")
local macro_rules | `(tactic| walk_at "subscriptTail") => `(tactic| k_extra "subscriptTail")
local macro_rules | `(tactic| walk_at "subscriptTail Name Constant ref int") => `(tactic| k_extra "subscriptTail Name Constant ref int")
local macro_rules | `(tactic| walk_at "subscriptTail Name Name ref int") => `(tactic| k_extra "subscriptTail Name Name ref int")
local macro_rules | `(tactic| walk_at "subscriptTail Name Subscript ref int") => `(tactic| k_extra "subscriptTail Name Subscript ref int")
local macro_rules | `(tactic| walk_at "subscriptTail Subscript Constant ref int") => `(tactic| k_extra "subscriptTail Subscript Constant ref int")
local macro_rules | `(tactic| walk_at "subscriptTail Subscript Name ref int") => `(tactic| k_extra "subscriptTail Subscript Name ref int")
local macro_rules | `(tactic| walk_at "lt_chain") => `(tactic| with_reducible first | exact lt_c0 | (refine lt_c1 ?_; walk_at "lt_chain"))
local macro_rules | `(tactic| walk_at "conj_go") => `(tactic| with_reducible first | exact ne_lt | exact ne_gt | exact ne_id | exact ne_sy | (refine and_a ?_; walk_at "conj_go") | (refine and_b ?_; walk_at "conj_go"))
local macro_rules | `(tactic| walk_at "conj") => `(tactic| ((rename _ ∧ _ => lx); first | ((refine cut_imp lx ?_); walk_at "conj_go") | (clear lx; walk_at "conj")))
local macro_rules | `(tactic| walk_at "ne_fast") => `(tactic| k_whole; first | (with_reducible assumption) | (with_reducible exact ne_sy (by assumption)) | (with_reducible exact ne_lt (by assumption)) | (with_reducible exact ne_gt (by assumption)) | (refine ne_gt ?_; walk_at "lt_chain") | (refine ne_lt ?_; walk_at "lt_chain") | walk_at "conj" | walk_at "hid")
local macro_rules | `(tactic| walk_at "mem_i") => `(tactic| k_dflt (first | exact List.Mem.head _ | exact mem_i 1 rfl | exact mem_i 2 rfl | exact mem_i 3 rfl | exact mem_i 4 rfl | exact mem_i 5 rfl | exact mem_i 6 rfl | exact mem_i 7 rfl | exact mem_i 8 rfl | exact mem_i 9 rfl | exact mem_i 10 rfl | exact mem_i 11 rfl | exact mem_i 12 rfl | exact mem_i 13 rfl | exact mem_i 14 rfl | exact mem_i 15 rfl | exact mem_i 16 rfl | exact mem_i 17 rfl | exact mem_i 18 rfl | exact mem_i 19 rfl | exact mem_i 20 rfl | exact mem_i 21 rfl | exact mem_i 22 rfl | exact mem_i 23 rfl | exact mem_i 24 rfl | exact mem_i 25 rfl | exact mem_i 26 rfl | exact mem_i 27 rfl | exact mem_i 28 rfl | exact mem_i 29 rfl | exact mem_i 30 rfl | exact mem_i 31 rfl | exact mem_i 32 rfl | exact mem_i 33 rfl | exact mem_i 34 rfl | exact mem_i 35 rfl | exact mem_i 36 rfl | exact mem_i 37 rfl | exact mem_i 38 rfl | exact mem_i 39 rfl | exact mem_i 40 rfl | exact mem_i 41 rfl | exact mem_i 42 rfl | exact mem_i 43 rfl | exact mem_i 44 rfl | exact mem_i 45 rfl))
local macro_rules | `(tactic| walk_at "a_mem") => `(tactic| walk_at "mem_i")
local macro_rules | `(tactic| walk_at "ne_chain") => `(tactic| first | assumption | (refine neAll_and ?h1 ?h2; (case h1 => k_ne); (case h2 => walk_at "ne_chain")))
set_option maxHeartbeats 0 in
theorem noneBooked : ∀ {w : World} {h : Heap} {p : Program} {loose : List Str} {mean : ExcName → Option Value} {mg mb : Str → Option Value} (T : Top p loose mean mg mb h) (X : (hd.heap_1_1 w.params).In h) (e : nsIn (hd.heap_1_1 w.params) cStatics sharingNotToldKey = some none),
      NoneBooked h := by
      intro w h p loose mean mg mb T X e
      obtain ⟨mc, hn, _⟩ := T.nolimit
      exact ⟨mc, hn, ns_none X hn e⟩
set_option maxHeartbeats 0 in
theorem c_blocks : ∀ {w : World} {mean : ExcName → Option Value} {mg mb : Str → Option Value} {dp un : Nat} {gd : Option (List Code)} {env : Env} {outer : List Env} {A₀ : Around} {base h₀ : Heap} {L : Addr} {m : Str → Option Value} {s : Shared} {Q E : Value → Shared → Prop} (C : Cx0 hd.heap_1_1 hd.view_1_2 w mean mg mb dp un env outer A₀ base h₀ L m s) {c : Int} {t : Tok} (ret : ∀ D vs n h' tk', Ups (s.toks + 1) tk' vs (blk c) → Kept s.heap h' → s.heap.get? D = none → h'.get? D = some (listOf vs.toArray n) → Q (.ref D) { s with heap := h', toks := tk' }),
      wpAny (model PySem.Challenge.rw_tc0079_01.row.prog w) (kTop dp un gd env outer) (call (.ref 304) [.int c t]) Q E s := by
      intro w mean mg mb dp un gd env outer A₀ base h₀ L m s Q E C c t ret
      k_with_none
      k_with "ktr_enter" => ((refine' p_plain (by assumption) (by assumption) (by assumption) (by assumption) ?g1kA ?g1kF ?g1kK ?g1k6 ?g1k7 ?g1k8 ?g1k9 ?g1kB ?_ ?g1c2 ?g1c3 ?g1c4 ?g1c5; (case g1kA => exact rfl); (case g1kF => assumption); (case g1kK => assumption); (case g1k6 => k_is); (case g1k7 => k_is); (case g1k8 => ktr_room); (case g1k9 => exact BindsTo.of_eq rfl); (case g1c5 => decide); (case g1kB => exact locs rfl); (case g1c2 => exact rfl); (case g1c3 => exact rfl); (case g1c4 => exact rfl); k_whole; intro L' h' F' N' B' X' T'; (try dsimp only); (try k_fold)))
      k_with "k_ne" => (first | (refine neN ?_; (try dsimp only); walk_at "ne_fast") | (refine neN ?_; (try dsimp only); omega))
      k_with "execs cons" => (((try dsimp only); (refine step_first (n := _) (by first | assumption | exact ⟨⟩) ?g1hX ?_); (case g1hX => first | assumption | exact Nat.zero_le _ | omega); intro tk htk Qc hQc; (try dsimp only)))
      k_with "eval Name" => ((k_here; k_dflt (refine' name_u ?g1F ?g1v ?_ ?g1a ?g1b; (case g1F => k_asm); (case g1a => rfl); (case g1b => rfl); (case g1v => exact look_mk (Eq.refl _)); k_whole)))
      k_with "storeName" => ((k_here; k_dflt (refine' store_u ?g1F ?g1N ?_ ?g1a ?g1b; (case g1F => k_asm); (case g1N => k_asm); (case g1a => rfl); (case g1b => rfl); k_whole; intro h' m' F' N'; (try k_sweep))))
      k_with "my_steps" => (repeat' (first | ((with_reducible refine step_next (by assumption) (by assumption) (by first | assumption | exact ⟨⟩) ?_); intro tk htk Qc hQc; (try dsimp only)) | ((with_reducible refine step_last (by assumption) ?_); intro htk; (try dsimp only)) | ((with_reducible refine cut_end (by assumption) ?_); (try dsimp only [Then])) | (k_unfold; (try dsimp only)) | (w_end; wrow_close) | walk1 | (dsimp only; walk1) | (leave1; (try dsimp only)) | ((with_reducible refine strip2 ?_); k_unfold; (try dsimp only)) | fail "no step"))
      k_with "forall" => (((try dsimp only); intro htk; (try dsimp only)))
      k_with "binaryOp Mult str int" => (((with_reducible show wpAny _ _ (binaryOp Operator.Mult (Value.str _ _) (Value.int _ _)) _ _ _); (refine' mul_textP ?g1hok ?g1ht ?g1hs ?_); (case g1hok => exact mulOk_of 1 4 (by decide) (by omega) (by omega) (by decide) (by decide)); (case g1ht => ((try dsimp only); omega)); (case g1hs => ((try dsimp only); omega)); intro t' k ht' hk'; (try dsimp only at hk')))
      k_with "binaryOp Add str str" => (((with_reducible show wpAny _ _ (binaryOp Operator.Add (Value.str _ _) (Value.str _ _)) _ _ _); (refine' add_textP ?g1ht ?g1hu ?g1hs ?_ ?g1hsz); (case g1ht => ((try dsimp only); first | assumption | omega)); (case g1hu => ((try dsimp only); first | assumption | omega)); (case g1hs => ((try dsimp only); omega)); (case g1hsz => ((simp only [Str.length_append, len_t, len_s]); omega)); intro t' k ht' hk'; (try dsimp only at hk')))
      k_with "binaryOp Add str str" => (((with_reducible show wpAny _ _ (binaryOp Operator.Add (Value.str _ _) (Value.str _ _)) _ _ _); (refine' add_textX ?g1hx ?g1hy ?_ ?g1hsz); (case g1hy => with_unfolding_all rfl); (case g1hx => first | exact hne1 (by assumption) | exact hne2 (by assumption) | exact hne3 (by assumption)); (case g1hsz => ((simp only [Str.length_append, len_t, len_s]); omega))))
      w_top off
      obtain ⟨B, F, X, T, hf, hke, hdp, hun⟩ := C
      revert X; k_fill; intro X
      have hm : TokLo (s.toks + 1) := ⟨⟩
      have h1 := len_fr1 c
      have h2 := len_fr2 c
      have h3 := len_fr1' c
      have b1 := Int.fmod_lt_of_pos (c.fdiv 4) (b := 2) (by decide)
      have b2 := Int.fmod_lt_of_pos (c.fdiv 8) (b := 5) (by decide)
      have b3 := Int.fmod_nonneg_of_pos (c.fdiv 4) (b := 2) (by decide)
      have b4 := Int.fmod_nonneg_of_pos (c.fdiv 8) (b := 5) (by decide)
      unfold fr1 at h1 h3
      unfold fr2 at h2
      refine wpAny_call ?_
      k_dflt ktr_enter
      refine gen_lo (n := s.toks + 1) hm (by with_unfolding_all exact Nat.le_refl _) fun tk htk => ?_
      walk_at "my_steps"
      all_goals (refine ret _ _ _ _ _ ?_ (Fr.keep (by assumption)) (News.fresh (by assumption) (List.Mem.head _)) (News.get (by assumption) (List.Mem.head _)); unfold blk; (first | rw [if_pos (by assumption)] | rw [if_neg (by assumption), if_pos (by assumption)] | rw [if_neg (by assumption), if_neg (by assumption), if_pos (by assumption)] | rw [if_neg (by assumption), if_neg (by assumption), if_neg (by assumption)]); (try dsimp only); first | exact .cons _ _ (by omega) (.nil (by omega)) | exact .cons _ _ (by omega) (.cons _ _ (by omega) (.nil (by omega))))
set_option maxHeartbeats 0 in
theorem c_escape0 : ∀ {w : World} {mean : ExcName → Option Value} {mg mb : Str → Option Value} {dp un : Nat} {gd : Option (List Code)} {env : Env} {outer : List Env} {A₀ : Around} {base h₀ : Heap} {L : Addr} {m : Str → Option Value} {s : Shared} {Q E : Value → Shared → Prop} (C : Cx0 hd.heap_1_1 hd.view_1_2 w mean mg mb dp un env outer A₀ base h₀ L m s) {x : Str} {t : Tok} (h1 : lacks x (Str.ofString "&") = true) (h2 : lacks x (Str.ofString "<") = true) (h3 : lacks x (Str.ofString "\"") = true) (h4 : lacks x (Str.ofString "\t") = true) (h5 : lacks x (Str.ofString "\n") = true) (h6 : lacks x (Str.ofString "\x0d") = true) (ret : ∀ t' h' tk', Kept s.heap h' → Q (.str x t') { s with heap := h', toks := tk' }),
      wpAny (model PySem.Challenge.rw_tc0079_01.row.prog w) (kTop dp un gd env outer) (call (.ref 297) [.str x t]) Q E s := by
      intro w mean mg mb dp un gd env outer A₀ base h₀ L m s Q E C x t h1 h2 h3 h4 h5 h6 ret
      k_with_none
      k_with "ktr_enter" => ((refine' p_plain (by assumption) (by assumption) (by assumption) (by assumption) ?g2kA ?g2kF ?g2kK ?g2k6 ?g2k7 ?g2k8 ?g2k9 ?g2kB ?_ ?g2c2 ?g2c3 ?g2c4 ?g2c5; (case g2kA => exact rfl); (case g2kF => assumption); (case g2kK => assumption); (case g2k6 => k_is); (case g2k7 => k_is); (case g2k8 => ktr_room); (case g2k9 => exact BindsTo.of_eq rfl); (case g2c5 => decide); (case g2kB => exact locs rfl); (case g2c2 => exact rfl); (case g2c3 => exact rfl); (case g2c4 => exact rfl); k_whole; intro L' h' F' N' B' X' T'; (try dsimp only); (try k_fold)))
      k_with "k_ne" => (first | (refine neN ?_; (try dsimp only); walk_at "ne_fast") | (refine neN ?_; (try dsimp only); omega))
      k_with "execs cons" => (((try dsimp only); (refine step_first (n := 1) (by first | assumption | exact ⟨⟩) ?g2hX ?_); (case g2hX => first | assumption | exact Nat.zero_le _ | omega); intro tk htk Qc hQc; (try dsimp only)))
      k_with "eval Name" => ((k_here; k_dflt (refine' name_u ?g2F ?g2v ?_ ?g2a ?g2b; (case g2F => k_asm); (case g2a => rfl); (case g2b => rfl); (case g2v => exact look_mk (Eq.refl _)); k_whole)))
      k_with "storeName" => ((k_here; k_dflt (refine' store_u ?g2F ?g2N ?_ ?g2a ?g2b; (case g2F => k_asm); (case g2N => k_asm); (case g2a => rfl); (case g2b => rfl); k_whole; intro h' m' F' N'; (try k_sweep))))
      k_with "my_steps" => (repeat' (first | ((with_reducible refine step_next (by assumption) (by assumption) (by first | assumption | exact ⟨⟩) ?_); intro tk htk Qc hQc; (try dsimp only)) | ((with_reducible refine step_last (by assumption) ?_); intro htk; (try dsimp only)) | ((with_reducible refine cut_end (by assumption) ?_); (try dsimp only [Then])) | (k_unfold; (try dsimp only)) | (w_end; wrow_close) | walk1 | (dsimp only; walk1) | (leave1; (try dsimp only)) | ((with_reducible refine strip2 ?_); k_unfold; (try dsimp only)) | fail "no step"))
      k_with "forall" => (((try dsimp only); intro htk; (try dsimp only)))
      k_with "ite" => (first | refine ite_no (by assumption) ?_ | refine ite_yes (by assumption) ?_)
      k_with "call builtin:str.replace" => (((with_reducible show wpAny _ _ (call (Value.builtin "str.replace") [Value.str _ _, Value.str _ _, Value.str _ _]) _ _ _); (refine' replace_text (by assumption) ?g2hz ?g2hyz ?g2hr ?g2hu ?g2hv ?_); (case g2hz => decide); (case g2hyz => decide +kernel); (case g2hr => first | assumption | rfl); (case g2hu => ((try dsimp only); omega)); (case g2hv => first | rfl | (dsimp only; done)); intro t' k))
      w_top off
      obtain ⟨B, F, X, T, hf, hke, hdp, hun⟩ := C
      revert X; k_fill; intro X
      unfold lacks at h1 h2 h3 h4 h5 h6
      refine wpAny_call ?_
      k_dflt ktr_enter
      walk_at "my_steps"
      all_goals (exact ret _ _ _ (Fr.keep (by assumption)))
set_option maxHeartbeats 0 in
theorem c_escapeT : ∀ {w : World} {mean : ExcName → Option Value} {mg mb : Str → Option Value} {dp un : Nat} {gd : Option (List Code)} {env : Env} {outer : List Env} {A₀ : Around} {base h₀ : Heap} {L : Addr} {m : Str → Option Value} {s : Shared} {Q E : Value → Shared → Prop} (C : Cx0 hd.heap_1_1 hd.view_1_2 w mean mg mb dp un env outer A₀ base h₀ L m s) {x : Str} {t : Tok} (hl : x.length ≤ 40) (h1 : lacks x (Str.ofString "&") = true) (h2 : lacks x (Str.ofString "<") = true) (h3 : lacks x (Str.ofString "\"") = true) (h4 : lacks x (Str.ofString "\t") = false) (h5 : lacks (Txt.replace x (Str.ofString "\t") (Str.ofString "&#x9;")) (Str.ofString "\n") = true) (h6 : lacks (Txt.replace x (Str.ofString "\t") (Str.ofString "&#x9;")) (Str.ofString "\x0d") = true) (ret : ∀ t' h' tk', Kept s.heap h' → Q (.str (Txt.replace x (Str.ofString "\t") (Str.ofString "&#x9;")) t') { s with heap := h', toks := tk' }),
      wpAny (model PySem.Challenge.rw_tc0079_01.row.prog w) (kTop dp un gd env outer) (call (.ref 297) [.str x t]) Q E s := by
      intro w mean mg mb dp un gd env outer A₀ base h₀ L m s Q E C x t hl h1 h2 h3 h4 h5 h6 ret
      k_with_none
      k_with "ktr_enter" => ((refine' p_plain (by assumption) (by assumption) (by assumption) (by assumption) ?g3kA ?g3kF ?g3kK ?g3k6 ?g3k7 ?g3k8 ?g3k9 ?g3kB ?_ ?g3c2 ?g3c3 ?g3c4 ?g3c5; (case g3kA => exact rfl); (case g3kF => assumption); (case g3kK => assumption); (case g3k6 => k_is); (case g3k7 => k_is); (case g3k8 => ktr_room); (case g3k9 => exact BindsTo.of_eq rfl); (case g3c5 => decide); (case g3kB => exact locs rfl); (case g3c2 => exact rfl); (case g3c3 => exact rfl); (case g3c4 => exact rfl); k_whole; intro L' h' F' N' B' X' T'; (try dsimp only); (try k_fold)))
      k_with "k_ne" => (first | (refine neN ?_; (try dsimp only); walk_at "ne_fast") | (refine neN ?_; (try dsimp only); omega))
      k_with "execs cons" => (((try dsimp only); (refine step_first (n := 1) (by first | assumption | exact ⟨⟩) ?g3hX ?_); (case g3hX => first | assumption | exact Nat.zero_le _ | omega); intro tk htk Qc hQc; (try dsimp only)))
      k_with "eval Name" => ((k_here; k_dflt (refine' name_u ?g3F ?g3v ?_ ?g3a ?g3b; (case g3F => k_asm); (case g3a => rfl); (case g3b => rfl); (case g3v => exact look_mk (Eq.refl _)); k_whole)))
      k_with "storeName" => ((k_here; k_dflt (refine' store_u ?g3F ?g3N ?_ ?g3a ?g3b; (case g3F => k_asm); (case g3N => k_asm); (case g3a => rfl); (case g3b => rfl); k_whole; intro h' m' F' N'; (try k_sweep))))
      k_with "my_steps" => (repeat' (first | ((with_reducible refine step_next (by assumption) (by assumption) (by first | assumption | exact ⟨⟩) ?_); intro tk htk Qc hQc; (try dsimp only)) | ((with_reducible refine step_last (by assumption) ?_); intro htk; (try dsimp only)) | ((with_reducible refine cut_end (by assumption) ?_); (try dsimp only [Then])) | (k_unfold; (try dsimp only)) | (w_end; wrow_close) | walk1 | (dsimp only; walk1) | (leave1; (try dsimp only)) | ((with_reducible refine strip2 ?_); k_unfold; (try dsimp only)) | fail "no step"))
      k_with "forall" => (((try dsimp only); intro htk; (try dsimp only)))
      k_with "ite" => (first | refine ite_no (by assumption) ?_ | refine ite_yes (by assumption) ?_)
      k_with "call builtin:str.replace" => (((with_reducible show wpAny _ _ (call (Value.builtin "str.replace") [Value.str _ _, Value.str _ _, Value.str _ _]) _ _ _); (refine' replace_text (by assumption) ?g3hz ?g3hyz ?g3hr ?g3hu ?g3hv ?_); (case g3hz => decide); (case g3hyz => decide +kernel); (case g3hr => first | assumption | rfl); (case g3hu => ((try dsimp only); omega)); (case g3hv => first | rfl | (dsimp only; done)); intro t' k))
      w_top off
      obtain ⟨B, F, X, T, hf, hke, hdp, hun⟩ := C
      revert X; k_fill; intro X
      unfold lacks at h1 h2 h3 h4 h5 h6
      refine wpAny_call ?_
      k_dflt ktr_enter
      walk_at "my_steps"
      all_goals (exact ret _ _ _ (Fr.keep (by assumption)))
set_option maxHeartbeats 0 in
theorem c_escapeA : ∀ {w : World} {mean : ExcName → Option Value} {mg mb : Str → Option Value} {dp un : Nat} {gd : Option (List Code)} {env : Env} {outer : List Env} {A₀ : Around} {base h₀ : Heap} {L : Addr} {m : Str → Option Value} {s : Shared} {Q E : Value → Shared → Prop} (C : Cx0 hd.heap_1_1 hd.view_1_2 w mean mg mb dp un env outer A₀ base h₀ L m s) {t : Tok} (ret : ∀ t' h' tk', Kept s.heap h' → Q (.str (Str.ofString "&amp;") t') { s with heap := h', toks := tk' }),
      wpAny (model PySem.Challenge.rw_tc0079_01.row.prog w) (kTop dp un gd env outer) (call (.ref 297) [.str (Str.ofString "&") t]) Q E s := by
      intro w mean mg mb dp un gd env outer A₀ base h₀ L m s Q E C t ret
      k_with_none
      k_with "ktr_enter" => ((refine' p_plain (by assumption) (by assumption) (by assumption) (by assumption) ?g4kA ?g4kF ?g4kK ?g4k6 ?g4k7 ?g4k8 ?g4k9 ?g4kB ?_ ?g4c2 ?g4c3 ?g4c4 ?g4c5; (case g4kA => exact rfl); (case g4kF => assumption); (case g4kK => assumption); (case g4k6 => k_is); (case g4k7 => k_is); (case g4k8 => ktr_room); (case g4k9 => exact BindsTo.of_eq rfl); (case g4c5 => decide); (case g4kB => exact locs rfl); (case g4c2 => exact rfl); (case g4c3 => exact rfl); (case g4c4 => exact rfl); k_whole; intro L' h' F' N' B' X' T'; (try dsimp only); (try k_fold)))
      k_with "k_ne" => (first | (refine neN ?_; (try dsimp only); walk_at "ne_fast") | (refine neN ?_; (try dsimp only); omega))
      k_with "execs cons" => (((try dsimp only); (refine step_first (n := 1) (by first | assumption | exact ⟨⟩) ?g4hX ?_); (case g4hX => first | assumption | exact Nat.zero_le _ | omega); intro tk htk Qc hQc; (try dsimp only)))
      k_with "eval Name" => ((k_here; k_dflt (refine' name_u ?g4F ?g4v ?_ ?g4a ?g4b; (case g4F => k_asm); (case g4a => rfl); (case g4b => rfl); (case g4v => exact look_mk (Eq.refl _)); k_whole)))
      k_with "storeName" => ((k_here; k_dflt (refine' store_u ?g4F ?g4N ?_ ?g4a ?g4b; (case g4F => k_asm); (case g4N => k_asm); (case g4a => rfl); (case g4b => rfl); k_whole; intro h' m' F' N'; (try k_sweep))))
      k_with "my_steps" => (repeat' (first | ((with_reducible refine step_next (by assumption) (by assumption) (by first | assumption | exact ⟨⟩) ?_); intro tk htk Qc hQc; (try dsimp only)) | ((with_reducible refine step_last (by assumption) ?_); intro htk; (try dsimp only)) | ((with_reducible refine cut_end (by assumption) ?_); (try dsimp only [Then])) | (k_unfold; (try dsimp only)) | (w_end; wrow_close) | walk1 | (dsimp only; walk1) | (leave1; (try dsimp only)) | ((with_reducible refine strip2 ?_); k_unfold; (try dsimp only)) | fail "no step"))
      k_with "forall" => (((try dsimp only); intro htk; (try dsimp only)))
      k_with "ite" => (first | refine ite_no (by assumption) ?_ | refine ite_yes (by assumption) ?_)
      k_with "call builtin:str.replace" => (((with_reducible show wpAny _ _ (call (Value.builtin "str.replace") [Value.str _ _, Value.str _ _, Value.str _ _]) _ _ _); (refine' replace_text (by assumption) ?g4hz ?g4hyz ?g4hr ?g4hu ?g4hv ?_); (case g4hz => decide); (case g4hyz => decide +kernel); (case g4hr => first | assumption | rfl); (case g4hu => ((try dsimp only); omega)); (case g4hv => first | rfl | (dsimp only; done)); intro t' k))
      w_top off
      obtain ⟨B, F, X, T, hf, hke, hdp, hun⟩ := C
      revert X; k_fill; intro X
      have hl : (Str.ofString "&").length ≤ 40 := by decide
      have r1 : Txt.replace (Str.ofString "&") (Str.ofString "&") (Str.ofString "&amp;") = Str.ofString "&amp;" := by decide +kernel
      have h1 : lacks (Str.ofString "&") (Str.ofString "&") = false := by decide +kernel
      have h2 : lacks (Str.ofString "&amp;") (Str.ofString "<") = true := by decide +kernel
      have h3 : lacks (Str.ofString "&amp;") (Str.ofString "\"") = true := by decide +kernel
      have h4 : lacks (Str.ofString "&amp;") (Str.ofString "\t") = true := by decide +kernel
      have h5 : lacks (Str.ofString "&amp;") (Str.ofString "\n") = true := by decide +kernel
      have h6 : lacks (Str.ofString "&amp;") (Str.ofString "\x0d") = true := by decide +kernel
      unfold lacks at h1 h2 h3 h4 h5 h6
      refine wpAny_call ?_
      k_dflt ktr_enter
      walk_at "my_steps"
      all_goals (exact ret _ _ _ (Fr.keep (by assumption)))
set_option maxHeartbeats 0 in
theorem c_escapeL : ∀ {w : World} {mean : ExcName → Option Value} {mg mb : Str → Option Value} {dp un : Nat} {gd : Option (List Code)} {env : Env} {outer : List Env} {A₀ : Around} {base h₀ : Heap} {L : Addr} {m : Str → Option Value} {s : Shared} {Q E : Value → Shared → Prop} (C : Cx0 hd.heap_1_1 hd.view_1_2 w mean mg mb dp un env outer A₀ base h₀ L m s) {t : Tok} (ret : ∀ t' h' tk', Kept s.heap h' → Q (.str (Str.ofString "&lt;&#xD;") t') { s with heap := h', toks := tk' }),
      wpAny (model PySem.Challenge.rw_tc0079_01.row.prog w) (kTop dp un gd env outer) (call (.ref 297) [.str (Str.ofString "<\x0d") t]) Q E s := by
      intro w mean mg mb dp un gd env outer A₀ base h₀ L m s Q E C t ret
      k_with_none
      k_with "ktr_enter" => ((refine' p_plain (by assumption) (by assumption) (by assumption) (by assumption) ?g5kA ?g5kF ?g5kK ?g5k6 ?g5k7 ?g5k8 ?g5k9 ?g5kB ?_ ?g5c2 ?g5c3 ?g5c4 ?g5c5; (case g5kA => exact rfl); (case g5kF => assumption); (case g5kK => assumption); (case g5k6 => k_is); (case g5k7 => k_is); (case g5k8 => ktr_room); (case g5k9 => exact BindsTo.of_eq rfl); (case g5c5 => decide); (case g5kB => exact locs rfl); (case g5c2 => exact rfl); (case g5c3 => exact rfl); (case g5c4 => exact rfl); k_whole; intro L' h' F' N' B' X' T'; (try dsimp only); (try k_fold)))
      k_with "k_ne" => (first | (refine neN ?_; (try dsimp only); walk_at "ne_fast") | (refine neN ?_; (try dsimp only); omega))
      k_with "execs cons" => (((try dsimp only); (refine step_first (n := 1) (by first | assumption | exact ⟨⟩) ?g5hX ?_); (case g5hX => first | assumption | exact Nat.zero_le _ | omega); intro tk htk Qc hQc; (try dsimp only)))
      k_with "eval Name" => ((k_here; k_dflt (refine' name_u ?g5F ?g5v ?_ ?g5a ?g5b; (case g5F => k_asm); (case g5a => rfl); (case g5b => rfl); (case g5v => exact look_mk (Eq.refl _)); k_whole)))
      k_with "storeName" => ((k_here; k_dflt (refine' store_u ?g5F ?g5N ?_ ?g5a ?g5b; (case g5F => k_asm); (case g5N => k_asm); (case g5a => rfl); (case g5b => rfl); k_whole; intro h' m' F' N'; (try k_sweep))))
      k_with "my_steps" => (repeat' (first | ((with_reducible refine step_next (by assumption) (by assumption) (by first | assumption | exact ⟨⟩) ?_); intro tk htk Qc hQc; (try dsimp only)) | ((with_reducible refine step_last (by assumption) ?_); intro htk; (try dsimp only)) | ((with_reducible refine cut_end (by assumption) ?_); (try dsimp only [Then])) | (k_unfold; (try dsimp only)) | (w_end; wrow_close) | walk1 | (dsimp only; walk1) | (leave1; (try dsimp only)) | ((with_reducible refine strip2 ?_); k_unfold; (try dsimp only)) | fail "no step"))
      k_with "forall" => (((try dsimp only); intro htk; (try dsimp only)))
      k_with "ite" => (first | refine ite_no (by assumption) ?_ | refine ite_yes (by assumption) ?_)
      k_with "call builtin:str.replace" => (((with_reducible show wpAny _ _ (call (Value.builtin "str.replace") [Value.str _ _, Value.str _ _, Value.str _ _]) _ _ _); (refine' replace_text (by assumption) ?g5hz ?g5hyz ?g5hr ?g5hu ?g5hv ?_); (case g5hz => decide); (case g5hyz => decide +kernel); (case g5hr => first | assumption | rfl); (case g5hu => ((try dsimp only); omega)); (case g5hv => first | rfl | (dsimp only; done)); intro t' k))
      w_top off
      obtain ⟨B, F, X, T, hf, hke, hdp, hun⟩ := C
      revert X; k_fill; intro X
      have h1 : lacks (Str.ofString "<\x0d") (Str.ofString "&") = true := by decide +kernel
      have h2 : lacks (Str.ofString "<\x0d") (Str.ofString "<") = false := by decide +kernel
      have r2 : Txt.replace (Str.ofString "<\x0d") (Str.ofString "<") (Str.ofString "&lt;") = Str.ofString "&lt;\x0d" := by decide +kernel
      have l2 : (Str.ofString "<\x0d").length ≤ 40 := by decide +kernel
      have h3 : lacks (Str.ofString "&lt;\x0d") (Str.ofString "\"") = true := by decide +kernel
      have h4 : lacks (Str.ofString "&lt;\x0d") (Str.ofString "\t") = true := by decide +kernel
      have h5 : lacks (Str.ofString "&lt;\x0d") (Str.ofString "\n") = true := by decide +kernel
      have h6 : lacks (Str.ofString "&lt;\x0d") (Str.ofString "\x0d") = false := by decide +kernel
      have r6 : Txt.replace (Str.ofString "&lt;\x0d") (Str.ofString "\x0d") (Str.ofString "&#xD;") = Str.ofString "&lt;&#xD;" := by decide +kernel
      have l6 : (Str.ofString "&lt;\x0d").length ≤ 40 := by decide +kernel
      unfold lacks at h1 h2 h3 h4 h5 h6
      refine wpAny_call ?_
      k_dflt ktr_enter
      walk_at "my_steps"
      all_goals (exact ret _ _ _ (Fr.keep (by assumption)))
set_option maxHeartbeats 0 in
theorem c_escapeQ : ∀ {w : World} {mean : ExcName → Option Value} {mg mb : Str → Option Value} {dp un : Nat} {gd : Option (List Code)} {env : Env} {outer : List Env} {A₀ : Around} {base h₀ : Heap} {L : Addr} {m : Str → Option Value} {s : Shared} {Q E : Value → Shared → Prop} (C : Cx0 hd.heap_1_1 hd.view_1_2 w mean mg mb dp un env outer A₀ base h₀ L m s) {t : Tok} (ret : ∀ t' h' tk', Kept s.heap h' → Q (.str (Str.ofString "&quot;&#xA;") t') { s with heap := h', toks := tk' }),
      wpAny (model PySem.Challenge.rw_tc0079_01.row.prog w) (kTop dp un gd env outer) (call (.ref 297) [.str (Str.ofString "\"\n") t]) Q E s := by
      intro w mean mg mb dp un gd env outer A₀ base h₀ L m s Q E C t ret
      k_with_none
      k_with "ktr_enter" => ((refine' p_plain (by assumption) (by assumption) (by assumption) (by assumption) ?g6kA ?g6kF ?g6kK ?g6k6 ?g6k7 ?g6k8 ?g6k9 ?g6kB ?_ ?g6c2 ?g6c3 ?g6c4 ?g6c5; (case g6kA => exact rfl); (case g6kF => assumption); (case g6kK => assumption); (case g6k6 => k_is); (case g6k7 => k_is); (case g6k8 => ktr_room); (case g6k9 => exact BindsTo.of_eq rfl); (case g6c5 => decide); (case g6kB => exact locs rfl); (case g6c2 => exact rfl); (case g6c3 => exact rfl); (case g6c4 => exact rfl); k_whole; intro L' h' F' N' B' X' T'; (try dsimp only); (try k_fold)))
      k_with "k_ne" => (first | (refine neN ?_; (try dsimp only); walk_at "ne_fast") | (refine neN ?_; (try dsimp only); omega))
      k_with "execs cons" => (((try dsimp only); (refine step_first (n := 1) (by first | assumption | exact ⟨⟩) ?g6hX ?_); (case g6hX => first | assumption | exact Nat.zero_le _ | omega); intro tk htk Qc hQc; (try dsimp only)))
      k_with "eval Name" => ((k_here; k_dflt (refine' name_u ?g6F ?g6v ?_ ?g6a ?g6b; (case g6F => k_asm); (case g6a => rfl); (case g6b => rfl); (case g6v => exact look_mk (Eq.refl _)); k_whole)))
      k_with "storeName" => ((k_here; k_dflt (refine' store_u ?g6F ?g6N ?_ ?g6a ?g6b; (case g6F => k_asm); (case g6N => k_asm); (case g6a => rfl); (case g6b => rfl); k_whole; intro h' m' F' N'; (try k_sweep))))
      k_with "my_steps" => (repeat' (first | ((with_reducible refine step_next (by assumption) (by assumption) (by first | assumption | exact ⟨⟩) ?_); intro tk htk Qc hQc; (try dsimp only)) | ((with_reducible refine step_last (by assumption) ?_); intro htk; (try dsimp only)) | ((with_reducible refine cut_end (by assumption) ?_); (try dsimp only [Then])) | (k_unfold; (try dsimp only)) | (w_end; wrow_close) | walk1 | (dsimp only; walk1) | (leave1; (try dsimp only)) | ((with_reducible refine strip2 ?_); k_unfold; (try dsimp only)) | fail "no step"))
      k_with "forall" => (((try dsimp only); intro htk; (try dsimp only)))
      k_with "ite" => (first | refine ite_no (by assumption) ?_ | refine ite_yes (by assumption) ?_)
      k_with "call builtin:str.replace" => (((with_reducible show wpAny _ _ (call (Value.builtin "str.replace") [Value.str _ _, Value.str _ _, Value.str _ _]) _ _ _); (refine' replace_text (by assumption) ?g6hz ?g6hyz ?g6hr ?g6hu ?g6hv ?_); (case g6hz => decide); (case g6hyz => decide +kernel); (case g6hr => first | assumption | rfl); (case g6hu => ((try dsimp only); omega)); (case g6hv => first | rfl | (dsimp only; done)); intro t' k))
      w_top off
      obtain ⟨B, F, X, T, hf, hke, hdp, hun⟩ := C
      revert X; k_fill; intro X
      have h1 : lacks (Str.ofString "\"\n") (Str.ofString "&") = true := by decide +kernel
      have h2 : lacks (Str.ofString "\"\n") (Str.ofString "<") = true := by decide +kernel
      have h3 : lacks (Str.ofString "\"\n") (Str.ofString "\"") = false := by decide +kernel
      have r3 : Txt.replace (Str.ofString "\"\n") (Str.ofString "\"") (Str.ofString "&quot;") = Str.ofString "&quot;\n" := by decide +kernel
      have l3 : (Str.ofString "\"\n").length ≤ 40 := by decide +kernel
      have h4 : lacks (Str.ofString "&quot;\n") (Str.ofString "\t") = true := by decide +kernel
      have h5 : lacks (Str.ofString "&quot;\n") (Str.ofString "\n") = false := by decide +kernel
      have r5 : Txt.replace (Str.ofString "&quot;\n") (Str.ofString "\n") (Str.ofString "&#xA;") = Str.ofString "&quot;&#xA;" := by decide +kernel
      have l5 : (Str.ofString "&quot;\n").length ≤ 40 := by decide +kernel
      have h6 : lacks (Str.ofString "&quot;&#xA;") (Str.ofString "\x0d") = true := by decide +kernel
      unfold lacks at h1 h2 h3 h4 h5 h6
      refine wpAny_call ?_
      k_dflt ktr_enter
      walk_at "my_steps"
      all_goals (exact ret _ _ _ (Fr.keep (by assumption)))
set_option maxHeartbeats 0 in
theorem c_column : ∀ {w : World} {mean : ExcName → Option Value} {mg mb : Str → Option Value} {dp un : Nat} {gd : Option (List Code)} {env : Env} {outer : List Env} {A₀ : Around} {base h₀ : Heap} {L : Addr} {m : Str → Option Value} {s : Shared} {Q E : Value → Shared → Prop} (C : Cx hd.heap_1_1 hd.view_1_2 w mean mg mb dp un env outer A₀ base h₀ L m s) {x : Str} {z : Int} {t u : Tok} (hl : x.length ≤ 40) (hz1 : 1 ≤ z) (hz4 : z ≤ 4) (ret : ∀ t' h' tk', Kept s.heap h' → Q (.int (colF z (KStt.codes x)) t') { s with heap := h', toks := tk' }),
      wpAny (model PySem.Challenge.rw_tc0079_01.row.prog w) (kTop dp un gd env outer) (call (.ref 318) [.str x t, .int z u]) Q E s := by
      intro w mean mg mb dp un gd env outer A₀ base h₀ L m s Q E C x z t u hl hz1 hz4 ret
      k_with_none
      k_with "ktr_enter" => ((refine' p_plain (by assumption) (by assumption) (by assumption) (by assumption) ?g7kA ?g7kF ?g7kK ?g7k6 ?g7k7 ?g7k8 ?g7k9 ?g7kB ?_ ?g7c2 ?g7c3 ?g7c4 ?g7c5; (case g7kA => exact rfl); (case g7kF => assumption); (case g7kK => assumption); (case g7k6 => k_is); (case g7k7 => k_is); (case g7k8 => ktr_room); (case g7k9 => exact BindsTo.of_eq rfl); (case g7c5 => decide); (case g7kB => exact locs rfl); (case g7c2 => exact rfl); (case g7c3 => exact rfl); (case g7c4 => exact rfl); k_whole; intro L' h' F' N' B' X' T'; (try dsimp only); (try k_fold)))
      k_with "k_ne" => (first | (refine neN ?_; (try dsimp only); walk_at "ne_fast") | (refine neN ?_; (try dsimp only); omega))
      k_with "execs cons" => (((try dsimp only); (refine step_first (n := 1) (by first | assumption | exact ⟨⟩) ?g7hX ?_); (case g7hX => first | assumption | exact Nat.zero_le _ | omega); intro tk htk Qc hQc; (try dsimp only)))
      k_with "eval Name" => ((k_here; k_dflt (refine' name_u ?g7F ?g7v ?_ ?g7a ?g7b; (case g7F => k_asm); (case g7a => rfl); (case g7b => rfl); (case g7v => exact look_mk (Eq.refl _)); k_whole)))
      k_with "my_steps" => (repeat' (first | ((with_reducible refine step_next (by assumption) (by assumption) (by first | assumption | exact ⟨⟩) ?_); intro tk htk Qc hQc; (try dsimp only)) | ((with_reducible refine step_last (by assumption) ?_); intro htk; (try dsimp only)) | ((with_reducible refine cut_end (by assumption) ?_); (try dsimp only [Then])) | (k_unfold; (try dsimp only)) | (w_end; wrow_close) | walk1 | (dsimp only; walk1) | (leave1; (try dsimp only)) | ((with_reducible refine strip2 ?_); k_unfold; (try dsimp only)) | fail "no step"))
      k_with "forall" => (((try dsimp only); intro htk; (try dsimp only)))
      w_top off
      obtain ⟨B, F, X, T, hf, hke, hdp, hun, htk⟩ := C
      revert X; k_fill; intro X
      k_with "pyIter str" => k_state (fun pre col => col = colF z pre ∧ 0 ≤ col ∧ col ≤ 8 * pre.length) "column"
      k_with "state" => first | exact col_tab (by assumption) (by assumption) (by assumption) (by assumption) (by assumption) (by assumption) | exact col_one (by assumption) (by assumption) (by assumption) (by assumption) | exact ⟨rfl, by decide, by decide⟩
      refine wpAny_call ?_
      k_dflt ktr_enter
      walk_at "my_steps"
      all_goals (rename _ = colF z (KStt.codes x) => e9; rw [e9]; exact ret _ _ _ (Fr.keep (by assumption)))
set_option maxHeartbeats 0 in
theorem c_count : ∀ {w : World} {mean : ExcName → Option Value} {mg mb : Str → Option Value} {dp un : Nat} {gd : Option (List Code)} {env : Env} {outer : List Env} {A₀ : Around} {base h₀ : Heap} {L : Addr} {m : Str → Option Value} {s : Shared} {Q E : Value → Shared → Prop} (C : Cx hd.heap_1_1 hd.view_1_2 w mean mg mb dp un env outer A₀ base h₀ L m s) {D : Addr} {vs : List Value} {ys : List Str} {y : Str} {t : Nat} (hD : s.heap.IsList D vs.toArray) (hT : TextsAre vs ys) (ht : 1 ≤ t) (hc : ∀ (z : Str) (u : Nat), Value.str z u ∈ vs → u = t → z = y) (hn : ys.length ≤ 100) (ret : ∀ t' h' tk', Kept s.heap h' → Q (.int (cntF y ys) t') { s with heap := h', toks := tk' }),
      wpAny (model PySem.Challenge.rw_tc0079_01.row.prog w) (kTop dp un gd env outer) (call (.ref 209) [.ref D, .str y t]) Q E s := by
      intro w mean mg mb dp un gd env outer A₀ base h₀ L m s Q E C D vs ys y t hD hT ht hc hn ret
      k_with_none
      k_with "ktr_enter" => ((refine' p_plain (by assumption) (by assumption) (by assumption) (by assumption) ?g8kA ?g8kF ?g8kK ?g8k6 ?g8k7 ?g8k8 ?g8k9 ?g8kB ?_ ?g8c2 ?g8c3 ?g8c4 ?g8c5; (case g8kA => exact rfl); (case g8kF => assumption); (case g8kK => assumption); (case g8k6 => k_is); (case g8k7 => k_is); (case g8k8 => ktr_room); (case g8k9 => exact BindsTo.of_eq rfl); (case g8c5 => decide); (case g8kB => exact locs rfl); (case g8c2 => exact rfl); (case g8c3 => exact rfl); (case g8c4 => exact rfl); k_whole; intro L' h' F' N' B' X' T'; (try dsimp only); (try k_fold)))
      k_with "k_ne" => (first | (refine neN ?_; (try dsimp only); walk_at "ne_fast") | (refine neN ?_; (try dsimp only); omega))
      k_with "execs cons" => (((try dsimp only); (refine step_first (n := _) (by first | assumption | exact ⟨⟩) ?g8hX ?_); (case g8hX => first | assumption | exact Nat.zero_le _ | omega); intro tk htk Qc hQc; (try dsimp only)))
      k_with "eval Name" => ((k_here; k_dflt (refine' name_u ?g8F ?g8v ?_ ?g8a ?g8b; (case g8F => k_asm); (case g8a => rfl); (case g8b => rfl); (case g8v => exact look_mk (Eq.refl _)); k_whole)))
      k_with "storeName" => ((k_here; k_dflt (refine' store_u ?g8F ?g8N ?_ ?g8a ?g8b; (case g8F => k_asm); (case g8N => k_asm); (case g8a => rfl); (case g8b => rfl); k_whole; intro h' m' F' N'; (try k_sweep))))
      k_with "my_steps" => (repeat' (first | ((with_reducible refine step_next (by assumption) (by assumption) (by first | assumption | exact ⟨⟩) ?_); intro tk htk Qc hQc; (try dsimp only)) | ((with_reducible refine step_last (by assumption) ?_); intro htk; (try dsimp only)) | ((with_reducible refine cut_end (by assumption) ?_); (try dsimp only [Then])) | (k_unfold; (try dsimp only)) | (w_end; wrow_close) | walk1 | (dsimp only; walk1) | (leave1; (try dsimp only)) | ((with_reducible refine strip2 ?_); k_unfold; (try dsimp only)) | fail "no step"))
      k_with "forall" => (((try dsimp only); intro htk; (try dsimp only)))
      k_with "exec For Name Name cons nil" => ((k_here; (rename Fr _ _ _ _ => lF'); (with_unfolding_all refine' For_turns lF' ?_; k_whole)))
      k_with "KPost" => ((dsimp only [KPost]))
      k_with "KEnd" => (((refine' KEnd.intro (by assumption) (by assumption) (by k_sub) ⟨⟨_, _, ?g8h1, ?g8h2⟩, ?g8h3⟩); (case g8h1 => with_unfolding_all rfl); (case g8h2 => k_extra "state"); (case g8h3 => (intro z hz1 hz2; simp +zetaDelta [upd, hz1, hz2]))))
      k_with "compareOp Is str str" => (((refine' is_str (by assumption) (by assumption) ?g8hb ?g8hc ?_); (case g8hb => exact NoneBooked.keeps (by assumption) (Fr.keep (by assumption))); (case g8hc => k_extra "is"); intro b hb))
      w_top off
      obtain ⟨B, F, X, T, hf, hke, hdp, hun, htk⟩ := C
      revert X; k_fill; intro X
      have hm : TokLo s.toks := ⟨⟩
      have hNB := noneBooked (T.keeps F.keep) (X.keeps F.keep) (by k_is)
      k_with "pyIter ref" => ((rename Fr _ _ _ _ => lF'); (rename News _ _ _ _ => lN'); (with_unfolding_all refine' loop_text (y := Str.ofString "count") (fun i a => a = cntF y (ys.take i) ∧ 0 ≤ a ∧ a ≤ i) rfl (by rfl) ?g8hl hT ?g8hlL lF' lN' (by rfl) (by decide) ?g8hP (by rfl) (by rfl) (fun i' z' t' a' ta' h' tk' own' hz' hv' ht' hp' F' N' => ?_) (fun u' a' t' h' tk' hp' F' N' => ?_)); (case g8hP => exact ⟨rfl, by decide, by decide⟩); (case g8hl => exact list_keep hD lF'); (case g8hlL => exact list_ne hD lF'); (all_goals (obtain ⟨hp1, hp2, hp3⟩ := hp')); (all_goals (try clear lF' lN')); (all_goals (try k_fold)))
      k_with "is" => exact hc _ _ (by assumption)
      k_with "state" => first | exact ⟨cnt_yesB (by assumption) (by assumption) (by assumption) (by assumption), by omega, by omega⟩ | exact ⟨cnt_yes (by assumption) (by assumption) (eq_of_beq (by assumption)), by omega, by omega⟩ | exact ⟨cnt_no (by assumption) (by assumption) (ne_of_beq_false (by assumption)), by omega, by omega⟩
      refine wpAny_call ?_
      k_dflt ktr_enter
      walk_at "my_steps"
      all_goals (rename _ = cntF y (ys.take ys.length) => e9; rw [List.take_length] at e9; rw [e9]; exact ret _ _ _ (Fr.keep (by assumption)))
set_option maxHeartbeats 0 in
theorem c_shares : ∀ {w : World} {mean : ExcName → Option Value} {mg mb : Str → Option Value} {dp un : Nat} {gd : Option (List Code)} {env : Env} {outer : List Env} {A₀ : Around} {base h₀ : Heap} {L : Addr} {m : Str → Option Value} {s : Shared} {Q E : Value → Shared → Prop} (C : Cx0 hd.heap_1_1 hd.view_1_2 w mean mg mb dp un env outer A₀ base h₀ L m s) {R : Addr} {rs : List Value} {vss : List (List Value)} {yss : List (List Str)} {z : Int} {t : Nat} (hR : s.heap.IsList R rs.toArray) (hL : Lists s.heap rs vss) (hT : Texts2 vss yss) (hc : Coh vss.flatten) (hz1 : 1 ≤ z) (hz4 : z ≤ 4) (hlen : ∀ b ∈ yss.flatten, b.length ≤ 40) (hn : yss.flatten.length ≤ 100) (hr4 : rs.length ≤ 100) (hdp2 : dp + 40 < recursionLimit) (hun2 : un + 400 < cLine) (ret : ∀ D ws n h' tk', IntsAre ws (yss.map (shareF z yss.flatten)) → Kept s.heap h' → s.heap.get? D = none → h'.get? D = some (listOf ws.toArray n) → Q (.ref D) { s with heap := h', toks := tk' }),
      wpAny (model PySem.Challenge.rw_tc0079_01.row.prog w) (kTop dp un gd env outer) (call (.ref 323) [.ref R, .int z t]) Q E s := by
      intro w mean mg mb dp un gd env outer A₀ base h₀ L m s Q E C R rs vss yss z t hR hL hT hc hz1 hz4 hlen hn hr4 hdp2 hun2 ret
      k_with_none
      k_with "ktr_enter" => ((refine' p_plain (by assumption) (by assumption) (by assumption) (by assumption) ?g9kA ?g9kF ?g9kK ?g9k6 ?g9k7 ?g9k8 ?g9k9 ?g9kB ?_ ?g9c2 ?g9c3 ?g9c4 ?g9c5; (case g9kA => exact rfl); (case g9kF => assumption); (case g9kK => assumption); (case g9k6 => k_is); (case g9k7 => k_is); (case g9k8 => ktr_room); (case g9k9 => exact BindsTo.of_eq rfl); (case g9c5 => decide); (case g9kB => exact locs rfl); (case g9c2 => exact rfl); (case g9c3 => exact rfl); (case g9c4 => exact rfl); k_whole; intro L' h' F' N' B' X' T'; (try dsimp only); (try k_fold)))
      k_with "k_ne" => (first | (refine neN ?_; (try dsimp only); walk_at "ne_fast") | (refine neN ?_; (try dsimp only); omega))
      k_with "execs cons" => (((try dsimp only); (refine step_first (n := _) (by first | assumption | exact ⟨⟩) ?g9hX ?_); (case g9hX => first | assumption | exact Nat.zero_le _ | omega); intro tk htk Qc hQc; (try dsimp only)))
      k_with "eval Name" => ((k_here; k_dflt (refine' name_u ?g9F ?g9v ?_ ?g9a ?g9b; (case g9F => k_asm); (case g9a => rfl); (case g9b => rfl); (case g9v => exact look_mk (Eq.refl _)); k_whole)))
      k_with "my_steps" => (repeat' (first | ((with_reducible refine step_next (by assumption) (by assumption) (by first | assumption | exact ⟨⟩) ?_); intro tk htk Qc hQc; (try dsimp only)) | ((with_reducible refine step_last (by assumption) ?_); intro htk; (try dsimp only)) | ((with_reducible refine cut_end (by assumption) ?_); (try dsimp only [Then])) | (k_unfold; (try dsimp only)) | (w_end; wrow_close) | walk1 | (dsimp only; walk1) | (leave1; (try dsimp only)) | ((with_reducible refine strip2 ?_); k_unfold; (try dsimp only)) | fail "no step"))
      k_with "forall" => (((try dsimp only); intro htk; (try dsimp only)))
      k_with "exec For Name Name cons nil" => ((k_here; (rename Fr _ _ _ _ => lF'); (with_unfolding_all refine' For_turns lF' ?_; k_whole)))
      k_with "exec For Name Call cons nil" => ((k_here; (rename Fr _ _ _ _ => lF'); (with_unfolding_all refine' For_turns lF' ?_; k_whole)))
      k_with "GPost" => ((dsimp only [GPost]))
      k_with "call builtin:list.append" => (k_extra "list.append")
      w_top off
      obtain ⟨B, F, X, T, hf, hke, hdp, hun⟩ := C
      revert X; k_fill; intro X
      have hm : TokLo 1 := ⟨⟩
      k_with "exec Assign cons ListComp" => ((rename Fr _ _ _ _ => lF'); (rename News _ _ _ _ => lN'); (with_unfolding_all refine' flat_assign (rs := rs) (vss := vss) (by rfl) ?g9a1 ?g9a2 (by rfl) ?g9a3 (by rfl) (by rfl) (by decide) (by decide) lF' lN' (list_keep hR lF') (hL.keeps lF'.keep) ?g9a4 (fun Q' h => ?g9a5) (by rfl) (by rfl) (by rfl) (fun D' n' h' tk' F' N' l1 => ?_) (fun _ => rfl)); (case g9a1 => decide); (case g9a2 => decide); (case g9a3 => decide); (case g9a4 => (rw [hT.flat.length, sizeLine_eq]; omega)); (case g9a5 => exact ld lF' (by rfl) h); (try clear lF' lN'); (try k_lt l1); (try k_fold))
      k_with "pyIter ref" => ((rename Fr _ _ _ _ => lF'); (rename News _ _ _ _ => lN'); first
        | ((with_unfolding_all refine' loop_ints (vs := rs) [Str.ofString "blocks", Str.ofString "share", Str.ofString "column", Str.ofString "block"] (fun i => shareF z yss.flatten (yss.getD i [])) rfl (list_keep hR lF') (list_ne hR lF') ?g9hlS lF' lN' (fun i1 v1 ws1 n1 u1 h1 tk1 own1 hi1 hv1 hW1 ho1 F1 N1 => ?_) (fun ws1 n1 u1 h1 tk1 hW1 F1 N1 => ?_)); (case g9hlS => exact list_news hR lN'); (all_goals (try clear lF' lN')); (all_goals (try (have q1 := Lists.get hL hv1; obtain ⟨r1, vs1, e1, hvv1, hG1⟩ := q1; have q2 := Texts2.get hT hvv1; obtain ⟨ys1, hyy1, hT1⟩ := q2; subst e1))); (all_goals (try simp only [List.cons_append, List.nil_append, List.append_assoc] at N1)); (all_goals (try k_fold)))
        | ((rename Heap.IsList _ _ (List.toArray _) => hG1); (rename TextsAre _ _ => hT1); (with_unfolding_all refine' loop_two (y1 := Str.ofString "share") (y2 := Str.ofString "column") [Str.ofString "block"] (shP z yss.flatten) rfl (list_keep hG1 lF') hT1 (list_ne hG1 lF') lF' lN' rfl rfl ?g9hP (fun i2 z2 t2 a2 ta2 b2 tb2 u2 h2 tk2 own2 hz2 hm2 ht2 hp2 F2 N2 => ?_) (fun a2 ta2 b2 tb2 u2 h2 tk2 hp2 F2 N2 => ?_)); (case g9hP => exact ⟨rfl, by decide, by decide, by decide, by decide⟩); (all_goals (try clear lF' lN')); (all_goals (obtain ⟨hp3, hp4, hp5, hp6, hp7⟩ := hp2)); (all_goals (try simp only [List.cons_append, List.nil_append, List.append_assoc] at N2)); (all_goals (try k_fold))))
      k_with "call ref" => ((rename Fr _ _ _ _ => lF'); (rename News _ _ _ _ => lN'); (with_reducible refine toks_in ?_); (first
        | ((with_unfolding_all refine' c_count (vs := vss.flatten) (ys := yss.flatten) ?g9C ?g9hD hT.flat ?g9d4 ?g9d5 hn (fun t' h' tk' k' => ?_)); (case g9hD => exact News.isList lN' (List.Mem.tail _ (List.Mem.head _))); (case g9d4 => assumption); (case g9d5 => exact coh_in hc (by assumption) (by assumption)))
        | ((with_unfolding_all refine' c_column ?g9C ?g9dl hz1 hz4 (fun t' h' tk' k' => ?_)); (case g9dl => exact hlen _ (mem_flat2 (xss := yss) (by assumption) (by assumption))))); (case g9C => ((with_unfolding_all refine' ⟨by assumption, lF', by assumption, by assumption, rfl, rfl, ?g9d1, ?g9d2, ?g9d3⟩); (case g9d1 => ((with_unfolding_all show (_ : Nat) + 1 + 20 < recursionLimit); first | exact room2 (k := 40) (by assumption) (by decide) | exact room2 (k := 60) (by assumption) (by decide) | exact room2 (k := 100) (by assumption) (by decide) | exact room2 (k := 20) (by assumption) (by decide) | omega)); (case g9d2 => ((with_unfolding_all show (_ : Nat) + 3 + 200 < cLine); first | exact room2 (k := 400) (by assumption) (by decide) | exact room2 (k := 600) (by assumption) (by decide) | exact room2 (k := 1000) (by assumption) (by decide) | exact room2 (k := 200) (by assumption) (by decide) | omega)); (case g9d3 => ((try dsimp only); omega)))); (have lF'' := fr_kept lF' k'); (have lN'' := news_kept lN' k'); (clear lF' lN'); (have hq0 := mem_flat2 (xss := yss) (by assumption) (by assumption)); (have hq := cnt_pos hq0); (have hq2 := cnt_le hq hn); (have hq3 := fdiv_bound hq); (have hq4 := colS_bound hz1 hz4 (hlen _ hq0)); (simp only [colS] at hq4); (obtain ⟨hq5, hq6⟩ := hq4); (obtain ⟨hq7, hq8⟩ := hq3); (try dsimp only))
      k_with "list.append" => ((rename Fr _ _ _ _ => lF'); (rename News _ _ _ _ => lN'); (with_unfolding_all refine' append_head lF' lN' ?g9hr ?g9hz (fun h' n' F' N' => ?_)); (case g9hr => exact off_one (by assumption) (by assumption)); (case g9hz => exact ints_small (by assumption) (by assumption) hr4); (clear lF' lN'); (try k_fold))
      k_with "GEnd" => ((rename Fr _ _ _ _ => lF'); (rename News _ _ _ _ => lN'); first
        | ((with_unfolding_all refine' two_end (P := shP z yss.flatten _ _) lF' lN' ?g9h2 ?g9h3 ?g9y1 ?g9y2 ?g9h6 ?g9h7); (case g9y1 => with_unfolding_all rfl); (case g9y2 => with_unfolding_all rfl); (case g9h2 => walk_at "mem_sub"); (case g9h3 => walk_at "mem_sub"); (case g9h6 => (intro z' h1' h2'; (simp_all))); (case g9h7 => (exact sh_turn (by assumption) (by assumption) (by assumption) (by assumption) (by assumption) (by assumption) (by assumption) (by assumption) (by assumption) (by assumption))))
        | ((with_unfolding_all refine' ints_end lF' lN' (List.Mem.head _) ?g9h2 ?g9h3 ?g9h6 ?g9h7); (case g9h2 => walk_at "mem_sub"); (case g9h3 => walk_at "mem_sub"); (case g9h6 => (intro z' h2'; (simp_all))); (case g9h7 => exact ints_turn (by assumption) (sh_fin (by assumption) (by assumption)))))
      refine wpAny_call ?_
      k_dflt ktr_enter
      walk_at "my_steps"
      rotate_left 1
      all_goals (rename IntsAre _ _ => hW'; rename Fr _ _ _ _ => lF'; rename News _ _ _ _ => lN'; rw [sh_all (hL.length.trans hT.length)] at hW'; exact ret _ _ _ _ _ hW' (Fr.keep lF') (News.fresh lN' (List.Mem.head _)) (News.get lN' (List.Mem.head _)))
set_option maxHeartbeats 0 in
theorem c_ws : ∀ {w : World} {mean : ExcName → Option Value} {mg mb : Str → Option Value} {dp un : Nat} {gd : Option (List Code)} {env : Env} {outer : List Env} {A₀ : Around} {base h₀ : Heap} {L : Addr} {m : Str → Option Value} {s : Shared} {Q E : Value → Shared → Prop} (C : Cx0 hd.heap_1_1 hd.view_1_2 w mean mg mb dp un env outer A₀ base h₀ L m s) {x : Str} {t : Nat} (hxy : x.cps.size ≤ 60) (ret : ∀ D d T Tc n b nt (simple : Bool) vs cs tn tb tt t1 t2 t3 t4 t5 L' h' (tk' : Nat), Kept s.heap h' → News s.heap L' h' (wsObjs w.params D d T Tc (.str x t) n b nt simple vs tn tb tt t1 t2 t3 t4 t5) → WsRec x D d T Tc (.str x t) n b nt simple vs cs tn tb tt t1 t2 t3 t4 t5 → Q (.ref D) { s with heap := h', toks := tk' }),
      wpAny (model PySem.Challenge.rw_tc0079_01.row.prog w) (kTop dp un gd env outer) (call (.ref 279) [.str x t]) Q E s := by
      intro w mean mg mb dp un gd env outer A₀ base h₀ L m s Q E C x t hxy ret
      k_with_none
      k_with "ktr_enter" => ((refine' p_plain (by assumption) (by assumption) (by assumption) (by assumption) ?g10kA ?g10kF ?g10kK ?g10k6 ?g10k7 ?g10k8 ?g10k9 ?g10kB ?_ ?g10c2 ?g10c3 ?g10c4 ?g10c5; (case g10kA => exact rfl); (case g10kF => assumption); (case g10kK => assumption); (case g10k6 => k_is); (case g10k7 => k_is); (case g10k8 => ktr_room); (case g10k9 => exact BindsTo.of_eq rfl); (case g10c5 => decide); (case g10kB => exact locs rfl); (case g10c2 => exact rfl); (case g10c3 => exact rfl); (case g10c4 => exact rfl); k_whole; intro L' h' F' N' B' X' T'; (try dsimp only); (try k_fold)))
      k_with "execs cons" => (((try dsimp only); (refine step_first (n := _) (by first | assumption | exact ⟨⟩) ?g10hX ?_); (case g10hX => first | assumption | exact Nat.zero_le _ | omega); intro tk htk Qc hQc; (try dsimp only)))
      k_with "forall" => (((try dsimp only); intro htk; (try dsimp only)))
      k_with "exec For Name Name cons nil" => ((k_here; (rename Fr _ _ _ _ => lF'); (with_unfolding_all refine' For_turns lF' ?_; k_whole)))
      k_with "exec For Name Call cons nil" => ((k_here; (rename Fr _ _ _ _ => lF'); (with_unfolding_all refine' For_turns lF' ?_; k_whole)))
      k_with "GPost" => ((dsimp only [GPost]))
      k_with "call builtin:list.append" => (k_extra "list.append")
      k_with "ktr_enter" => ((refine' p_cells (by assumption) (by assumption) (by assumption) (by assumption) ?g10kA ?g10kF ?g10kK ?g10k6 ?g10k7 ?g10k8 ?g10k9 ?g10kB ?g10kD ?_ ?g10c2 ?g10c3 ?g10c4; (case g10kA => exact rfl); (case g10kF => assumption); (case g10kK => assumption); (case g10k6 => k_is); (case g10k7 => k_is); (case g10k8 => ktr_room); (case g10k9 => exact BindsTo.of_eq rfl); (case g10kB => exact rfl); (case g10kD => decide +kernel); (case g10c2 => exact rfl); (case g10c3 => exact rfl); (case g10c4 => exact rfl); k_whole; intro L' h' tk' cells' F' N' Y' B' X' T'; k_cells Y'; (try simp only [List.cons_append, List.nil_append] at N'); (try dsimp only); (try k_fold)))
      k_with "eval ListComp" => (((with_reducible show wpAny _ _ (eval (Expr.ListComp _ _ _ _) _) _ _ _); lcf_look; k_dflt ((refine LCg.ListComp_U (F₀ := by k_asm) (by with_unfolding_all rfl) (by decide) (by rfl) (by decide) (by rfl) ?_)); k_dflt ((lcg_toSrc))))
      k_with "exec For Name Attribute cons nil" => ((k_here; (rename Fr _ _ _ _ => lF'); (with_unfolding_all refine' For_turns lF' ?_; k_whole)))
      k_with "k_all" => (assumption)
      k_with "k_ne" => (first | (refine neN ?_; (try dsimp only); walk_at "ne_fast") | (refine neN ?_; (try dsimp only); omega) | ((rename News _ _ _ _ => lN'); refine' news_ne lN' (by k_dflt k_mem) (by k_dflt k_mem) ?g10nc; (case g10nc => simp [dictOf, instObj])))
      k_with "call builtin:len" => (k_extra "len")
      k_with "call type:range" => (k_extra "range")
      k_with "eval Name" => ((k_here; k_dflt (refine' name_u ?g10F ?g10v ?_ ?g10a ?g10b; (case g10F => k_asm); (case g10a => rfl); (case g10b => rfl); (case g10v => exact look_mk (Eq.refl _)); k_whole)))
      k_with "storeName" => ((k_here; k_dflt (refine' store_u ?g10F ?g10N ?_ ?g10a ?g10b; (case g10F => k_asm); (case g10N => k_asm); (case g10a => rfl); (case g10b => rfl); k_whole; intro h' m' F' N'; (try k_sweep))))
      k_with "my_steps" => (repeat' (first | ((with_reducible refine step_next (by assumption) (by assumption) (by first | assumption | exact ⟨⟩) ?_); intro tk htk Qc hQc; (try dsimp only)) | ((with_reducible refine step_last (by assumption) ?_); intro htk; (try dsimp only)) | ((with_reducible refine cut_end (by assumption) ?_); (try dsimp only [Then])) | (k_unfold; (try dsimp only)) | (w_end; wrow_close) | walk1 | (dsimp only; walk1) | (leave1; (try dsimp only)) | ((with_reducible refine strip2 ?_); k_unfold; (try dsimp only)) | fail "no step"))
      k_with "my_enter" => ((refine' code_def ?g10k1 ?g10k2 ?g10k3 ?g10k4 ?g10k5 ?g10kA ?g10kF ?g10kK ?g10k6 ?g10k7 ?g10k8 ?g10k9 ?g10kB ?_ ?g10c2 ?g10c3 ?g10c4 ?g10c5; (case g10kA => exact rfl); (case g10kF => exact rfl); (case g10kK => exact rfl); (case g10k1 => k_asm); (case g10k2 => k_asm); (case g10k3 => k_asm); (case g10k4 => k_asm); (case g10k5 => k_asm); (case g10k6 => k_is); (case g10k7 => k_is); (case g10k8 => ktr_room); (case g10k9 => exact BindsTo.of_eq rfl); (case g10c5 => decide); (case g10kB => exact locs rfl); (case g10c2 => exact rfl); (case g10c3 => exact rfl); (case g10c4 => exact rfl); k_whole; intro g' L' h' FG' F' N' B' X' T'; (try dsimp only); (try k_lift B'); (try k_fold)))
      w_top off
      obtain ⟨B, F, X, T, hf, hke, hdp, hun⟩ := C
      revert X; k_fill; intro X
      have hm : TokLo 0 := ⟨⟩
      k_with "pyIter str" => ((rename Fr _ _ _ _ => lF'); (rename News _ _ _ _ => lN'); (with_unfolding_all refine' loop_ws ?g10hx ?g10hC rfl lF' lN' rfl rfl rfl rfl (fun i2 ch2 t2 n2 tn2 b2 tb2 nt2 tt2 C2 vs2 k2 cs2 u2 h2 tk2 own2 hz2 hi2 ho2 hp2 F2 N2 => ?_) (fun n2 tn2 b2 tb2 nt2 tt2 C2 vs2 k2 cs2 u2 h2 tk2 hp2 F2 N2 => ?_) (fun _ _ => rfl)); (case g10hx => exact hxy); (case g10hC => exact allNe_of (by k_all)); (try clear lF' lN'); (all_goals (have hwp := hp2)); (all_goals (obtain ⟨hw0, hw1, hw2, hw3, hw4, hw5, hw6, hw7, hw8, hw9, hw10⟩ := hp2)); (all_goals (simp only [List.cons_append, List.nil_append] at N2)); (all_goals (simp only [AllNe, and_true] at hw0)); (all_goals (have hwl := ints_length hw1)))
      k_with "len" => ((rename News _ _ _ _ => lN'); (with_unfolding_all refine' kun_lenT (News.isTup lN' (by k_mem)) (tup_len (by assumption)) ?g10k3 ?_); (case g10k3 => omega))
      k_with "GEnd" => ((rename Fr _ _ _ _ => lF'); (rename News _ _ _ _ => lN'); (first | (with_unfolding_all refine' ws_end (wsP _ _ _) lF' lN' (List.Mem.head _) ?g10h2 ?g10h3 ?g10y1 ?g10y2 ?g10y3 ?g10y4 ?g10h6 ?g10h7) | (with_unfolding_all refine' ws_end (wsB _ _) lF' lN' (List.Mem.head _) ?g10h2 ?g10h3 ?g10y1 ?g10y2 ?g10y3 ?g10y4 ?g10h6 ?g10h7)); (case g10y1 => with_unfolding_all rfl); (case g10y2 => with_unfolding_all rfl); (case g10y3 => with_unfolding_all rfl); (case g10y4 => with_unfolding_all rfl); (case g10h2 => walk_at "mem_sub"); (case g10h3 => walk_at "mem_sub"); (case g10h6 => (intro z' h1' h2'; have h3' := h2'; simp only [List.contains_cons, List.contains_nil, Bool.or_false, Bool.or_eq_false_iff, beq_eq_false_iff_ne, ne_eq] at h1' h2'; simp +zetaDelta only [upd, h1', h2', h3', Bool.false_eq_true, ↓reduceIte])); (case g10h7 => (first | exact ws_sp (by assumption) (by assumption) (by assumption) | exact ws_brk (by assumption) (by assumption) (by assumption) (by assumption) | exact ws_tab (by assumption) (by assumption) (by assumption) (by first | (with_reducible assumption) | exact allNe_of (by k_all)) (by assumption) (by first | exact bump_old (by omega) (by omega) | exact bump_new (by omega) (by omega)))))
      refine wpAny_call ?_
      refine' p_make ?g10k1 ?g10k2 ?g10k3 ?g10k5 ?g10kA ?g10kF ?g10kK ?g10m1 ?g10m2 ?g10m3 ?g10k6 ?g10k7 ?g10k8 ?g10kA2 ?g10k9 ?g10kB ?_ ?g10c2 ?g10c3 ?g10c4 ?g10c5
      case g10k1 => assumption
      case g10k2 => assumption
      case g10k3 => assumption
      case g10k5 => assumption
      case g10kA => exact rfl
      case g10kA2 => exact rfl
      case g10kF => assumption
      case g10kK => assumption
      case g10m1 => k_is
      case g10m2 => k_is
      case g10m3 => k_is
      case g10k6 => k_is
      case g10k7 => k_is
      case g10k8 => ktr_room
      case g10k9 => exact fun x s' => BindsTo.of_eq rfl
      case g10kB => exact fun x => locs rfl
      case g10c2 => exact rfl
      case g10c3 => exact rfl
      case g10c4 => exact rfl
      case g10c5 => decide
      k_whole
      intro x' d' L' h' l1 F' N' B' X' T'
      try dsimp only
      try k_lt l1
      try k_sweep
      try k_fold
      walk_at "my_steps"


      all_goals dsimp only [InitBack]
      all_goals refine ⟨rfl, ?_⟩
      all_goals (rename Fr _ _ _ _ => lF'; rename News _ _ _ _ => lN')
      all_goals exact ret _ _ _ _ _ _ _ _ _ _ _ _ _ _ _ _ _ _ _ _ _ (Fr.keep lF') (news_0145 lN') ⟨hxy, by assumption, by assumption, by assumption, by assumption, by assumption, by assumption, by assumption, by assumption⟩
set_option maxHeartbeats 0 in
theorem c_il : ∀ {w : World} {mean : ExcName → Option Value} {mg mb : Str → Option Value} {dp un : Nat} {gd : Option (List Code)} {env : Env} {outer : List Env} {A₀ : Around} {base h₀ : Heap} {L : Addr} {m : Str → Option Value} {s : Shared} (C : Cx0 hd.heap_1_1 hd.view_1_2 w mean mg mb dp un env outer A₀ base h₀ L m s) {R : Result → Shared → Prop} {x : Str} {D d T Tc : Addr} {raw : Value} {n b nt z : Int} {simple : Bool} {vs : List Value} {cs : List Int} {tn tb tt t1 t2 t3 t4 t5 tz : Tok} (W : WsRec x D d T Tc raw n b nt simple vs cs tn tb tt t1 t2 t3 t4 t5) (N0 : News h₀ L s.heap (wsObjs w.params D d T Tc raw n b nt simple vs tn tb tt t1 t2 t3 t4 t5)) (hz1 : 1 ≤ z) (hz4 : z ≤ 4) (ret : ∀ t' h' tk', 0 ≤ lvF z x → lvF z x ≤ 2000000 → Kept s.heap h' → R (.ok (.ret (.int (lvF z x) t'))) { s with heap := h', toks := tk' }),
      codeAny (model PySem.Challenge.rw_tc0079_01.row.prog w) (kTop dp un gd env outer) (.call (.ref 248) ⟨[.ref D, .int z tz], []⟩) R s := by
      intro w mean mg mb dp un gd env outer A₀ base h₀ L m s C R x D d T Tc raw n b nt z simple vs cs tn tb tt t1 t2 t3 t4 t5 tz W N0 hz1 hz4 ret
      k_with_none
      k_with "ktr_enter" => ((refine' p_plain (by assumption) (by assumption) (by assumption) (by assumption) ?g11kA ?g11kF ?g11kK ?g11k6 ?g11k7 ?g11k8 ?g11k9 ?g11kB ?_ ?g11c2 ?g11c3 ?g11c4 ?g11c5; (case g11kA => exact rfl); (case g11kF => assumption); (case g11kK => assumption); (case g11k6 => k_is); (case g11k7 => k_is); (case g11k8 => ktr_room); (case g11k9 => exact BindsTo.of_eq rfl); (case g11c5 => decide); (case g11kB => exact locs rfl); (case g11c2 => exact rfl); (case g11c3 => exact rfl); (case g11c4 => exact rfl); k_whole; intro L' h' F' N' B' X' T'; (try dsimp only); (try k_fold)))
      k_with "execs cons" => (((try dsimp only); (refine step_first (n := _) (by first | assumption | exact ⟨⟩) ?g11hX ?_); (case g11hX => first | assumption | exact Nat.zero_le _ | omega); intro tk htk Qc hQc; (try dsimp only)))
      k_with "forall" => (((try dsimp only); intro htk; (try dsimp only)))
      k_with "exec For Name Name cons nil" => ((k_here; (rename Fr _ _ _ _ => lF'); (with_unfolding_all refine' For_turns lF' ?_; k_whole)))
      k_with "exec For Name Call cons nil" => ((k_here; (rename Fr _ _ _ _ => lF'); (with_unfolding_all refine' For_turns lF' ?_; k_whole)))
      k_with "GPost" => ((dsimp only [GPost]))
      k_with "call builtin:list.append" => (k_extra "list.append")
      k_with "ktr_enter" => ((refine' p_cells (by assumption) (by assumption) (by assumption) (by assumption) ?g11kA ?g11kF ?g11kK ?g11k6 ?g11k7 ?g11k8 ?g11k9 ?g11kB ?g11kD ?_ ?g11c2 ?g11c3 ?g11c4; (case g11kA => exact rfl); (case g11kF => assumption); (case g11kK => assumption); (case g11k6 => k_is); (case g11k7 => k_is); (case g11k8 => ktr_room); (case g11k9 => exact BindsTo.of_eq rfl); (case g11kB => exact rfl); (case g11kD => decide +kernel); (case g11c2 => exact rfl); (case g11c3 => exact rfl); (case g11c4 => exact rfl); k_whole; intro L' h' tk' cells' F' N' Y' B' X' T'; k_cells Y'; (try simp only [List.cons_append, List.nil_append] at N'); (try dsimp only); (try k_fold)))
      k_with "eval ListComp" => (((with_reducible show wpAny _ _ (eval (Expr.ListComp _ _ _ _) _) _ _ _); lcf_look; k_dflt ((refine LCg.ListComp_U (F₀ := by k_asm) (by with_unfolding_all rfl) (by decide) (by rfl) (by decide) (by rfl) ?_)); k_dflt ((lcg_toSrc))))
      k_with "exec For Name Attribute cons nil" => ((k_here; (rename Fr _ _ _ _ => lF'); (with_unfolding_all refine' For_turns lF' ?_; k_whole)))
      k_with "k_all" => (assumption)
      k_with "k_ne" => (first | (refine neN ?_; (try dsimp only); walk_at "ne_fast") | (refine neN ?_; (try dsimp only); omega) | ((rename News _ _ _ _ => lN'); refine' news_ne lN' (by k_dflt k_mem) (by k_dflt k_mem) ?g11nc; (case g11nc => simp [dictOf, instObj])))
      k_with "call builtin:len" => (k_extra "len")
      k_with "call type:range" => (k_extra "range")
      k_with "eval Name" => ((k_here; k_dflt (refine' name_u ?g11F ?g11v ?_ ?g11a ?g11b; (case g11F => k_asm); (case g11a => rfl); (case g11b => rfl); (case g11v => exact look_mk (Eq.refl _)); k_whole)))
      k_with "storeName" => ((k_here; k_dflt (refine' store_u ?g11F ?g11N ?_ ?g11a ?g11b; (case g11F => k_asm); (case g11N => k_asm); (case g11a => rfl); (case g11b => rfl); k_whole; intro h' m' F' N'; (try k_sweep))))
      k_with "my_steps" => (repeat' (first | ((with_reducible refine step_next (by assumption) (by assumption) (by first | assumption | exact ⟨⟩) ?_); intro tk htk Qc hQc; (try dsimp only)) | ((with_reducible refine step_last (by assumption) ?_); intro htk; (try dsimp only)) | ((with_reducible refine cut_end (by assumption) ?_); (try dsimp only [Then])) | (k_unfold; (try dsimp only)) | (w_end; wrow_close) | walk1 | (dsimp only; walk1) | (leave1; (try dsimp only)) | ((with_reducible refine strip2 ?_); k_unfold; (try dsimp only)) | fail "no step"))
      k_with "my_enter" => ((refine' code_def ?g11k1 ?g11k2 ?g11k3 ?g11k4 ?g11k5 ?g11kA ?g11kF ?g11kK ?g11k6 ?g11k7 ?g11k8 ?g11k9 ?g11kB ?_ ?g11c2 ?g11c3 ?g11c4 ?g11c5; (case g11kA => exact rfl); (case g11kF => exact rfl); (case g11kK => exact rfl); (case g11k1 => k_asm); (case g11k2 => k_asm); (case g11k3 => k_asm); (case g11k4 => k_asm); (case g11k5 => k_asm); (case g11k6 => k_is); (case g11k7 => k_is); (case g11k8 => ktr_room); (case g11k9 => exact BindsTo.of_eq rfl); (case g11c5 => decide); (case g11kB => exact locs rfl); (case g11c2 => exact rfl); (case g11c3 => exact rfl); (case g11c4 => exact rfl); k_whole; intro g' L' h' FG' F' N' B' X' T'; (try dsimp only); (try k_lift B'); (try k_fold)))
      w_top off
      obtain ⟨hxy, hI, hw, hb0, hb1, hn0, hn1, hcl, hcs⟩ := W
      obtain ⟨B, F, X, T, hf, hke, hdp, hun⟩ := C
      revert X; k_fill; intro X
      have hm : TokLo 0 := ⟨⟩
      have hwl := ints_length hI
      k_with "len" => ((rename News _ _ _ _ => lN'); (with_unfolding_all refine' kun_lenT (News.isTup lN' (by k_mem)) (tup_len (by assumption)) ?g11k3 ?_); (case g11k3 => omega))
      k_with "range" => ((rename Fr _ _ _ _ => lF'); (rename News _ _ _ _ => lN'); (with_unfolding_all refine' range2_rows lF' lN' (fun h' tk' t1' t2' t3' R' F' N' K' => ?_)); (try clear lF' lN'); (try dsimp only))
      k_with "pyIter ref" => ((rename Fr _ _ _ _ => lF'); (rename News _ _ _ _ => lN'); (rename IsRange _ _ _ _ _ _ _ _ => lR'); (rename IntsAre _ _ => lI'); (with_unfolding_all refine' loop_acc (y := Str.ofString "il") [Str.ofString "i"] (pIl z lI') rfl lR' ?g11sm lF' lN' rfl ⟨rfl, by decide, by decide⟩ (fun i3 t3 c3 tc3 u3 h3 tk3 own3 hi3 hp3 F3 N3 => ?_) (fun c3 tc3 u3 h3 tk3 hp3 F3 N3 => ?_) (fun _ _ => rfl)); (case g11sm => exact small_one (by omega) (by omega) (by omega) (by omega)); (try clear lF' lN'); (all_goals (have hip := hp3)); (all_goals (obtain ⟨hi3', hi4', hi5'⟩ := hp3)); (all_goals (try (have hg1 := fdiv_small (a := z + ↑i3) hz1 (by omega) (by omega); have hg2 := getD_bound (by assumption) hxy (z + ↑i3).toNat; have hg3 := mul_small hg1 hg2; obtain ⟨hg4, hg5⟩ := hg1; obtain ⟨hg6, hg7⟩ := hg2; obtain ⟨hg8, hg9⟩ := hg3))); (all_goals (try simp only [List.cons_append, List.nil_append] at N3)))
      k_with "GEnd" => ((rename Fr _ _ _ _ => lF'); (rename News _ _ _ _ => lN'); (rename IntsAre _ _ => lI'); (with_unfolding_all refine' acc_end (pIl z lI' (_ + 1)) lF' lN' ?g11h2 ?g11h3 ?g11y1 ?g11h6 ?g11h7); (case g11y1 => with_unfolding_all rfl); (case g11h2 => walk_at "mem_sub"); (case g11h3 => walk_at "mem_sub"); (case g11h6 => (intro z' h1' h2'; have h3' := h2'; simp only [List.contains_cons, List.contains_nil, Bool.or_false, Bool.or_eq_false_iff, beq_eq_false_iff_ne, ne_eq] at h1' h2'; simp +zetaDelta only [upd, h1', h2', h3', Bool.false_eq_true, ↓reduceIte])); (case g11h7 => exact il_turn (by assumption) (by assumption) (by assumption)))
      refine' p_look ?g11k1 ?g11k2 ?g11k3 ?g11k4 ?g11k5 ?g11kA ?g11kF ?g11kK ?g11k6 ?g11k7 ?g11k8 ?g11k9 ?g11kB ?_ ?g11c2 ?g11c3 ?g11c4 ?g11c5
      case g11k1 => assumption
      case g11k2 => assumption
      case g11k3 => assumption
      case g11k4 => exact N0
      case g11k5 => assumption
      case g11kA => exact rfl
      case g11kF => assumption
      case g11kK => assumption
      case g11k6 => k_is
      case g11k7 => k_is
      case g11k8 => ktr_room
      case g11k9 => exact BindsTo.of_eq rfl
      case g11kB => exact locs rfl
      case g11c2 => exact rfl
      case g11c3 => exact rfl
      case g11c4 => exact rfl
      case g11c5 => decide
      k_whole
      intro g' L' h' F' N' B' X' T'
      try dsimp only
      try k_fold
      walk_at "my_steps"
      all_goals (rename Fr _ _ _ _ => lF'; rename News _ _ _ _ => lN')
      all_goals (have hlb := lv_bound (b := b) (nt := nt) hz1 hz4 hb0 (by omega) hn0 (by omega) hi4' (by omega); rw [hi3', lv_is hw] at hlb ⊢; exact LookEnd.intro lF' lN' (fun p hp => hp) fun k => ret _ _ _ hlb.1 hlb.2 k)
set_option maxHeartbeats 0 in
theorem c_prices1 : ∀ {w : World} {mean : ExcName → Option Value} {mg mb : Str → Option Value} {dp un : Nat} {gd : Option (List Code)} {env : Env} {outer : List Env} {A₀ : Around} {base h₀ : Heap} {L : Addr} {m : Str → Option Value} {s : Shared} {Q E : Value → Shared → Prop} (C : Cx0 hd.heap_1_1 hd.view_1_2 w mean mg mb dp un env outer A₀ base h₀ L m s) {x y : Str} {t u : Nat} {z : Int} {tz : Nat} {D : Addr} (hD : s.heap.IsList D #[.str x t]) (hl : x.length ≤ 40) (hxy : (x ++ y).cps.size ≤ 60) (hly : y.length ≤ 2) (hz1 : 1 ≤ z) (hz4 : z ≤ 4) (hdp2 : dp + 40 < recursionLimit) (hun2 : un + 400 < cLine) (ret : ∀ D ws h' tk', IntsAre ws [lvF z (x ++ y)] → Kept s.heap h' → s.heap.get? D = none → h'.get? D = some (LCg.lst ws) → Q (.ref D) { s with heap := h', toks := tk' }),
      wpAny (model PySem.Challenge.rw_tc0079_01.row.prog w) (kTop dp un gd env outer) (call (.ref 328) [.ref D, .str y u, .int z tz]) Q E s := by
      intro w mean mg mb dp un gd env outer A₀ base h₀ L m s Q E C x y t u z tz D hD hl hxy hly hz1 hz4 hdp2 hun2 ret
      k_with_none
      k_with "ktr_enter" => ((refine' p_plain (by assumption) (by assumption) (by assumption) (by assumption) ?g12kA ?g12kF ?g12kK ?g12k6 ?g12k7 ?g12k8 ?g12k9 ?g12kB ?_ ?g12c2 ?g12c3 ?g12c4 ?g12c5; (case g12kA => exact rfl); (case g12kF => assumption); (case g12kK => assumption); (case g12k6 => k_is); (case g12k7 => k_is); (case g12k8 => ktr_room); (case g12k9 => exact BindsTo.of_eq rfl); (case g12c5 => decide); (case g12kB => exact locs rfl); (case g12c2 => exact rfl); (case g12c3 => exact rfl); (case g12c4 => exact rfl); k_whole; intro L' h' F' N' B' X' T'; (try dsimp only); (try k_fold)))
      k_with "execs cons" => (((try dsimp only); (refine step_first (n := _) (by first | assumption | exact ⟨⟩) ?g12hX ?_); (case g12hX => first | assumption | exact Nat.zero_le _ | omega); intro tk htk Qc hQc; (try dsimp only)))
      k_with "forall" => (((try dsimp only); intro htk; (try dsimp only)))
      k_with "exec For Name Name cons nil" => ((k_here; (rename Fr _ _ _ _ => lF'); (with_unfolding_all refine' For_turns lF' ?_; k_whole)))
      k_with "exec For Name Call cons nil" => ((k_here; (rename Fr _ _ _ _ => lF'); (with_unfolding_all refine' For_turns lF' ?_; k_whole)))
      k_with "GPost" => ((dsimp only [GPost]))
      k_with "call builtin:list.append" => (k_extra "list.append")
      k_with "ktr_enter" => ((refine' p_cells (by assumption) (by assumption) (by assumption) (by assumption) ?g12kA ?g12kF ?g12kK ?g12k6 ?g12k7 ?g12k8 ?g12k9 ?g12kB ?g12kD ?_ ?g12c2 ?g12c3 ?g12c4; (case g12kA => exact rfl); (case g12kF => assumption); (case g12kK => assumption); (case g12k6 => k_is); (case g12k7 => k_is); (case g12k8 => ktr_room); (case g12k9 => exact BindsTo.of_eq rfl); (case g12kB => exact rfl); (case g12kD => decide +kernel); (case g12c2 => exact rfl); (case g12c3 => exact rfl); (case g12c4 => exact rfl); k_whole; intro L' h' tk' cells' F' N' Y' B' X' T'; k_cells Y'; (try simp only [List.cons_append, List.nil_append] at N'); (try dsimp only); (try k_fold)))
      k_with "eval ListComp" => (((with_reducible show wpAny _ _ (eval (Expr.ListComp _ _ _ _) _) _ _ _); lcf_look; k_dflt ((refine LCg.ListComp_U (F₀ := by k_asm) (by with_unfolding_all rfl) (by decide) (by rfl) (by decide) (by rfl) ?_)); k_dflt ((lcg_toSrc))))
      k_with "exec For Name Attribute cons nil" => ((k_here; (rename Fr _ _ _ _ => lF'); (with_unfolding_all refine' For_turns lF' ?_; k_whole)))
      k_with "k_all" => (assumption)
      k_with "k_ne" => (first | (refine neN ?_; (try dsimp only); walk_at "ne_fast") | (refine neN ?_; (try dsimp only); omega) | ((rename News _ _ _ _ => lN'); refine' news_ne lN' (by k_dflt k_mem) (by k_dflt k_mem) ?g12nc; (case g12nc => simp [dictOf, instObj])))
      k_with "call builtin:len" => (k_extra "len")
      k_with "call type:range" => (k_extra "range")
      k_with "eval Name" => ((k_here; k_dflt (refine' name_u ?g12F ?g12v ?_ ?g12a ?g12b; (case g12F => k_asm); (case g12a => rfl); (case g12b => rfl); (case g12v => exact look_mk (Eq.refl _)); k_whole)))
      k_with "storeName" => ((k_here; k_dflt (refine' store_u ?g12F ?g12N ?_ ?g12a ?g12b; (case g12F => k_asm); (case g12N => k_asm); (case g12a => rfl); (case g12b => rfl); k_whole; intro h' m' F' N'; (try k_sweep))))
      k_with "my_steps" => (repeat' (first | ((with_reducible refine step_next (by assumption) (by assumption) (by first | assumption | exact ⟨⟩) ?_); intro tk htk Qc hQc; (try dsimp only)) | ((with_reducible refine step_last (by assumption) ?_); intro htk; (try dsimp only)) | ((with_reducible refine cut_end (by assumption) ?_); (try dsimp only [Then])) | (k_unfold; (try dsimp only)) | (w_end; wrow_close) | walk1 | (dsimp only; walk1) | (leave1; (try dsimp only)) | ((with_reducible refine strip2 ?_); k_unfold; (try dsimp only)) | fail "no step"))
      k_with "my_enter" => ((refine' code_def ?g12k1 ?g12k2 ?g12k3 ?g12k4 ?g12k5 ?g12kA ?g12kF ?g12kK ?g12k6 ?g12k7 ?g12k8 ?g12k9 ?g12kB ?_ ?g12c2 ?g12c3 ?g12c4 ?g12c5; (case g12kA => exact rfl); (case g12kF => exact rfl); (case g12kK => exact rfl); (case g12k1 => k_asm); (case g12k2 => k_asm); (case g12k3 => k_asm); (case g12k4 => k_asm); (case g12k5 => k_asm); (case g12k6 => k_is); (case g12k7 => k_is); (case g12k8 => ktr_room); (case g12k9 => exact BindsTo.of_eq rfl); (case g12c5 => decide); (case g12kB => exact locs rfl); (case g12c2 => exact rfl); (case g12c3 => exact rfl); (case g12c4 => exact rfl); k_whole; intro g' L' h' FG' F' N' B' X' T'; (try dsimp only); (try k_lift B'); (try k_fold)))
      k_with "my_cx" => (((with_unfolding_all refine' ⟨by assumption, by assumption, by assumption, by assumption, rfl, rfl, ?g12d1, ?g12d2⟩); (case g12d1 => ((with_unfolding_all show (_ : Nat) + 1 + 20 < recursionLimit); first | exact room2 (k := 40) (by assumption) (by decide) | exact room2 (k := 60) (by assumption) (by decide) | exact room2 (k := 100) (by assumption) (by decide) | exact room2 (k := 20) (by assumption) (by decide) | omega)); (case g12d2 => ((with_unfolding_all show (_ : Nat) + 3 + 200 < cLine); first | exact room2 (k := 400) (by assumption) (by decide) | exact room2 (k := 600) (by assumption) (by decide) | exact room2 (k := 1000) (by assumption) (by decide) | exact room2 (k := 200) (by assumption) (by decide) | omega))))
      k_with "CompEnd" => (first | ((rename Fr _ _ _ _ => lF'); (rename News _ _ _ _ => lN'); (with_unfolding_all refine' comp_end4 lF' lN' ?g12off ?g12src ?_); (case g12off => ((simp only [LCg.Off3, and_true]); assumption)); (case g12src => lcg_src)) | lcg_end)
      k_with "CompSrc" => (((rename IsRange _ _ _ _ _ _ _ _ => lR'); (have lR2 := one_range lR'); (clear lR'); (refine LCg.CompSrc.range (by rfl) (by k_asm) (by k_asm) lR2 (by first | decide | rfl) (by first | rfl | decide) (by first | size_fits | exact Nat.le_of_ble_eq_true rfl) ?_); intro g'; lcg_lit))
      w_top off
      obtain ⟨B, F, X, T, hf, hke, hdp, hun⟩ := C
      revert X; k_fill; intro X
      have hm : TokLo 0 := ⟨⟩
      k_with "call ref" => k_dflt (first
        | ((rename Fr _ _ _ _ => lF'); (rename News _ _ _ _ => lN'); (with_reducible refine toks_in ?_); (with_unfolding_all refine' c_ws ?g12C ?g12hx (fun D2 d2 T2 Tc2 n2 b2 nt2 sm2 vs2 cs2 tn2 tb2 tt2 a1 a2 a3 a4 a5 L2 h2 tk2 k2 N2 W2 => ?_)); (case g12hx => exact hxy); (case g12C => (walk_at "my_cx")); (have lN3 := news_join lF' lN' k2 N2); (have lF3 := fr_kept lF' k2); (clear lF' lN' N2); (intro htk2); (simp only [List.cons_append, List.nil_append] at lN3); (try k_fold))
        | ((rename Fr _ _ _ _ => lF'); (rename News _ _ _ _ => lN'); (rename WsRec _ _ _ _ _ _ _ _ _ _ _ _ _ _ _ _ _ _ _ _ => lW'); (with_reducible refine toks_in ?_); refine wpAny_call ?_; (with_unfolding_all refine' c_il ?g12C lW' ?g12nn hz1 hz4 (fun t2 h2 tk2 hb2 hb3 k2 => ?_)); (case g12C => walk_at "my_cx"); (case g12nn => exact news_sub lN' (by walk_at "mem_sub")); (have lN3 := news_kept lN' k2); (have lF3 := fr_kept lF' k2); (clear lF' lN'); (intro htk2); (try k_fold))
        | (refine wpAny_call ?_; walk_at "my_enter"))
      refine wpAny_call ?_
      k_dflt ktr_enter
      walk_at "my_steps"
      rename Fr _ _ _ _ => lF'; rename News _ _ _ _ => lN'
      refine ret _ _ _ _ ?_ (Fr.keep lF') (News.fresh lN' (List.Mem.head _)) (News.get lN' (List.Mem.head _))
      exact one_int (Int.sub_zero _)
set_option maxHeartbeats 0 in
theorem c_prices2 : ∀ {w : World} {mean : ExcName → Option Value} {mg mb : Str → Option Value} {dp un : Nat} {gd : Option (List Code)} {env : Env} {outer : List Env} {A₀ : Around} {base h₀ : Heap} {L : Addr} {m : Str → Option Value} {s : Shared} {Q E : Value → Shared → Prop} (C : Cx0 hd.heap_1_1 hd.view_1_2 w mean mg mb dp un env outer A₀ base h₀ L m s) {x x' y : Str} {t t' u : Nat} {z : Int} {tz : Nat} {D : Addr} (hD : s.heap.IsList D #[.str x t, .str x' t']) (hl : x.length ≤ 40) (hl' : x'.length ≤ 40) (hxy : (x ++ y).cps.size ≤ 60) (hxy' : (x' ++ y).cps.size ≤ 60) (hly : y.length ≤ 2) (hz1 : 1 ≤ z) (hz4 : z ≤ 4) (hdp2 : dp + 40 < recursionLimit) (hun2 : un + 400 < cLine) (ret : ∀ D ws h' tk', IntsAre ws [lvF z (x ++ y), lvF z (x' ++ y) - lvF z (x ++ y)] → Kept s.heap h' → s.heap.get? D = none → h'.get? D = some (LCg.lst ws) → Q (.ref D) { s with heap := h', toks := tk' }),
      wpAny (model PySem.Challenge.rw_tc0079_01.row.prog w) (kTop dp un gd env outer) (call (.ref 328) [.ref D, .str y u, .int z tz]) Q E s := by
      intro w mean mg mb dp un gd env outer A₀ base h₀ L m s Q E C x x' y t t' u z tz D hD hl hl' hxy hxy' hly hz1 hz4 hdp2 hun2 ret
      k_with_none
      k_with "ktr_enter" => ((refine' p_plain (by assumption) (by assumption) (by assumption) (by assumption) ?g13kA ?g13kF ?g13kK ?g13k6 ?g13k7 ?g13k8 ?g13k9 ?g13kB ?_ ?g13c2 ?g13c3 ?g13c4 ?g13c5; (case g13kA => exact rfl); (case g13kF => assumption); (case g13kK => assumption); (case g13k6 => k_is); (case g13k7 => k_is); (case g13k8 => ktr_room); (case g13k9 => exact BindsTo.of_eq rfl); (case g13c5 => decide); (case g13kB => exact locs rfl); (case g13c2 => exact rfl); (case g13c3 => exact rfl); (case g13c4 => exact rfl); k_whole; intro L' h' F' N' B' X' T'; (try dsimp only); (try k_fold)))
      k_with "execs cons" => (((try dsimp only); (refine step_first (n := _) (by first | assumption | exact ⟨⟩) ?g13hX ?_); (case g13hX => first | assumption | exact Nat.zero_le _ | omega); intro tk htk Qc hQc; (try dsimp only)))
      k_with "forall" => (((try dsimp only); intro htk; (try dsimp only)))
      k_with "exec For Name Name cons nil" => ((k_here; (rename Fr _ _ _ _ => lF'); (with_unfolding_all refine' For_turns lF' ?_; k_whole)))
      k_with "exec For Name Call cons nil" => ((k_here; (rename Fr _ _ _ _ => lF'); (with_unfolding_all refine' For_turns lF' ?_; k_whole)))
      k_with "GPost" => ((dsimp only [GPost]))
      k_with "call builtin:list.append" => (k_extra "list.append")
      k_with "ktr_enter" => ((refine' p_cells (by assumption) (by assumption) (by assumption) (by assumption) ?g13kA ?g13kF ?g13kK ?g13k6 ?g13k7 ?g13k8 ?g13k9 ?g13kB ?g13kD ?_ ?g13c2 ?g13c3 ?g13c4; (case g13kA => exact rfl); (case g13kF => assumption); (case g13kK => assumption); (case g13k6 => k_is); (case g13k7 => k_is); (case g13k8 => ktr_room); (case g13k9 => exact BindsTo.of_eq rfl); (case g13kB => exact rfl); (case g13kD => decide +kernel); (case g13c2 => exact rfl); (case g13c3 => exact rfl); (case g13c4 => exact rfl); k_whole; intro L' h' tk' cells' F' N' Y' B' X' T'; k_cells Y'; (try simp only [List.cons_append, List.nil_append] at N'); (try dsimp only); (try k_fold)))
      k_with "eval ListComp" => (((with_reducible show wpAny _ _ (eval (Expr.ListComp _ _ _ _) _) _ _ _); lcf_look; k_dflt ((refine LCg.ListComp_U (F₀ := by k_asm) (by with_unfolding_all rfl) (by decide) (by rfl) (by decide) (by rfl) ?_)); k_dflt ((lcg_toSrc))))
      k_with "exec For Name Attribute cons nil" => ((k_here; (rename Fr _ _ _ _ => lF'); (with_unfolding_all refine' For_turns lF' ?_; k_whole)))
      k_with "k_all" => (assumption)
      k_with "k_ne" => (first | (refine neN ?_; (try dsimp only); walk_at "ne_fast") | (refine neN ?_; (try dsimp only); omega) | ((rename News _ _ _ _ => lN'); refine' news_ne lN' (by k_dflt k_mem) (by k_dflt k_mem) ?g13nc; (case g13nc => simp [dictOf, instObj])))
      k_with "call builtin:len" => (k_extra "len")
      k_with "call type:range" => (k_extra "range")
      k_with "eval Name" => ((k_here; k_dflt (refine' name_u ?g13F ?g13v ?_ ?g13a ?g13b; (case g13F => k_asm); (case g13a => rfl); (case g13b => rfl); (case g13v => exact look_mk (Eq.refl _)); k_whole)))
      k_with "storeName" => ((k_here; k_dflt (refine' store_u ?g13F ?g13N ?_ ?g13a ?g13b; (case g13F => k_asm); (case g13N => k_asm); (case g13a => rfl); (case g13b => rfl); k_whole; intro h' m' F' N'; (try k_sweep))))
      k_with "my_steps" => (repeat' (first | ((with_reducible refine step_next (by assumption) (by assumption) (by first | assumption | exact ⟨⟩) ?_); intro tk htk Qc hQc; (try dsimp only)) | ((with_reducible refine step_last (by assumption) ?_); intro htk; (try dsimp only)) | ((with_reducible refine cut_end (by assumption) ?_); (try dsimp only [Then])) | (k_unfold; (try dsimp only)) | (w_end; wrow_close) | walk1 | (dsimp only; walk1) | (leave1; (try dsimp only)) | ((with_reducible refine strip2 ?_); k_unfold; (try dsimp only)) | fail "no step"))
      k_with "my_enter" => ((refine' code_def ?g13k1 ?g13k2 ?g13k3 ?g13k4 ?g13k5 ?g13kA ?g13kF ?g13kK ?g13k6 ?g13k7 ?g13k8 ?g13k9 ?g13kB ?_ ?g13c2 ?g13c3 ?g13c4 ?g13c5; (case g13kA => exact rfl); (case g13kF => exact rfl); (case g13kK => exact rfl); (case g13k1 => k_asm); (case g13k2 => k_asm); (case g13k3 => k_asm); (case g13k4 => k_asm); (case g13k5 => k_asm); (case g13k6 => k_is); (case g13k7 => k_is); (case g13k8 => ktr_room); (case g13k9 => exact BindsTo.of_eq rfl); (case g13c5 => decide); (case g13kB => exact locs rfl); (case g13c2 => exact rfl); (case g13c3 => exact rfl); (case g13c4 => exact rfl); k_whole; intro g' L' h' FG' F' N' B' X' T'; (try dsimp only); (try k_lift B'); (try k_fold)))
      k_with "my_cx" => (((with_unfolding_all refine' ⟨by assumption, by assumption, by assumption, by assumption, rfl, rfl, ?g13d1, ?g13d2⟩); (case g13d1 => ((with_unfolding_all show (_ : Nat) + 1 + 20 < recursionLimit); first | exact room2 (k := 40) (by assumption) (by decide) | exact room2 (k := 60) (by assumption) (by decide) | exact room2 (k := 100) (by assumption) (by decide) | exact room2 (k := 20) (by assumption) (by decide) | omega)); (case g13d2 => ((with_unfolding_all show (_ : Nat) + 3 + 200 < cLine); first | exact room2 (k := 400) (by assumption) (by decide) | exact room2 (k := 600) (by assumption) (by decide) | exact room2 (k := 1000) (by assumption) (by decide) | exact room2 (k := 200) (by assumption) (by decide) | omega))))
      k_with "CompEnd" => (first | ((rename Fr _ _ _ _ => lF'); (rename News _ _ _ _ => lN'); (with_unfolding_all refine' comp_end4' lF' lN' ?g13off ?g13src ?_); (case g13off => ((simp only [LCg.Off3, and_true]); assumption)); (case g13src => lcg_src)) | lcg_end)
      k_with "CompSrc" => (((rename IsRange _ _ _ _ _ _ _ _ => lR'); (have lR2 := two_range lR'); (clear lR'); (refine LCg.CompSrc.range (by rfl) (by k_asm) (by k_asm) lR2 (by first | decide | rfl) (by first | rfl | decide) (by first | size_fits | exact Nat.le_of_ble_eq_true rfl) ?_); intro g'; lcg_lit))
      w_top off
      obtain ⟨B, F, X, T, hf, hke, hdp, hun⟩ := C
      revert X; k_fill; intro X
      have hm : TokLo 0 := ⟨⟩
      k_with "call ref" => k_dflt (first
        | ((rename Fr _ _ _ _ => lF'); (rename News _ _ _ _ => lN'); (with_reducible refine toks_in ?_); (with_unfolding_all refine' c_ws ?g13C ?g13hx (fun D2 d2 T2 Tc2 n2 b2 nt2 sm2 vs2 cs2 tn2 tb2 tt2 a1 a2 a3 a4 a5 L2 h2 tk2 k2 N2 W2 => ?_)); (case g13hx => first | exact hxy | exact hxy'); (case g13C => (walk_at "my_cx")); (have lN3 := news_join lF' lN' k2 N2); (have lF3 := fr_kept lF' k2); (clear lF' lN' N2); (intro htk2); (simp only [List.cons_append, List.nil_append] at lN3); (try k_fold))
        | ((rename Fr _ _ _ _ => lF'); (rename News _ _ _ _ => lN'); (rename WsRec _ _ _ _ _ _ _ _ _ _ _ _ _ _ _ _ _ _ _ _ => lW'); (with_reducible refine toks_in ?_); refine wpAny_call ?_; (with_unfolding_all refine' c_il ?g13C lW' ?g13nn hz1 hz4 (fun t2 h2 tk2 hb2 hb3 k2 => ?_)); (case g13C => walk_at "my_cx"); (case g13nn => exact news_sub lN' (by walk_at "mem_sub")); (have lN3 := news_kept lN' k2); (have lF3 := fr_kept lF' k2); (clear lF' lN'); (intro htk2); (try k_fold))
        | (refine wpAny_call ?_; walk_at "my_enter"))
      refine wpAny_call ?_
      k_dflt ktr_enter
      walk_at "my_steps"
      rename Fr _ _ _ _ => lF'; rename News _ _ _ _ => lN'
      refine ret _ _ _ _ ?_ (Fr.keep lF') (News.fresh lN' (List.Mem.head _)) (News.get lN' (List.Mem.head _))
      exact two_int (Int.sub_zero _) rfl
set_option maxHeartbeats 0 in
theorem pat_N : ∀ {p : Params} {h : Heap} (X : (hd.heap_1_1 p).In h),
      h.get? 48 = some { cls := .type "re.Pattern", data := .fields #[.str (Str.ofString "[\\x00-\\x1F\\x7F]") 326, .int 32 349, .int 0 0, .none, .none, .ref 47, .int 0 0] } := by
      intro p h X
      exact (X _ _ (by with_unfolding_all rfl))
set_option maxHeartbeats 0 in
theorem pat_V : ∀ {p : Params} {h : Heap} (X : (hd.heap_1_1 p).In h),
      h.get? 53 = some { cls := .type "re.Pattern", data := .fields #[.str (Str.ofString "[\\x00-\\x08\\x0A-\\x1F\\x7F]") 352, .int 32 383, .int 0 0, .none, .none, .ref 52, .int 0 0] } := by
      intro p h X
      exact (X _ _ (by with_unfolding_all rfl))
set_option maxHeartbeats 0 in
theorem cod_N : ∀ {p : Params} {h : Heap} (X : (hd.heap_1_1 p).In h),
      h.get? 47 = some { cls := .type "tuple", data := .seq rawN } := by
      intro p h X
      exact (X _ _ (by with_unfolding_all rfl))
set_option maxHeartbeats 0 in
theorem cod_V : ∀ {p : Params} {h : Heap} (X : (hd.heap_1_1 p).In h),
      h.get? 52 = some { cls := .type "tuple", data := .seq rawV } := by
      intro p h X
      exact (X _ _ (by with_unfolding_all rfl))
set_option maxHeartbeats 0 in
theorem meth_N : ∀ {A : Around} {E : Value → Shared → Prop} {s : Shared} {p : Params} {pl : Sem Bool} {Q : Value × List Value → Shared → Prop} {M : Model} (X : (hd.heap_1_1 p).In s.heap) (h : Q (.builtin "re.Pattern.search", [.ref 48]) s),
      wpAny M A (getMethod (.ref 48) "search" pl) Q E s := by
      intro A E s p pl Q M X h
      exact (getMethod_search (pat_N X) rfl rfl h)
set_option maxHeartbeats 0 in
theorem meth_V : ∀ {A : Around} {E : Value → Shared → Prop} {s : Shared} {p : Params} {pl : Sem Bool} {Q : Value × List Value → Shared → Prop} {M : Model} (X : (hd.heap_1_1 p).In s.heap) (h : Q (.builtin "re.Pattern.search", [.ref 53]) s),
      wpAny M A (getMethod (.ref 53) "search" pl) Q E s := by
      intro A E s p pl Q M X h
      exact (getMethod_search (pat_V X) rfl rfl h)
set_option maxHeartbeats 0 in
theorem search_is_N : ∀ {prog : Program} {w : World} {A : Around} {E : Value → Shared → Prop} {s : Shared} {p : Params} {x : Str} {t : Tok} {Q : Value → Shared → Prop} (X : (hd.heap_1_1 p).In s.heap) (hx : okN x = true) (h : Q .none s),
      wpAny (model prog w) A (call (.builtin "re.Pattern.search") [.ref 48, .str x t]) Q E s := by
      intro prog w A E s p x t Q X hx h
      exact (call_search (pat_N X) rfl rfl (cod_N X) rfl raw_N (okN_hs hx) h)
set_option maxHeartbeats 0 in
theorem search_is_V : ∀ {prog : Program} {w : World} {A : Around} {E : Value → Shared → Prop} {s : Shared} {p : Params} {x : Str} {t : Tok} {Q : Value → Shared → Prop} (X : (hd.heap_1_1 p).In s.heap) (hx : okV x = true) (h : Q .none s),
      wpAny (model prog w) A (call (.builtin "re.Pattern.search") [.ref 53, .str x t]) Q E s := by
      intro prog w A E s p x t Q X hx h
      exact (call_search (pat_V X) rfl rfl (cod_V X) rfl raw_V (okV_hs hx) h)
set_option maxHeartbeats 0 in
theorem c_convN : ∀ {w : World} {mean : ExcName → Option Value} {mg mb : Str → Option Value} {dp un : Nat} {gd : Option (List Code)} {env : Env} {outer : List Env} {A₀ : Around} {base h₀ : Heap} {L : Addr} {m : Str → Option Value} {s : Shared} (C : Cx0 hd.heap_1_1 hd.view_1_2 w mean mg mb dp un env outer A₀ base h₀ L m s) {R : Result → Shared → Prop} {x : Str} {t : Tok} {I : Addr} (hx : okN x = true) (ret : ∀ h' tk', Kept s.heap h' → R (.ok (.ret (.str x t))) { s with heap := h', toks := tk' }),
      codeAny (model PySem.Challenge.rw_tc0079_01.row.prog w) (kTop dp un gd env outer) (.call (.ref 83) ⟨[.ref I, .str x t], [(Str.ofString "name", .bool true)]⟩) R s := by
      intro w mean mg mb dp un gd env outer A₀ base h₀ L m s C R x t I hx ret
      k_with_none
      k_with "ktr_enter" => ((refine' p_plain (by assumption) (by assumption) (by assumption) (by assumption) ?g22kA ?g22kF ?g22kK ?g22k6 ?g22k7 ?g22k8 ?g22k9 ?g22kB ?_ ?g22c2 ?g22c3 ?g22c4 ?g22c5; (case g22kA => exact rfl); (case g22kF => assumption); (case g22kK => assumption); (case g22k6 => k_is); (case g22k7 => k_is); (case g22k8 => ktr_room); (case g22k9 => exact BindsTo.of_eq rfl); (case g22c5 => decide); (case g22kB => exact locs rfl); (case g22c2 => exact rfl); (case g22c3 => exact rfl); (case g22c4 => exact rfl); k_whole; intro L' h' F' N' B' X' T'; (try dsimp only); (try k_fold)))
      k_with "k_ne" => (first | (refine neN ?_; (try dsimp only); walk_at "ne_fast") | (refine neN ?_; (try dsimp only); omega))
      k_with "execs cons" => (((try dsimp only); (refine step_first (n := _) (by first | assumption | exact ⟨⟩) ?g22hX ?_); (case g22hX => first | assumption | exact Nat.zero_le _ | omega); intro tk htk Qc hQc; (try dsimp only)))
      k_with "eval Name" => ((k_here; k_dflt (refine' name_u ?g22F ?g22v ?_ ?g22a ?g22b; (case g22F => k_asm); (case g22a => rfl); (case g22b => rfl); (case g22v => exact look_mk (Eq.refl _)); k_whole)))
      k_with "storeName" => ((k_here; k_dflt (refine' store_u ?g22F ?g22N ?_ ?g22a ?g22b; (case g22F => k_asm); (case g22N => k_asm); (case g22a => rfl); (case g22b => rfl); k_whole; intro h' m' F' N'; (try k_sweep))))
      k_with "my_steps" => (repeat' (first | ((with_reducible refine step_next (by assumption) (by assumption) (by first | assumption | exact ⟨⟩) ?_); intro tk htk Qc hQc; (try dsimp only)) | ((with_reducible refine step_last (by assumption) ?_); intro htk; (try dsimp only)) | ((with_reducible refine cut_end (by assumption) ?_); (try dsimp only [Then])) | (k_unfold; (try dsimp only)) | (w_end; wrow_close) | walk1 | (dsimp only; walk1) | (leave1; (try dsimp only)) | ((with_reducible refine strip2 ?_); k_unfold; (try dsimp only)) | fail "no step"))
      k_with "forall" => (((try dsimp only); intro htk; (try dsimp only)))
      k_with "call builtin:re.Pattern.search" => (k_extra "search")
      w_top off
      obtain ⟨B, F, X, T, hf, hke, hdp, hun⟩ := C
      revert X; k_fill; intro X
      have hm : TokLo 0 := ⟨⟩
      k_with "getMethod ref" => ((rename Fr _ _ _ _ => lF'); with_unfolding_all refine' meth_N ((by assumption : Frag.In _ _).keeps lF'.keep) ?_)
      k_with "search" => ((rename Fr _ _ _ _ => lF'); with_unfolding_all refine' search_is_N ((by assumption : Frag.In _ _).keeps lF'.keep) hx ?_)
      k_dflt ktr_enter
      walk_at "my_steps"
      rename Fr _ _ _ _ => lF'
      exact ret _ _ (Fr.keep lF')
set_option maxHeartbeats 0 in
theorem c_convV : ∀ {w : World} {mean : ExcName → Option Value} {mg mb : Str → Option Value} {dp un : Nat} {gd : Option (List Code)} {env : Env} {outer : List Env} {A₀ : Around} {base h₀ : Heap} {L : Addr} {m : Str → Option Value} {s : Shared} (C : Cx0 hd.heap_1_1 hd.view_1_2 w mean mg mb dp un env outer A₀ base h₀ L m s) {R : Result → Shared → Prop} {x : Str} {t : Tok} {I : Addr} (hx : okV x = true) (ret : ∀ h' tk', Kept s.heap h' → R (.ok (.ret (.str x t))) { s with heap := h', toks := tk' }),
      codeAny (model PySem.Challenge.rw_tc0079_01.row.prog w) (kTop dp un gd env outer) (.call (.ref 83) ⟨[.ref I, .str x t], [(Str.ofString "name", .bool false)]⟩) R s := by
      intro w mean mg mb dp un gd env outer A₀ base h₀ L m s C R x t I hx ret
      k_with_none
      k_with "ktr_enter" => ((refine' p_plain (by assumption) (by assumption) (by assumption) (by assumption) ?g23kA ?g23kF ?g23kK ?g23k6 ?g23k7 ?g23k8 ?g23k9 ?g23kB ?_ ?g23c2 ?g23c3 ?g23c4 ?g23c5; (case g23kA => exact rfl); (case g23kF => assumption); (case g23kK => assumption); (case g23k6 => k_is); (case g23k7 => k_is); (case g23k8 => ktr_room); (case g23k9 => exact BindsTo.of_eq rfl); (case g23c5 => decide); (case g23kB => exact locs rfl); (case g23c2 => exact rfl); (case g23c3 => exact rfl); (case g23c4 => exact rfl); k_whole; intro L' h' F' N' B' X' T'; (try dsimp only); (try k_fold)))
      k_with "k_ne" => (first | (refine neN ?_; (try dsimp only); walk_at "ne_fast") | (refine neN ?_; (try dsimp only); omega))
      k_with "execs cons" => (((try dsimp only); (refine step_first (n := _) (by first | assumption | exact ⟨⟩) ?g23hX ?_); (case g23hX => first | assumption | exact Nat.zero_le _ | omega); intro tk htk Qc hQc; (try dsimp only)))
      k_with "eval Name" => ((k_here; k_dflt (refine' name_u ?g23F ?g23v ?_ ?g23a ?g23b; (case g23F => k_asm); (case g23a => rfl); (case g23b => rfl); (case g23v => exact look_mk (Eq.refl _)); k_whole)))
      k_with "storeName" => ((k_here; k_dflt (refine' store_u ?g23F ?g23N ?_ ?g23a ?g23b; (case g23F => k_asm); (case g23N => k_asm); (case g23a => rfl); (case g23b => rfl); k_whole; intro h' m' F' N'; (try k_sweep))))
      k_with "my_steps" => (repeat' (first | ((with_reducible refine step_next (by assumption) (by assumption) (by first | assumption | exact ⟨⟩) ?_); intro tk htk Qc hQc; (try dsimp only)) | ((with_reducible refine step_last (by assumption) ?_); intro htk; (try dsimp only)) | ((with_reducible refine cut_end (by assumption) ?_); (try dsimp only [Then])) | (k_unfold; (try dsimp only)) | (w_end; wrow_close) | walk1 | (dsimp only; walk1) | (leave1; (try dsimp only)) | ((with_reducible refine strip2 ?_); k_unfold; (try dsimp only)) | fail "no step"))
      k_with "forall" => (((try dsimp only); intro htk; (try dsimp only)))
      k_with "call builtin:re.Pattern.search" => (k_extra "search")
      w_top off
      obtain ⟨B, F, X, T, hf, hke, hdp, hun⟩ := C
      revert X; k_fill; intro X
      have hm : TokLo 0 := ⟨⟩
      k_with "getMethod ref" => ((rename Fr _ _ _ _ => lF'); with_unfolding_all refine' meth_V ((by assumption : Frag.In _ _).keeps lF'.keep) ?_)
      k_with "search" => ((rename Fr _ _ _ _ => lF'); with_unfolding_all refine' search_is_V ((by assumption : Frag.In _ _).keeps lF'.keep) hx ?_)
      k_dflt ktr_enter
      walk_at "my_steps"
      rename Fr _ _ _ _ => lF'
      exact ret _ _ (Fr.keep lF')
set_option maxHeartbeats 0 in
theorem c_get : ∀ {w : World} {mean : ExcName → Option Value} {mg mb : Str → Option Value} {dp un : Nat} {gd : Option (List Code)} {env : Env} {outer : List Env} {A₀ : Around} {base h₀ : Heap} {L : Addr} {m : Str → Option Value} {s : Shared} (C : Cx0 hd.heap_1_1 hd.view_1_2 w mean mg mb dp un env outer A₀ base h₀ L m s) {R : Result → Shared → Prop} {x : Str} {t : Tok} {I d H : Addr} {t1 : Tok} {n : Nat} {ts : List Row} (hdp2 : dp + 40 < recursionLimit) (hun2 : un + 400 < cLine) (N0 : News h₀ L s.heap (tabObjs w.params I d H t1 n ts)) (hx : x.length ≤ 100) (hN : okN (Txt.lower x) = true) (hk : ∀ r ∈ ts, r.k.length ≤ 100) (ret : ∀ h' tk', Kept s.heap h' → R (.ok (.ret (getF ts (Txt.lower x)))) { s with heap := h', toks := tk' }),
      codeAny (model PySem.Challenge.rw_tc0079_01.row.prog w) (kTop dp un gd env outer) (.call (.ref 131) ⟨[.ref I, .str x t], []⟩) R s := by
      intro w mean mg mb dp un gd env outer A₀ base h₀ L m s C R x t I d H t1 n ts hdp2 hun2 N0 hx hN hk ret
      k_with_none
      k_with "ktr_enter" => ((refine' p_plain (by assumption) (by assumption) (by assumption) (by assumption) ?g24kA ?g24kF ?g24kK ?g24k6 ?g24k7 ?g24k8 ?g24k9 ?g24kB ?_ ?g24c2 ?g24c3 ?g24c4 ?g24c5; (case g24kA => exact rfl); (case g24kF => assumption); (case g24kK => assumption); (case g24k6 => k_is); (case g24k7 => k_is); (case g24k8 => ktr_room); (case g24k9 => first | exact BindsTo.of_eq rfl | exact binds_K (by k_in) rfl (by k_is) rfl rfl rfl); (case g24c5 => decide); (case g24kB => exact locs rfl); (case g24c2 => exact rfl); (case g24c3 => exact rfl); (case g24c4 => exact rfl); k_whole; intro L' h' F' N' B' X' T'; (try dsimp only); (try k_fold)))
      k_with "execs cons" => (((try dsimp only); (refine step_first (n := _) (by first | assumption | exact ⟨⟩) ?g24hX ?_); (case g24hX => first | assumption | exact Nat.zero_le _ | omega); intro tk htk Qc hQc; (try dsimp only)))
      k_with "forall" => (((try dsimp only); intro htk; (try dsimp only)))
      k_with "exec For Name Name cons nil" => ((k_here; (rename Fr _ _ _ _ => lF'); (with_unfolding_all refine' For_turns lF' ?_; k_whole)))
      k_with "exec For Name Call cons nil" => ((k_here; (rename Fr _ _ _ _ => lF'); (with_unfolding_all refine' For_turns lF' ?_; k_whole)))
      k_with "GPost" => ((dsimp only [GPost]))
      k_with "call builtin:list.append" => (k_extra "list.append")
      k_with "ktr_enter" => ((refine' p_cells (by assumption) (by assumption) (by assumption) (by assumption) ?g24kA ?g24kF ?g24kK ?g24k6 ?g24k7 ?g24k8 ?g24k9 ?g24kB ?g24kD ?_ ?g24c2 ?g24c3 ?g24c4; (case g24kA => exact rfl); (case g24kF => assumption); (case g24kK => assumption); (case g24k6 => k_is); (case g24k7 => k_is); (case g24k8 => ktr_room); (case g24k9 => first | exact BindsTo.of_eq rfl | exact binds_K (by k_in) rfl (by k_is) rfl rfl rfl); (case g24kB => exact rfl); (case g24kD => decide +kernel); (case g24c2 => exact rfl); (case g24c3 => exact rfl); (case g24c4 => exact rfl); k_whole; intro L' h' tk' cells' F' N' Y' B' X' T'; k_cells Y'; (try simp only [List.cons_append, List.nil_append] at N'); (try dsimp only); (try k_fold)))
      k_with "eval ListComp" => (((with_reducible show wpAny _ _ (eval (Expr.ListComp _ _ _ _) _) _ _ _); lcf_look; k_dflt ((refine LCg.ListComp_U (F₀ := by k_asm) (by with_unfolding_all rfl) (by decide) (by rfl) (by decide) (by rfl) ?_)); k_dflt ((lcg_toSrc))))
      k_with "exec For Name Attribute cons nil" => ((k_here; (rename Fr _ _ _ _ => lF'); (with_unfolding_all refine' For_turns lF' ?_; k_whole)))
      k_with "k_all" => (assumption)
      k_with "k_ne" => (first | (refine neN ?_; (try dsimp only); walk_at "ne_fast") | (refine neN ?_; (try dsimp only); omega) | ((rename News _ _ _ _ => lN'); refine' news_ne lN' (by k_dflt k_mem) (by k_dflt k_mem) ?g24nc; (case g24nc => simp [dictOf, instObj])))
      k_with "call builtin:len" => (k_extra "len")
      k_with "call type:range" => (k_extra "range")
      k_with "eval Name" => ((k_here; k_dflt (refine' name_u ?g24F ?g24v ?_ ?g24a ?g24b; (case g24F => k_asm); (case g24a => rfl); (case g24b => rfl); (case g24v => exact look_mk (Eq.refl _)); k_whole)))
      k_with "storeName" => ((k_here; k_dflt (refine' store_u ?g24F ?g24N ?_ ?g24a ?g24b; (case g24F => k_asm); (case g24N => k_asm); (case g24a => rfl); (case g24b => rfl); k_whole; intro h' m' F' N'; (try k_sweep))))
      k_with "my_steps" => (repeat' (first | ((with_reducible refine step_next (by assumption) (by assumption) (by first | assumption | exact ⟨⟩) ?_); intro tk htk Qc hQc; (try dsimp only)) | ((with_reducible refine step_last (by assumption) ?_); intro htk; (try dsimp only)) | ((with_reducible refine cut_end (by assumption) ?_); (try dsimp only [Then])) | (k_unfold; (try dsimp only)) | (w_end; wrow_close) | walk1 | (dsimp only; walk1) | (leave1; (try dsimp only)) | ((with_reducible refine strip2 ?_); k_unfold; (try dsimp only)) | fail "no step"))
      k_with "my_enter" => ((refine' code_def ?g24k1 ?g24k2 ?g24k3 ?g24k4 ?g24k5 ?g24kA ?g24kF ?g24kK ?g24k6 ?g24k7 ?g24k8 ?g24k9 ?g24kB ?_ ?g24c2 ?g24c3 ?g24c4 ?g24c5; (case g24kA => exact rfl); (case g24kF => exact rfl); (case g24kK => exact rfl); (case g24k1 => k_asm); (case g24k2 => k_asm); (case g24k3 => k_asm); (case g24k4 => k_asm); (case g24k5 => k_asm); (case g24k6 => k_is); (case g24k7 => k_is); (case g24k8 => ktr_room); (case g24k9 => first | exact BindsTo.of_eq rfl | exact binds_K (by k_in) rfl (by k_is) rfl rfl rfl); (case g24c5 => decide); (case g24kB => exact locs rfl); (case g24c2 => exact rfl); (case g24c3 => exact rfl); (case g24c4 => exact rfl); k_whole; intro g' L' h' FG' F' N' B' X' T'; (try dsimp only); (try k_lift B'); (try k_fold)))
      k_with "call builtin:str.lower" => (k_extra "lower")
      k_with "exec For Tuple Attribute cons nil" => ((k_here; (rename Fr _ _ _ _ => lF'); (with_unfolding_all refine' For_turns lF' ?_; k_whole)))
      k_with "my_cx" => (((with_unfolding_all refine' ⟨by assumption, by assumption, by assumption, by assumption, rfl, rfl, ?g24d1, ?g24d2⟩); (case g24d1 => ((with_unfolding_all show (_ : Nat) + 1 + 20 < recursionLimit); first | exact room2 (k := 40) (by assumption) (by decide) | exact room2 (k := 60) (by assumption) (by decide) | exact room2 (k := 100) (by assumption) (by decide) | exact room2 (k := 20) (by assumption) (by decide) | omega)); (case g24d2 => ((with_unfolding_all show (_ : Nat) + 3 + 200 < cLine); first | exact room2 (k := 400) (by assumption) (by decide) | exact room2 (k := 600) (by assumption) (by decide) | exact room2 (k := 1000) (by assumption) (by decide) | exact room2 (k := 200) (by assumption) (by decide) | omega))))
      w_top off
      obtain ⟨B, F, X, T, hf, hke, hdp, hun⟩ := C
      revert X; k_fill; intro X
      have hm : TokLo 0 := ⟨⟩
      k_with "lower" => ((refine SCL.lower ?g24hf ?_); (case g24hf => first | omega | (have hk1 := hk _ (List.mem_of_getElem? (by assumption)); omega)); intro _)
      k_with "call ref" => ((rename Fr _ _ _ _ => lF'); (rename News _ _ _ _ => lN'); (with_reducible refine toks_in ?_); refine wpAny_call ?_; (with_unfolding_all refine' c_convN ?g24C hN (fun h2 tk2 k2 => ?_)); (case g24C => walk_at "my_cx"); (have lN3 := news_kept lN' k2); (have lF3 := fr_kept lF' k2); (clear lF' lN'); (intro htk2); (try k_fold))
      k_with "pyIter ref" => ((rename Fr _ _ _ _ => lF'); (rename News _ _ _ _ => lN'); (with_unfolding_all refine' loop_rows (H := H) (ts := ts) [Str.ofString "k", Str.ofString "v"] (fun r => (Txt.lower r.k == Txt.lower x) = false) rfl ?g24hl ?g24hL lF' lN' ?g24ht (fun i2 r2 u2 h2 tk2 own2 hr2 hn2 F2 N2 => ?_) (fun u2 h2 tk2 hn2 F2 N2 => ?_)); (case g24hl => exact News.isList lN' (by k_mem)); (case g24hL => exact (lN' _ (by k_mem : (H, listOf (rowVs ts).toArray n) ∈ _)).2.1); (case g24ht => exact fun p hp => .tail _ (.tail _ (.tail _ hp))); (all_goals (try clear lF' lN')))
      refine' p_look ?g24k1 ?g24k2 ?g24k3 ?g24k4 ?g24k5 ?g24kA ?g24kF ?g24kK ?g24k6 ?g24k7 ?g24k8 ?g24k9 ?g24kB ?_ ?g24c2 ?g24c3 ?g24c4 ?g24c5
      case g24k1 => assumption
      case g24k2 => assumption
      case g24k3 => assumption
      case g24k4 => exact N0
      case g24k5 => assumption
      case g24kA => exact rfl
      case g24kF => assumption
      case g24kK => assumption
      case g24k6 => k_is
      case g24k7 => k_is
      case g24k8 => ktr_room
      case g24k9 => first | exact BindsTo.of_eq rfl | exact binds_K (by k_in) rfl (by k_is) rfl rfl rfl
      case g24kB => exact locs rfl
      case g24c2 => exact rfl
      case g24c3 => exact rfl
      case g24c4 => exact rfl
      case g24c5 => decide
      k_whole
      intro g' L' h' F' N' B' X' T'
      try dsimp only
      try k_fold
      walk_at "my_steps"
      all_goals (rename Fr _ _ _ _ => lF'; rename News _ _ _ _ => lN')
      · rw [← get_hit (by assumption) (by assumption) (by assumption)]
        exact LookEnd.intro lF' lN' (fun p hp => .tail _ (List.mem_append.mpr (.inl hp))) fun k => ret _ _ k
      · refine GEnd.intro () lF' lN' (fun _ h => nomatch h) ?_ ?_ (fun _ h => nomatch h) (fun _ h => nomatch h) ?_ ?_
        · walk_at "mem_sub"
        · walk_at "mem_sub"
        · intro z' h1' h2'
          simp only [List.contains_cons, List.contains_nil, Bool.or_false, Bool.or_eq_false_iff, beq_eq_false_iff_ne, ne_eq] at h2'
          simp +zetaDelta [upd, h2']
        · exact take_snoc (by assumption) (by assumption) (by assumption)
      · rw [← get_miss (by assumption)]
        exact LookEnd.intro lF' lN' (fun p hp => hp) fun k => ret _ _ k
set_option maxHeartbeats 0 in
theorem c_setd : ∀ {w : World} {mean : ExcName → Option Value} {mg mb : Str → Option Value} {dp un : Nat} {gd : Option (List Code)} {env : Env} {outer : List Env} {A₀ : Around} {base h₀ : Heap} {L : Addr} {m : Str → Option Value} {s : Shared} (C : Cx0 hd.heap_1_1 hd.view_1_2 w mean mg mb dp un env outer A₀ base h₀ L m s) {R : Result → Shared → Prop} {x y : Str} {t u : Nat} {I d H : Addr} {t1 : Tok} {n : Nat} {ts : List Row} {rest : List (Addr × Obj)} (hdp2 : dp + 60 < recursionLimit) (hun2 : un + 600 < cLine) (N0 : News h₀ L s.heap (tabObjs w.params I d H t1 n ts ++ rest)) (hx : x.length ≤ 100) (hN : okN (Txt.lower x) = true) (hN2 : okN x = true) (hV : okV y = true) (hk : ∀ r ∈ ts, r.k.length ≤ 100) (hrest : ∀ p ∈ rest, p.1 ≠ H) (hlen : ts.length ≤ 100) (ret1 : ∀ r h' tk', ts.find? (fun r => Txt.lower r.k == Txt.lower x) = some r → Fr h₀ L h' m → News h₀ L h' (tabObjs w.params I d H t1 n ts ++ rest) → R (.ok (.ret (.str r.v r.tv))) { s with heap := h', toks := tk' }) (ret2 : ∀ a n' h' tk', ts.find? (fun r => Txt.lower r.k == Txt.lower x) = none → Fr h₀ L h' m → News h₀ L h' (tabObjs w.params I d H t1 n' (ts ++ [⟨a, x, t, y, u⟩]) ++ rest) → R (.ok (.ret (.str y u))) { s with heap := h', toks := tk' }),
      codeAny (model PySem.Challenge.rw_tc0079_01.row.prog w) (kTop dp un gd env outer) (.call (.ref 174) ⟨[.ref I, .str x t, .str y u], []⟩) R s := by
      intro w mean mg mb dp un gd env outer A₀ base h₀ L m s C R x y t u I d H t1 n ts rest hdp2 hun2 N0 hx hN hN2 hV hk hrest hlen ret1 ret2
      k_with_none
      k_with "ktr_enter" => ((refine' p_plain (by assumption) (by assumption) (by assumption) (by assumption) ?g25kA ?g25kF ?g25kK ?g25k6 ?g25k7 ?g25k8 ?g25k9 ?g25kB ?_ ?g25c2 ?g25c3 ?g25c4 ?g25c5; (case g25kA => exact rfl); (case g25kF => assumption); (case g25kK => assumption); (case g25k6 => k_is); (case g25k7 => k_is); (case g25k8 => ktr_room); (case g25k9 => first | exact BindsTo.of_eq rfl | exact binds_K (by k_in) rfl (by k_is) rfl rfl rfl); (case g25c5 => decide); (case g25kB => exact locs rfl); (case g25c2 => exact rfl); (case g25c3 => exact rfl); (case g25c4 => exact rfl); k_whole; intro L' h' F' N' B' X' T'; (try dsimp only); (try k_fold)))
      k_with "execs cons" => (((try dsimp only); (refine step_first (n := _) (by first | assumption | exact ⟨⟩) ?g25hX ?_); (case g25hX => first | assumption | exact Nat.zero_le _ | omega); intro tk htk Qc hQc; (try dsimp only)))
      k_with "forall" => (((try dsimp only); intro htk; (try dsimp only)))
      k_with "exec For Name Name cons nil" => ((k_here; (rename Fr _ _ _ _ => lF'); (with_unfolding_all refine' For_turns lF' ?_; k_whole)))
      k_with "exec For Name Call cons nil" => ((k_here; (rename Fr _ _ _ _ => lF'); (with_unfolding_all refine' For_turns lF' ?_; k_whole)))
      k_with "GPost" => ((dsimp only [GPost]))
      k_with "call builtin:list.append" => (k_extra "list.append")
      k_with "ktr_enter" => ((refine' p_cells (by assumption) (by assumption) (by assumption) (by assumption) ?g25kA ?g25kF ?g25kK ?g25k6 ?g25k7 ?g25k8 ?g25k9 ?g25kB ?g25kD ?_ ?g25c2 ?g25c3 ?g25c4; (case g25kA => exact rfl); (case g25kF => assumption); (case g25kK => assumption); (case g25k6 => k_is); (case g25k7 => k_is); (case g25k8 => ktr_room); (case g25k9 => first | exact BindsTo.of_eq rfl | exact binds_K (by k_in) rfl (by k_is) rfl rfl rfl); (case g25kB => exact rfl); (case g25kD => decide +kernel); (case g25c2 => exact rfl); (case g25c3 => exact rfl); (case g25c4 => exact rfl); k_whole; intro L' h' tk' cells' F' N' Y' B' X' T'; k_cells Y'; (try simp only [List.cons_append, List.nil_append] at N'); (try dsimp only); (try k_fold)))
      k_with "eval ListComp" => (((with_reducible show wpAny _ _ (eval (Expr.ListComp _ _ _ _) _) _ _ _); lcf_look; k_dflt ((refine LCg.ListComp_U (F₀ := by k_asm) (by with_unfolding_all rfl) (by decide) (by rfl) (by decide) (by rfl) ?_)); k_dflt ((lcg_toSrc))))
      k_with "exec For Name Attribute cons nil" => ((k_here; (rename Fr _ _ _ _ => lF'); (with_unfolding_all refine' For_turns lF' ?_; k_whole)))
      k_with "k_all" => (assumption)
      k_with "k_ne" => (first | (refine neN ?_; (try dsimp only); walk_at "ne_fast") | (refine neN ?_; (try dsimp only); omega) | ((rename News _ _ _ _ => lN'); refine' news_ne lN' (by k_dflt k_mem) (by k_dflt k_mem) ?g25nc; (case g25nc => simp [dictOf, instObj])))
      k_with "call builtin:len" => (k_extra "len")
      k_with "call type:range" => (k_extra "range")
      k_with "eval Name" => ((k_here; k_dflt (refine' name_u ?g25F ?g25v ?_ ?g25a ?g25b; (case g25F => k_asm); (case g25a => rfl); (case g25b => rfl); (case g25v => exact look_mk (Eq.refl _)); k_whole)))
      k_with "storeName" => ((k_here; k_dflt (refine' store_u ?g25F ?g25N ?_ ?g25a ?g25b; (case g25F => k_asm); (case g25N => k_asm); (case g25a => rfl); (case g25b => rfl); k_whole; intro h' m' F' N'; (try k_sweep))))
      k_with "my_steps" => (repeat' (first | ((with_reducible refine step_next (by assumption) (by assumption) (by first | assumption | exact ⟨⟩) ?_); intro tk htk Qc hQc; (try dsimp only)) | ((with_reducible refine step_last (by assumption) ?_); intro htk; (try dsimp only)) | ((with_reducible refine cut_end (by assumption) ?_); (try dsimp only [Then])) | (k_unfold; (try dsimp only)) | (w_end; wrow_close) | walk1 | (dsimp only; walk1) | (leave1; (try dsimp only)) | ((with_reducible refine strip2 ?_); k_unfold; (try dsimp only)) | fail "no step"))
      k_with "my_enter" => ((refine' code_def ?g25k1 ?g25k2 ?g25k3 ?g25k4 ?g25k5 ?g25kA ?g25kF ?g25kK ?g25k6 ?g25k7 ?g25k8 ?g25k9 ?g25kB ?_ ?g25c2 ?g25c3 ?g25c4 ?g25c5; (case g25kA => exact rfl); (case g25kF => first | exact rfl | assumption); (case g25kK => first | exact rfl | assumption); (case g25k1 => k_asm); (case g25k2 => k_asm); (case g25k3 => k_asm); (case g25k4 => k_asm); (case g25k5 => k_asm); (case g25k6 => k_is); (case g25k7 => k_is); (case g25k8 => ktr_room); (case g25k9 => first | exact BindsTo.of_eq rfl | exact binds_K (by k_in) rfl (by k_is) rfl rfl rfl); (case g25c5 => decide); (case g25kB => exact locs rfl); (case g25c2 => exact rfl); (case g25c3 => exact rfl); (case g25c4 => exact rfl); k_whole; intro g' L' h' FG' F' N' B' X' T'; (try dsimp only); (try k_lift B'); (try k_fold)))
      k_with "exec For Tuple Attribute cons nil" => ((k_here; (rename Fr _ _ _ _ => lF'); (with_unfolding_all refine' For_turns lF' ?_; k_whole)))
      k_with "call builtin:str.lower" => (k_extra "lower")
      k_with "my_cx" => (((with_unfolding_all refine' ⟨by assumption, by assumption, by assumption, by assumption, rfl, rfl, ?g25d1, ?g25d2⟩); (case g25d1 => ((with_unfolding_all show (_ : Nat) + 1 + 20 < recursionLimit); first | exact room2 (k := 40) (by assumption) (by decide) | exact room2 (k := 60) (by assumption) (by decide) | exact room2 (k := 100) (by assumption) (by decide) | exact room2 (k := 20) (by assumption) (by decide) | omega)); (case g25d2 => ((with_unfolding_all show (_ : Nat) + 3 + 200 < cLine); first | exact room2 (k := 400) (by assumption) (by decide) | exact room2 (k := 600) (by assumption) (by decide) | exact room2 (k := 1000) (by assumption) (by decide) | exact room2 (k := 200) (by assumption) (by decide) | omega))))
      w_top off
      obtain ⟨B, F, X, T, hf, hke, hdp, hun⟩ := C
      revert X; k_fill; intro X
      have hm : TokLo 0 := ⟨⟩
      k_with "call ref" => ((rename Fr _ _ _ _ => lF'); (rename News _ _ _ _ => lN'); (with_reducible refine toks_in ?_); refine wpAny_call ?_; first
        | ((with_unfolding_all refine' c_get (ts := ts) (H := H) (d := d) ?g25C ?g25e1 ?g25e2 ?g25N0 hx hN hk (fun h2 tk2 k2 => ?_)); (case g25e1 => ((with_unfolding_all show dp + 1 + 40 < recursionLimit); omega)); (case g25e2 => ((with_unfolding_all show un + 3 + 400 < cLine); omega)); (case g25C => walk_at "my_cx"); (case g25N0 => exact news_sub lN' (fun p hp => List.mem_append.mpr (.inl hp))); (have lN3 := news_kept lN' k2); (have lF3 := fr_kept lF' k2); (clear lF' lN'); (intro htk2); (rcases getF_cases ts (Txt.lower x) with ⟨hg1, hg2⟩ | ⟨r2, hg1, hg2⟩); (all_goals rw [hg1]); (all_goals (try k_fold)))
        | ((with_unfolding_all refine' c_convN ?g25C hN2 (fun h2 tk2 k2 => ?_)); (case g25C => walk_at "my_cx"); (have lN3 := news_kept lN' k2); (have lF3 := fr_kept lF' k2); (clear lF' lN'); (intro htk2); (try k_fold))
        | ((with_unfolding_all refine' c_convV ?g25C hV (fun h2 tk2 k2 => ?_)); (case g25C => walk_at "my_cx"); (have lN3 := news_kept lN' k2); (have lF3 := fr_kept lF' k2); (clear lF' lN'); (intro htk2); (try k_fold)))
      k_with "list.append" => ((rename Fr _ _ _ _ => lF'); (rename News _ _ _ _ => lN'); (with_unfolding_all refine' tab_add (ts := ts) (rest := rest) lF' lN' hrest hlen (fun h2 n2 F2 N2 => ?_)); (clear lF' lN'); (try k_fold))
      walk_at "my_enter"
      walk_at "my_steps"
      all_goals (rename Fr _ _ _ _ => lF'; rename News _ _ _ _ => lN')
      · exact ret2 _ _ _ _ hg2 lF' lN'
      · exact ret1 _ _ _ hg2 lF' lN'
set_option maxHeartbeats 0 in
theorem c_hdr : ∀ {w : World} {mean : ExcName → Option Value} {mg mb : Str → Option Value} {dp un : Nat} {gd : Option (List Code)} {env : Env} {outer : List Env} {A₀ : Around} {base h₀ : Heap} {L : Addr} {m : Str → Option Value} {s : Shared} {Q E : Value → Shared → Prop} (C : Cx0 hd.heap_1_1 hd.view_1_2 w mean mg mb dp un env outer A₀ base h₀ L m s) (hdp2 : dp + 60 < recursionLimit) (hun2 : un + 600 < cLine) (ret : ∀ I d H t1 n L' h' tk', Kept s.heap h' → News s.heap L' h' (tabObjs w.params I d H t1 n []) → Q (.ref I) { s with heap := h', toks := tk' }),
      wpAny (model PySem.Challenge.rw_tc0079_01.row.prog w) (kTop dp un gd env outer) (call (.ref 184) []) Q E s := by
      intro w mean mg mb dp un gd env outer A₀ base h₀ L m s Q E C hdp2 hun2 ret
      k_with_none
      k_with "ktr_enter" => ((refine' p_plain (by assumption) (by assumption) (by assumption) (by assumption) ?g26kA ?g26kF ?g26kK ?g26k6 ?g26k7 ?g26k8 ?g26k9 ?g26kB ?_ ?g26c2 ?g26c3 ?g26c4 ?g26c5; (case g26kA => exact rfl); (case g26kF => assumption); (case g26kK => assumption); (case g26k6 => k_is); (case g26k7 => k_is); (case g26k8 => ktr_room); (case g26k9 => first | exact BindsTo.of_eq rfl | exact binds_K (by k_in) rfl (by k_is) rfl rfl rfl); (case g26c5 => decide); (case g26kB => exact locs rfl); (case g26c2 => exact rfl); (case g26c3 => exact rfl); (case g26c4 => exact rfl); k_whole; intro L' h' F' N' B' X' T'; (try dsimp only); (try k_fold)))
      k_with "execs cons" => (((try dsimp only); (refine step_first (n := _) (by first | assumption | exact ⟨⟩) ?g26hX ?_); (case g26hX => first | assumption | exact Nat.zero_le _ | omega); intro tk htk Qc hQc; (try dsimp only)))
      k_with "forall" => (((try dsimp only); intro htk; (try dsimp only)))
      k_with "exec For Name Name cons nil" => ((k_here; (rename Fr _ _ _ _ => lF'); (with_unfolding_all refine' For_turns lF' ?_; k_whole)))
      k_with "exec For Name Call cons nil" => ((k_here; (rename Fr _ _ _ _ => lF'); (with_unfolding_all refine' For_turns lF' ?_; k_whole)))
      k_with "GPost" => ((dsimp only [GPost]))
      k_with "call builtin:list.append" => (k_extra "list.append")
      k_with "ktr_enter" => ((refine' p_cells (by assumption) (by assumption) (by assumption) (by assumption) ?g26kA ?g26kF ?g26kK ?g26k6 ?g26k7 ?g26k8 ?g26k9 ?g26kB ?g26kD ?_ ?g26c2 ?g26c3 ?g26c4; (case g26kA => exact rfl); (case g26kF => assumption); (case g26kK => assumption); (case g26k6 => k_is); (case g26k7 => k_is); (case g26k8 => ktr_room); (case g26k9 => first | exact BindsTo.of_eq rfl | exact binds_K (by k_in) rfl (by k_is) rfl rfl rfl); (case g26kB => exact rfl); (case g26kD => decide +kernel); (case g26c2 => exact rfl); (case g26c3 => exact rfl); (case g26c4 => exact rfl); k_whole; intro L' h' tk' cells' F' N' Y' B' X' T'; k_cells Y'; (try simp only [List.cons_append, List.nil_append] at N'); (try dsimp only); (try k_fold)))
      k_with "eval ListComp" => (((with_reducible show wpAny _ _ (eval (Expr.ListComp _ _ _ _) _) _ _ _); lcf_look; k_dflt ((refine LCg.ListComp_U (F₀ := by k_asm) (by with_unfolding_all rfl) (by decide) (by rfl) (by decide) (by rfl) ?_)); k_dflt ((lcg_toSrc))))
      k_with "exec For Name Attribute cons nil" => ((k_here; (rename Fr _ _ _ _ => lF'); (with_unfolding_all refine' For_turns lF' ?_; k_whole)))
      k_with "k_all" => (assumption)
      k_with "k_ne" => (first | (refine neN ?_; (try dsimp only); walk_at "ne_fast") | (refine neN ?_; (try dsimp only); omega) | ((rename News _ _ _ _ => lN'); refine' news_ne lN' (by k_dflt k_mem) (by k_dflt k_mem) ?g26nc; (case g26nc => simp [dictOf, instObj])))
      k_with "call builtin:len" => (k_extra "len")
      k_with "call type:range" => (k_extra "range")
      k_with "eval Name" => ((k_here; k_dflt (refine' name_u ?g26F ?g26v ?_ ?g26a ?g26b; (case g26F => k_asm); (case g26a => rfl); (case g26b => rfl); (case g26v => exact look_mk (Eq.refl _)); k_whole)))
      k_with "storeName" => ((k_here; k_dflt (refine' store_u ?g26F ?g26N ?_ ?g26a ?g26b; (case g26F => k_asm); (case g26N => k_asm); (case g26a => rfl); (case g26b => rfl); k_whole; intro h' m' F' N'; (try k_sweep))))
      k_with "my_steps" => (repeat' (first | ((with_reducible refine step_next (by assumption) (by assumption) (by first | assumption | exact ⟨⟩) ?_); intro tk htk Qc hQc; (try dsimp only)) | ((with_reducible refine step_last (by assumption) ?_); intro htk; (try dsimp only)) | ((with_reducible refine cut_end (by assumption) ?_); (try dsimp only [Then])) | (k_unfold; (try dsimp only)) | (w_end; wrow_close) | walk1 | (dsimp only; walk1) | (leave1; (try dsimp only)) | ((with_reducible refine strip2 ?_); k_unfold; (try dsimp only)) | fail "no step"))
      k_with "my_enter" => ((refine' code_def ?g26k1 ?g26k2 ?g26k3 ?g26k4 ?g26k5 ?g26kA ?g26kF ?g26kK ?g26k6 ?g26k7 ?g26k8 ?g26k9 ?g26kB ?_ ?g26c2 ?g26c3 ?g26c4 ?g26c5; (case g26kA => exact rfl); (case g26kF => first | exact rfl | assumption); (case g26kK => first | exact rfl | assumption); (case g26k1 => k_asm); (case g26k2 => k_asm); (case g26k3 => k_asm); (case g26k4 => k_asm); (case g26k5 => k_asm); (case g26k6 => k_is); (case g26k7 => k_is); (case g26k8 => ktr_room); (case g26k9 => first | exact BindsTo.of_eq rfl | exact binds_K (by k_in) rfl (by k_is) rfl rfl rfl); (case g26c5 => decide); (case g26kB => exact locs rfl); (case g26c2 => exact rfl); (case g26c3 => exact rfl); (case g26c4 => exact rfl); k_whole; intro g' L' h' FG' F' N' B' X' T'; (try dsimp only); (try k_lift B'); (try k_fold)))
      k_with "exec For Tuple Attribute cons nil" => ((k_here; (rename Fr _ _ _ _ => lF'); (with_unfolding_all refine' For_turns lF' ?_; k_whole)))
      k_with "call builtin:str.lower" => (k_extra "lower")
      k_with "my_cx" => (((with_unfolding_all refine' ⟨by assumption, by assumption, by assumption, by assumption, rfl, rfl, ?g26d1, ?g26d2⟩); (case g26d1 => ((with_unfolding_all show (_ : Nat) + 1 + 20 < recursionLimit); first | exact room2 (k := 40) (by assumption) (by decide) | exact room2 (k := 60) (by assumption) (by decide) | exact room2 (k := 100) (by assumption) (by decide) | exact room2 (k := 20) (by assumption) (by decide) | omega)); (case g26d2 => ((with_unfolding_all show (_ : Nat) + 3 + 200 < cLine); first | exact room2 (k := 400) (by assumption) (by decide) | exact room2 (k := 600) (by assumption) (by decide) | exact room2 (k := 1000) (by assumption) (by decide) | exact room2 (k := 200) (by assumption) (by decide) | omega))))
      w_top off
      obtain ⟨B, F, X, T, hf, hke, hdp, hun⟩ := C
      revert X; k_fill; intro X
      have hm : TokLo 0 := ⟨⟩
      refine wpAny_call ?_
      refine' p_makeK ?g26k1 ?g26k2 ?g26k3 ?g26k5 ?g26kA ?g26kF ?g26kK ?g26m1 ?g26m2 ?g26m3 ?g26k6 ?g26k7 ?g26k8 ?g26kA2 ?g26k9 ?g26kB ?_ ?g26c2 ?g26c3 ?g26c4 ?g26c5
      case g26k1 => assumption
      case g26k2 => assumption
      case g26k3 => assumption
      case g26k5 => assumption
      case g26kA => exact rfl
      case g26kA2 => exact rfl
      case g26kF => assumption
      case g26kK => assumption
      case g26m1 => k_is
      case g26m2 => k_is
      case g26m3 => k_is
      case g26k6 => k_is
      case g26k7 => k_is
      case g26k8 => ktr_room
      case g26k9 => exact fun x s' X' => binds_K X' rfl (by k_is) rfl rfl rfl
      case g26kB => exact fun x => locs rfl
      case g26c2 => exact rfl
      case g26c3 => exact rfl
      case g26c4 => exact rfl
      case g26c5 => decide
      k_whole
      intro x' d' L' h' l1 F' N' B' X' T'
      try dsimp only
      try k_lt l1
      try k_sweep
      try k_fold
      walk_at "my_steps"
      all_goals dsimp only [InitBack]
      all_goals refine ⟨rfl, ?_⟩
      rename Fr _ _ _ _ => lF'; rename News _ _ _ _ => lN'
      exact ret _ _ _ _ _ _ _ _ (Fr.keep lF') lN'
set_option maxHeartbeats 0 in
theorem c_hint : ∀ {w : World} {mean : ExcName → Option Value} {mg mb : Str → Option Value} {dp un : Nat} {gd : Option (List Code)} {env : Env} {outer : List Env} {A₀ : Around} {base h₀ : Heap} {L : Addr} {m : Str → Option Value} {s : Shared} (C : Cx0 hd.heap_1_1 hd.view_1_2 w mean mg mb dp un env outer A₀ base h₀ L m s) {R : Result → Shared → Prop} {I d H : Addr} {t1 : Tok} {n : Nat} {ts : List Row} (hdp2 : dp + 60 < recursionLimit) (hun2 : un + 600 < cLine) (N0 : News h₀ L s.heap (tabObjs w.params I d H t1 n ts)) (hlen : ts.length ≤ 100) (ret : ∀ t' h' tk', Kept s.heap h' → R (.ok (.ret (.int ts.length t'))) { s with heap := h', toks := tk' }),
      codeAny (model PySem.Challenge.rw_tc0079_01.row.prog w) (kTop dp un gd env outer) (.call (.ref 217) ⟨[.ref I], []⟩) R s := by
      intro w mean mg mb dp un gd env outer A₀ base h₀ L m s C R I d H t1 n ts hdp2 hun2 N0 hlen ret
      k_with_none
      k_with "ktr_enter" => ((refine' p_plain (by assumption) (by assumption) (by assumption) (by assumption) ?g27kA ?g27kF ?g27kK ?g27k6 ?g27k7 ?g27k8 ?g27k9 ?g27kB ?_ ?g27c2 ?g27c3 ?g27c4 ?g27c5; (case g27kA => exact rfl); (case g27kF => assumption); (case g27kK => assumption); (case g27k6 => k_is); (case g27k7 => k_is); (case g27k8 => ktr_room); (case g27k9 => first | exact BindsTo.of_eq rfl | exact binds_K (by k_in) rfl (by k_is) rfl rfl rfl); (case g27c5 => decide); (case g27kB => exact locs rfl); (case g27c2 => exact rfl); (case g27c3 => exact rfl); (case g27c4 => exact rfl); k_whole; intro L' h' F' N' B' X' T'; (try dsimp only); (try k_fold)))
      k_with "execs cons" => (((try dsimp only); (refine step_first (n := _) (by first | assumption | exact ⟨⟩) ?g27hX ?_); (case g27hX => first | assumption | exact Nat.zero_le _ | omega); intro tk htk Qc hQc; (try dsimp only)))
      k_with "forall" => (((try dsimp only); intro htk; (try dsimp only)))
      k_with "exec For Name Name cons nil" => ((k_here; (rename Fr _ _ _ _ => lF'); (with_unfolding_all refine' For_turns lF' ?_; k_whole)))
      k_with "exec For Name Call cons nil" => ((k_here; (rename Fr _ _ _ _ => lF'); (with_unfolding_all refine' For_turns lF' ?_; k_whole)))
      k_with "GPost" => ((dsimp only [GPost]))
      k_with "call builtin:list.append" => (k_extra "list.append")
      k_with "ktr_enter" => ((refine' p_cells (by assumption) (by assumption) (by assumption) (by assumption) ?g27kA ?g27kF ?g27kK ?g27k6 ?g27k7 ?g27k8 ?g27k9 ?g27kB ?g27kD ?_ ?g27c2 ?g27c3 ?g27c4; (case g27kA => exact rfl); (case g27kF => assumption); (case g27kK => assumption); (case g27k6 => k_is); (case g27k7 => k_is); (case g27k8 => ktr_room); (case g27k9 => first | exact BindsTo.of_eq rfl | exact binds_K (by k_in) rfl (by k_is) rfl rfl rfl); (case g27kB => exact rfl); (case g27kD => decide +kernel); (case g27c2 => exact rfl); (case g27c3 => exact rfl); (case g27c4 => exact rfl); k_whole; intro L' h' tk' cells' F' N' Y' B' X' T'; k_cells Y'; (try simp only [List.cons_append, List.nil_append] at N'); (try dsimp only); (try k_fold)))
      k_with "eval ListComp" => (((with_reducible show wpAny _ _ (eval (Expr.ListComp _ _ _ _) _) _ _ _); lcf_look; k_dflt ((refine LCg.ListComp_U (F₀ := by k_asm) (by with_unfolding_all rfl) (by decide) (by rfl) (by decide) (by rfl) ?_)); k_dflt ((lcg_toSrc))))
      k_with "exec For Name Attribute cons nil" => ((k_here; (rename Fr _ _ _ _ => lF'); (with_unfolding_all refine' For_turns lF' ?_; k_whole)))
      k_with "k_all" => (assumption)
      k_with "k_ne" => (first | (refine neN ?_; (try dsimp only); walk_at "ne_fast") | (refine neN ?_; (try dsimp only); omega) | ((rename News _ _ _ _ => lN'); refine' news_ne lN' (by k_dflt k_mem) (by k_dflt k_mem) ?g27nc; (case g27nc => simp [dictOf, instObj])))
      k_with "call builtin:len" => (k_extra "len")
      k_with "call type:range" => (k_extra "range")
      k_with "eval Name" => ((k_here; k_dflt (refine' name_u ?g27F ?g27v ?_ ?g27a ?g27b; (case g27F => k_asm); (case g27a => rfl); (case g27b => rfl); (case g27v => exact look_mk (Eq.refl _)); k_whole)))
      k_with "storeName" => ((k_here; k_dflt (refine' store_u ?g27F ?g27N ?_ ?g27a ?g27b; (case g27F => k_asm); (case g27N => k_asm); (case g27a => rfl); (case g27b => rfl); k_whole; intro h' m' F' N'; (try k_sweep))))
      k_with "my_steps" => (repeat' (first | ((with_reducible refine step_next (by assumption) (by assumption) (by first | assumption | exact ⟨⟩) ?_); intro tk htk Qc hQc; (try dsimp only)) | ((with_reducible refine step_last (by assumption) ?_); intro htk; (try dsimp only)) | ((with_reducible refine cut_end (by assumption) ?_); (try dsimp only [Then])) | (k_unfold; (try dsimp only)) | (w_end; wrow_close) | walk1 | (dsimp only; walk1) | (leave1; (try dsimp only)) | ((with_reducible refine strip2 ?_); k_unfold; (try dsimp only)) | fail "no step"))
      k_with "my_enter" => ((refine' code_def ?g27k1 ?g27k2 ?g27k3 ?g27k4 ?g27k5 ?g27kA ?g27kF ?g27kK ?g27k6 ?g27k7 ?g27k8 ?g27k9 ?g27kB ?_ ?g27c2 ?g27c3 ?g27c4 ?g27c5; (case g27kA => exact rfl); (case g27kF => first | exact rfl | assumption); (case g27kK => first | exact rfl | assumption); (case g27k1 => k_asm); (case g27k2 => k_asm); (case g27k3 => k_asm); (case g27k4 => k_asm); (case g27k5 => k_asm); (case g27k6 => k_is); (case g27k7 => k_is); (case g27k8 => ktr_room); (case g27k9 => first | exact BindsTo.of_eq rfl | exact binds_K (by k_in) rfl (by k_is) rfl rfl rfl); (case g27c5 => decide); (case g27kB => exact locs rfl); (case g27c2 => exact rfl); (case g27c3 => exact rfl); (case g27c4 => exact rfl); k_whole; intro g' L' h' FG' F' N' B' X' T'; (try dsimp only); (try k_lift B'); (try k_fold)))
      k_with "exec For Tuple Attribute cons nil" => ((k_here; (rename Fr _ _ _ _ => lF'); (with_unfolding_all refine' For_turns lF' ?_; k_whole)))
      k_with "call builtin:str.lower" => (k_extra "lower")
      k_with "my_cx" => (((with_unfolding_all refine' ⟨by assumption, by assumption, by assumption, by assumption, rfl, rfl, ?g27d1, ?g27d2⟩); (case g27d1 => ((with_unfolding_all show (_ : Nat) + 1 + 20 < recursionLimit); first | exact room2 (k := 40) (by assumption) (by decide) | exact room2 (k := 60) (by assumption) (by decide) | exact room2 (k := 100) (by assumption) (by decide) | exact room2 (k := 20) (by assumption) (by decide) | omega)); (case g27d2 => ((with_unfolding_all show (_ : Nat) + 3 + 200 < cLine); first | exact room2 (k := 400) (by assumption) (by decide) | exact room2 (k := 600) (by assumption) (by decide) | exact room2 (k := 1000) (by assumption) (by decide) | exact room2 (k := 200) (by assumption) (by decide) | omega))))
      w_top off
      obtain ⟨B, F, X, T, hf, hke, hdp, hun⟩ := C
      revert X; k_fill; intro X
      have hm : TokLo 0 := ⟨⟩
      k_with "call ref" => (refine wpAny_call ?_; walk_at "my_enter")
      k_with "len" => ((rename News _ _ _ _ => lN'); (refine call_len_list (News.isList lN' (by k_mem)) ?g27hf ?_); (case g27hf => ((rw [List.size_toArray, List.length_map]); omega)); (rw [show ((rowVs ts).toArray.size : Int) = (ts.length : Int) by rw [List.size_toArray, List.length_map]]))
      refine' p_look ?g27k1 ?g27k2 ?g27k3 ?g27k4 ?g27k5 ?g27kA ?g27kF ?g27kK ?g27k6 ?g27k7 ?g27k8 ?g27k9 ?g27kB ?_ ?g27c2 ?g27c3 ?g27c4 ?g27c5
      case g27k1 => assumption
      case g27k2 => assumption
      case g27k3 => assumption
      case g27k4 => exact N0
      case g27k5 => assumption
      case g27kA => exact rfl
      case g27kF => assumption
      case g27kK => assumption
      case g27k6 => k_is
      case g27k7 => k_is
      case g27k8 => ktr_room
      case g27k9 => first | exact BindsTo.of_eq rfl | exact binds_K (by k_in) rfl (by k_is) rfl rfl rfl
      case g27kB => exact locs rfl
      case g27c2 => exact rfl
      case g27c3 => exact rfl
      case g27c4 => exact rfl
      case g27c5 => decide
      k_whole
      intro g' L' h' F' N' B' X' T'
      try dsimp only
      try k_fold
      walk_at "my_steps"
      all_goals (rename Fr _ _ _ _ => lF'; rename News _ _ _ _ => lN')
      exact LookEnd.intro lF' lN' (fun p hp => hp) fun k => ret _ _ _ k
set_option maxHeartbeats 0 in
theorem c_items : ∀ {w : World} {mean : ExcName → Option Value} {mg mb : Str → Option Value} {dp un : Nat} {gd : Option (List Code)} {env : Env} {outer : List Env} {A₀ : Around} {base h₀ : Heap} {L : Addr} {m : Str → Option Value} {s : Shared} (C : Cx0 hd.heap_1_1 hd.view_1_2 w mean mg mb dp un env outer A₀ base h₀ L m s) {R : Result → Shared → Prop} {I d H : Addr} {t1 : Tok} {n : Nat} {ts : List Row} (hdp2 : dp + 60 < recursionLimit) (hun2 : un + 600 < cLine) (N0 : News h₀ L s.heap (tabObjs w.params I d H t1 n ts)) (hlen : ts.length ≤ 100) (ret : ∀ D n' h' tk', Kept s.heap h' → s.heap.get? D = none → h'.get? D = some (listOf (rowVs ts).toArray n') → R (.ok (.ret (.ref D))) { s with heap := h', toks := tk' }),
      codeAny (model PySem.Challenge.rw_tc0079_01.row.prog w) (kTop dp un gd env outer) (.call (.ref 148) ⟨[.ref I], []⟩) R s := by
      intro w mean mg mb dp un gd env outer A₀ base h₀ L m s C R I d H t1 n ts hdp2 hun2 N0 hlen ret
      k_with_none
      k_with "ktr_enter" => ((refine' p_plain (by assumption) (by assumption) (by assumption) (by assumption) ?g28kA ?g28kF ?g28kK ?g28k6 ?g28k7 ?g28k8 ?g28k9 ?g28kB ?_ ?g28c2 ?g28c3 ?g28c4 ?g28c5; (case g28kA => exact rfl); (case g28kF => assumption); (case g28kK => assumption); (case g28k6 => k_is); (case g28k7 => k_is); (case g28k8 => ktr_room); (case g28k9 => first | exact BindsTo.of_eq rfl | exact binds_K (by k_in) rfl (by k_is) rfl rfl rfl); (case g28c5 => decide); (case g28kB => exact locs rfl); (case g28c2 => exact rfl); (case g28c3 => exact rfl); (case g28c4 => exact rfl); k_whole; intro L' h' F' N' B' X' T'; (try dsimp only); (try k_fold)))
      k_with "execs cons" => (((try dsimp only); (refine step_first (n := _) (by first | assumption | exact ⟨⟩) ?g28hX ?_); (case g28hX => first | assumption | exact Nat.zero_le _ | omega); intro tk htk Qc hQc; (try dsimp only)))
      k_with "forall" => (((try dsimp only); intro htk; (try dsimp only)))
      k_with "exec For Name Name cons nil" => ((k_here; (rename Fr _ _ _ _ => lF'); (with_unfolding_all refine' For_turns lF' ?_; k_whole)))
      k_with "exec For Name Call cons nil" => ((k_here; (rename Fr _ _ _ _ => lF'); (with_unfolding_all refine' For_turns lF' ?_; k_whole)))
      k_with "GPost" => ((dsimp only [GPost]))
      k_with "call builtin:list.append" => (k_extra "list.append")
      k_with "ktr_enter" => ((refine' p_cells (by assumption) (by assumption) (by assumption) (by assumption) ?g28kA ?g28kF ?g28kK ?g28k6 ?g28k7 ?g28k8 ?g28k9 ?g28kB ?g28kD ?_ ?g28c2 ?g28c3 ?g28c4; (case g28kA => exact rfl); (case g28kF => assumption); (case g28kK => assumption); (case g28k6 => k_is); (case g28k7 => k_is); (case g28k8 => ktr_room); (case g28k9 => first | exact BindsTo.of_eq rfl | exact binds_K (by k_in) rfl (by k_is) rfl rfl rfl); (case g28kB => exact rfl); (case g28kD => decide +kernel); (case g28c2 => exact rfl); (case g28c3 => exact rfl); (case g28c4 => exact rfl); k_whole; intro L' h' tk' cells' F' N' Y' B' X' T'; k_cells Y'; (try simp only [List.cons_append, List.nil_append] at N'); (try dsimp only); (try k_fold)))
      k_with "eval ListComp" => (((with_reducible show wpAny _ _ (eval (Expr.ListComp _ _ _ _) _) _ _ _); lcf_look; k_dflt ((refine LCg.ListComp_U (F₀ := by k_asm) (by with_unfolding_all rfl) (by decide) (by rfl) (by decide) (by rfl) ?_)); k_dflt ((lcg_toSrc))))
      k_with "exec For Name Attribute cons nil" => ((k_here; (rename Fr _ _ _ _ => lF'); (with_unfolding_all refine' For_turns lF' ?_; k_whole)))
      k_with "k_all" => (assumption)
      k_with "k_ne" => (first | (refine neN ?_; (try dsimp only); walk_at "ne_fast") | (refine neN ?_; (try dsimp only); omega) | ((rename News _ _ _ _ => lN'); refine' news_ne lN' (by k_dflt k_mem) (by k_dflt k_mem) ?g28nc; (case g28nc => simp [dictOf, instObj])))
      k_with "call builtin:len" => (k_extra "len")
      k_with "call type:range" => (k_extra "range")
      k_with "eval Name" => ((k_here; k_dflt (refine' name_u ?g28F ?g28v ?_ ?g28a ?g28b; (case g28F => k_asm); (case g28a => rfl); (case g28b => rfl); (case g28v => exact look_mk (Eq.refl _)); k_whole)))
      k_with "storeName" => ((k_here; k_dflt (refine' store_u ?g28F ?g28N ?_ ?g28a ?g28b; (case g28F => k_asm); (case g28N => k_asm); (case g28a => rfl); (case g28b => rfl); k_whole; intro h' m' F' N'; (try k_sweep))))
      k_with "my_steps" => (repeat' (first | ((with_reducible refine step_next (by assumption) (by assumption) (by first | assumption | exact ⟨⟩) ?_); intro tk htk Qc hQc; (try dsimp only)) | ((with_reducible refine step_last (by assumption) ?_); intro htk; (try dsimp only)) | ((with_reducible refine cut_end (by assumption) ?_); (try dsimp only [Then])) | (k_unfold; (try dsimp only)) | (w_end; wrow_close) | walk1 | (dsimp only; walk1) | (leave1; (try dsimp only)) | ((with_reducible refine strip2 ?_); k_unfold; (try dsimp only)) | fail "no step"))
      k_with "my_enter" => ((refine' code_def ?g28k1 ?g28k2 ?g28k3 ?g28k4 ?g28k5 ?g28kA ?g28kF ?g28kK ?g28k6 ?g28k7 ?g28k8 ?g28k9 ?g28kB ?_ ?g28c2 ?g28c3 ?g28c4 ?g28c5; (case g28kA => exact rfl); (case g28kF => first | exact rfl | assumption); (case g28kK => first | exact rfl | assumption); (case g28k1 => k_asm); (case g28k2 => k_asm); (case g28k3 => k_asm); (case g28k4 => k_asm); (case g28k5 => k_asm); (case g28k6 => k_is); (case g28k7 => k_is); (case g28k8 => ktr_room); (case g28k9 => first | exact BindsTo.of_eq rfl | exact binds_K (by k_in) rfl (by k_is) rfl rfl rfl); (case g28c5 => decide); (case g28kB => exact locs rfl); (case g28c2 => exact rfl); (case g28c3 => exact rfl); (case g28c4 => exact rfl); k_whole; intro g' L' h' FG' F' N' B' X' T'; (try dsimp only); (try k_lift B'); (try k_fold)))
      k_with "exec For Tuple Attribute cons nil" => ((k_here; (rename Fr _ _ _ _ => lF'); (with_unfolding_all refine' For_turns lF' ?_; k_whole)))
      k_with "call builtin:str.lower" => (k_extra "lower")
      k_with "my_cx" => (((with_unfolding_all refine' ⟨by assumption, by assumption, by assumption, by assumption, rfl, rfl, ?g28d1, ?g28d2⟩); (case g28d1 => ((with_unfolding_all show (_ : Nat) + 1 + 20 < recursionLimit); first | exact room2 (k := 40) (by assumption) (by decide) | exact room2 (k := 60) (by assumption) (by decide) | exact room2 (k := 100) (by assumption) (by decide) | exact room2 (k := 20) (by assumption) (by decide) | omega)); (case g28d2 => ((with_unfolding_all show (_ : Nat) + 3 + 200 < cLine); first | exact room2 (k := 400) (by assumption) (by decide) | exact room2 (k := 600) (by assumption) (by decide) | exact room2 (k := 1000) (by assumption) (by decide) | exact room2 (k := 200) (by assumption) (by decide) | omega))))
      w_top off
      obtain ⟨B, F, X, T, hf, hke, hdp, hun⟩ := C
      revert X; k_fill; intro X
      have hm : TokLo 0 := ⟨⟩
      refine' p_look2 ?g28k1 ?g28k2 ?g28k3 ?g28k4 ?g28k5 ?g28kA ?g28kF ?g28kK ?g28k6 ?g28k7 ?g28k8 ?g28k9 ?g28kB ?_ ?g28c2 ?g28c3 ?g28c4 ?g28c5
      case g28k1 => assumption
      case g28k2 => assumption
      case g28k3 => assumption
      case g28k4 => exact N0
      case g28k5 => assumption
      case g28kA => exact rfl
      case g28kF => assumption
      case g28kK => assumption
      case g28k6 => k_is
      case g28k7 => k_is
      case g28k8 => ktr_room
      case g28k9 => first | exact BindsTo.of_eq rfl | exact binds_K (by k_in) rfl (by k_is) rfl rfl rfl
      case g28kB => exact locs rfl
      case g28c2 => exact rfl
      case g28c3 => exact rfl
      case g28c4 => exact rfl
      case g28c5 => decide
      k_whole
      intro g' L' h' gs' F' N' B' X' T'
      have h1 : h'.objs.size > L' := F'.ns.lt
      have h2 : g'.objs.size ≤ L' := F'.above
      try dsimp only
      try k_fold
      walk_at "my_steps"
      all_goals (rename Fr _ _ _ _ => lF'; rename News _ _ _ _ => lN')
      rw [slicePick_all] at lN'
      refine LookEnd.intro lF' lN' (fun p hp => .tail _ hp) fun k => ret _ 0 _ _ k (Heap.get?_none_of_le ?_) (News.get lN' (.head _))
      show s.heap.objs.size ≤ h'.objs.size + 1
      omega
set_option maxHeartbeats 0 in
theorem c_addh : ∀ {w : World} {mean : ExcName → Option Value} {mg mb : Str → Option Value} {dp un : Nat} {gd : Option (List Code)} {env : Env} {outer : List Env} {A₀ : Around} {base h₀ : Heap} {L : Addr} {m : Str → Option Value} {s : Shared} (C : Cx0 hd.heap_1_1 hd.view_1_2 w mean mg mb dp un env outer A₀ base h₀ L m s) {R : Result → Shared → Prop} {x y : Str} {t u : Nat} {I d H : Addr} {t1 : Tok} {n : Nat} {ts : List Row} {rest : List (Addr × Obj)} (hdp2 : dp + 60 < recursionLimit) (hun2 : un + 600 < cLine) (N0 : News h₀ L s.heap (tabObjs w.params I d H t1 n ts ++ rest)) (hN2 : okN x = true) (hV : okV y = true) (hrest : ∀ p ∈ rest, p.1 ≠ H) (hlen : ts.length ≤ 100) (hy : y.length ≤ 100) (hj : Txt.join (Str.ofString "; ") [y] = y) (ret : ∀ a n' h' tk' ty, Fr h₀ L h' m → News h₀ L h' (tabObjs w.params I d H t1 n' (ts ++ [⟨a, x, t, y, ty⟩]) ++ rest) → R (.ok (.ret .none)) { s with heap := h', toks := tk' }),
      codeAny (model PySem.Challenge.rw_tc0079_01.row.prog w) (kTop dp un gd env outer) (.call (.ref 181) ⟨[.ref I, .str x t, .str y u], []⟩) R s := by
      intro w mean mg mb dp un gd env outer A₀ base h₀ L m s C R x y t u I d H t1 n ts rest hdp2 hun2 N0 hN2 hV hrest hlen hy hj ret
      k_with_none
      k_with "ktr_enter" => ((refine' p_plain (by assumption) (by assumption) (by assumption) (by assumption) ?g29kA ?g29kF ?g29kK ?g29k6 ?g29k7 ?g29k8 ?g29k9 ?g29kB ?_ ?g29c2 ?g29c3 ?g29c4 ?g29c5; (case g29kA => exact rfl); (case g29kF => assumption); (case g29kK => assumption); (case g29k6 => k_is); (case g29k7 => k_is); (case g29k8 => ktr_room); (case g29k9 => first | exact BindsTo.of_eq rfl | exact binds_K (by k_in) rfl (by k_is) rfl rfl rfl); (case g29c5 => decide); (case g29kB => exact locs rfl); (case g29c2 => exact rfl); (case g29c3 => exact rfl); (case g29c4 => exact rfl); k_whole; intro L' h' F' N' B' X' T'; (try dsimp only); (try k_fold)))
      k_with "execs cons" => (((try dsimp only); (refine step_first (n := _) (by first | assumption | exact ⟨⟩) ?g29hX ?_); (case g29hX => first | assumption | exact Nat.zero_le _ | omega); intro tk htk Qc hQc; (try dsimp only)))
      k_with "forall" => (((try dsimp only); intro htk; (try dsimp only)))
      k_with "exec For Name Name cons nil" => ((k_here; (rename Fr _ _ _ _ => lF'); (with_unfolding_all refine' For_turns lF' ?_; k_whole)))
      k_with "exec For Name Call cons nil" => ((k_here; (rename Fr _ _ _ _ => lF'); (with_unfolding_all refine' For_turns lF' ?_; k_whole)))
      k_with "GPost" => ((dsimp only [GPost]))
      k_with "call builtin:list.append" => (k_extra "list.append")
      k_with "ktr_enter" => ((refine' p_cells (by assumption) (by assumption) (by assumption) (by assumption) ?g29kA ?g29kF ?g29kK ?g29k6 ?g29k7 ?g29k8 ?g29k9 ?g29kB ?g29kD ?_ ?g29c2 ?g29c3 ?g29c4; (case g29kA => exact rfl); (case g29kF => assumption); (case g29kK => assumption); (case g29k6 => k_is); (case g29k7 => k_is); (case g29k8 => ktr_room); (case g29k9 => first | exact BindsTo.of_eq rfl | exact binds_K (by k_in) rfl (by k_is) rfl rfl rfl); (case g29kB => exact rfl); (case g29kD => decide +kernel); (case g29c2 => exact rfl); (case g29c3 => exact rfl); (case g29c4 => exact rfl); k_whole; intro L' h' tk' cells' F' N' Y' B' X' T'; k_cells Y'; (try simp only [List.cons_append, List.nil_append] at N'); (try dsimp only); (try k_fold)))
      k_with "eval ListComp" => (((with_reducible show wpAny _ _ (eval (Expr.ListComp _ _ _ _) _) _ _ _); lcf_look; k_dflt ((refine LCg.ListComp_U (F₀ := by k_asm) (by with_unfolding_all rfl) (by decide) (by rfl) (by decide) (by rfl) ?_)); k_dflt ((lcg_toSrc))))
      k_with "exec For Name Attribute cons nil" => ((k_here; (rename Fr _ _ _ _ => lF'); (with_unfolding_all refine' For_turns lF' ?_; k_whole)))
      k_with "k_all" => (assumption)
      k_with "k_ne" => (first | (refine neN ?_; (try dsimp only); walk_at "ne_fast") | (refine neN ?_; (try dsimp only); omega) | ((rename News _ _ _ _ => lN'); refine' news_ne lN' (by k_dflt k_mem) (by k_dflt k_mem) ?g29nc; (case g29nc => simp [dictOf, instObj])))
      k_with "call builtin:len" => (k_extra "len")
      k_with "call type:range" => (k_extra "range")
      k_with "eval Name" => ((k_here; k_dflt (refine' name_u ?g29F ?g29v ?_ ?g29a ?g29b; (case g29F => k_asm); (case g29a => rfl); (case g29b => rfl); (case g29v => exact look_mk (Eq.refl _)); k_whole)))
      k_with "storeName" => ((k_here; k_dflt (refine' store_u ?g29F ?g29N ?_ ?g29a ?g29b; (case g29F => k_asm); (case g29N => k_asm); (case g29a => rfl); (case g29b => rfl); k_whole; intro h' m' F' N'; (try k_sweep))))
      k_with "my_steps" => (repeat' (first | ((with_reducible refine step_next (by assumption) (by assumption) (by first | assumption | exact ⟨⟩) ?_); intro tk htk Qc hQc; (try dsimp only)) | ((with_reducible refine step_last (by assumption) ?_); intro htk; (try dsimp only)) | ((with_reducible refine cut_end (by assumption) ?_); (try dsimp only [Then])) | (k_unfold; (try dsimp only)) | (w_end; wrow_close) | walk1 | (dsimp only; walk1) | (leave1; (try dsimp only)) | ((with_reducible refine strip2 ?_); k_unfold; (try dsimp only)) | fail "no step"))
      k_with "my_enter" => ((refine' code_def ?g29k1 ?g29k2 ?g29k3 ?g29k4 ?g29k5 ?g29kA ?g29kF ?g29kK ?g29k6 ?g29k7 ?g29k8 ?g29k9 ?g29kB ?_ ?g29c2 ?g29c3 ?g29c4 ?g29c5; (case g29kA => exact rfl); (case g29kF => first | exact rfl | assumption); (case g29kK => first | exact rfl | assumption); (case g29k1 => k_asm); (case g29k2 => k_asm); (case g29k3 => k_asm); (case g29k4 => k_asm); (case g29k5 => k_asm); (case g29k6 => k_is); (case g29k7 => k_is); (case g29k8 => ktr_room); (case g29k9 => first | exact BindsTo.of_eq rfl | exact binds_K (by k_in) rfl (by k_is) rfl rfl rfl); (case g29c5 => decide); (case g29kB => exact locs rfl); (case g29c2 => exact rfl); (case g29c3 => exact rfl); (case g29c4 => exact rfl); k_whole; intro g' L' h' FG' F' N' B' X' T'; (try dsimp only); (try k_lift B'); (try k_fold)))
      k_with "exec For Tuple Attribute cons nil" => ((k_here; (rename Fr _ _ _ _ => lF'); (with_unfolding_all refine' For_turns lF' ?_; k_whole)))
      k_with "call builtin:str.lower" => (k_extra "lower")
      k_with "my_cx" => (((with_unfolding_all refine' ⟨by assumption, by assumption, by assumption, by assumption, rfl, rfl, ?g29d1, ?g29d2⟩); (case g29d1 => ((with_unfolding_all show (_ : Nat) + 1 + 20 < recursionLimit); first | exact room2 (k := 40) (by assumption) (by decide) | exact room2 (k := 60) (by assumption) (by decide) | exact room2 (k := 100) (by assumption) (by decide) | exact room2 (k := 20) (by assumption) (by decide) | omega)); (case g29d2 => ((with_unfolding_all show (_ : Nat) + 3 + 200 < cLine); first | exact room2 (k := 400) (by assumption) (by decide) | exact room2 (k := 600) (by assumption) (by decide) | exact room2 (k := 1000) (by assumption) (by decide) | exact room2 (k := 200) (by assumption) (by decide) | omega))))
      k_with "my_more" => ((refine' kp_more ?g29k1 ?g29k2 ?g29k3 ?g29k4 ?g29k5 ?g29kA ?g29kF ?g29kK ?g29k6 ?g29k7 ?g29k8 ?g29kX ?g29kM ?g29kN ?g29kD ?g29kR ?g29kP ?g29kT ?g29kB ?_ ?g29c2 ?g29c3 ?g29c4 ?g29c5; (case g29kA => exact rfl); (case g29kF => first | exact rfl | assumption); (case g29kK => first | exact rfl | assumption); (case g29k1 => k_asm); (case g29k2 => k_asm); (case g29k3 => k_asm); (case g29k4 => k_asm); (case g29k5 => k_asm); (case g29k6 => k_is); (case g29k7 => k_is); (case g29k8 => ktr_room); (case g29kX => kp_lit); (case g29kM => exact rfl); (case g29kN => exact rfl); (case g29kD => kp_flats); (case g29kR => exact rfl); (case g29kP => exact rfl); (case g29kT => exact fun _ => rfl); (case g29kB => exact fun _ => locs rfl); (case g29c5 => decide); (case g29c2 => exact rfl); (case g29c3 => exact rfl); (case g29c4 => exact rfl); k_whole; intro D' o' g' L' h' tk' l1 lo' hs' fs' FG' F' N' B' X' T'; (try k_lt l1); (try dsimp only); (try k_lift B'); (try k_fold)))
      w_top off
      obtain ⟨B, F, X, T, hf, hke, hdp, hun⟩ := C
      revert X; k_fill; intro X
      have hm : TokLo 0 := ⟨⟩
      k_with "call ref" => ((rename Fr _ _ _ _ => lF'); (rename News _ _ _ _ => lN'); (with_reducible refine toks_in ?_); refine wpAny_call ?_; first
        | ((with_unfolding_all refine' c_convN ?g29C hN2 (fun h2 tk2 k2 => ?_)); (case g29C => walk_at "my_cx"); (have lN3 := news_kept lN' k2); (have lF3 := fr_kept lF' k2); (clear lF' lN'); (intro htk2); (try k_fold))
        | ((with_unfolding_all refine' c_convV ?g29C hV (fun h2 tk2 k2 => ?_)); (case g29C => walk_at "my_cx"); (have lN3 := news_kept lN' k2); (have lF3 := fr_kept lF' k2); (clear lF' lN'); (intro htk2); (try k_fold)))
      k_with "list.append" => ((rename Fr _ _ _ _ => lF'); (rename News _ _ _ _ => lN'); (rw [hj] at lN'); (with_unfolding_all refine' tab_add (ts := ts) (rest := rest) lF' (news_sub lN' ?g29sub) hrest hlen (fun h2 n2 F2 N2 => ?_)); (case g29sub => exact fun p hp => (List.mem_cons.mp hp).elim (fun e => e ▸ .head _) fun hp => .tail _ (.tail _ (.tail _ (.tail _ hp)))); (clear lF' lN'); (try k_fold))
      walk_at "my_more"
      walk_at "my_steps"
      all_goals (rename Fr _ _ _ _ => lF'; rename News _ _ _ _ => lN')
      exact ret _ _ _ _ _ lF' lN'
set_option maxHeartbeats 0 in
theorem c_orders : ∀ {w : World} {mean : ExcName → Option Value} {mg mb : Str → Option Value} {dp un : Nat} {gd : Option (List Code)} {env : Env} {outer : List Env} {A₀ : Around} {base h₀ : Heap} {L : Addr} {m : Str → Option Value} {s : Shared} {Q E : Value → Shared → Prop} (C : Cx0 hd.heap_1_1 hd.view_1_2 w mean mg mb dp un env outer A₀ base h₀ L m s) (hdp2 : dp + 60 < recursionLimit) (hun2 : un + 600 < cLine) (ret : ∀ D rs L' h' tk', Kept s.heap h' → News s.heap L' h' ((D, listOf (rs.map fun r => Value.ref r.a).toArray 0) :: ordObjs rs) → OrdsAre rs ORD → Q (.ref D) { s with heap := h', toks := tk' }),
      wpAny (model PySem.Challenge.rw_tc0079_01.row.prog w) (kTop dp un gd env outer) (call (.ref 311) []) Q E s := by
      intro w mean mg mb dp un gd env outer A₀ base h₀ L m s Q E C hdp2 hun2 ret
      k_with_none
      k_with "ktr_enter" => ((refine' p_plain (by assumption) (by assumption) (by assumption) (by assumption) ?g30kA ?g30kF ?g30kK ?g30k6 ?g30k7 ?g30k8 ?g30k9 ?g30kB ?_ ?g30c2 ?g30c3 ?g30c4 ?g30c5; (case g30kA => exact rfl); (case g30kF => assumption); (case g30kK => assumption); (case g30k6 => k_is); (case g30k7 => k_is); (case g30k8 => ktr_room); (case g30k9 => first | exact BindsTo.of_eq rfl | exact binds_K (by k_in) rfl (by k_is) rfl rfl rfl); (case g30c5 => decide); (case g30kB => exact locs rfl); (case g30c2 => exact rfl); (case g30c3 => exact rfl); (case g30c4 => exact rfl); k_whole; intro L' h' F' N' B' X' T'; (try dsimp only); (try k_fold)))
      k_with "execs cons" => (((try dsimp only); (refine step_first (n := _) (by first | assumption | exact ⟨⟩) ?g30hX ?_); (case g30hX => first | assumption | exact Nat.zero_le _ | omega); intro tk htk Qc hQc; (try dsimp only)))
      k_with "forall" => (((try dsimp only); intro htk; (try dsimp only)))
      k_with "exec For Name Name cons nil" => ((k_here; (rename Fr _ _ _ _ => lF'); (with_unfolding_all refine' For_turns lF' ?_; k_whole)))
      k_with "exec For Name Call cons nil" => ((k_here; (rename Fr _ _ _ _ => lF'); (with_unfolding_all refine' For_turns lF' ?_; k_whole)))
      k_with "GPost" => ((dsimp only [GPost]))
      k_with "call builtin:list.append" => (k_extra "list.append")
      k_with "ktr_enter" => ((refine' p_cells (by assumption) (by assumption) (by assumption) (by assumption) ?g30kA ?g30kF ?g30kK ?g30k6 ?g30k7 ?g30k8 ?g30k9 ?g30kB ?g30kD ?_ ?g30c2 ?g30c3 ?g30c4; (case g30kA => exact rfl); (case g30kF => assumption); (case g30kK => assumption); (case g30k6 => k_is); (case g30k7 => k_is); (case g30k8 => ktr_room); (case g30k9 => first | exact BindsTo.of_eq rfl | exact binds_K (by k_in) rfl (by k_is) rfl rfl rfl); (case g30kB => exact rfl); (case g30kD => decide +kernel); (case g30c2 => exact rfl); (case g30c3 => exact rfl); (case g30c4 => exact rfl); k_whole; intro L' h' tk' cells' F' N' Y' B' X' T'; k_cells Y'; (try simp only [List.cons_append, List.nil_append] at N'); (try dsimp only); (try k_fold)))
      k_with "eval ListComp" => (((with_reducible show wpAny _ _ (eval (Expr.ListComp _ _ _ _) _) _ _ _); lcf_look; k_dflt ((refine LCg.ListComp_U (F₀ := by k_asm) (by with_unfolding_all rfl) (by decide) (by rfl) (by decide) (by rfl) ?_)); k_dflt ((lcg_toSrc))))
      k_with "exec For Name Attribute cons nil" => ((k_here; (rename Fr _ _ _ _ => lF'); (with_unfolding_all refine' For_turns lF' ?_; k_whole)))
      k_with "k_all" => (assumption)
      k_with "k_ne" => (first | (refine neN ?_; (try dsimp only); walk_at "ne_fast") | (refine neN ?_; (try dsimp only); omega) | ((rename News _ _ _ _ => lN'); refine' news_ne lN' (by k_dflt k_mem) (by k_dflt k_mem) ?g30nc; (case g30nc => simp [dictOf, instObj])))
      k_with "call builtin:len" => (k_extra "len")
      k_with "call type:range" => (k_extra "range")
      k_with "eval Name" => ((k_here; k_dflt (refine' name_u ?g30F ?g30v ?_ ?g30a ?g30b; (case g30F => k_asm); (case g30a => rfl); (case g30b => rfl); (case g30v => exact look_mk (Eq.refl _)); k_whole)))
      k_with "storeName" => ((k_here; k_dflt (refine' store_u ?g30F ?g30N ?_ ?g30a ?g30b; (case g30F => k_asm); (case g30N => k_asm); (case g30a => rfl); (case g30b => rfl); k_whole; intro h' m' F' N'; (try k_sweep))))
      k_with "my_steps" => (repeat' (first | ((with_reducible refine step_next (by assumption) (by assumption) (by first | assumption | exact ⟨⟩) ?_); intro tk htk Qc hQc; (try dsimp only)) | ((with_reducible refine step_last (by assumption) ?_); intro htk; (try dsimp only)) | ((with_reducible refine cut_end (by assumption) ?_); (try dsimp only [Then])) | (k_unfold; (try dsimp only)) | (w_end; wrow_close) | walk1 | (dsimp only; walk1) | (leave1; (try dsimp only)) | ((with_reducible refine strip2 ?_); k_unfold; (try dsimp only)) | fail "no step"))
      k_with "my_enter" => ((refine' code_def ?g30k1 ?g30k2 ?g30k3 ?g30k4 ?g30k5 ?g30kA ?g30kF ?g30kK ?g30k6 ?g30k7 ?g30k8 ?g30k9 ?g30kB ?_ ?g30c2 ?g30c3 ?g30c4 ?g30c5; (case g30kA => exact rfl); (case g30kF => first | exact rfl | assumption); (case g30kK => first | exact rfl | assumption); (case g30k1 => k_asm); (case g30k2 => k_asm); (case g30k3 => k_asm); (case g30k4 => k_asm); (case g30k5 => k_asm); (case g30k6 => k_is); (case g30k7 => k_is); (case g30k8 => ktr_room); (case g30k9 => first | exact BindsTo.of_eq rfl | exact binds_K (by k_in) rfl (by k_is) rfl rfl rfl); (case g30c5 => decide); (case g30kB => exact locs rfl); (case g30c2 => exact rfl); (case g30c3 => exact rfl); (case g30c4 => exact rfl); k_whole; intro g' L' h' FG' F' N' B' X' T'; (try dsimp only); (try k_lift B'); (try k_fold)))
      k_with "exec For Tuple Attribute cons nil" => ((k_here; (rename Fr _ _ _ _ => lF'); (with_unfolding_all refine' For_turns lF' ?_; k_whole)))
      k_with "call builtin:str.lower" => (k_extra "lower")
      w_top off
      obtain ⟨B, F, X, T, hf, hke, hdp, hun⟩ := C
      revert X; k_fill; intro X
      have hm : TokLo 0 := ⟨⟩
      refine wpAny_call ?_
      refine' p_plain (by assumption) (by assumption) (by assumption) (by assumption) ?g30kA ?g30kF ?g30kK ?g30k6 ?g30k7 ?g30k8 ?g30k9 ?g30kB ?_ ?g30c2 ?g30c3 ?g30c4 ?g30c5
      case g30kA => exact rfl
      case g30kF => assumption
      case g30kK => assumption
      case g30k6 => k_is
      case g30k7 => k_is
      case g30k8 => ktr_room
      case g30k9 => exact BindsTo.of_eq rfl
      case g30c5 => decide
      case g30kB => exact locs rfl
      case g30c2 => exact rfl
      case g30c3 => exact rfl
      case g30c4 => exact rfl
      k_whole
      intro L' h' F' N' B' X' T'
      try dsimp only
      try k_fold
      walk_at "my_steps"
      rename Fr _ _ _ _ => lF'; rename News _ _ _ _ => lN'
      exact ret _ _ _ _ _ (Fr.keep lF') (ords_pack lN') (ords_are four_ints four_ints four_ints four_ints four_ints four_ints four_ints four_ints four_ints four_ints four_ints four_ints)
set_option maxHeartbeats 0 in
theorem s_setd : ∀ {w : World} {mean : ExcName → Option Value} {mg mb : Str → Option Value} {dp un : Nat} {gd : Option (List Code)} {env : Env} {outer : List Env} {A₀ : Around} {base h₀ : Heap} {L : Addr} {m : Str → Option Value} {s : Shared} (C : Cx0 hd.heap_1_1 hd.view_1_2 w mean mg mb dp un env outer A₀ base h₀ L m s) {R : Result → Shared → Prop} {x y : Str} {t u : Nat} {I d H O Ll Pd : Addr} {t1 : Tok} {ovs : List Value} {no : Nat} {c : PSt} {tail : List (Addr × Obj)} (hdp2 : dp + 60 < recursionLimit) (hun2 : un + 600 < cLine) (N : News h₀ L s.heap (shp w.params I d H t1 O ovs no Ll Pd c tail)) (hA : Ap H Ll Pd ((O, listOf ovs.toArray no) :: tail)) (hx : x.length ≤ 100) (hN : okN (Txt.lower x) = true) (hN2 : okN x = true) (hV : okV y = true) (hk : ∀ r ∈ c.ts, r.k.length ≤ 100) (hlen : c.ts.length ≤ 100) (ret1 : ∀ r h' tk', c.ts.find? (fun r => Txt.lower r.k == Txt.lower x) = some r → Fr h₀ L h' m → News h₀ L h' (shp w.params I d H t1 O ovs no Ll Pd c tail) → R (.ok (.ret (.str r.v r.tv))) { s with heap := h', toks := tk' }) (ret2 : ∀ a n' h' tk', c.ts.find? (fun r => Txt.lower r.k == Txt.lower x) = none → Fr h₀ L h' m → News h₀ L h' (shp w.params I d H t1 O ovs no Ll Pd { c with ts := c.ts ++ [⟨a, x, t, y, u⟩], n := n' } tail) → R (.ok (.ret (.str y u))) { s with heap := h', toks := tk' }),
      codeAny (model PySem.Challenge.rw_tc0079_01.row.prog w) (kTop dp un gd env outer) (.call (.ref 174) ⟨[.ref I, .str x t, .str y u], []⟩) R s := by
      intro w mean mg mb dp un gd env outer A₀ base h₀ L m s C R x y t u I d H O Ll Pd t1 ovs no c tail hdp2 hun2 N hA hx hN hN2 hV hk hlen ret1 ret2
      exact (c_setd C hdp2 hun2 (news_sub N shp_rst) hx hN hN2 hV hk (rst_ne N hA) hlen (fun r h' tk' hf F' N' => ret1 r h' tk' hf F' (news_sub N' tab_shp)) (fun a n' h' tk' hf F' N' => ret2 a n' h' tk' hf F' (news_sub N' tab_shp)))
set_option maxHeartbeats 0 in
theorem s_addh : ∀ {w : World} {mean : ExcName → Option Value} {mg mb : Str → Option Value} {dp un : Nat} {gd : Option (List Code)} {env : Env} {outer : List Env} {A₀ : Around} {base h₀ : Heap} {L : Addr} {m : Str → Option Value} {s : Shared} (C : Cx0 hd.heap_1_1 hd.view_1_2 w mean mg mb dp un env outer A₀ base h₀ L m s) {R : Result → Shared → Prop} {x y : Str} {t u : Nat} {I d H O Ll Pd : Addr} {t1 : Tok} {ovs : List Value} {no : Nat} {c : PSt} {tail : List (Addr × Obj)} (hdp2 : dp + 60 < recursionLimit) (hun2 : un + 600 < cLine) (N : News h₀ L s.heap (shp w.params I d H t1 O ovs no Ll Pd c tail)) (hA : Ap H Ll Pd ((O, listOf ovs.toArray no) :: tail)) (hN2 : okN x = true) (hV : okV y = true) (hlen : c.ts.length ≤ 100) (hy : y.length ≤ 100) (hj : Txt.join (Str.ofString "; ") [y] = y) (ret : ∀ a n' h' tk' ty, Fr h₀ L h' m → News h₀ L h' (shp w.params I d H t1 O ovs no Ll Pd { c with ts := c.ts ++ [⟨a, x, t, y, ty⟩], n := n' } tail) → R (.ok (.ret .none)) { s with heap := h', toks := tk' }),
      codeAny (model PySem.Challenge.rw_tc0079_01.row.prog w) (kTop dp un gd env outer) (.call (.ref 181) ⟨[.ref I, .str x t, .str y u], []⟩) R s := by
      intro w mean mg mb dp un gd env outer A₀ base h₀ L m s C R x y t u I d H O Ll Pd t1 ovs no c tail hdp2 hun2 N hA hN2 hV hlen hy hj ret
      exact (c_addh C hdp2 hun2 (news_sub N shp_rst) hN2 hV (rst_ne N hA) hlen hy hj (fun a n' h' tk' ty F' N' => ret a n' h' tk' ty F' (news_sub N' tab_shp)))
set_option maxHeartbeats 0 in
theorem s_again : ∀ {w : World} {mean : ExcName → Option Value} {mg mb : Str → Option Value} {dp un : Nat} {gd : Option (List Code)} {env : Env} {outer : List Env} {A₀ : Around} {base h₀ : Heap} {L : Addr} {m : Str → Option Value} {s : Shared} (C : Cx0 hd.heap_1_1 hd.view_1_2 w mean mg mb dp un env outer A₀ base h₀ L m s) {R : Result → Shared → Prop} {x y : Str} {t u : Nat} {I d H O Ll Pd : Addr} {t1 : Tok} {ovs : List Value} {no : Nat} {c : PSt} {tail : List (Addr × Obj)} (hf : ∃ r, c.ts.find? (fun r => Txt.lower r.k == Txt.lower x) = some r ∧ r.v = y) (hdp2 : dp + 60 < recursionLimit) (hun2 : un + 600 < cLine) (N : News h₀ L s.heap (shp w.params I d H t1 O ovs no Ll Pd c tail)) (hA : Ap H Ll Pd ((O, listOf ovs.toArray no) :: tail)) (hx : x.length ≤ 100) (hN : okN (Txt.lower x) = true) (hN2 : okN x = true) (hV : okV y = true) (hk : ∀ r ∈ c.ts, r.k.length ≤ 100) (hlen : c.ts.length ≤ 100) (ret : ∀ tv h' tk', Fr h₀ L h' m → News h₀ L h' (shp w.params I d H t1 O ovs no Ll Pd c tail) → R (.ok (.ret (.str y tv))) { s with heap := h', toks := tk' }),
      codeAny (model PySem.Challenge.rw_tc0079_01.row.prog w) (kTop dp un gd env outer) (.call (.ref 174) ⟨[.ref I, .str x t, .str y u], []⟩) R s := by
      intro w mean mg mb dp un gd env outer A₀ base h₀ L m s C R x y t u I d H O Ll Pd t1 ovs no c tail hf hdp2 hun2 N hA hx hN hN2 hV hk hlen ret
      obtain ⟨r, hr, rfl⟩ := hf
      refine s_setd C hdp2 hun2 N hA hx hN hN2 hV hk hlen (fun r' h' tk' hf' F' N' => ?_) (fun a n' h' tk' hf' F' N' => ?_)
      · rw [hr] at hf'; injection hf' with hf'; subst hf'
        exact ret _ _ _ F' N'
      · rw [hr] at hf'; cases hf'
set_option maxHeartbeats 0 in
theorem c_paid : ∀ {w : World} {mean : ExcName → Option Value} {mg mb : Str → Option Value} {dp un : Nat} {gd : Option (List Code)} {env : Env} {outer : List Env} {A₀ : Around} {base h₀ : Heap} {L : Addr} {m : Str → Option Value} {s : Shared} {Q E : Value → Shared → Prop} (C : Cx hd.heap_1_1 hd.view_1_2 w mean mg mb dp un env outer A₀ base h₀ L m s) {D : PD} {Ln Lp Lw : Addr} {rn rp wv : List Value} {many : Int} {tm : Nat} (HD : PData s.heap D Ln Lp Lw rn rp wv) (HG : Good D many) (hdp2 : dp + 100 < recursionLimit) (hun2 : un + 1000 < cLine) (ret : ∀ X ws n h' tk', IntsAre ws (ORD.foldl (orderF D) [0, 0, 0, 0]) → Kept s.heap h' → s.heap.get? X = none → h'.get? X = some (listOf ws.toArray n) → Q (.ref X) { s with heap := h', toks := tk' }),
      wpAny (model PySem.Challenge.rw_tc0079_01.row.prog w) (kTop dp un gd env outer) (call (.ref 335) [.ref Ln, .ref Lp, .ref Lw, .int many tm]) Q E s := by
      intro w mean mg mb dp un gd env outer A₀ base h₀ L m s Q E C D Ln Lp Lw rn rp wv many tm HD HG hdp2 hun2 ret
      k_with_none
      k_with "ktr_enter" => ((refine' p_plain (by assumption) (by assumption) (by assumption) (by assumption) ?g34kA ?g34kF ?g34kK ?g34k6 ?g34k7 ?g34k8 ?g34k9 ?g34kB ?_ ?g34c2 ?g34c3 ?g34c4 ?g34c5; (case g34kA => exact rfl); (case g34kF => assumption); (case g34kK => assumption); (case g34k6 => k_is); (case g34k7 => k_is); (case g34k8 => ktr_room); (case g34k9 => first | exact BindsTo.of_eq rfl | exact binds_K (by k_in) rfl (by k_is) rfl rfl rfl); (case g34c5 => decide); (case g34kB => exact locs rfl); (case g34c2 => exact rfl); (case g34c3 => exact rfl); (case g34c4 => exact rfl); k_whole; intro L' h' F' N' B' X' T'; (try dsimp only); (try k_fold)))
      k_with "execs cons" => (((try dsimp only); (refine step_first (n := _) (by first | assumption | exact ⟨⟩) ?g34hX ?_); (case g34hX => first | assumption | exact Nat.zero_le _ | omega); intro tk htk Qc hQc; (try dsimp only)))
      k_with "forall" => (((try dsimp only); intro htk; (try dsimp only)))
      k_with "exec For Name Name cons nil" => ((k_here; (rename Fr _ _ _ _ => lF'); (with_unfolding_all refine' For_turns lF' ?_; k_whole)))
      k_with "exec For Name Call cons nil" => ((k_here; (rename Fr _ _ _ _ => lF'); (with_unfolding_all refine' For_turns lF' ?_; k_whole)))
      k_with "GPost" => ((dsimp only [GPost]))
      k_with "call builtin:list.append" => (k_extra "list.append")
      k_with "ktr_enter" => ((refine' p_cells (by assumption) (by assumption) (by assumption) (by assumption) ?g34kA ?g34kF ?g34kK ?g34k6 ?g34k7 ?g34k8 ?g34k9 ?g34kB ?g34kD ?_ ?g34c2 ?g34c3 ?g34c4; (case g34kA => exact rfl); (case g34kF => assumption); (case g34kK => assumption); (case g34k6 => k_is); (case g34k7 => k_is); (case g34k8 => ktr_room); (case g34k9 => first | exact BindsTo.of_eq rfl | exact binds_K (by k_in) rfl (by k_is) rfl rfl rfl); (case g34kB => exact rfl); (case g34kD => decide +kernel); (case g34c2 => exact rfl); (case g34c3 => exact rfl); (case g34c4 => exact rfl); k_whole; intro L' h' tk' cells' F' N' Y' B' X' T'; k_cells Y'; (try simp only [List.cons_append, List.nil_append] at N'); (try dsimp only); (try k_fold)))
      k_with "eval ListComp" => (((with_reducible show wpAny _ _ (eval (Expr.ListComp _ _ _ _) _) _ _ _); lcf_look; k_dflt ((refine LCg.ListComp_U (F₀ := by k_asm) (by with_unfolding_all rfl) (by decide) (by rfl) (by decide) (by rfl) ?_)); k_dflt ((lcg_toSrc))))
      k_with "exec For Name Attribute cons nil" => ((k_here; (rename Fr _ _ _ _ => lF'); (with_unfolding_all refine' For_turns lF' ?_; k_whole)))
      k_with "k_all" => (assumption)
      k_with "k_ne" => (first | (refine neN ?_; (try dsimp only); walk_at "ne_fast") | (refine neN ?_; (try dsimp only); omega) | ((rename News _ _ _ _ => lN'); refine' news_ne lN' (by k_dflt k_mem) (by k_dflt k_mem) ?g34nc; (case g34nc => simp [dictOf, instObj])))
      k_with "call builtin:len" => (k_extra "len")
      k_with "call type:range" => (k_extra "range")
      k_with "eval Name" => ((k_here; k_dflt (refine' name_u ?g34F ?g34v ?_ ?g34a ?g34b; (case g34F => k_asm); (case g34a => rfl); (case g34b => rfl); (case g34v => exact look_mk (Eq.refl _)); k_whole)))
      k_with "storeName" => ((k_here; k_dflt (refine' store_u ?g34F ?g34N ?_ ?g34a ?g34b; (case g34F => k_asm); (case g34N => k_asm); (case g34a => rfl); (case g34b => rfl); k_whole; intro h' m' F' N'; (try k_sweep))))
      k_with "my_steps" => (repeat' (first | ((with_reducible refine step_next (by assumption) (by assumption) (by first | assumption | exact ⟨⟩) ?_); intro tk htk Qc hQc; (try dsimp only)) | ((with_reducible refine step_last (by assumption) ?_); intro htk; (try dsimp only)) | ((with_reducible refine cut_end (by assumption) ?_); (try dsimp only [Then])) | (k_unfold; (try dsimp only)) | (w_end; wrow_close) | walk1 | (dsimp only; walk1) | (leave1; (try dsimp only)) | ((with_reducible refine strip2 ?_); k_unfold; (try dsimp only)) | fail "no step"))
      k_with "my_enter" => ((refine' code_def ?g34k1 ?g34k2 ?g34k3 ?g34k4 ?g34k5 ?g34kA ?g34kF ?g34kK ?g34k6 ?g34k7 ?g34k8 ?g34k9 ?g34kB ?_ ?g34c2 ?g34c3 ?g34c4 ?g34c5; (case g34kA => exact rfl); (case g34kF => first | exact rfl | assumption); (case g34kK => first | exact rfl | assumption); (case g34k1 => k_asm); (case g34k2 => k_asm); (case g34k3 => k_asm); (case g34k4 => k_asm); (case g34k5 => k_asm); (case g34k6 => k_is); (case g34k7 => k_is); (case g34k8 => ktr_room); (case g34k9 => first | exact BindsTo.of_eq rfl | exact binds_K (by k_in) rfl (by k_is) rfl rfl rfl); (case g34c5 => decide); (case g34kB => exact locs rfl); (case g34c2 => exact rfl); (case g34c3 => exact rfl); (case g34c4 => exact rfl); k_whole; intro g' L' h' FG' F' N' B' X' T'; (try dsimp only); (try k_lift B'); (try k_fold)))
      k_with "exec For Tuple Attribute cons nil" => ((k_here; (rename Fr _ _ _ _ => lF'); (with_unfolding_all refine' For_turns lF' ?_; k_whole)))
      k_with "call builtin:str.lower" => (k_extra "lower")
      k_with "my_cx" => (((with_unfolding_all refine' ⟨by assumption, by assumption, by assumption, by assumption, rfl, rfl, ?g34d1, ?g34d2⟩); (case g34d1 => ((with_unfolding_all show (_ : Nat) + 1 + 20 < recursionLimit); first | exact room2 (k := 40) (by assumption) (by decide) | exact room2 (k := 60) (by assumption) (by decide) | exact room2 (k := 100) (by assumption) (by decide) | exact room2 (k := 20) (by assumption) (by decide) | omega)); (case g34d2 => ((with_unfolding_all show (_ : Nat) + 3 + 200 < cLine); first | exact room2 (k := 400) (by assumption) (by decide) | exact room2 (k := 600) (by assumption) (by decide) | exact room2 (k := 1000) (by assumption) (by decide) | exact room2 (k := 200) (by assumption) (by decide) | omega))))
      k_with "subscriptTail" => (k_extra "item")
      k_with "subscriptTail Name Name ref int" => (k_extra "item")
      k_with "subscriptTail Subscript Name ref int" => (k_extra "item")
      k_with "subscriptTail Name Constant ref int" => (k_extra "item")
      k_with "subscriptTail Subscript Constant ref int" => (k_extra "item")
      k_with "subscriptTail Name Subscript ref int" => (k_extra "item")
      k_with "binaryOp Add ref ref" => (k_extra "Add")
      k_with "compareOp NotEq ref ref" => (k_extra "NotEq")
      k_with "setItem ref int" => (k_extra "setItem")
      w_top off
      obtain ⟨B, F, X, T, hf, hke, hdp, hun, htk⟩ := C
      revert X; k_fill; intro X
      have hm : TokLo 0 := ⟨⟩
      obtain ⟨HDn, HDp, HDw, HDr⟩ := id HD
      k_with "call ref" => ((rename Fr _ _ _ _ => lF'); (rename News _ _ _ _ => lN'); first
        | ((with_unfolding_all refine' c_orders ?g34C ?g34e1 ?g34e2 (fun D2 rs2 L2 h2 tk2 k2 N2 hO2 => ?_)); (case g34e1 => ((with_unfolding_all show dp + 1 + 60 < recursionLimit); omega)); (case g34e2 => ((with_unfolding_all show un + 3 + 600 < cLine); omega)); (case g34C => walk_at "my_cx"); (have hF2 := fresh_ne lN' N2); (have lN3 := news_join lF' lN' k2 N2); (have lF3 := fr_kept lF' k2); (clear lF' lN' N2); (try k_fold))
        | ((with_unfolding_all refine' c_hdr ?g34C ?g34e1 ?g34e2 (fun I2 d2 H2 t2 n2 L2 h2 tk2 k2 N2 => ?_)); (case g34e1 => ((with_unfolding_all show dp + 1 + 60 < recursionLimit); omega)); (case g34e2 => ((with_unfolding_all show un + 3 + 600 < cLine); omega)); (case g34C => walk_at "my_cx"); (have hH2 : FreshNe _ _ := fresh_ne lN' N2); (have lN3 := news_join lF' lN' k2 N2); (have lF3 := fr_kept lF' k2); (clear lF' lN' N2); (try k_fold))
        | (refine wpAny_call ?_; (rename Ap _ _ _ _ => lA'); (with_unfolding_all refine' s_addh ?g34C ?g34e1 ?g34e2 lN' lA' ?g34x1 ?g34x2 ?g34x3 ?g34x4 ?g34x5 (fun a4 n4 h4 tk4 te4 F4 N4 => ?_)); (case g34e1 => ((with_unfolding_all show dp + 1 + 60 < recursionLimit); omega)); (case g34e2 => ((with_unfolding_all show un + 3 + 600 < cLine); omega)); (case g34C => walk_at "my_cx"); (case g34x1 => assumption); (case g34x2 => decide +kernel); (case g34x3 => ((try dsimp only); (try simp only [List.length_append, List.length_cons, List.length_nil]); omega)); (case g34x4 => decide +kernel); (case g34x5 => decide +kernel); (clear lF' lN'); (all_goals (try k_fold)))
        | (refine wpAny_call ?_; (rename Ap _ _ _ _ => lA'); (with_unfolding_all refine' s_again ?g34C ?g34hf ?g34e1 ?g34e2 lN' lA' ?g34x1 ?g34x2 ?g34x3 ?g34x4 ?g34x5 ?g34x6 (fun tv4 h4 tk4 F4 N4 => ?_)); (case g34hf => exact again_find HG (by assumption) (by assumption) (by assumption) (by assumption)); (case g34e1 => ((with_unfolding_all show dp + 1 + 60 < recursionLimit); omega)); (case g34e2 => ((with_unfolding_all show un + 3 + 600 < cLine); omega)); (case g34C => walk_at "my_cx"); (case g34x1 => assumption); (case g34x2 => assumption); (case g34x3 => assumption); (case g34x4 => assumption); (case g34x5 => exact hk_snoc (by assumption) (by assumption)); (case g34x6 => ((try dsimp only); (try simp only [List.length_append, List.length_cons, List.length_nil]); omega)); (clear lF' lN'); (all_goals (try k_fold)))
        | (refine wpAny_call ?_; (with_unfolding_all refine' c_hint ?g34C ?g34e1 ?g34e2 (news_sub lN' shp_tab) ?g34x6 (fun t4 h4 tk4 k4 => ?_)); (case g34e1 => ((with_unfolding_all show dp + 1 + 60 < recursionLimit); omega)); (case g34e2 => ((with_unfolding_all show un + 3 + 600 < cLine); omega)); (case g34C => walk_at "my_cx"); (case g34x6 => ((try dsimp only); (try simp only [List.length_append, List.length_cons, List.length_nil]); omega)); (have lN3 := news_kept lN' k4); (have lF3 := fr_kept lF' k4); (clear lF' lN'); (rw [show (((_ ++ [_] : List Row)).length : Int) = many + 1 from by (rw [List.length_append]; simp only [List.length_cons, List.length_nil]; omega)]); (try k_fold))
        | (refine wpAny_call ?_; (with_unfolding_all refine' c_items ?g34C ?g34e1 ?g34e2 (news_sub lN' shp_tab) ?g34x6 (fun D4 n4 h4 tk4 k4 hn4 ho4 => ?_)); (case g34e1 => ((with_unfolding_all show dp + 1 + 60 < recursionLimit); omega)); (case g34e2 => ((with_unfolding_all show un + 3 + 600 < cLine); omega)); (case g34C => walk_at "my_cx"); (case g34x6 => ((try dsimp only); (try simp only [List.length_append, List.length_cons, List.length_nil]); omega)); (have lN3 := news_one lF' lN' k4 hn4 ho4); (have lF3 := fr_kept lF' k4); (clear lF' lN'); (try k_fold))
        | (refine wpAny_call ?_; (rename Ap _ _ _ _ => lA'); (with_unfolding_all refine' s_setd ?g34C ?g34e1 ?g34e2 lN' lA' ?g34x1 ?g34x2 ?g34x3 ?g34x4 ?g34x5 ?g34x6 (fun r4 h4 tk4 hf4 F4 N4 => ?_) (fun a4 n4 h4 tk4 hf4 F4 N4 => ?_)); (case g34e1 => ((with_unfolding_all show dp + 1 + 60 < recursionLimit); omega)); (case g34e2 => ((with_unfolding_all show un + 3 + 600 < cLine); omega)); (case g34C => walk_at "my_cx"); (case g34x1 => assumption); (case g34x2 => assumption); (case g34x3 => assumption); (case g34x4 => assumption); (case g34x5 => assumption); (case g34x6 => omega); (clear lF' lN'); (all_goals (try k_fold)))
        | (refine wpAny_call ?_; walk_at "my_enter"))
      k_with "len" => ((rename Fr _ _ _ _ => lF'); (refine call_len_list (list_keep (by assumption) lF') ?g34hf ?_); (case g34hf => ((rw [List.size_toArray]); omega)); (rw [List.size_toArray]); (rename (List.length _ = List.length _) => lE'); (rw [lE']))
      k_with "range" => ((rename Fr _ _ _ _ => lF'); (rename News _ _ _ _ => lN'); (with_unfolding_all refine' range1_rows lF' lN' (fun h' tk' t1' t2' t3' R' F' N' K' => ?_)); (try clear lF' lN'); (try dsimp only))
      k_with "item" => ((rename Fr _ _ _ _ => lF'); (rename News _ _ _ _ => lN'); first
        | ((refine' item_listR ?g34hl ?g34h0 ?g34hf ?g34hx ?_); (case g34hl => exact list_keep (by assumption) lF'); (case g34h0 => omega); (case g34hf => omega); (case g34hx => assumption))
        | ((refine item_list_intsR (News.isList lN' (by k_mem)) ?g34hi ?g34h0 ?g34h1 ?g34hf (fun tp => ?_)); (case g34hi => assumption); (case g34h0 => omega); (case g34h1 => omega); (case g34hf => omega)))
      k_with "list.append" => ((rename Fr _ _ _ _ => lF'); (rename News _ _ _ _ => lN'); (rename Ap _ _ _ _ => lA'); (with_unfolding_all refine' laid_add lF' lN' lA' ?g34hz (fun h5 n5 F5 N5 => ?_)); (case g34hz => ((try dsimp only); omega)); (clear lF' lN'); (try k_fold))
      k_with "setItem" => ((rename Fr _ _ _ _ => lF'); (rename News _ _ _ _ => lN'); (rename Ap _ _ _ _ => lA'); (with_unfolding_all refine' pay_set lF' lN' lA' ?g34hi ?g34h0 ?g34h1 ?g34hl (fun h5 F5 N5 => ?_)); (case g34hi => assumption); (case g34h0 => omega); (case g34h1 => (dsimp only; omega)); (case g34hl => (dsimp only; omega)); (clear lF' lN'); (try k_fold))
      k_with "pyIter ref" => ((rename Fr _ _ _ _ => lF'); (rename News _ _ _ _ => lN'); first
        | ((rename OrdsAre _ _ => lO'); (have lN5 := news_last lN'); (with_unfolding_all refine' loop_po [Str.ofString "order", Str.ofString "table", Str.ofString "laid", Str.ofString "k", Str.ofString "j", Str.ofString "first", Str.ofString "given", Str.ofString "again"] (poP D) ⟨[], 0, [], 0, _, _, [0, 0, 0, 0]⟩ rfl lO' lF' lN5 ?g34hA ?g34hP (fun i1 r1 o1 c1 u1 h1 tk1 own1 hi1 ho1 hI1 hp1 ha1 F1 N1 => ?_) (fun c1 u1 h1 tk1 hp1 F1 N1 => ?_)); (case g34hA => exact hF2 _ (List.Mem.head _)); (case g34hP => exact po_start four_ints); (clear lF' lN' lN5); (all_goals (try (have ho4 := (ord_range ho1).1))); (all_goals (try k_fold)))
        | ((rename IntsAre (ORow.vs _) _ => lI'); (rename POut _ _ _ => lP'); (rename FreshNe _ _ => lH'); (rename OffOf _ _ => lA'); (have lAp := ap_start lH' lA' (by assumption)); (with_unfolding_all refine' loop_mid (D := D) [Str.ofString "k", Str.ofString "j"] (ord_range ?g34ho).2 rfl lI' lF' (shp_start lN') lAp (mid_start lP') (fun i2 k2 t2 c2 u2 h2 tk2 own2 hl2 hk2 hk0 hk4 hp2 hA2 F2 N2 => ?_) (fun c2 u2 h2 tk2 hp2 F2 N2 => ?_)); (case g34ho => assumption); (clear lF' lN'); (all_goals (have g1 := hp2.hi; have g2 := hp2.hl; have g3 := hp2.ht; have g4 := hp2.hls; have g5 := hp2.hk)); (all_goals (first | (have hrow := row_at HD hk0 hk4; obtain ⟨xr, xvs, xys, xr', xpv, xps, xwd, xwt, q1, q2, q3, q4, q5, q6, q7, q8, q9, q10, q11, q12, q13, q14, q15, q16, q17⟩ := hrow) | (have hr0 := o0_range (by assumption : ORD[_]? = some _); have hrow := row_at HD hr0.1 hr0.2; obtain ⟨xr, xvs, xys, xr', xpv, xps, xwd, xwt, q1, q2, q3, q4, q5, q6, q7, q8, q9, q10, q11, q12, q13, q14, q15, q16, q17⟩ := hrow; obtain ⟨hr1, hr2⟩ := hr0; have hfst := first_at q4 q12 q3 q15; obtain ⟨xy, xty, p1, p3, p5, p6, p7, p8, p9⟩ := hfst; have hmany := many_is HG (by assumption : ORD[_]? = some _) hp2; have htabs := tabs_same HG (by assumption : ORD[_]? = some _) hp2; have hfok := f_ok HG (by assumption : ORD[_]? = some _) p3))); (all_goals (try k_fold)))
        | ((rename IsRange _ _ _ _ _ _ _ _ => lR'); (rename PInv _ _ _ _ => lP'); (rename Ap _ _ _ _ => lA'); (with_unfolding_all refine' loop_in (D := D) [Str.ofString "j"] ?g34hys rfl lR' ?g34hn lF' lN' lA' (in_start lP') (fun i3 t3 c3 u3 h3 tk3 own3 hi3 hp3 hA3 F3 N3 => ?_) (fun c3 u3 h3 tk3 hp3 F3 N3 => ?_) (fun _ _ => rfl)); (case g34hys => assumption); (case g34hn => omega); (clear lF' lN'); (all_goals (have g1 := hp3.hi; have g2 := hp3.hl; have g3 := hp3.ht; have g4 := hp3.hls; have g5 := hp3.hk)); (all_goals (try (have hpl := place_at' hi3 (by assumption) (by assumption) (by assumption) (by assumption) (by assumption) (by assumption) (by assumption); obtain ⟨xy, xty, xq, xtq, p1, p2, p3, p4, ⟨p5, p6, p7, p8, p9⟩, ⟨p10, p11⟩⟩ := hpl))); (all_goals (try k_fold))))
      k_with "lower" => ((refine SCL.lower ?g34hf ?_); (case g34hf => omega); intro _)
      k_with "Add" => ((rename Fr _ _ _ _ => lF'); (rename News _ _ _ _ => lN'); (with_unfolding_all refine' list_plus lF' lN' ?g34ha ?g34hb ?g34hz (fun D6 h6 F6 N6 => ?_)); (case g34ha => k_mem); (case g34hb => k_mem); (case g34hz => ((simp only [List.length_map, List.length_cons, List.length_nil]); omega)); (clear lF' lN'); (try k_fold))
      k_with "NotEq" => ((rename News _ _ _ _ => lN'); (rename (tabOf _ = tabOf _ ∧ _) => lT'); (with_unfolding_all refine' items_ne4 lN' lT' ?g34okf ?g34hu ?_); (case g34okf => assumption); (case g34hu => ((with_unfolding_all show un + 3 + 64 < cLine); omega)))
      k_with "GEnd" => first
        | ((rename Fr _ _ _ _ => lF'); (rename News _ _ _ _ => lN'); (rename PInv _ _ _ _ => lP'); (rename POut _ _ _ => lO'); (with_unfolding_all refine' out_end4 lF' lN' ?g34h5 ?g34hP); (case g34hP => exact out_step (by assumption) lO' lP'); (case g34h5 => (intro z' h1'; have h3' := h1'; simp only [List.contains_cons, List.contains_nil, Bool.or_false, Bool.or_eq_false_iff, beq_eq_false_iff_ne, ne_eq] at h1'; simp +zetaDelta only [upd, h1', h3', Bool.false_eq_true, ↓reduceIte])))
        | ((rename Fr _ _ _ _ => lF'); (rename News _ _ _ _ => lN'); (rename PInv _ _ _ _ => lP'); (with_unfolding_all refine' pst_end lF' lN' ?g34h5 ?g34hP ?g34e1 ?g34e2); (case g34e1 => decide); (case g34e2 => decide); (case g34h5 => (intro z' h1'; have h3' := h1'; simp only [List.contains_cons, List.contains_nil, Bool.or_false, Bool.or_eq_false_iff, beq_eq_false_iff_ne, ne_eq] at h1'; simp +zetaDelta only [upd, h1', h3', Bool.false_eq_true, ↓reduceIte])); (case g34hP => first
        | (exfalso; (rename (@BEq.beq _ _ _ _ = false) => lB'); (simp only [beq_self_eq_true] at lB'); exact Bool.noConfusion lB')
        | exact pj_step (inv_old lP' (by assumption) (by assumption) (by assumption) (by assumption))
        | exact pj_step (inv_hit lP' (by omega) (by assumption) (by assumption) (by assumption) ⟨by assumption, by assumption⟩ (by assumption) (by assumption))
        | exact pj_step (inv_new lP' (by omega) (by assumption) (by assumption) (by assumption) ⟨by assumption, by assumption⟩ (by assumption) (by assumption))
        | exact pk_step (by assumption) (congrArg List.length (by assumption)) (by assumption) lP'))
      refine wpAny_call ?_
      k_dflt ktr_enter
      walk_at "my_steps"
      all_goals (rename Fr _ _ _ _ => lF'; rename News _ _ _ _ => lN')
      · ((rename PInv _ _ _ _ => lP'); (refine' pst_end lF' lN' ?g34h5 (pk_step (by assumption) (congrArg List.length (by assumption)) (by assumption) lP') ?g34e1 ?g34e2); (case g34e1 => decide); (case g34e2 => decide); (case g34h5 => (intro z' h1'; have h3' := h1'; simp only [List.contains_cons, List.contains_nil, Bool.or_false, Bool.or_eq_false_iff, beq_eq_false_iff_ne, ne_eq] at h1'; have hj1 := cont1 h1'.2; simp +zetaDelta only [upd, h1', h3', hj1, Bool.false_eq_true, ↓reduceIte])))
      · exfalso
        rename (_ != _) = true => lB
        simp at lB
      · exfalso
        rename _ ≠ _ => lB
        exact lB rfl
      · ((rename PInv _ _ _ _ => lP'); (rename POut _ _ _ => lO'); (refine' out_end4 lF' lN' ?g34h5 (out_step (by assumption) lO' lP')); (case g34h5 => (intro z' h1'; have h3' := h1'; simp only [List.contains_cons, List.contains_nil, Bool.or_false, Bool.or_eq_false_iff, beq_eq_false_iff_ne, ne_eq] at h1'; have hj2 := cont2 h1'.2.2.2.1 h1'.2.2.2.2.1; simp +zetaDelta only [upd, h1', h3', hj2, Bool.false_eq_true, ↓reduceIte])))
      · ((rename POut _ _ _ => lO'); (exact ret _ _ _ _ _ (po_fin lO') (Fr.keep lF') (News.fresh lN' (List.Mem.head _)) (News.get lN' (List.Mem.head _))))
set_option maxHeartbeats 0 in
theorem c_escB : ∀ {w : World} {mean : ExcName → Option Value} {mg mb : Str → Option Value} {dp un : Nat} {gd : Option (List Code)} {env : Env} {outer : List Env} {A₀ : Around} {base h₀ : Heap} {L : Addr} {m : Str → Option Value} {s : Shared} {Q E : Value → Shared → Prop} (C : Cx0 hd.heap_1_1 hd.view_1_2 w mean mg mb dp un env outer A₀ base h₀ L m s) {b : Str} {t : Tok} (hb : b ∈ blksU) (ret : ∀ t' h' tk', Kept s.heap h' → Q (.str (escB b) t') { s with heap := h', toks := tk' }),
      wpAny (model PySem.Challenge.rw_tc0079_01.row.prog w) (kTop dp un gd env outer) (call (.ref 297) [.str b t]) Q E s := by
      intro w mean mg mb dp un gd env outer A₀ base h₀ L m s Q E C b t hb ret
      obtain ⟨hl, h1, h2, h3, h⟩ := esc_facts b hb
      rcases h with ⟨h4, h5, h6⟩ | ⟨h4, h5, h6⟩
      · have e : escB b = b := by unfold escB; rw [h4]; rfl
        rw [e] at ret
        exact c_escape0 C h1 h2 h3 h4 h5 h6 ret
      · have e : escB b = Txt.replace b (Str.ofString "\t") (Str.ofString "&#x9;") := by unfold escB; rw [h4]; rfl
        rw [e] at ret
        exact c_escapeT C hl h1 h2 h3 h4 h5 h6 ret
set_option maxHeartbeats 0 in
theorem c_prices : ∀ {w : World} {mean : ExcName → Option Value} {mg mb : Str → Option Value} {dp un : Nat} {gd : Option (List Code)} {env : Env} {outer : List Env} {A₀ : Around} {base h₀ : Heap} {L : Addr} {m : Str → Option Value} {s : Shared} {Q E : Value → Shared → Prop} (C : Cx0 hd.heap_1_1 hd.view_1_2 w mean mg mb dp un env outer A₀ base h₀ L m s) {y : Str} {u : Nat} {z : Int} {tz : Nat} {D : Addr} {vs : List Value} {bs : List Str} (hbs : bs ∈ allB) (hv : TextsAre vs bs) (hD : s.heap.IsList D vs.toArray) (hy : y ∈ mks) (hz1 : 1 ≤ z) (hz4 : z ≤ 4) (hdp2 : dp + 40 < recursionLimit) (hun2 : un + 400 < cLine) (ret : ∀ D ws h' tk', IntsAre ws (prc z bs) → Kept s.heap h' → s.heap.get? D = none → h'.get? D = some (LCg.lst ws) → Q (.ref D) { s with heap := h', toks := tk' }),
      wpAny (model PySem.Challenge.rw_tc0079_01.row.prog w) (kTop dp un gd env outer) (call (.ref 328) [.ref D, .str y u, .int z tz]) Q E s := by
      intro w mean mg mb dp un gd env outer A₀ base h₀ L m s Q E C y u z tz D vs bs hbs hv hD hy hz1 hz4 hdp2 hun2 ret
      obtain ⟨hl, _, hb⟩ := len_all bs hbs
      have hz : z ∈ [(1 : Int), 2, 3, 4] := by
        have : z = 1 ∨ z = 2 ∨ z = 3 ∨ z = 4 := by omega
        rcases this with rfl | rfl | rfl | rfl <;> simp
      have hly : y.length ≤ 2 := by
        have : ∀ y ∈ mks, y.length ≤ 2 := by decide +kernel
        exact this y hy
      rcases hl with hl | hl
      · obtain ⟨b, rfl⟩ := List.length_eq_one_iff.mp hl
        obtain ⟨t, h1, h2⟩ := hv.get (i := 0) rfl
        have hlen := hv.length
        obtain ⟨v, rfl⟩ := List.length_eq_one_iff.mp hlen
        cases h2
        obtain ⟨b1, b2⟩ := hb b (.head _)
        refine c_prices1 C hD b1 (b2 y hy) hly hz1 hz4 hdp2 hun2 (fun D ws h' tk' hI => ret D ws h' tk' ?_)
        rw [lv_all _ hbs b (.head _) y hy z hz] at hI
        exact hI
      · obtain ⟨b, b', rfl⟩ := len_two hl
        obtain ⟨t, h1, h2⟩ := hv.get (i := 0) rfl
        obtain ⟨t', h1', h2'⟩ := hv.get (i := 1) rfl
        have hlen := hv.length
        obtain ⟨v, v', rfl⟩ := len_two hlen
        cases h2
        cases h2'
        obtain ⟨b1, b2⟩ := hb b (.head _)
        obtain ⟨b1', b2'⟩ := hb b' (.tail _ (.head _))
        refine c_prices2 C hD b1 b1' (b2 y hy) (b2' y hy) hly hz1 hz4 hdp2 hun2 (fun D ws h' tk' hI => ret D ws h' tk' ?_)
        rw [lv_all _ hbs b (.head _) y hy z hz, lv_all _ hbs b' (.tail _ (.head _)) y hy z hz] at hI
        exact hI
set_option maxHeartbeats 0 in
theorem c_price_row : ∀ {w : World} {mean : ExcName → Option Value} {mg mb : Str → Option Value} {dp un : Nat} {gd : Option (List Code)} {env : Env} {outer : List Env} {A₀ : Around} {base h₀ : Heap} {L : Addr} {m : Str → Option Value} {s : Shared} {Q E : Value → Shared → Prop} {news : List (Addr × Obj)} (C : Cx0 hd.heap_1_1 hd.view_1_2 w mean mg mb dp un env outer A₀ base h₀ L m s) (N : News h₀ L s.heap news) {c k : Int} {q : Addr} {vs : List Value} {n : Nat} {y : Str} {u tz : Nat} (hm : (q, listOf vs.toArray n) ∈ news) (hv : TextsAre vs (blk c)) (hy : y ∈ mks) (hdp2 : dp + 40 < recursionLimit) (hun2 : un + 400 < cLine) (ret : ∀ D ws h' tk', IntsAre ws (prc (sizeZ k) (blk c)) → Kept s.heap h' → s.heap.get? D = none → h'.get? D = some (LCg.lst ws) → NeAll D (news.map (·.1)) → Q (.ref D) { s with heap := h', toks := tk' }),
      wpAny (model PySem.Challenge.rw_tc0079_01.row.prog w) (kTop dp un gd env outer) (call (.ref 328) [.ref q, .str y u, .int (1 + (1 + k).fmod 4) tz]) Q E s := by
      intro w mean mg mb dp un gd env outer A₀ base h₀ L m s Q E news C N c k q vs n y u tz hm hv hy hdp2 hun2 ret
      exact (c_prices C (blk_in c) hv (News.isList N hm) hy (size_lo k) (size_hi k) hdp2 hun2 (fun D ws h' tk' hI hk hn ho => ret D ws h' tk' hI hk hn ho (ne_fresh N hn)))
set_option maxHeartbeats 0 in
theorem c_paid_law : ∀ {w : World} {mean : ExcName → Option Value} {mg mb : Str → Option Value} {dp un : Nat} {gd : Option (List Code)} {env : Env} {outer : List Env} {A₀ : Around} {base h₀ : Heap} {L : Addr} {m : Str → Option Value} {s : Shared} {Q E : Value → Shared → Prop} {news : List (Addr × Obj)} (C : Cx hd.heap_1_1 hd.view_1_2 w mean mg mb dp un env outer A₀ base h₀ L m s) (N : News h₀ L s.heap news) {c0 c1 c2 c3 k : Int} {Ln Lp Lw e0 e1 e2 e3 p0 p1 p2 p3 : Addr} {v0 v1 v2 v3 i0 i1 i2 i3 : List Value} {t0 t1 t2 t3 nn tm : Nat} {us : List Str} (mN : (Ln, listOf [Value.ref e0, .ref e1, .ref e2, .ref e3].toArray nn) ∈ news) (mP : (Lp, LCg.lst [Value.ref p0, .ref p1, .ref p2, .ref p3]) ∈ news) (mW : (Lw, LCg.lst [Value.str (Str.ofString "") t0, .str (Str.ofString "&amp;") t1, .str (Str.ofString "&lt;&#xD;") t2, .str (Str.ofString "&quot;&#xA;") t3]) ∈ news) (a0 : (e0, LCg.lst v0) ∈ news) (a1 : (e1, LCg.lst v1) ∈ news) (a2 : (e2, LCg.lst v2) ∈ news) (a3 : (e3, LCg.lst v3) ∈ news) (b0 : (p0, LCg.lst i0) ∈ news) (b1 : (p1, LCg.lst i1) ∈ news) (b2 : (p2, LCg.lst i2) ∈ news) (b3 : (p3, LCg.lst i3) ∈ news) (s0 : StrsAre v0 ((blk c0).map (nmF (upOf c0)))) (s1 : StrsAre v1 ((blk c1).map (nmF (upOf c1)))) (s2 : StrsAre v2 ((blk c2).map (nmF (upOf c2)))) (s3 : StrsAre v3 ((blk c3).map (nmF (upOf c3)))) (n0 : IntsAre i0 (prc (sizeZ k) (blk c0))) (n1 : IntsAre i1 (prc (sizeZ k) (blk c1))) (n2 : IntsAre i2 (prc (sizeZ k) (blk c2))) (n3 : IntsAre i3 (prc (sizeZ k) (blk c3))) (nd : us.Nodup) (hus : ∀ b, b ∈ us ↔ b ∈ [blk c0, blk c1, blk c2, blk c3].flatten) (hdp2 : dp + 100 < recursionLimit) (hun2 : un + 1000 < cLine) (ret : ∀ X ws n h' tk', IntsAre ws ([blk c0, blk c1, blk c2, blk c3].map (shareF (sizeZ k) [blk c0, blk c1, blk c2, blk c3].flatten)) → Kept s.heap h' → s.heap.get? X = none → h'.get? X = some (listOf ws.toArray n) → NeAll X (news.map (·.1)) → Q (.ref X) { s with heap := h', toks := tk' }),
      wpAny (model PySem.Challenge.rw_tc0079_01.row.prog w) (kTop dp un gd env outer) (call (.ref 335) [.ref Ln, .ref Lp, .ref Lw, .int (us.length : Int) tm]) Q E s := by
      intro w mean mg mb dp un gd env outer A₀ base h₀ L m s Q E news C N c0 c1 c2 c3 k Ln Lp Lw e0 e1 e2 e3 p0 p1 p2 p3 v0 v1 v2 v3 i0 i1 i2 i3 t0 t1 t2 t3 nn tm us mN mP mW a0 a1 a2 a3 b0 b1 b2 b3 s0 s1 s2 s3 n0 n1 n2 n3 nd hus hdp2 hun2 ret
      have hz1 := size_lo k
      have hz4 := size_hi k
      refine c_paid C (pdata_four hz1 hz4 (News.isList N mN) (isList_lst N mP) (isList_lst N mW) (isList_lst N a0) (isList_lst N a1) (isList_lst N a2) (isList_lst N a3) (isList_lst N b0) (isList_lst N b1) (isList_lst N b2) (isList_lst N b3) s0 s1 s2 s3 n0 n1 n2 n3)
        (good_all (blk_in c0) (blk_in c1) (blk_in c2) (blk_in c3) fun l hl hm => congrArg Nat.cast (same_len hl nd fun b => (hus b).trans (hm b).symm)) hdp2 hun2 fun X ws n h' tk' hI hk hn ho => ret X ws n h' tk' ?_ hk hn ho (ne_fresh N hn)
      rw [paid_shares (blk_in c0) (blk_in c1) (blk_in c2) (blk_in c3)] at hI
      exact hI
set_option maxHeartbeats 0 in
theorem c_shares_law : ∀ {w : World} {mean : ExcName → Option Value} {mg mb : Str → Option Value} {dp un : Nat} {gd : Option (List Code)} {env : Env} {outer : List Env} {A₀ : Around} {base h₀ : Heap} {L : Addr} {m : Str → Option Value} {s : Shared} {Q E : Value → Shared → Prop} {news : List (Addr × Obj)} (C : Cx0 hd.heap_1_1 hd.view_1_2 w mean mg mb dp un env outer A₀ base h₀ L m s) (N : News h₀ L s.heap news) {c0 c1 c2 c3 k : Int} {R q0 q1 q2 q3 : Addr} {vs0 vs1 vs2 vs3 : List Value} {n0 n1 n2 n3 tz : Nat} (mR : (R, LCg.lst [Value.ref q0, .ref q1, .ref q2, .ref q3]) ∈ news) (a0 : (q0, listOf vs0.toArray n0) ∈ news) (a1 : (q1, listOf vs1.toArray n1) ∈ news) (a2 : (q2, listOf vs2.toArray n2) ∈ news) (a3 : (q3, listOf vs3.toArray n3) ∈ news) (hT0 : TextsAre vs0 (blk c0)) (hT1 : TextsAre vs1 (blk c1)) (hT2 : TextsAre vs2 (blk c2)) (hT3 : TextsAre vs3 (blk c3)) (hC : Coh [vs0, vs1, vs2, vs3].flatten) (hdp2 : dp + 40 < recursionLimit) (hun2 : un + 400 < cLine) (ret : ∀ X ws n h' tk', IntsAre ws ([blk c0, blk c1, blk c2, blk c3].map (shareF (sizeZ k) [blk c0, blk c1, blk c2, blk c3].flatten)) → Kept s.heap h' → s.heap.get? X = none → h'.get? X = some (listOf ws.toArray n) → NeAll X (news.map (·.1)) → Q (.ref X) { s with heap := h', toks := tk' }),
      wpAny (model PySem.Challenge.rw_tc0079_01.row.prog w) (kTop dp un gd env outer) (call (.ref 323) [.ref R, .int (1 + (1 + k).fmod 4) tz]) Q E s := by
      intro w mean mg mb dp un gd env outer A₀ base h₀ L m s Q E news C N c0 c1 c2 c3 k R q0 q1 q2 q3 vs0 vs1 vs2 vs3 n0 n1 n2 n3 tz mR a0 a1 a2 a3 hT0 hT1 hT2 hT3 hC hdp2 hun2 ret
      exact (c_shares C (isList_lst N mR) (lists_four (News.isList N a0) (News.isList N a1) (News.isList N a2) (News.isList N a3)) (texts2_four hT0 hT1 hT2 hT3) hC (size_lo k) (size_hi k) flat_short (Nat.le_trans (flat_len c0 c1 c2 c3) (by decide)) (by simp) hdp2 hun2 fun X ws n h' tk' hI hk hn ho => ret X ws n h' tk' hI hk hn ho (ne_fresh N hn))
section
local macro_rules | `(tactic| k_qdec) => `(tactic| decide +kernel)
set_option maxHeartbeats 0 in
theorem walk : WalkAll := by
  unfold WalkAll
  intro as e
  unfold OfDef
  k_with_none
  k_with "ktr_enter" => ((refine' p_plain (by assumption) (by assumption) (by assumption) (by assumption) ?kA ?kF ?kK ?k6 ?k7 ?k8 ?k9 ?kB ?_ ?c2 ?c3 ?c4 ?c5; (case kA => exact rfl); (case kF => assumption); (case kK => assumption); (case k6 => k_is); (case k7 => k_is); (case k8 => ktr_room); (case k9 => first | exact BindsTo.of_eq rfl | exact binds_K (by k_in) rfl (by k_is) rfl rfl rfl); (case c5 => decide); (case kB => exact locs rfl); (case c2 => exact rfl); (case c3 => exact rfl); (case c4 => exact rfl); k_whole; intro L' h' F' N' B' X' T'; (try dsimp only); (try k_fold)))
  k_with "execs cons" => (((try dsimp only); (refine step_first (n := _) (by first | assumption | exact ⟨⟩) ?hX ?_); (case hX => first | assumption | exact Nat.zero_le _ | omega); intro tk htk Qc hQc; (try dsimp only)))
  k_with "forall" => (((try dsimp only); intro htk; (try dsimp only)))
  k_with "GPost" => ((dsimp only [GPost]))
  k_with "call builtin:list.append" => (k_extra "list.append")
  k_with "ktr_enter" => ((refine' p_cells (by assumption) (by assumption) (by assumption) (by assumption) ?kA ?kF ?kK ?k6 ?k7 ?k8 ?k9 ?kB ?kD ?_ ?c2 ?c3 ?c4; (case kA => exact rfl); (case kF => assumption); (case kK => assumption); (case k6 => k_is); (case k7 => k_is); (case k8 => ktr_room); (case k9 => first | exact BindsTo.of_eq rfl | exact binds_K (by k_in) rfl (by k_is) rfl rfl rfl); (case kB => exact rfl); (case kD => decide +kernel); (case c2 => exact rfl); (case c3 => exact rfl); (case c4 => exact rfl); k_whole; intro L' h' tk' cells' F' N' Y' B' X' T'; k_cells Y'; (try dsimp only [List.cons_append, List.nil_append] at N'); (try dsimp only); (try k_fold)))
  k_with "eval ListComp" => (((with_reducible show wpAny _ _ (eval (Expr.ListComp _ _ _ _) _) _ _ _); lcf_look; k_dflt ((refine LCg.ListComp_U (F₀ := by k_asm) (by with_unfolding_all rfl) (by decide) (by rfl) (by decide) (by rfl) ?_)); k_dflt ((lcg_toSrc))))
  k_with "k_all" => (assumption)
  k_with "k_mem" => (walk_at "mem_i")
  k_with "hid" => (((rename Hid _ => lx); first | ((refine cut_imp (Hid.go lx) ?_); walk_at "conj_go") | (clear lx; walk_at "hid")))
  k_with "k_ne" => (first | ((with_reducible refine ne_l (by assumption) ?_); walk_at "a_mem") | ((with_reducible refine ne_r (by assumption) ?_); walk_at "a_mem") | (refine neN ?_; (try dsimp only); walk_at "ne_fast") | (refine neN ?_; (try dsimp only); omega) | ((rename News _ _ _ _ => lN'); refine' news_ne lN' (by k_dflt k_mem) (by k_dflt k_mem) ?nc; (case nc => simp [dictOf, instObj])))
  k_with "call builtin:len" => (k_extra "len")
  k_with "call type:range" => (k_extra "range")
  k_with "eval Name" => ((k_here; k_dflt (refine' name_u ?F ?v ?_ ?a ?b; (case F => k_asm); (case a => rfl); (case b => rfl); (case v => exact look_mk (Eq.refl _)); k_whole)))
  k_with "storeName" => ((k_here; k_dflt (refine' store_u ?F ?N ?_ ?a ?b; (case F => k_asm); (case N => k_asm); (case a => rfl); (case b => rfl); k_whole; intro h' m' F' N'; (try k_sweep))))
  k_with "my_steps" => (repeat' (first | ((with_reducible refine step_next (by assumption) (by assumption) (by first | assumption | exact ⟨⟩) ?_); intro tk htk Qc hQc; (try dsimp only)) | ((with_reducible refine step_last (by assumption) ?_); intro htk; (try dsimp only)) | ((with_reducible refine cut_end (by assumption) ?_); (try dsimp only [Then])) | (k_unfold; (try dsimp only)) | (w_end; first | ((rename EndOk _ _ => lE'); (rename Fr _ _ _ _ => lF'); exact EndOk.k lE' _ _ _ lF' (by assumption) rfl) | wrow_close) | walk1 | (dsimp only; walk1) | (leave1; (try dsimp only)) | ((with_reducible refine strip2 ?_); k_unfold; (try dsimp only)) | fail "no step"))
  k_with "my_enter" => ((refine' code_def ?k1 ?k2 ?k3 ?k4 ?k5 ?kA ?kF ?kK ?k6 ?k7 ?k8 ?k9 ?kB ?_ ?c2 ?c3 ?c4 ?c5; (case kA => exact rfl); (case kF => first | exact rfl | assumption); (case kK => first | exact rfl | assumption); (case k1 => k_asm); (case k2 => k_asm); (case k3 => k_asm); (case k4 => k_asm); (case k5 => k_asm); (case k6 => k_is); (case k7 => k_is); (case k8 => ktr_room); (case k9 => first | exact BindsTo.of_eq rfl | exact binds_K (by k_in) rfl (by k_is) rfl rfl rfl); (case c5 => decide); (case kB => exact locs rfl); (case c2 => exact rfl); (case c3 => exact rfl); (case c4 => exact rfl); k_whole; intro g' L' h' FG' F' N' B' X' T'; (try dsimp only); (try k_lift B'); (try k_fold)))
  k_with "call builtin:str.lower" => (k_extra "lower")
  k_with "eval ListComp" => (((with_reducible show wpAny _ _ (eval (Expr.ListComp (Expr.Call (Expr.Name (Str.ofString "_law_blocks") _) _ _ _) _ _ _) _) _ _ _); k_extra "rowscomp"))
  k_with "top_cx" => (((with_unfolding_all refine' ⟨by assumption, by assumption, by assumption, by assumption, rfl, rfl, ?d1, ?d2⟩); (case d1 => first | decide | (with_unfolding_all decide)); (case d2 => first | decide | (with_unfolding_all decide))))
  k_with "exec For Name Call cons nil" => ((k_here; (rename Fr _ _ _ _ => lF'); (with_unfolding_all refine' For_turns lF' ?_; k_whole)))
  k_with "TurnPost" => ((dsimp only [TurnPost]))
  k_with "eval ListComp" => (((with_reducible show wpAny _ _ (eval (Expr.ListComp _ [⟨Expr.Name (Str.ofString "block") _, _, _, _⟩] _ _) _) _ _ _); k_extra "comp"))
  k_with "eval ListComp" => (((with_reducible show wpAny _ _ (eval (Expr.ListComp _ [⟨Expr.Name (Str.ofString "name") _, _, _, _⟩] _ _) _) _ _ _); k_extra "comp"))
  k_with "exec Assign cons ListComp" => (((with_reducible show wpAny _ _ (exec (Stmt.Assign [Expr.Name _ _] (Expr.ListComp _ [⟨Expr.Name (Str.ofString "block") _, _, _, _⟩] _ _) _) _) _ _ _); k_extra "compA"))
  k_with "call builtin:str.split" => (k_extra "split")
  k_with "call builtin:str.join" => (k_extra "join")
  k_with "compareOp NotEq ref ref" => (k_extra "noteq")
  k_with "subscriptTail Name Name ref int" => (k_extra "sub hide")
  k_with "eval ListComp" => (((with_reducible show wpAny _ _ (eval (Expr.ListComp _ (⟨Expr.Name (Str.ofString "blocks") _, _, _, _⟩ :: _) _ _) _) _ _ _); k_extra "flat"))
  k_with "call type:set" => (k_extra "set")
  k_with "eval ListComp" => (((with_reducible show wpAny _ _ (eval (Expr.ListComp _ [⟨Expr.Name (Str.ofString "number") _, _, _, _⟩] _ _) _) _ _ _); k_extra "number"))
  k_with "compareOp Eq ref ref" => (k_extra "eqeq")
  w_top off
  k_go0
  all_goals (try k_fold)
  refine early (Qk := qk) (fun s' => rfl) (raisesW_false ?_) ?_ (fun hend => ?_)
  · wrow_none_raised
  · wrow_post
  have hm : TokLo 1 := ⟨⟩
  as_aux_lemma =>
    k_with "call ref" => ((rename Fr _ _ _ _ => lF'); (rename News _ _ _ _ => lN'); first
      | ((with_unfolding_all refine' c_blocks ?lwC (fun D6 vs6 n6 h6 tk6 hu6 k6 hn6 ho6 => ?_)); (case lwC => (walk_at "top_cx")); (have lN3 := news_one lF' lN' k6 hn6 ho6); (have lF3 := fr_kept lF' k6); (clear lF' lN'); (try k_fold))
      | ((with_unfolding_all refine' c_escape0 (x := Str.ofString "") ?lwC no_signs.1 no_signs.2.1 no_signs.2.2.1 no_signs.2.2.2.1 no_signs.2.2.2.2.1 no_signs.2.2.2.2.2 (fun t2 h2 tk2 k2 => ?_)); (case lwC => (walk_at "top_cx")); (have lN3 := news_kept lN' k2); (have lF3 := fr_kept lF' k2); (clear lF' lN'); (try k_fold))
      | ((with_unfolding_all refine' c_escapeA ?lwC (fun t2 h2 tk2 k2 => ?_)); (case lwC => walk_at "top_cx"); (have lN3 := news_kept lN' k2); (have lF3 := fr_kept lF' k2); (clear lF' lN'); (try k_fold))
      | ((with_unfolding_all refine' c_escapeL ?lwC (fun t2 h2 tk2 k2 => ?_)); (case lwC => walk_at "top_cx"); (have lN3 := news_kept lN' k2); (have lF3 := fr_kept lF' k2); (clear lF' lN'); (try k_fold))
      | ((with_unfolding_all refine' c_escapeQ ?lwC (fun t2 h2 tk2 k2 => ?_)); (case lwC => walk_at "top_cx"); (have lN3 := news_kept lN' k2); (have lF3 := fr_kept lF' k2); (clear lF' lN'); (try k_fold)))
    k_with "rowscomp" => first | ((rename Fr _ _ _ _ => lF'); k_dflt (refine eval_T lF' (by with_unfolding_all rfl) (by decide) (by rfl) (by decide) (by rfl) ?_))
    k_with "CompEnd" => first | ((rename Fr _ _ _ _ => lF'); (rename News _ _ _ _ => lN'); (with_unfolding_all refine' comp_end0n lF' lN' ?lwefa ?lwefb ?lwefc ?lwefs ?_); (case lwefa => k_dflt (assumption)); (case lwefb => k_dflt (assumption)); (case lwefc => k_dflt (assumption)); (case lwefs => k_dflt (lcg_src))) | ((rename Fr _ _ _ _ => lF'); (rename News _ _ _ _ => lN'); (with_unfolding_all refine' comp_end0 lF' lN' ?lweoff ?lwesrc ?_); (case lweoff => ((simp only [LCg.Off3, and_true]); first | assumption | exact Hid.go (by assumption))); (case lwesrc => lcg_src)) | ((rename Fr _ _ _ _ => lF'); (rename News _ _ _ _ => lN'); (with_unfolding_all refine' comp_end1 lF' lN' ?lwen ?lwea ?lweb ?lwec ?lwes ?_); (case lwen => assumption); (case lwea => assumption); (case lweb => assumption); (case lwec => assumption); (case lwes => lcg_src))
    k_with "sub hide" => ((with_reducible rename (_ ≠ _ ∧ _ ≠ _ ∧ _ ≠ _) ∧ _ => oX); (have oY := Hid.mk oX); clear oX; (try ((with_reducible rename _ ≠ _ ∧ _ ≠ _ ∧ _ ≠ _ => oX); (have oY2 := Hid.mk oX); clear oX)))
    k_with "CompT" => refine Stop.go ?_
    walk_at "my_steps"
    refine ⟨?_⟩
    (with_reducible rename _ ≠ _ ∧ _ ≠ _ ∧ _ ≠ _ ∧ _ ≠ _ ∧ _ ≠ _ ∧ _ ≠ _ ∧ _ ≠ _ ∧ _ ≠ _ ∧ _ ≠ _ ∧ _ ≠ _ => o1); have b1 := ne10 o1; clear o1
    (with_reducible rename _ ≠ _ ∧ _ ≠ _ ∧ _ ≠ _ ∧ _ ≠ _ ∧ _ ≠ _ ∧ _ ≠ _ ∧ _ ≠ _ ∧ _ ≠ _ => o2); have b2 := ne8 o2; clear o2
    (with_reducible rename _ < _ ∧ _ < _ ∧ _ < _ ∧ _ < _ ∧ _ < _ ∧ _ < _ ∧ _ < _ ∧ _ < _ ∧ _ < _ => o3); have b3 := lt9 o3; clear o3
    repeat ((with_reducible rename (_ ≠ _ ∧ _) ∧ _ => hX); clear hX)
    repeat ((with_reducible rename _ ≠ _ ∧ _ => hX); clear hX)
    repeat ((with_reducible rename _ < _ ∧ _ => hX); clear hX)
    repeat ((with_reducible rename LCg.NsObj _ _ => hX); clear hX)
    repeat ((with_reducible rename InElt _ _ => hX); clear hX)
    repeat ((with_reducible rename Kept _ _ => hX); clear hX)
    repeat ((with_reducible rename _[_]? = some _ => hX); clear hX)
    rename Fr _ _ _ _ => lF'
    rename News _ _ _ _ => lN'
    rename IntsAre _ (List.map _ (rangeKs _ _)) => lI'
    obtain ⟨c0, c1, c2, c3, t0, t1, t2, t3, e9⟩ := ints_four lI' (by with_unfolding_all rfl)
    subst e9
    clear lI'
    replace lN' := news_drop3 (news_drop0 lN')
    refine' rows_comp lF' lN' (by k_mem) rfl (fun c5 t5 I5 oI5 C5 oC5 D5 m5 h5 tk5 ys5 mk5 E5 hNs5 hm5 hk5 F5 N5 => ?_) (fun D5 q0 q1 q2 q3 vs0 vs1 vs2 vs3 n0 n1 n2 n3 h5 tk5 hT0 hT1 hT2 hT3 hC5 F5 N5 a5 a0 a1 a2 a3 => ?_)
    · clear lF' lN'
      try dsimp only
      try k_fold
      walk_at "my_steps"
      rename Ups _ _ _ _ => hU9
      refine ⟨⟨_, _, _, _, _, _, _, rfl, rfl, ?_, hU9, Nat.le_refl _, by assumption, by assumption, by assumption⟩⟩
      first | exact Nat.le_refl _ | (dsimp only; omega)
    clear lF' lN'
    as_aux_lemma =>
      dsimp only [List.map] at a5 a0 a1 a2 a3
      try dsimp only
      try k_fold
      k_with "sub hide" => kim_at
      k_with "pyIter ref" => ((rename Fr _ _ _ _ => lF'); (rename News _ _ _ _ => lN'); (rename IsRange _ _ _ _ _ _ _ _ => hR'); (with_unfolding_all refine' unroll_range 4 rfl hR' ?lwsm ?lwsz lF' lN' (fun I1 hI1 => ?_) (fun _ _ => rfl)); (case lwsm => with_unfolding_all rfl); (case lwsz => with_unfolding_all rfl); (dsimp only [List.map] at hI1); (clear lF' lN'); (try k_fold))
      k_with "Turns" => first | ((with_unfolding_all refine' turns_succ (fun t1 oI1 h1 tk1 F1 N1 => ?_)); (try k_fold))
      k_with "compA" => ((rename Fr _ _ _ _ => lF'); k_dflt (refine assign_T lF' (by rfl) (by with_unfolding_all rfl) (by decide) (by rfl) (by decide) (by rfl) (by with_unfolding_all rfl) (by rfl) (by rfl) ?_))
      k_with "comp" => ((rename Fr _ _ _ _ => lF'); k_dflt (refine eval_T lF' (by with_unfolding_all rfl) (by decide) (by rfl) (by decide) (by rfl) ?_))
      k_with "CompT" => ((rename Fr _ _ _ _ => lF'); (rename News _ _ _ _ => lN'); (first
        | (refine' map_row lF' lN' ?lwhm ?lwhS rfl (fun b3 t3 I3 oI3 C3 oC3 D3 m3 h3 tk3 ys3 E3 hb3 hNs3 hm3 hk3 F3 N3 => ?_) (fun D3 ws3 h3 tk3 hW3 F3 N3 hn3 => ?_); (case lwhm => walk_at "a_mem"); (case lwhS => assumption))
        | (refine' map_names lF' lN' ?lwhm ?lwhS rfl (fun b3 t3 I3 oI3 C3 oC3 D3 m3 h3 tk3 ys3 E3 hb3 hNs3 hm3 hk3 F3 N3 => ?_) (fun D3 ws3 h3 tk3 hW3 F3 N3 hn3 => ?_); (case lwhm => walk_at "a_mem"); (case lwhS => assumption))); (all_goals (try dsimp only [List.map] at hn3)); (all_goals (clear lF' lN')); (all_goals (try dsimp only)); (all_goals (try k_fold)))
      k_with "call ref" => ((rename Fr _ _ _ _ => lF'); (rename News _ _ _ _ => lN'); first
        | ((with_unfolding_all refine' c_escB ?lwC ?lwhb (fun t2 h2 tk2 k2 => ?_)); (case lwhb => assumption); (case lwC => (walk_at "top_cx")); (have lN3 := news_kept lN' k2); (have lF3 := fr_kept lF' k2); (clear lF' lN'); (try k_fold)))
      k_with "TextEnd" => first | exact ⟨⟨_, _, _, rfl, rfl, by assumption⟩⟩ | (with_unfolding_all exact text_up (by assumption)) | (with_unfolding_all exact text_no (by assumption)) | ((rename Int.fmod _ 2 = 1 => a'); with_unfolding_all exact text_up a') | ((rename ¬ _ = _ => a'); with_unfolding_all exact text_no a')
      k_with "split" => (((rename Fr _ _ _ _ => lF'); (rename News _ _ _ _ => lN'); (with_unfolding_all refine' split_blk ?lwhb (fun D4 l4 h4 tk4 e4 k4 hn4 ho4 => ?_)); (case lwhb => assumption); (have lN3 := news_one lF' lN' k4 hn4 ho4); (have lF3 := fr_kept lF' k4); (clear lF' lN'); (try k_fold)))
      k_with "join" => (((rename News _ _ _ _ => lN'); (with_unfolding_all refine' join_blk ?lwhb ?lwhl ?lwht (fun t4 k4 => ?_)); (case lwhb => assumption); (case lwht => assumption); (case lwhl => exact News.isList lN' (List.Mem.head _)); (try k_fold)))
      k_with "noteq" => (((rename News _ _ _ _ => lN'); (with_unfolding_all refine' texts_same2 lN' ?lwhx ?lwhy esc_ok ?lwhu ?_); (case lwhx => assumption); (case lwhy => assumption); (case lwhu => (with_unfolding_all exact Nat.le_of_ble_eq_true rfl)); (try k_fold)))
      k_with "list.append" => (((show wpAny _ _ (call (Value.builtin _) [Value.ref _, _]) _ _ _); k_dflt (refine' append_K ?lwk1 ?lwk2 ?lwk3 ?_ ?lwz; (case lwk1 => k_asm); (case lwk2 => k_asm); (case lwk3 => k_upd); (case lwz => size_fits); k_whole); intro h' F' N'; (try k_sweep)))
      k_with "TurnEnd" => ((rename Fr _ _ _ _ => lF'); (rename News _ _ _ _ => lN'); (with_unfolding_all refine' turn_end3 lF' lN' ?lwhI ?_); (case lwhI => walk_at "ne_chain"); (clear lF' lN'); (repeat ((with_reducible rename News _ _ _ _ => hX); clear hX)); (repeat ((with_reducible rename Fr _ _ _ _ => hX); clear hX)); (repeat ((with_reducible rename LCg.NsObj _ _ => hX); clear hX)); (repeat ((with_reducible rename Kept _ _ => hX); clear hX)); (try k_fold))
      walk_at "my_steps"
      as_aux_lemma =>
        with_unfolding_all refine' turns_zero (fun h1 tk1 F1 N1 => ?_)
        repeat ((with_reducible rename LCg.NsObj _ _ => hX); clear hX)
        try k_fold
        k_with "CompSrc" => ((rename Fr _ _ _ _ => lF'); (rename News _ _ _ _ => lN'); (rename IsRange _ _ _ _ _ _ _ _ => hR'); (with_unfolding_all refine' LCg.CompSrc.range (n := 4) rfl lF' lN' hR' ?lwrsm ?lwrsz ?lwrz (fun g1 => ?_)); (case lwrsm => with_unfolding_all rfl); (case lwrsz => with_unfolding_all rfl); (case lwrz => with_unfolding_all exact Nat.le_of_ble_eq_true rfl))
        k_with "CompRest" => (with_unfolding_all first
          | (refine LCg.CompRest.succ ?_; intro v' I' oI' C' oC' D' m' h' tk' E' hv' hC' hx' F' N' off' ne'; obtain ⟨t9', hv9'⟩ := hv'; subst hv9'; have off2 := off3_ne off'; clear off' ne'; dsimp only [List.map] at off2; obtain ⟨n1, n2, n3⟩ := off2; try k_fold)
          | refine LCg.CompRest.zero ?_)
        k_with "FinA" => ((unfold LCg.FinA); intro D' h' tk' F' N' o1'; (have o2 := off1_ne o1'; clear o1'; dsimp only [List.map] at o2); (try dsimp only [List.nil_append, List.cons_append] at N'); (try dsimp only))
        k_with "call ref" => ((rename Fr _ _ _ _ => lF'); (rename News _ _ _ _ => lN'); (with_unfolding_all refine' c_price_row ?lwqC lN' ?lwqhm ?lwqhv ?lwqhy ?lwqdp ?lwqun (fun D7 ws7 h7 tk7 hI7 k7 hn7 ho7 ne7 => ?_)); (case lwqC => walk_at "top_cx"); (case lwqhm => walk_at "a_mem"); (case lwqhv => assumption); (case lwqhy => first | exact mk_in.1 | exact mk_in.2.1 | exact mk_in.2.2.1 | exact mk_in.2.2.2); (case lwqdp => first | decide | (with_unfolding_all decide)); (case lwqun => first | decide | (with_unfolding_all decide)); (have lN3 := news_one lF' lN' k7 hn7 ho7); (have lF3 := fr_kept lF' k7); (dsimp only [List.map] at ne7); (clear lF' lN'); (try k_fold))
        k_with "flat" => refine Stop.go ?_
        walk_at "my_steps"
        refine ⟨?_⟩
        rename Fr _ _ _ _ => lF'
        rename News _ _ _ _ => lN'
        have hR8 := isList_lst (D := D5) lN' (ys := [.ref q0, .ref q1, .ref q2, .ref q3]) (by walk_at "a_mem")
        have hL8 := lists_four (News.isList lN' (a := q0) (items := vs0.toArray) (n := n0) (by walk_at "a_mem")) (News.isList lN' (a := q1) (items := vs1.toArray)  (by walk_at "a_mem")) (News.isList lN' (a := q2) (items := vs2.toArray)  (by walk_at "a_mem")) (News.isList lN' (a := q3) (items := vs3.toArray)  (by walk_at "a_mem"))
        refine' flat_comp (rs := [.ref q0, .ref q1, .ref q2, .ref q3]) (vss := [vs0, vs1, vs2, vs3]) (by rfl) ?lwfa1 ?lwfa2 (by rfl) ?lwfa3 (by rfl) (by rfl) (by decide) (by decide) hR8 hL8 ?lwfhz (fun Q' h => ?lwfa5) (fun D8 n8 h8 tk8 k8 hn8 hs8 ho8 => ?_) (fun _ => rfl)
        case lwfa1 => decide
        case lwfa2 => decide
        case lwfa3 => decide
        case lwfhz => (have hq := (texts2_four hT0 hT1 hT2 hT3).flat.length; have hq2 := flat_len c0 c1 c2 c3; rw [sizeLine_eq]; omega)
        case lwfa5 => 
          k_dflt (refine' nameX_C ?lwxN ?lwxc ?lwxm ?lwxd ?_ ?lwxa ?lwxb; (case lwxa => rfl); (case lwxb => rfl); (case lwxN => k_asm); (case lwxc => rfl); (case lwxm => k_mem); (case lwxd => k_asm); k_whole)
          exact h
        have lN3 := news_one lF' lN' k8 hn8 ho8
        have lF3 := fr_kept lF' k8
        clear lF' lN' hR8 hL8 hs8
        try k_fold
        as_aux_lemma =>
          k_with "set" => refine Stop.go ?_
          walk_at "my_steps"
          refine ⟨?_⟩
          rename Fr _ _ _ _ => lF'
          rename News _ _ _ _ => lN'
          refine' setN lF' lN' rfl (News.isList lN' (List.Mem.head _)) (texts2_four hT0 hT1 hT2 hT3).flat (Nat.le_trans (flat_len c0 c1 c2 c3) (by decide)) (fun S9 h9 tk9 o9 us9 nd9 mem9 len9 F9 N9 hs9 => ?_)
          clear lF' lN'
          (try clear lN3); (try clear lF3)
          try dsimp only
          try k_fold
          k_with "len" => ((rename News _ _ _ _ => lN'); (rename Obj.SetObjOf _ _ _ _ => hs'); (with_unfolding_all refine' set_len lN' hs' ?lwlhf ?_); (case lwlhf => assumption); (try k_fold))
          k_with "call ref" => refine Stop.go ?_
          walk_at "my_steps"
          refine ⟨?_⟩
          rename Fr _ _ _ _ => lF'
          rename News _ _ _ _ => lN'
          simp only [List.push_toArray, List.nil_append, List.cons_append] at lN'
          with_unfolding_all refine' c_paid_law ?lwpC lN' ?lwpmN ?lwpmP ?lwpmW ?lwpa0 ?lwpa1 ?lwpa2 ?lwpa3 ?lwpb0 ?lwpb1 ?lwpb2 ?lwpb3 ?lwps0 ?lwps1 ?lwps2 ?lwps3 ?lwpn0 ?lwpn1 ?lwpn2 ?lwpn3 ?lwpnd ?lwphus ?lwpdp ?lwpun (fun X7 ws7 m7 h7 tk7 hI7 k7 hn7 ho7 ne7 => ?_)
          case lwpC =>
            (with_unfolding_all refine' ⟨by assumption, lF', by assumption, by assumption, rfl, rfl, ?lwpd1, ?lwpd2, ?lwpd3⟩)
            case lwpd1 => first | decide | (with_unfolding_all decide)
            case lwpd2 => first | decide | (with_unfolding_all decide)
            case lwpd3 => (try dsimp only); omega
          case lwpmN => walk_at "a_mem"
          case lwpmP => walk_at "a_mem"
          case lwpmW => walk_at "a_mem"
          case lwpa0 => walk_at "a_mem"
          case lwpa1 => walk_at "a_mem"
          case lwpa2 => walk_at "a_mem"
          case lwpa3 => walk_at "a_mem"
          case lwpb0 => walk_at "a_mem"
          case lwpb1 => walk_at "a_mem"
          case lwpb2 => walk_at "a_mem"
          case lwpb3 => walk_at "a_mem"
          case lwps0 => assumption
          case lwps1 => assumption
          case lwps2 => assumption
          case lwps3 => assumption
          case lwpn0 => assumption
          case lwpn1 => assumption
          case lwpn2 => assumption
          case lwpn3 => assumption
          case lwpnd => assumption
          case lwphus => assumption
          case lwpdp => first | decide | (with_unfolding_all decide)
          case lwpun => first | decide | (with_unfolding_all decide)
          have lN3 := news_one lF' lN' k7 hn7 ho7
          have lF3 := fr_kept lF' k7
          dsimp only [List.map] at ne7
          clear lF' lN'
          try dsimp only
          try k_fold
          obtain ⟨d0, d1, d2, d3, u0, u1, u2, u3, e7⟩ := ints_four hI7 rfl
          subst e7
          as_aux_lemma =>
            k_with "number" => (k_dflt (refine LCg.ListComp_U (F₀ := by k_asm) (by rfl) (by decide) (by rfl) (by decide) (by rfl) ?_); k_dflt (lcg_toSrc))
            k_with "CompSrc" => ((rename Fr _ _ _ _ => lF'); (rename News _ _ _ _ => lN'); (with_unfolding_all refine' LCg.CompSrc.ledger rfl lF' lN' ?lwlhm ?lwlhz (fun g1 => ?_)); (case lwlhm => walk_at "a_mem"); (case lwlhz => (with_unfolding_all exact Nat.le_of_ble_eq_true rfl)); lcg_lit)
            k_with "CompRest" => (with_unfolding_all first
              | (refine LCg.CompRest.succ ?_; intro v' I' oI' C' oC' D' m' h' tk' E' hv' hC' hx' F' N' off' ne'; lcg_open hv'; have off2 := off3_ne off'; clear off' ne'; dsimp only [List.map] at off2; obtain ⟨n1, n2, n3⟩ := off2; try k_fold)
              | refine LCg.CompRest.zero ?_)
            k_with "FinE" => ((unfold LCg.FinE); intro D' h' tk' F' N' o1'; (have o2 := off1_ne o1'; clear o1'; dsimp only [List.map] at o2); (try dsimp only [List.nil_append, List.cons_append] at N'); (try dsimp only))
            k_with "call ref" => ((rename Fr _ _ _ _ => lF'); (rename News _ _ _ _ => lN'); (with_unfolding_all refine' c_shares_law ?lwsC lN' ?lwsmR ?lwsa0 ?lwsa1 ?lwsa2 ?lwsa3 ?lwshT0 ?lwshT1 ?lwshT2 ?lwshT3 ?lwshC ?lwsdp ?lwsun (fun X8 ws8 m8 h8 tk8 hI8 k8 hn8 ho8 ne8 => ?_)); (case lwsC => walk_at "top_cx"); (case lwsmR => walk_at "a_mem"); (case lwsa0 => walk_at "a_mem"); (case lwsa1 => walk_at "a_mem"); (case lwsa2 => walk_at "a_mem"); (case lwsa3 => walk_at "a_mem"); (case lwshT0 => assumption); (case lwshT1 => assumption); (case lwshT2 => assumption); (case lwshT3 => assumption); (case lwshC => assumption); (case lwsdp => first | decide | (with_unfolding_all decide)); (case lwsun => first | decide | (with_unfolding_all decide)); (have lN3 := news_one lF' lN' k8 hn8 ho8); (have lF3 := fr_kept lF' k8); (dsimp only [List.map] at ne8); (clear lF' lN'); (try k_fold))
            k_with "eqeq" => first
              | ((rename News _ _ _ _ => lN'); (with_unfolding_all refine' same_items (isList_lst lN' ?lwea) (News.isList lN' (List.Mem.head _)) ?lwehu ?_); (case lwea => walk_at "a_mem"); (case lwehu => (with_unfolding_all exact Nat.le_of_ble_eq_true rfl)); (try k_fold))
              | ((rename News _ _ _ _ => lN'); (with_unfolding_all refine' ints_same lN' ?lwima (List.Mem.head _) ?lwihx ?lwihy ?lwihu ?_); (case lwima => walk_at "a_mem"); (case lwihx => assumption); (case lwihy => assumption); (case lwihu => (with_unfolding_all exact Nat.le_of_ble_eq_true rfl)); (repeat ((with_reducible rename NeAll _ _ => hX); clear hX)); (repeat ((with_reducible rename StrsAre _ _ => hX); clear hX)); (repeat ((with_reducible rename TextsAre _ _ => hX); clear hX)); (repeat ((with_reducible rename IntsAre _ (List.map _ _) => hX); clear hX)); (repeat ((with_reducible rename IntsAre _ (prc _ _) => hX); clear hX)); (repeat ((with_reducible rename Kept _ _ => hX); clear hX)); (repeat ((with_reducible rename LCg.NsObj _ _ => hX); clear hX)); (repeat ((with_reducible rename InElt _ _ => hX); clear hX)); (repeat ((with_reducible rename IsRange _ _ _ _ _ _ _ _ => hX); clear hX)); (repeat ((with_reducible rename _[_]? = some _ => hX); clear hX)); (repeat ((with_reducible rename Obj.SetObjOf _ _ _ _ => hX); clear hX)); (repeat ((with_reducible rename Coh _ => hX); clear hX)); (try k_fold))
            walk_at "my_steps"
end
end Mine
theorem PySem.Challenge.cw_tc0079_01_holds : PySem.Challenge.rw_tc0079_01.Holds :=
  Mine.big Mine.walk
