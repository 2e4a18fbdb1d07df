import PyProof.Rows.All
import Wide.All
import OpenK.AllK
import Wide.FinOn
import PySem.Challenge.RW_ru0004_01
open PySem PySem.W PyProof.Rows
set_option Elab.async false
set_option genSizeOf false
set_option genInjectivity false
set_option maxRecDepth 100000
set_option maxHeartbeats 8000000
namespace Mine
def Mark {p : Prop} (_ : p) : Prop := p
theorem mark {p : Prop} (h : p) : Mark h := h
structure Box (p : Prop) : Prop where
  h : p
theorem use_mark {T G : Prop} (f : Box T → G) (_ : Mark f) : True := trivial
theorem second {T G : Prop} (main : G) (hc : T) : G := main
noncomputable def a.tw4143851191059096761 : Unit := ()
noncomputable def a.tw5831955890942311348 : Unit := ()
noncomputable def a.tw9211550435178034426 : Unit := ()
noncomputable def a.tw11001193109403549498 : Unit := ()
noncomputable def a.tw4522166403040630818 : Unit := ()
noncomputable def a.tw5545480159071093220 : Unit := ()
noncomputable def a.tw12260702738537354909 : Unit := ()
noncomputable def a.tw8124235263721811699 : Unit := ()
noncomputable def a.tw14942826693156696516 : Unit := ()
noncomputable def a.tw9067089439566302734 : Unit := ()
noncomputable def a.tw13609711014105407435 : Unit := ()
noncomputable def a.tw4927379038369822790 : Unit := ()
noncomputable def a.tw17081089395105949380 : Unit := ()
noncomputable def a.tw1751706012544586105 : Unit := ()
noncomputable def a.tw8883536735833356490 : Unit := ()
noncomputable def a.tw11140126370235593264 : Unit := ()
noncomputable def a.tw9988178370508780071 : Unit := ()
noncomputable def a.tw18329137306174015516 : Unit := ()
noncomputable def a.tw16332210772757097153 : Unit := ()
noncomputable def a.tw17372282293654074823 : Unit := ()
noncomputable def a.tw7371979437935653013 : Unit := ()
noncomputable def a.tw16186629077750800123 : Unit := ()
noncomputable def a.tw2579409419232101908 : Unit := ()
noncomputable def a.tw1562636055541262218 : Unit := ()
noncomputable def a.tw687855100384238998 : Unit := ()
noncomputable def a.tw686476880855243834 : Unit := ()
noncomputable def a.tw7747878387708028744 : Unit := ()
noncomputable def a.tw16473860026695003901 : Unit := ()
noncomputable def a.tw108392868922928085 : Unit := ()
noncomputable def a.tw5286225740917280628 : Unit := ()
noncomputable def a.tw8001799198262732174 : Unit := ()
noncomputable def a.tw1284940406287325506 : Unit := ()
noncomputable def a.tw17475663856727089323 : Unit := ()
noncomputable def a.tw10820188605698776732 : Unit := ()
noncomputable def a.tw16114756453452873107 : Unit := ()
noncomputable def a.tw1156295680667709858 : Unit := ()
noncomputable def a.tw10737753310985715221 : Unit := ()
noncomputable def a.tw11298827886214986494 : Unit := ()
noncomputable def a.tw17077116959608968916 : Unit := ()
noncomputable def a.tw314166612865851906 : Unit := ()
noncomputable def a.tw17956508031664811760 : Unit := ()
noncomputable def a.tw4671984986887202860 : Unit := ()
noncomputable def a.tw13965689908907056257 : Unit := ()
noncomputable def a.tw12825961822648771202 : Unit := ()
noncomputable def a.tw16127302258866077867 : Unit := ()
noncomputable def a.tw3308273672670564829 : Unit := ()
noncomputable def a.tw8750306651889170347 : Unit := ()
noncomputable def a.tw10838904084122318576 : Unit := ()
noncomputable def a.tw8976984199723079533 : Unit := ()
noncomputable def a.tw1703659870946936951 : Unit := ()
noncomputable def a.tw2681978510060490595 : Unit := ()
noncomputable def a.tw4230344712660671929 : Unit := ()
noncomputable def a.tw2144361076521726691 : Unit := ()
noncomputable def a.tw10155048659325135623 : Unit := ()
noncomputable def a.tw6150758816865347352 : Unit := ()
noncomputable def a.tw2406180629099544808 : Unit := ()
noncomputable def a.tw4409148574676304209 : Unit := ()
noncomputable def a.tw12544006398939887753 : Unit := ()
noncomputable def a.tw13413998286293827028 : Unit := ()
noncomputable def a.tw12610842751285200400 : Unit := ()
noncomputable def a.tw4106253819186721042 : Unit := ()
noncomputable def a.tw10012897573648012918 : Unit := ()
noncomputable def a.tw15227321295202069013 : Unit := ()
noncomputable def a.tw5140705745807645229 : Unit := ()
noncomputable def a.tw18294188229925051215 : Unit := ()
noncomputable def a.tw6057474898261486603 : Unit := ()
noncomputable def a.tw5884936493754263709 : Unit := ()
noncomputable def a.tw14508697267903463040 : Unit := ()
noncomputable def a.tw12716254852538114819 : Unit := ()
noncomputable def a.tw9968287870079302071 : Unit := ()
noncomputable def a.tw1735538183477976504 : Unit := ()
noncomputable def a.tw11197879492335838374 : Unit := ()
noncomputable def a.tw1276449989407611323 : Unit := ()
noncomputable def a.tw4268258976933237061 : Unit := ()
noncomputable def a.tw3782300294527264902 : Unit := ()
noncomputable def a.tw17082568327620565657 : Unit := ()
noncomputable def a.tw2164731793886295171 : Unit := ()
noncomputable def a.tw8456765192741542459 : Unit := ()
noncomputable def a.tw10021272653581038396 : Unit := ()
noncomputable def a.tw43603888122457248 : Unit := ()
noncomputable def a.tw12473678935382837294 : Unit := ()
noncomputable def a.tw2420432258612161904 : Unit := ()
noncomputable def a.tw2949539181789417304 : Unit := ()
noncomputable def a.tw11649448822165778482 : Unit := ()
noncomputable def a.tw2223468072169235947 : Unit := ()
noncomputable def a.tw16998062901247259682 : Unit := ()
noncomputable def a.tw11066214724804167569 : Unit := ()
noncomputable def a.tw1516661209537104628 : Unit := ()
noncomputable def a.tw7709007277283041935 : Unit := ()
noncomputable def a.tw14047828828243683087 : Unit := ()
noncomputable def a.tw15777853812997909114 : Unit := ()
noncomputable def a.tw2564443223056700725 : Unit := ()
noncomputable def a.tw1354634135875100385 : Unit := ()
noncomputable def a.tw4076567940259347278 : Unit := ()
noncomputable def a.tw17854914322871659111 : Unit := ()
noncomputable def a.tw7440756107447744345 : Unit := ()
noncomputable def a.tw1329123746174232614 : Unit := ()
noncomputable def a.tw7303022688738643782 : Unit := ()
noncomputable def a.tw15113887045498154352 : Unit := ()
noncomputable def a.tw4843579417477588364 : Unit := ()
noncomputable def a.tw17509817968815292103 : Unit := ()
noncomputable def a.tw10203796105643924822 : Unit := ()
noncomputable def a.tw18309361450208260330 : Unit := ()
noncomputable def a.tw1428018272560135906 : Unit := ()
noncomputable def a.tw2810991277760802260 : Unit := ()
noncomputable def a.tw13076864971136365367 : Unit := ()
noncomputable def a.tw9740966163080561009 : Unit := ()
noncomputable def a.tw1359804403765901621 : Unit := ()
noncomputable def a.tw11606864070398115381 : Unit := ()
noncomputable def a.tw17955731926138762333 : Unit := ()
noncomputable def a.tw5678821187393067431 : Unit := ()
noncomputable def a.tw4672068186165723300 : Unit := ()
noncomputable def a.tw1219031248751797550 : Unit := ()
noncomputable def a.tw3882281814072205574 : Unit := ()
noncomputable def a.tw16296063373809884107 : Unit := ()
noncomputable def a.tw13461214866364980517 : Unit := ()
noncomputable def a.tw16322396303218645305 : Unit := ()
noncomputable def a.tw3390890266273298780 : Unit := ()
noncomputable def a.tw622600604874858082 : Unit := ()
noncomputable def a.tw7192897516811702559 : Unit := ()
noncomputable def a.tw1383978616976795044 : Unit := ()
noncomputable def a.tw3150476674335669984 : Unit := ()
noncomputable def a.tw2447806171856859907 : Unit := ()
noncomputable def a.tw4353979776112972317 : Unit := ()
noncomputable def a.tw15958748881686750048 : Unit := ()
noncomputable def a.tw2394978284411864776 : Unit := ()
noncomputable def a.tw9196647729977491593 : Unit := ()
noncomputable def a.tw6658766672003789331 : Unit := ()
noncomputable def a.tw17674667952225809511 : Unit := ()
noncomputable def a.tw14119394556887537994 : Unit := ()
noncomputable def a.tw14262110616296743980 : Unit := ()
noncomputable def a.tw1536827323223725973 : Unit := ()
noncomputable def a.tw10595155561893286253 : Unit := ()
noncomputable def a.tw13630774017385525740 : Unit := ()
noncomputable def a.tw2645280769465029116 : Unit := ()
noncomputable def a.tw2167797800050725592 : Unit := ()
noncomputable def a.tw11635057546765212235 : Unit := ()
noncomputable def a.tw5497423441725515912 : Unit := ()
noncomputable def a.tw16183738372190657115 : Unit := ()
noncomputable def a.tw7528354379622453957 : Unit := ()
noncomputable def a.tw6230090680912711344 : Unit := ()
noncomputable def a.tw6840248966396052733 : Unit := ()
noncomputable def a.tw14844943203967548087 : Unit := ()
noncomputable def a.tw4911980966931894326 : Unit := ()
noncomputable def a.tw16151203514633224418 : Unit := ()
noncomputable def a.tw4496102100506738745 : Unit := ()
noncomputable def a.tw14153010080731306420 : Unit := ()
noncomputable def a.tw10885356028955530184 : Unit := ()
noncomputable def a.tw8055463715503981803 : Unit := ()
noncomputable def a.tw11637206399950516102 : Unit := ()
noncomputable def a.tw14374752659689653327 : Unit := ()
noncomputable def a.tw11616486877184862959 : Unit := ()
noncomputable def a.tw11289554089938601548 : Unit := ()
noncomputable def a.tw16254668953099958798 : Unit := ()
noncomputable def a.tw4462254916649042561 : Unit := ()
noncomputable def a.tw17013621611648233481 : Unit := ()
noncomputable def a.tw1443259420287124762 : Unit := ()
noncomputable def a.tw15965453086208266817 : Unit := ()
noncomputable def a.tw2146067895656173771 : Unit := ()
noncomputable def a.tw17472558525964576666 : Unit := ()
noncomputable def a.tw10495462407997576742 : Unit := ()
noncomputable def a.tw11578609256622216041 : Unit := ()
noncomputable def a.tw12100480568243762520 : Unit := ()
noncomputable def a.tw13824098419055704320 : Unit := ()
noncomputable def a.tw7140017101592248079 : Unit := ()
noncomputable def a.tw18108895619671281816 : Unit := ()
noncomputable def a.tw2069969438595141572 : Unit := ()
noncomputable def a.tw8077439279308390041 : Unit := ()
noncomputable def a.tw13616236834418514011 : Unit := ()
noncomputable def a.tw6656926836032505715 : Unit := ()
noncomputable def a.tw13749823394390426030 : Unit := ()
noncomputable def a.tw9550874453431064937 : Unit := ()
noncomputable def a.tw13840177990912679868 : Unit := ()
noncomputable def a.tw13308349818202487969 : Unit := ()
noncomputable def a.tw10084178903644443279 : Unit := ()
noncomputable def a.tw8558686783209133375 : Unit := ()
noncomputable def a.tw979346306528748916 : Unit := ()
noncomputable def a.tw6937699851472170282 : Unit := ()
noncomputable def a.tw17411864727080897779 : Unit := ()
noncomputable def a.tw6197790442872059544 : Unit := ()
noncomputable def a.tw2453926247094261912 : Unit := ()
noncomputable def a.tw17117355570366849055 : Unit := ()
noncomputable def a.tw9425891330770462175 : Unit := ()
noncomputable def a.tw17182733378345860812 : Unit := ()
noncomputable def a.tw12266875799476588483 : Unit := ()
noncomputable def a.tw17248108137519047390 : Unit := ()
noncomputable def a.tw5563853274571984760 : Unit := ()
noncomputable def a.tw3453098083659379347 : Unit := ()
noncomputable def a.tw1694452841862926655 : Unit := ()
noncomputable def a.tw3238656088234098820 : Unit := ()
noncomputable def a.tw13570126626565196568 : Unit := ()
noncomputable def a.tw11603980547367715545 : Unit := ()
noncomputable def a.tw499817471569502682 : Unit := ()
noncomputable def a.tw16619743053882255041 : Unit := ()
noncomputable def a.tw13810610020118326429 : Unit := ()
noncomputable def a.tw14146936613450694679 : Unit := ()
noncomputable def a.tw3295324329202729335 : Unit := ()
noncomputable def a.tw5447787457840969458 : Unit := ()
noncomputable def a.tw13555255740981566162 : Unit := ()
noncomputable def a.tw5814047831733314640 : Unit := ()
noncomputable def a.tw14479374894456884145 : Unit := ()
noncomputable def a.tw11211557684189298182 : Unit := ()
noncomputable def a.tw13758463604276448791 : Unit := ()
noncomputable def a.tw15205044745548984782 : Unit := ()
noncomputable def a.tw15887884711182147712 : Unit := ()
noncomputable def a.tw5724965387905342670 : Unit := ()
noncomputable def a.tw13017271904962050549 : Unit := ()
noncomputable def a.tw948589471044012201 : Unit := ()
noncomputable def a.tw80666156230709207 : Unit := ()
noncomputable def a.tw2865602542582889703 : Unit := ()
noncomputable def a.tw16946282436806105589 : Unit := ()
noncomputable def a.tw9326951574129916575 : Unit := ()
noncomputable def a.tw6111771723433082991 : Unit := ()
noncomputable def a.tw17599866321170658474 : Unit := ()
noncomputable def a.tw101360237215197870 : Unit := ()
noncomputable def a.tw18284555063553847829 : Unit := ()
noncomputable def a.tw10872960845195866887 : Unit := ()
noncomputable def a.tw4391338380847298560 : Unit := ()
noncomputable def a.tw1565846173524035210 : Unit := ()
noncomputable def a.tw10757108845585844182 : Unit := ()
noncomputable def a.tw299817868920458554 : Unit := ()
noncomputable def a.tw4474323263890382174 : Unit := ()
noncomputable def a.tw10098926849435212746 : Unit := ()
noncomputable def a.tw15682016706248416002 : Unit := ()
noncomputable def a.tw6805555697171435456 : Unit := ()
noncomputable def a.tw8307773552167182827 : Unit := ()
noncomputable def a.tw15764095152875794201 : Unit := ()
noncomputable def a.tw3156473748435317017 : Unit := ()
noncomputable def a.tw2285735894796248159 : Unit := ()
noncomputable def a.tw2856683370007006327 : Unit := ()
noncomputable def a.tw2958346049048601239 : Unit := ()
noncomputable def a.tw14462654417512223208 : Unit := ()
noncomputable def a.tw12161566962613260634 : Unit := ()
noncomputable def a.tw5235369037914986514 : Unit := ()
noncomputable def a.tw5254283531435208348 : Unit := ()
noncomputable def a.tw15484885668513414623 : Unit := ()
noncomputable def a.tw17957495025200573901 : Unit := ()
noncomputable def a.tw6516028079603887561 : Unit := ()
noncomputable def a.tw17683815910825124495 : Unit := ()
noncomputable def a.tw470343943259063820 : Unit := ()
noncomputable def a.tw15601125074668923612 : Unit := ()
noncomputable def a.tw498783157839574403 : Unit := ()
noncomputable def a.tw6943997645826268039 : Unit := ()
noncomputable def a.tw6280799898484688091 : Unit := ()
noncomputable def a.tw3441232400588305596 : Unit := ()
noncomputable def a.tw2243555778530058090 : Unit := ()
noncomputable def a.tw10414414056424807827 : Unit := ()
noncomputable def a.tw15065689232952323868 : Unit := ()
noncomputable def a.tw14184259447539242570 : Unit := ()
noncomputable def a.tw1559505455595990219 : Unit := ()
noncomputable def a.tw476530782409431043 : Unit := ()
noncomputable def a.tw17569957468895330682 : Unit := ()
noncomputable def a.tw8905861820629976184 : Unit := ()
noncomputable def a.tw6717934566707583661 : Unit := ()
noncomputable def a.tw13730392879573350608 : Unit := ()
noncomputable def a.tw7721560557869219207 : Unit := ()
noncomputable def a.tw1067504114020330313 : Unit := ()
noncomputable def a.tw11647365404432997180 : Unit := ()
noncomputable def a.tw4898728024935348211 : Unit := ()
noncomputable def a.tw15324926370726211548 : Unit := ()
noncomputable def a.tw17497375379552688638 : Unit := ()
noncomputable def a.tw4714945723292005249 : Unit := ()
noncomputable def a.tw12152519880652053034 : Unit := ()
noncomputable def a.tw43416522379452036 : Unit := ()
noncomputable def a.tw13721331355991050722 : Unit := ()
noncomputable def a.tw861849947327440570 : Unit := ()
noncomputable def a.tw18042427207601795390 : Unit := ()
noncomputable def a.tw17008125635435717479 : Unit := ()
noncomputable def a.tw18110524411697236057 : Unit := ()
noncomputable def a.tw1964613705019752223 : Unit := ()
noncomputable def a.tw18353778895558428584 : Unit := ()
noncomputable def a.tw17545879838343841393 : Unit := ()
noncomputable def a.tw9210118268294717806 : Unit := ()
noncomputable def a.tw15611951240955842984 : Unit := ()
noncomputable def a.tw6238313021535077193 : Unit := ()
noncomputable def a.tw11889846220610786763 : Unit := ()
noncomputable def a.tw7406586041710692862 : Unit := ()
noncomputable def a.tw11235861616321960755 : Unit := ()
noncomputable def a.tw13465311605664157222 : Unit := ()
noncomputable def a.tw12439723166655350402 : Unit := ()
noncomputable def a.tw7099800785944050500 : Unit := ()
noncomputable def a.tw170435959110759385 : Unit := ()
noncomputable def a.tw14858196778499757595 : Unit := ()
noncomputable def a.tw10468949280036730522 : Unit := ()
noncomputable def a.tw12530344627528540349 : Unit := ()
noncomputable def a.tw628902930071356967 : Unit := ()
noncomputable def a.tw8718178236291353533 : Unit := ()
noncomputable def a.tw2654714996017070287 : Unit := ()
noncomputable def a.tw14175559429841043246 : Unit := ()
noncomputable def a.tw16149787570550322047 : Unit := ()
noncomputable def a.tw13558883553981572119 : Unit := ()
noncomputable def a.tw14018442588795435256 : Unit := ()
noncomputable def a.tw8949288101415825475 : Unit := ()
noncomputable def a.tw958863538813143731 : Unit := ()
noncomputable def a.tw646042296450645023 : Unit := ()
noncomputable def a.tw53655274848887274 : Unit := ()
noncomputable def a.tw15821939092410317148 : Unit := ()
noncomputable def a.tw17789035363531740827 : Unit := ()
noncomputable def a.tw11417048338189741690 : Unit := ()
noncomputable def a.tw5505340002173869264 : Unit := ()
noncomputable def a.tw9767153605777463765 : Unit := ()
noncomputable def a.tw5919154894799842622 : Unit := ()
noncomputable def a.tw14226473069891236350 : Unit := ()
noncomputable def a.tw5370247271422978024 : Unit := ()
noncomputable def a.tw13332765339332520318 : Unit := ()
noncomputable def a.tw13472565604875338629 : Unit := ()
noncomputable def a.tw12518770247499081798 : Unit := ()
noncomputable def a.tw14303739298682959589 : Unit := ()
noncomputable def a.tw10146257586590570721 : Unit := ()
noncomputable def a.tw8507444143509893021 : Unit := ()
noncomputable def a.tw18298547671188028815 : Unit := ()
noncomputable def a.tw5399858586503511581 : Unit := ()
noncomputable def a.tw8937106779314799029 : Unit := ()
noncomputable def a.tw17943719761211654490 : Unit := ()
noncomputable def a.tw16568981389386684546 : Unit := ()
noncomputable def a.tw9999282730552362068 : Unit := ()
noncomputable def a.tw9170233424866395083 : Unit := ()
noncomputable def a.tw15616606530216737479 : Unit := ()
noncomputable def a.tw4683003200299284870 : Unit := ()
noncomputable def a.tw3206568481663541754 : Unit := ()
noncomputable def a.tw11102551881386385596 : Unit := ()
noncomputable def a.tw4527051965852506474 : Unit := ()
noncomputable def a.tw14009086411823158210 : Unit := ()
noncomputable def a.tw4344550860628909979 : Unit := ()
noncomputable def a.tw1089023156376916501 : Unit := ()
noncomputable def a.tw15106836544608582470 : Unit := ()
noncomputable def a.tw10755500539802680674 : Unit := ()
noncomputable def a.tw3993518074690353864 : Unit := ()
noncomputable def a.tw2251256258236345810 : Unit := ()
noncomputable def a.tw4919287323059812485 : Unit := ()
noncomputable def a.tw6568116833864793203 : Unit := ()
noncomputable def a.tw15913355254544391982 : Unit := ()
noncomputable def a.tw14180497794460430601 : Unit := ()
noncomputable def a.tw891265989497256347 : Unit := ()
noncomputable def a.tw13855942771165252610 : Unit := ()
noncomputable def a.tw7193167608403806899 : Unit := ()
noncomputable def a.tw9073288216048459011 : Unit := ()
noncomputable def a.tw16323031843115089429 : Unit := ()
noncomputable def a.tw17605511564393030894 : Unit := ()
noncomputable def a.tw1812544933197022791 : Unit := ()
noncomputable def a.tw15650674963613877691 : Unit := ()
noncomputable def a.tw12708658664475996971 : Unit := ()
noncomputable def a.tw517421147030780310 : Unit := ()
noncomputable def a.tw15311363088012941659 : Unit := ()
noncomputable def a.tw894050099925222088 : Unit := ()
noncomputable def a.tw7141248452970754461 : Unit := ()
noncomputable def a.tw9440198013656300293 : Unit := ()
noncomputable def a.tw3662852849501987415 : Unit := ()
noncomputable def a.tw352990995214415468 : Unit := ()
noncomputable def a.tw4728886547025105658 : Unit := ()
noncomputable def a.tw222746507176318272 : Unit := ()
noncomputable def a.tw11309498891496218005 : Unit := ()
noncomputable def a.tw8182995820770701782 : Unit := ()
noncomputable def a.tw7748417971867957351 : Unit := ()
noncomputable def a.tw6479108959468933101 : Unit := ()
noncomputable def a.tw7097419899052261730 : Unit := ()
noncomputable def a.tw17319974630796088516 : Unit := ()
noncomputable def a.tw51904952473896891 : Unit := ()
noncomputable def a.tw6790383666389981459 : Unit := ()
noncomputable def a.tw1836510818236264124 : Unit := ()
noncomputable def a.tw17419149092357445061 : Unit := ()
noncomputable def a.tw9439270876925110306 : Unit := ()
noncomputable def a.tw17620773995086234672 : Unit := ()
noncomputable def a.tw15161057366173536801 : Unit := ()
noncomputable def a.tw16034474538235150771 : Unit := ()
noncomputable def a.tw17231231289082114421 : Unit := ()
noncomputable def a.tw17573078377572114839 : Unit := ()
noncomputable def a.tw14660978163007898675 : Unit := ()
noncomputable def a.tw125217956693906221 : Unit := ()
noncomputable def a.tw18200177234746175414 : Unit := ()
noncomputable def a.tw1289899125437172163 : Unit := ()
noncomputable def a.tw3762771447921030571 : Unit := ()
noncomputable def a.tw3931699045249817733 : Unit := ()
noncomputable def a.tw9816251475319576042 : Unit := ()
noncomputable def a.tw5294991011830214641 : Unit := ()
noncomputable def a.tw10511416034355054199 : Unit := ()
noncomputable def a.tw12089412130375013154 : Unit := ()
noncomputable def a.tw12530088196595814003 : Unit := ()
noncomputable def a.tw1664453456567616298 : Unit := ()
noncomputable def a.tw10815334379981658100 : Unit := ()
noncomputable def a.tw16796882904787135556 : Unit := ()
noncomputable def a.tw8239844056419297373 : Unit := ()
noncomputable def a.tw3885131222183063434 : Unit := ()
noncomputable def a.tw9427881044119204887 : Unit := ()
noncomputable def a.tw18119690650932097284 : Unit := ()
noncomputable def a.tw7184562843309233702 : Unit := ()
noncomputable def a.tw1482838082806374169 : Unit := ()
noncomputable def a.tw3054078043575948010 : Unit := ()
noncomputable def a.tw14189980223037965113 : Unit := ()
noncomputable def a.tw9206731828255857650 : Unit := ()
noncomputable def a.tw925326327426021549 : Unit := ()
noncomputable def a.tw10196696808208671804 : Unit := ()
noncomputable def a.tw2693448361699867911 : Unit := ()
noncomputable def a.tw11037168842172565102 : Unit := ()
noncomputable def a.tw11149913697454109408 : Unit := ()
noncomputable def a.tw9284470397109606484 : Unit := ()
noncomputable def a.tw7267820365284142517 : Unit := ()
noncomputable def a.tw15731447756789624210 : Unit := ()
noncomputable def a.tw3509669829418648504 : Unit := ()
noncomputable def a.tw10674002510245393985 : Unit := ()
noncomputable def a.tw11243747591421056149 : Unit := ()
noncomputable def a.tw11705463119410037909 : Unit := ()
noncomputable def a.tw1827617646036499985 : Unit := ()
noncomputable def a.tw14090892449944062658 : Unit := ()
noncomputable def a.tw5932118514430208585 : Unit := ()
noncomputable def a.tw10687885043088144734 : Unit := ()
noncomputable def a.tw14155799764667875423 : Unit := ()
noncomputable def a.tw5741907334624406464 : Unit := ()
noncomputable def a.tw11886476465711690148 : Unit := ()
noncomputable def a.tw1652510198522799160 : Unit := ()
noncomputable def a.tw15178314917952357147 : Unit := ()
noncomputable def a.tw1907202659735260764 : Unit := ()
noncomputable def a.tw10366168466164156630 : Unit := ()
noncomputable def a.tw759806045873404997 : Unit := ()
noncomputable def a.tw2617369825803765761 : Unit := ()
noncomputable def a.tw15373060903059246022 : Unit := ()
noncomputable def a.tw2648081830964963488 : Unit := ()
noncomputable def a.tw14559544271608643946 : Unit := ()
noncomputable def a.tw13742183832136504561 : Unit := ()
noncomputable def a.tw14202892724832466589 : Unit := ()
noncomputable def a.tw11886201423108090504 : Unit := ()
noncomputable def a.tw3129041509546827779 : Unit := ()
noncomputable def a.tw12711707002266728887 : Unit := ()
noncomputable def a.tw6426952306119161280 : Unit := ()
noncomputable def a.tw17944791121065716342 : Unit := ()
noncomputable def a.tw11909741764711228276 : Unit := ()
noncomputable def a.tw12972628381620528293 : Unit := ()
noncomputable def a.tw17407314814952042616 : Unit := ()
noncomputable def a.tw6397756218258387656 : Unit := ()
noncomputable def a.tw5476901449414152060 : Unit := ()
noncomputable def a.tw17727714876264055021 : Unit := ()
noncomputable def a.tw13906476018577670109 : Unit := ()
noncomputable def a.tw12816859022647940295 : Unit := ()
noncomputable def a.tw13948041274924588516 : Unit := ()
noncomputable def a.tw11198778474441832371 : Unit := ()
noncomputable def a.tw7653754229019237270 : Unit := ()
noncomputable def a.tw4260405169562848653 : Unit := ()
noncomputable def a.tw16539248504812188742 : Unit := ()
noncomputable def a.tw12625674429430133757 : Unit := ()
noncomputable def a.tw14341134093346766471 : Unit := ()
noncomputable def a.tw14901476433815812620 : Unit := ()
noncomputable def a.tw3370881317792742391 : Unit := ()
noncomputable def a.tw3225313787528031843 : Unit := ()
noncomputable def a.tw18042471388630583197 : Unit := ()
noncomputable def a.tw14075004723641702333 : Unit := ()
noncomputable def a.tw5457964785406982791 : Unit := ()
noncomputable def a.tw1385041819585408416 : Unit := ()
noncomputable def a.tw4530953502367368888 : Unit := ()
noncomputable def a.tw6219018980188476590 : Unit := ()
noncomputable def a.tw3483120833775447415 : Unit := ()
noncomputable def a.tw13481929457503413244 : Unit := ()
noncomputable def a.tw6135489668107841750 : Unit := ()
noncomputable def a.tw9236507503477666682 : Unit := ()
noncomputable def a.tw7475671870993400051 : Unit := ()
noncomputable def a.tw4806346597927602806 : Unit := ()
noncomputable def a.tw694892686718763729 : Unit := ()
noncomputable def a.tw3428352344595361388 : Unit := ()
noncomputable def a.tw15421492585143155632 : Unit := ()
noncomputable def a.tw17837496787440768530 : Unit := ()
noncomputable def a.tw10732055483782550931 : Unit := ()
noncomputable def a.tw1367117996134855532 : Unit := ()
noncomputable def a.tw17158779068489158458 : Unit := ()
noncomputable def a.tw13474593345360611202 : Unit := ()
noncomputable def a.tw6152912222236850949 : Unit := ()
noncomputable def a.tw10192017661623909083 : Unit := ()
noncomputable def a.tw18017718344412988730 : Unit := ()
noncomputable def a.tw1644652104616091754 : Unit := ()
noncomputable def a.tw17048960397956936316 : Unit := ()
noncomputable def a.tw3670475268055129740 : Unit := ()
noncomputable def a.tw10026181686466157662 : Unit := ()
noncomputable def a.tw6630606423362302625 : Unit := ()
noncomputable def a.tw13515120780187258134 : Unit := ()
noncomputable def a.tw7507512036453866302 : Unit := ()
noncomputable def a.tw16465263428184152155 : Unit := ()
noncomputable def a.tw7920068417108770791 : Unit := ()
noncomputable def a.tw13967692791985889184 : Unit := ()
noncomputable def a.tw11813509281774740451 : Unit := ()
noncomputable def a.tw7089237532824267755 : Unit := ()
noncomputable def a.tw9700863428121206601 : Unit := ()
noncomputable def a.tw14556971716496201283 : Unit := ()
noncomputable def a.tw9438968144925038545 : Unit := ()
noncomputable def a.tw15118931417397065370 : Unit := ()
noncomputable def a.tw595037718349725088 : Unit := ()
noncomputable def a.tw3025986577679391337 : Unit := ()
noncomputable def a.tw2193575681038942439 : Unit := ()
noncomputable def a.tw15073082053929209310 : Unit := ()
noncomputable def a.tw10215690325384248623 : Unit := ()
noncomputable def a.tw3562188633006362642 : Unit := ()
noncomputable def a.tw9760967463208537595 : Unit := ()
noncomputable def a.tw14908120551538027824 : Unit := ()
noncomputable def a.tw7557885107590413653 : Unit := ()
noncomputable def a.tw12324997611460604663 : Unit := ()
noncomputable def a.tw17939313671675114157 : Unit := ()
noncomputable def a.tw9440987177334233029 : Unit := ()
noncomputable def a.tw13968274163502513713 : Unit := ()
noncomputable def a.tw4514551909740934570 : Unit := ()
noncomputable def a.tw9187821583380864490 : Unit := ()
noncomputable def a.tw14663712667263643039 : Unit := ()
noncomputable def a.tw1513139742983913688 : Unit := ()
noncomputable def a.tw13104691137863801059 : Unit := ()
noncomputable def a.tw9901478104184145014 : Unit := ()
noncomputable def a.tw1331803589519693396 : Unit := ()
noncomputable def a.tw4658004139353515295 : Unit := ()
noncomputable def a.tw3865478968754800156 : Unit := ()
noncomputable def a.tw14955713778760754416 : Unit := ()
noncomputable def a.tw14905886543440532613 : Unit := ()
noncomputable def a.tw9290856341723879657 : Unit := ()
noncomputable def a.tw8115761727366572493 : Unit := ()
noncomputable def a.tw15068724754542695438 : Unit := ()
noncomputable def a.tw6548020205511159762 : Unit := ()
noncomputable def a.tw15825258038753861494 : Unit := ()
noncomputable def a.tw12560122475882382973 : Unit := ()
noncomputable def a.tw4258488667798725142 : Unit := ()
noncomputable def a.tw8558440327916026830 : Unit := ()
noncomputable def a.tw2607328572370732001 : Unit := ()
noncomputable def a.tw6267205355616298988 : Unit := ()
noncomputable def a.tw18260245760027024097 : Unit := ()
noncomputable def a.tw9007152368794742016 : Unit := ()
noncomputable def a.tw3451640642403015132 : Unit := ()
noncomputable def a.tw2678208883472924829 : Unit := ()
noncomputable def a.tw2116444781052004072 : Unit := ()
noncomputable def a.tw6658560823472443991 : Unit := ()
noncomputable def a.tw13186068804834313562 : Unit := ()
noncomputable def a.tw7557570711885734378 : Unit := ()
noncomputable def a.tw2095225308489320991 : Unit := ()
noncomputable def a.tw10833272379191359284 : Unit := ()
noncomputable def a.tw14618227583163522421 : Unit := ()
noncomputable def a.tw16669074142475457915 : Unit := ()
noncomputable def a.tw8785827449086697644 : Unit := ()
noncomputable def a.tw12458421219740422019 : Unit := ()
noncomputable def a.tw15570012579181571144 : Unit := ()
noncomputable def a.tw15719226914351720410 : Unit := ()
noncomputable def a.tw17893609893904514535 : Unit := ()
noncomputable def a.tw8521575635290887695 : Unit := ()
noncomputable def a.tw17272889499840528426 : Unit := ()
noncomputable def a.tw2336514623869370653 : Unit := ()
noncomputable def a.tw14315659887479349251 : Unit := ()
noncomputable def a.tw15264759921029566466 : Unit := ()
noncomputable def a.tw10930887516988266968 : Unit := ()
noncomputable def a.tw5916198308539722751 : Unit := ()
noncomputable def a.tw7198941706164099298 : Unit := ()
noncomputable def a.tw13006873972979764568 : Unit := ()
noncomputable def a.tw15606121983833968462 : Unit := ()
noncomputable def a.tw850571124807453149 : Unit := ()
noncomputable def a.tw16907071119231602209 : Unit := ()
noncomputable def a.tw7031900832834404252 : Unit := ()
noncomputable def a.tw3991916379056158487 : Unit := ()
noncomputable def a.tw9800118865242634780 : Unit := ()
noncomputable def a.tw1542572950834800843 : Unit := ()
noncomputable def a.tw17306636268646947499 : Unit := ()
noncomputable def a.tw5280013951619933296 : Unit := ()
noncomputable def a.tw17354294490226432458 : Unit := ()
noncomputable def a.tw907744406968584355 : Unit := ()
noncomputable def a.tw14748123297811634552 : Unit := ()
noncomputable def a.tw14678841264277268154 : Unit := ()
noncomputable def a.tw8711949063782401423 : Unit := ()
noncomputable def a.tw13683164492875693098 : Unit := ()
noncomputable def a.tw10558588655286441167 : Unit := ()
noncomputable def a.tw14492080231299539566 : Unit := ()
noncomputable def a.tw16887723746387067074 : Unit := ()
noncomputable def a.tw5609373155248201291 : Unit := ()
noncomputable def a.tw11663678556039871951 : Unit := ()
noncomputable def a.tw16594130602847606603 : Unit := ()
noncomputable def a.tw4436200660024624009 : Unit := ()
noncomputable def a.tw10603975052869242704 : Unit := ()
noncomputable def a.tw7531871978711651521 : Unit := ()
noncomputable def a.tw14886465300508212980 : Unit := ()
noncomputable def a.tw218447313751326503 : Unit := ()
noncomputable def a.tw96619949791694486 : Unit := ()
noncomputable def a.tw17121200790139340531 : Unit := ()
noncomputable def a.tw3539318222706344607 : Unit := ()
noncomputable def a.tw17019475273449597271 : Unit := ()
noncomputable def a.tw11968454235043348992 : Unit := ()
noncomputable def a.tw17639719751049208112 : Unit := ()
noncomputable def a.tw15096519844499285621 : Unit := ()
noncomputable def a.tw12219276598073897574 : Unit := ()
noncomputable def a.tw5273898465007791885 : Unit := ()
noncomputable def a.tw2273017237240083342 : Unit := ()
noncomputable def a.tw8396915157505411133 : Unit := ()
noncomputable def a.tw311642063579881336 : Unit := ()
noncomputable def a.tw16994136983428963139 : Unit := ()
noncomputable def a.tw17098821719067589415 : Unit := ()
noncomputable def a.tw16529724774822614388 : Unit := ()
noncomputable def a.tw15103346835614800270 : Unit := ()
noncomputable def a.tw584456418404827371 : Unit := ()
noncomputable def a.tw8402299901475760724 : Unit := ()
noncomputable def a.tw12487561823052551905 : Unit := ()
noncomputable def a.tw6338377108148407176 : Unit := ()
noncomputable def a.tw16363745702736142238 : Unit := ()
noncomputable def a.tw7242690195659559491 : Unit := ()
noncomputable def a.tw11202822276996844766 : Unit := ()
noncomputable def a.tw2428007604030966383 : Unit := ()
noncomputable def a.tw3771540357500636405 : Unit := ()
noncomputable def a.tw15374824613633018884 : Unit := ()
noncomputable def a.tw7817999926396611044 : Unit := ()
noncomputable def a.tw13325541957770883327 : Unit := ()
noncomputable def a.tw3560734915426511207 : Unit := ()
noncomputable def a.tw8346051615434307733 : Unit := ()
noncomputable def a.tw9057379490750731145 : Unit := ()
noncomputable def a.tw13755082840899954309 : Unit := ()
noncomputable def a.tw2579615469649958183 : Unit := ()
noncomputable def a.tw7841062691282729162 : Unit := ()
noncomputable def a.tw3221961940155332045 : Unit := ()
noncomputable def a.tw7310717287626140831 : Unit := ()
noncomputable def a.tw7417094674634241148 : Unit := ()
noncomputable def a.tw13508001246256222198 : Unit := ()
noncomputable def a.tw6459722537128417460 : Unit := ()
noncomputable def a.tw8189339285196991330 : Unit := ()
noncomputable def a.tw6661287378388244789 : Unit := ()
noncomputable def a.tw7690799092407659140 : Unit := ()
noncomputable def a.tw1505474158137400402 : Unit := ()
noncomputable def a.tw6742770464634789714 : Unit := ()
noncomputable def a.tw15189356880631688628 : Unit := ()
noncomputable def a.tw6208134945976635922 : Unit := ()
noncomputable def a.tw17979706817602763393 : Unit := ()
noncomputable def a.tw6545712395885715314 : Unit := ()
noncomputable def a.tw9523758806950747258 : Unit := ()
noncomputable def a.tw14488303411191028649 : Unit := ()
noncomputable def a.tw7984409863228648370 : Unit := ()
noncomputable def a.tw2342040144887523744 : Unit := ()
noncomputable def a.tw16272166697408478966 : Unit := ()
noncomputable def a.tw5469356623125026898 : Unit := ()
noncomputable def a.tw4097770304774002406 : Unit := ()
noncomputable def a.tw16129973646425638714 : Unit := ()
noncomputable def a.tw13745866254380318524 : Unit := ()
noncomputable def a.tw13280086298603950511 : Unit := ()
noncomputable def a.tw5227236714280265776 : Unit := ()
noncomputable def a.tw2071576788187297109 : Unit := ()
noncomputable def a.tw11653263585567726690 : Unit := ()
noncomputable def a.tw3499251857413711010 : Unit := ()
noncomputable def a.tw9982551236029407057 : Unit := ()
noncomputable def a.tw11667367402394322911 : Unit := ()
noncomputable def a.tw5857485436934935707 : Unit := ()
noncomputable def a.tw13785643240908119742 : Unit := ()
noncomputable def a.tw16319229213303968974 : Unit := ()
noncomputable def a.tw4762414681951535504 : Unit := ()
noncomputable def a.tw9094010880250674671 : Unit := ()
noncomputable def a.tw317281374792690470 : Unit := ()
noncomputable def a.tw18363571670795385045 : Unit := ()
noncomputable def a.tw3091002141809387192 : Unit := ()
noncomputable def a.tw16448967134477676077 : Unit := ()
noncomputable def a.tw7721488242622084124 : Unit := ()
noncomputable def a.tw747663121252698493 : Unit := ()
noncomputable def a.tw3701763036725336169 : Unit := ()
noncomputable def a.tw16265754899657990778 : Unit := ()
noncomputable def a.tw2662337832300090718 : Unit := ()
noncomputable def a.tw2093293777161260819 : Unit := ()
noncomputable def a.tw16715423503885408168 : Unit := ()
noncomputable def a.tw8523978693481618219 : Unit := ()
noncomputable def a.tw17695657495511805010 : Unit := ()
noncomputable def a.tw4198793724549728415 : Unit := ()
noncomputable def a.tw8004386760881990650 : Unit := ()
noncomputable def a.tw12780649990577097605 : Unit := ()
noncomputable def a.tw12753987477204489993 : Unit := ()
noncomputable def a.tw766430684050831533 : Unit := ()
noncomputable def a.tw17414209193486351964 : Unit := ()
noncomputable def a.tw1882345093968676155 : Unit := ()
noncomputable def a.tw16980777123559634209 : Unit := ()
noncomputable def a.tw16407470880656035698 : Unit := ()
noncomputable def a.tw1473953687477817960 : Unit := ()
noncomputable def a.tw844942291217593241 : Unit := ()
noncomputable def a.tw5578796787951583611 : Unit := ()
noncomputable def a.tw1978255500831527368 : Unit := ()
noncomputable def a.tw5645056696762340519 : Unit := ()
noncomputable def a.tw5489137484166052078 : Unit := ()
noncomputable def a.tw9235986565145070294 : Unit := ()
noncomputable def a.tw13841803653511502047 : Unit := ()
noncomputable def a.tw8054243876099434218 : Unit := ()
noncomputable def a.tw6680730991615610276 : Unit := ()
noncomputable def a.tw2810468387963096420 : Unit := ()
noncomputable def a.tw13876003817005848774 : Unit := ()
noncomputable def a.tw4552398406108610812 : Unit := ()
noncomputable def a.tw15205593220099658790 : Unit := ()
noncomputable def a.tw3273949805257000788 : Unit := ()
noncomputable def a.tw8768415456583685928 : Unit := ()
noncomputable def a.tw16250281413207427926 : Unit := ()
noncomputable def a.tw9392631832540079610 : Unit := ()
noncomputable def a.tw13691792303060969765 : Unit := ()
noncomputable def a.tw634343372839420607 : Unit := ()
noncomputable def a.tw2655676704349063784 : Unit := ()
noncomputable def a.tw4465393095932238853 : Unit := ()
noncomputable def a.tw8931356119304349549 : Unit := ()
noncomputable def a.tw11785673314824149305 : Unit := ()
noncomputable def a.tw6860277444569984512 : Unit := ()
noncomputable def a.tw1225269269256457099 : Unit := ()
noncomputable def a.tw8601022577853769793 : Unit := ()
noncomputable def a.tw5826730380167848224 : Unit := ()
noncomputable def a.tw11557223058809732916 : Unit := ()
noncomputable def a.tw7655274609942761696 : Unit := ()
noncomputable def a.tw11464167504559777441 : Unit := ()
noncomputable def a.tw3013568727184314136 : Unit := ()
noncomputable def a.tw8438418521396977930 : Unit := ()
noncomputable def a.tw16700559444445783073 : Unit := ()
noncomputable def a.tw8705501150082443795 : Unit := ()
noncomputable def a.tw4211770171914545068 : Unit := ()
noncomputable def a.tw10440947054095299463 : Unit := ()
noncomputable def a.tw9187203860028372747 : Unit := ()
noncomputable def a.tw10781591463678446169 : Unit := ()
noncomputable def a.tw241974753143043080 : Unit := ()
noncomputable def a.tw11542118178154084888 : Unit := ()
noncomputable def a.tw2157327526493196612 : Unit := ()
noncomputable def a.tw3582262874474279558 : Unit := ()
noncomputable def a.tw7310689481802240829 : Unit := ()
noncomputable def a.tw11965649943338910838 : Unit := ()
noncomputable def a.tw4418849102505881272 : Unit := ()
noncomputable def a.tw16324482676739832946 : Unit := ()
noncomputable def a.tw14490902355093084493 : Unit := ()
noncomputable def a.tw8345294964263227669 : Unit := ()
noncomputable def a.tw1847867285332159922 : Unit := ()
noncomputable def a.tw10076296463963503832 : Unit := ()
noncomputable def a.tw14510618481003111346 : Unit := ()
noncomputable def a.tw13843294157296982135 : Unit := ()
noncomputable def a.tw13121052228149067618 : Unit := ()
noncomputable def a.tw2452465503120157207 : Unit := ()
noncomputable def a.tw15655494450140406235 : Unit := ()
noncomputable def a.tw8561974424630533887 : Unit := ()
noncomputable def a.tw14992585313511072324 : Unit := ()
noncomputable def a.tw18422657958865938330 : Unit := ()
noncomputable def a.tw9669497131290424044 : Unit := ()
noncomputable def a.tw6484475754760044297 : Unit := ()
noncomputable def a.tw10922483450028271692 : Unit := ()
noncomputable def a.tw10639902258389820784 : Unit := ()
noncomputable def a.tw2575747527849535593 : Unit := ()
noncomputable def a.tw12511046452380843308 : Unit := ()
noncomputable def a.tw18423205315628047151 : Unit := ()
noncomputable def a.tw7598163986586854186 : Unit := ()
noncomputable def a.tw11423734898049877101 : Unit := ()
noncomputable def a.tw2068896932069298731 : Unit := ()
noncomputable def a.tw512105873476824805 : Unit := ()
noncomputable def a.tw14938977587592426450 : Unit := ()
noncomputable def a.tw5345045845634544203 : Unit := ()
noncomputable def a.tw12189465715172204800 : Unit := ()
noncomputable def a.tw12537213867200898102 : Unit := ()
noncomputable def a.tw1874867058055018755 : Unit := ()
noncomputable def a.tw3378804723039990615 : Unit := ()
noncomputable def a.tw14320300756773947025 : Unit := ()
noncomputable def a.tw12028674676902137442 : Unit := ()
noncomputable def a.tw12751061806052809478 : Unit := ()
noncomputable def a.tw10777260674930812473 : Unit := ()
noncomputable def a.tw2068812216130356049 : Unit := ()
noncomputable def a.tw32204480595300167 : Unit := ()
noncomputable def a.tw9943356762614716075 : Unit := ()
noncomputable def a.tw16225271669729132232 : Unit := ()
noncomputable def a.tw11207183788327036321 : Unit := ()
noncomputable def a.tw18384868001721181891 : Unit := ()
noncomputable def a.tw6465964754532434866 : Unit := ()
noncomputable def a.tw3980742940114647167 : Unit := ()
noncomputable def a.tw17154411148988252405 : Unit := ()
noncomputable def a.tw14201361634864168611 : Unit := ()
noncomputable def a.tw7963327518344822077 : Unit := ()
noncomputable def a.tw9922016436449661952 : Unit := ()
noncomputable def a.tw14002804033611254201 : Unit := ()
noncomputable def a.tw10231600641708489506 : Unit := ()
noncomputable def a.tw10384604671267382460 : Unit := ()
noncomputable def a.tw3843054569544761646 : Unit := ()
noncomputable def a.tw15972025987127548586 : Unit := ()
noncomputable def a.tw1650419706657334672 : Unit := ()
noncomputable def a.tw13085789454912268675 : Unit := ()
noncomputable def a.tw8256438888580224410 : Unit := ()
noncomputable def a.tw17044996245811018334 : Unit := ()
noncomputable def a.tw5015639579437788536 : Unit := ()
noncomputable def a.tw7053538028987045508 : Unit := ()
noncomputable def a.tw11062600542863157077 : Unit := ()
noncomputable def a.tw68509830700352255 : Unit := ()
noncomputable def a.tw8142638368278365291 : Unit := ()
noncomputable def a.tw10854085218509304828 : Unit := ()
noncomputable def a.tw4794322693150764895 : Unit := ()
noncomputable def a.tw13556658323636172870 : Unit := ()
noncomputable def a.tw6650167322785361823 : Unit := ()
noncomputable def a.tw13922478775477291333 : Unit := ()
noncomputable def a.tw5602398146399392021 : Unit := ()
noncomputable def a.tw16209239447587277904 : Unit := ()
noncomputable def a.tw11171236104437493342 : Unit := ()
noncomputable def a.tw5253810883705750448 : Unit := ()
noncomputable def a.tw8540258991186899857 : Unit := ()
noncomputable def a.tw14402330271944329623 : Unit := ()
noncomputable def a.tw2421514039332045558 : Unit := ()
noncomputable def a.tw17672577660463091457 : Unit := ()
noncomputable def a.tw4338778198856354982 : Unit := ()
noncomputable def a.tw8242541941143804094 : Unit := ()
noncomputable def a.tw1090459844568904296 : Unit := ()
noncomputable def a.tw1756768862784240618 : Unit := ()
noncomputable def a.tw16097009281981366191 : Unit := ()
noncomputable def a.tw1056971862635050060 : Unit := ()
noncomputable def a.tw723277637779190962 : Unit := ()
noncomputable def a.tw17340369529571073396 : Unit := ()
noncomputable def a.tw16605281503694716232 : Unit := ()
noncomputable def a.tw4414995467470017887 : Unit := ()
noncomputable def a.tw13706578304212516011 : Unit := ()
noncomputable def a.tw3797875474283391425 : Unit := ()
noncomputable def a.tw3730923630556560190 : Unit := ()
noncomputable def a.tw15680654375082070207 : Unit := ()
noncomputable def a.tw10705080899519102892 : Unit := ()
noncomputable def a.tw5091163374468930577 : Unit := ()
noncomputable def a.tw12403927960543486283 : Unit := ()
noncomputable def a.tw2812399441012600230 : Unit := ()
noncomputable def a.tw10261711962065559573 : Unit := ()
noncomputable def a.tw6557467873696688665 : Unit := ()
noncomputable def a.tw14764379784593747678 : Unit := ()
noncomputable def a.tw13895003717862734891 : Unit := ()
noncomputable def a.tw2942404118951114767 : Unit := ()
noncomputable def a.tw11432267874719447844 : Unit := ()
noncomputable def a.tw2594118541232574098 : Unit := ()
noncomputable def a.tw8026562694379004922 : Unit := ()
noncomputable def a.tw10767386914407720557 : Unit := ()
noncomputable def a.tw12385092065236968203 : Unit := ()
noncomputable def a.tw16531426448904793582 : Unit := ()
noncomputable def a.tw16249311870163649151 : Unit := ()
noncomputable def a.tw826054274680378766 : Unit := ()
noncomputable def a.tw18170363561179915769 : Unit := ()
noncomputable def a.tw4096659608770745735 : Unit := ()
noncomputable def a.tw10142464342452364099 : Unit := ()
noncomputable def a.tw7082472603874807423 : Unit := ()
noncomputable def a.tw8531839383423502142 : Unit := ()
noncomputable def a.tw13398946450196671895 : Unit := ()
noncomputable def a.tw12372860196540562693 : Unit := ()
noncomputable def a.tw14567008788312439931 : Unit := ()
noncomputable def a.tw6701661254350748798 : Unit := ()
noncomputable def a.tw10249336532956774700 : Unit := ()
noncomputable def a.tw18144263225511497451 : Unit := ()
noncomputable def a.tw10269446985487054753 : Unit := ()
noncomputable def a.tw6951357068963075665 : Unit := ()
noncomputable def a.tw1072342708353853759 : Unit := ()
noncomputable def a.tw15321083631662490525 : Unit := ()
noncomputable def a.tw6415035493874585065 : Unit := ()
noncomputable def a.tw15588708072424518684 : Unit := ()
noncomputable def a.tw2290431147856011821 : Unit := ()
noncomputable def a.tw13557168110794935146 : Unit := ()
noncomputable def a.tw9886363624836033236 : Unit := ()
noncomputable def a.tw7539166761616219148 : Unit := ()
noncomputable def a.tw13328874826344293891 : Unit := ()
noncomputable def a.tw5795379462960392907 : Unit := ()
noncomputable def a.tw9537796501539746551 : Unit := ()
noncomputable def a.tw13816000092292337416 : Unit := ()
noncomputable def a.tw16036088950955651968 : Unit := ()
noncomputable def a.tw6347863259217401201 : Unit := ()
noncomputable def a.tw16446694671261417320 : Unit := ()
noncomputable def a.tw313971333210763775 : Unit := ()
noncomputable def a.tw15902585918466544447 : Unit := ()
noncomputable def a.tw10515268622050994720 : Unit := ()
noncomputable def a.tw11277021116001962424 : Unit := ()
noncomputable def a.tw5828664293547686495 : Unit := ()
noncomputable def a.tw7812331164374751016 : Unit := ()
noncomputable def a.tw4918540132706863677 : Unit := ()
noncomputable def a.tw8759489846488476253 : Unit := ()
noncomputable def a.tw1524013130512899678 : Unit := ()
noncomputable def a.tw14020555649087367727 : Unit := ()
noncomputable def a.tw7988913125092323254 : Unit := ()
noncomputable def a.tw10439417137702356496 : Unit := ()
noncomputable def a.tw4920692229684909526 : Unit := ()
noncomputable def a.tw14099939663660377178 : Unit := ()
noncomputable def a.tw4025467021476485425 : Unit := ()
noncomputable def a.tw5421724770913444510 : Unit := ()
noncomputable def a.tw13745396137371346722 : Unit := ()
noncomputable def a.tw4704031530655182918 : Unit := ()
noncomputable def a.tw11981047028559205666 : Unit := ()
noncomputable def a.tw7770270204134048378 : Unit := ()
noncomputable def a.tw15880575141145203259 : Unit := ()
noncomputable def a.tw9262856788828445202 : Unit := ()
noncomputable def a.tw1447795491018452390 : Unit := ()
noncomputable def a.tw8663906380845601444 : Unit := ()
noncomputable def a.tw7391937210052944602 : Unit := ()
noncomputable def a.tw11914340378796088837 : Unit := ()
noncomputable def a.tw5981603907232857358 : Unit := ()
noncomputable def a.tw1286251090621592084 : Unit := ()
noncomputable def a.tw16758806599491534041 : Unit := ()
noncomputable def a.tw1352754399513841238 : Unit := ()
noncomputable def a.tw10235080813824776642 : Unit := ()
noncomputable def a.tw9026284875038662748 : Unit := ()
noncomputable def a.tw17900988304081420260 : Unit := ()
noncomputable def a.tw15734286501731710443 : Unit := ()
noncomputable def a.tw15021322397164224101 : Unit := ()
noncomputable def a.tw9948996103465412377 : Unit := ()
noncomputable def a.tw9856372018547392267 : Unit := ()
noncomputable def a.tw8757633133905231517 : Unit := ()
noncomputable def a.tw6739645994691028919 : Unit := ()
noncomputable def a.tw9192861124947043265 : Unit := ()
noncomputable def a.tw14801480590075640543 : Unit := ()
noncomputable def a.tw6227628525235736516 : Unit := ()
noncomputable def a.tw15976820500452963071 : Unit := ()
noncomputable def a.tw397878958031655637 : Unit := ()
noncomputable def a.tw1772888364981841000 : Unit := ()
noncomputable def a.tw11195573834558388714 : Unit := ()
noncomputable def a.tw14428659008283146654 : Unit := ()
noncomputable def a.tw1736272901562494795 : Unit := ()
noncomputable def a.tw2225616388080990169 : Unit := ()
noncomputable def a.tw4505943664290036728 : Unit := ()
noncomputable def a.tw8850448330072189681 : Unit := ()
noncomputable def a.tw6535771528427132285 : Unit := ()
noncomputable def a.tw13743438999378495087 : Unit := ()
noncomputable def a.tw2426434554966071991 : Unit := ()
noncomputable def a.tw16610646562879377781 : Unit := ()
noncomputable def a.tw210454940506961329 : Unit := ()
noncomputable def a.tw14000360863234704615 : Unit := ()
noncomputable def a.tw18253331443974748215 : Unit := ()
noncomputable def a.tw4884896489623684214 : Unit := ()
noncomputable def a.tw16566537831372666270 : Unit := ()
noncomputable def a.tw2926806952457171943 : Unit := ()
noncomputable def a.tw197612418261804265 : Unit := ()
noncomputable def a.tw3371448674842296258 : Unit := ()
noncomputable def a.tw2403018226276758739 : Unit := ()
noncomputable def a.tw3675417769847214170 : Unit := ()
noncomputable def a.tw1354599673112748536 : Unit := ()
noncomputable def a.tw13545677978031557041 : Unit := ()
noncomputable def a.tw5434959488944747114 : Unit := ()
noncomputable def a.tw18406620612962535079 : Unit := ()
noncomputable def a.tw13267325210461089488 : Unit := ()
noncomputable def a.tw11675636680124534039 : Unit := ()
noncomputable def a.tw9543357603431678275 : Unit := ()
noncomputable def a.tw5651633845815081570 : Unit := ()
noncomputable def a.tw6797289561841197418 : Unit := ()
noncomputable def a.tw13828932808906245442 : Unit := ()
noncomputable def a.tw16630029823360751051 : Unit := ()
noncomputable def a.tw4418529652790008845 : Unit := ()
noncomputable def a.tw14721594268003256531 : Unit := ()
noncomputable def a.tw9436683168639893481 : Unit := ()
noncomputable def a.tw5393848781119965437 : Unit := ()
noncomputable def a.tw5770729338694775846 : Unit := ()
noncomputable def a.tw16466664766823682372 : Unit := ()
noncomputable def a.tw2259578497064900568 : Unit := ()
noncomputable def a.tw13891290182938143781 : Unit := ()
noncomputable def a.tw6886288676356653835 : Unit := ()
noncomputable def a.tw8372854425948240722 : Unit := ()
noncomputable def a.tw5598799722642096233 : Unit := ()
noncomputable def a.tw6301900041355022286 : Unit := ()
noncomputable def a.tw791211572797615090 : Unit := ()
noncomputable def a.tw3570796627114011597 : Unit := ()
noncomputable def a.tw15907414970973846078 : Unit := ()
noncomputable def a.tw5072705367176057325 : Unit := ()
noncomputable def a.tw5516053407333059985 : Unit := ()
noncomputable def a.tw3542519875486479188 : Unit := ()
noncomputable def a.tw17982396398507350854 : Unit := ()
noncomputable def a.tw1186590560179318229 : Unit := ()
noncomputable def a.tw13997932763377420335 : Unit := ()
noncomputable def a.tw18189315992117861296 : Unit := ()
noncomputable def a.tw13357941119313190472 : Unit := ()
noncomputable def a.tw9321510992678280824 : Unit := ()
noncomputable def a.tw6878845614696969997 : Unit := ()
noncomputable def a.tw7419057988526087956 : Unit := ()
noncomputable def a.tw16159919465732967818 : Unit := ()
noncomputable def a.tw7151517799535176894 : Unit := ()
noncomputable def a.tw5998995159987146254 : Unit := ()
noncomputable def a.tw7436946740239048027 : Unit := ()
noncomputable def a.tw8108661898200997199 : Unit := ()
noncomputable def a.tw12101987138795186147 : Unit := ()
noncomputable def a.tw4652539429157970905 : Unit := ()
noncomputable def a.tw6702634850208948388 : Unit := ()
noncomputable def a.tw13145759627901489715 : Unit := ()
noncomputable def a.tw7951882910234772268 : Unit := ()
noncomputable def a.tw14188235948215976272 : Unit := ()
noncomputable def a.tw15128263600278691647 : Unit := ()
noncomputable def a.tw18294917345618326621 : Unit := ()
noncomputable def a.tw6827354137114318732 : Unit := ()
noncomputable def a.tw9042353566502940169 : Unit := ()
noncomputable def a.tw9004180360126146209 : Unit := ()
noncomputable def a.tw3199541025623883617 : Unit := ()
noncomputable def a.tw15488408418132830504 : Unit := ()
noncomputable def a.tw9744604757806356701 : Unit := ()
noncomputable def a.tw15365883830871000522 : Unit := ()
noncomputable def a.tw2700480550908547500 : Unit := ()
noncomputable def a.tw6541786687232938634 : Unit := ()
noncomputable def a.tw18319398523177984012 : Unit := ()
noncomputable def a.tw8844344302694891928 : Unit := ()
noncomputable def a.tw3481428421816370187 : Unit := ()
noncomputable def a.tw3264536641023264203 : Unit := ()
noncomputable def a.tw6698102709182465227 : Unit := ()
noncomputable def a.tw1207076425142950634 : Unit := ()
noncomputable def a.tw3324651122278047287 : Unit := ()
noncomputable def a.tw3690950351143081963 : Unit := ()
noncomputable def a.tw16529529122368167545 : Unit := ()
noncomputable def a.tw5392214394270314519 : Unit := ()
noncomputable def a.tw17214872381708873288 : Unit := ()
noncomputable def a.tw7967695906963730867 : Unit := ()
noncomputable def a.tw16244857927697773141 : Unit := ()
noncomputable def a.tw18082914838213205038 : Unit := ()
noncomputable def a.tw5441701887165043287 : Unit := ()
noncomputable def a.tw10967550114125740744 : Unit := ()
noncomputable def a.tw11951964389088853088 : Unit := ()
noncomputable def a.tw5143649499313543280 : Unit := ()
noncomputable def a.tw8073875404134858311 : Unit := ()
noncomputable def a.tw4758077277218430196 : Unit := ()
noncomputable def a.tw17372378719749566908 : Unit := ()
noncomputable def a.tw16953804829707612117 : Unit := ()
noncomputable def a.tw3259547234465985544 : Unit := ()
noncomputable def a.tw1150481339058008237 : Unit := ()
noncomputable def a.tw9699938858597341151 : Unit := ()
noncomputable def a.tw3863890496406004863 : Unit := ()
noncomputable def a.tw17290647574194760430 : Unit := ()
noncomputable def a.tw16572862776722043867 : Unit := ()
noncomputable def a.tw6109983684237803065 : Unit := ()
noncomputable def a.tw8994566539918143864 : Unit := ()
noncomputable def a.tw5190692742582522284 : Unit := ()
noncomputable def a.tw15534603642780127618 : Unit := ()
noncomputable def a.tw8938590364820328921 : Unit := ()
noncomputable def a.tw13669313014541553446 : Unit := ()
noncomputable def a.tw11071369178372059384 : Unit := ()
noncomputable def a.tw5104077039534586432 : Unit := ()
noncomputable def a.tw15969718254250813147 : Unit := ()
noncomputable def a.tw13581108370372893055 : Unit := ()
noncomputable def a.tw390955317530964715 : Unit := ()
noncomputable def a.tw2551626205514720847 : Unit := ()
noncomputable def a.tw17552091044146560878 : Unit := ()
noncomputable def a.tw16996505956242334293 : Unit := ()
noncomputable def a.tw17427385840931446758 : Unit := ()
noncomputable def a.tw13306351096861639618 : Unit := ()
noncomputable def a.tw12760173057066078957 : Unit := ()
noncomputable def a.tw17518012146351500589 : Unit := ()
noncomputable def a.tw2219738615563888608 : Unit := ()
noncomputable def a.tw7649877568429882095 : Unit := ()
noncomputable def a.tw9080744941695358143 : Unit := ()
noncomputable def a.tw4874478124872198128 : Unit := ()
noncomputable def a.tw223563159151896429 : Unit := ()
noncomputable def a.tw17074957265917591626 : Unit := ()
noncomputable def a.tw11856427585337412530 : Unit := ()
noncomputable def a.tw7875525975825776960 : Unit := ()
noncomputable def a.tw13416215162013900202 : Unit := ()
noncomputable def a.tw1513366157228220416 : Unit := ()
noncomputable def a.tw7057240350886108163 : Unit := ()
noncomputable def a.tw4089394498455583940 : Unit := ()
noncomputable def a.tw17822814282403593434 : Unit := ()
noncomputable def a.tw10287493818275199913 : Unit := ()
noncomputable def a.tw965609795345434852 : Unit := ()
noncomputable def a.tw6212060041764087441 : Unit := ()
noncomputable def a.tw8950121672641831833 : Unit := ()
noncomputable def a.tw2004205708902301875 : Unit := ()
noncomputable def a.tw4449257628339031746 : Unit := ()
noncomputable def a.tw8040522296409807298 : Unit := ()
noncomputable def a.tw13789505637437727195 : Unit := ()
noncomputable def a.tw337228861113894642 : Unit := ()
noncomputable def a.tw8411953327994717371 : Unit := ()
noncomputable def a.tw10670050846364899145 : Unit := ()
noncomputable def a.tw11235163358979846525 : Unit := ()
noncomputable def a.tw17903421900858142530 : Unit := ()
noncomputable def a.tw11651061730590070904 : Unit := ()
noncomputable def a.tw16462344798198571546 : Unit := ()
noncomputable def a.tw2296504035863400277 : Unit := ()
noncomputable def a.tw5564626894632078222 : Unit := ()
noncomputable def a.tw4560041757083324563 : Unit := ()
noncomputable def a.tw12760614202089243730 : Unit := ()
noncomputable def a.tw13443128348503104534 : Unit := ()
noncomputable def a.tw6476516087196680121 : Unit := ()
noncomputable def a.tw16782816685304338734 : Unit := ()
noncomputable def a.tw16049030669728413361 : Unit := ()
noncomputable def a.tw13164629547525554422 : Unit := ()
noncomputable def a.tw12976231834184193147 : Unit := ()
noncomputable def a.tw1196097208631094180 : Unit := ()
noncomputable def a.tw15588380338954232793 : Unit := ()
noncomputable def a.tw6957398621911385960 : Unit := ()
noncomputable def a.tw2157516708402136005 : Unit := ()
noncomputable def a.tw12322432764942391181 : Unit := ()
noncomputable def a.tw15393974588120989234 : Unit := ()
noncomputable def a.tw13762831574924147951 : Unit := ()
noncomputable def a.tw1865168163905103392 : Unit := ()
noncomputable def a.tw1929903207734229461 : Unit := ()
noncomputable def a.tw2716457250031918211 : Unit := ()
noncomputable def a.tw1771522495899338546 : Unit := ()
noncomputable def a.tw14000519398569102777 : Unit := ()
noncomputable def a.tw658940835611163803 : Unit := ()
noncomputable def a.tw17914797275605861680 : Unit := ()
noncomputable def a.tw9632126460233610410 : Unit := ()
noncomputable def a.tw11653930192733977626 : Unit := ()
noncomputable def a.tw1244546284759165420 : Unit := ()
noncomputable def a.tw10999442652440844864 : Unit := ()
noncomputable def a.tw14673713728626034129 : Unit := ()
noncomputable def a.tw14289041718182124704 : Unit := ()
noncomputable def a.tw7025535740070815319 : Unit := ()
noncomputable def a.tw3888571327702119314 : Unit := ()
noncomputable def a.tw9166036273034840176 : Unit := ()
noncomputable def a.tw8201341953772317801 : Unit := ()
noncomputable def a.tw9051772160200532338 : Unit := ()
noncomputable def a.tw8902182246657438793 : Unit := ()
noncomputable def a.tw592251591540892788 : Unit := ()
noncomputable def a.tw6788406987063465566 : Unit := ()
noncomputable def a.tw10538329420845661636 : Unit := ()
noncomputable def a.tw14945155800141557432 : Unit := ()
noncomputable def a.tw15987036922290244392 : Unit := ()
noncomputable def a.tw4072304294575231954 : Unit := ()
noncomputable def a.tw9360906407811579428 : Unit := ()
noncomputable def a.tw3724216268355537805 : Unit := ()
noncomputable def a.tw2231007625510472205 : Unit := ()
noncomputable def a.tw5366206296807039077 : Unit := ()
noncomputable def a.tw2306858933879677287 : Unit := ()
noncomputable def a.tw1198367986373625703 : Unit := ()
noncomputable def a.tw3652513711894423304 : Unit := ()
noncomputable def a.tw15712086484248681744 : Unit := ()
noncomputable def a.tw7758915498900808269 : Unit := ()
noncomputable def a.tw9796013407785244648 : Unit := ()
noncomputable def a.tw13516635377102133624 : Unit := ()
noncomputable def a.tw3258978896007407932 : Unit := ()
noncomputable def a.tw13247526892078292639 : Unit := ()
noncomputable def a.tw5173221518413393801 : Unit := ()
noncomputable def a.tw15713373629417084773 : Unit := ()
noncomputable def a.tw17282644834598364536 : Unit := ()
noncomputable def a.tw16084788673259696502 : Unit := ()
noncomputable def a.tw6402173353089496144 : Unit := ()
noncomputable def a.tw2250013873384105162 : Unit := ()
noncomputable def a.tw2033011307537633154 : Unit := ()
noncomputable def a.tw5755846216248288433 : Unit := ()
noncomputable def a.tw1440273901644995931 : Unit := ()
noncomputable def a.tw9518010637146221660 : Unit := ()
noncomputable def a.tw2243220898050794594 : Unit := ()
noncomputable def a.tw6319870427560012224 : Unit := ()
noncomputable def a.tw2514161708016259401 : Unit := ()
noncomputable def a.tw8142443352832180459 : Unit := ()
noncomputable def a.tw15763572841832547036 : Unit := ()
noncomputable def a.tw17554362447993790209 : Unit := ()
noncomputable def a.tw16849940490494069554 : Unit := ()
noncomputable def a.tw12908065326540296830 : Unit := ()
noncomputable def a.tw6659895283202022861 : Unit := ()
noncomputable def a.tw4105213508551676721 : Unit := ()
noncomputable def a.tw17697788867232434545 : Unit := ()
noncomputable def a.tw10472662864066391921 : Unit := ()
noncomputable def a.tw36453008290975081 : Unit := ()
noncomputable def a.tw1409292763323912392 : Unit := ()
noncomputable def a.tw7788877567486321654 : Unit := ()
noncomputable def a.tw10927920930096718391 : Unit := ()
noncomputable def a.tw5515076455784022383 : Unit := ()
noncomputable def a.tw15558642900716984668 : Unit := ()
noncomputable def a.tw2562288178159923129 : Unit := ()
noncomputable def a.tw18267488132023749393 : Unit := ()
noncomputable def a.tw17903531537521144661 : Unit := ()
noncomputable def a.tw11941280288181413273 : Unit := ()
noncomputable def a.tw3113154888511462846 : Unit := ()
noncomputable def a.tw7956978279763800272 : Unit := ()
noncomputable def a.tw17907479511425342008 : Unit := ()
noncomputable def a.tw12224769293237372289 : Unit := ()
noncomputable def a.tw635855817327855754 : Unit := ()
set_option Elab.async true
theorem a : True := by
  apply use_mark (G := PySem.Challenge.rw_ru0004_01.Holds)
  (case f => (intro h; w_on; o_law; apply second; (case main => (k_head; (case hw => w_witness2))); (case hc => exact h.h)))
  (as_aux_lemma => exact mark _)
set_option Elab.async false
section
open PySem PySem.W PyProof.Rows PySem.Calls
/-- a goal that the walk is to leave alone -/
structure Halt (p : Prop) : Prop where
  out : p

/-- all that lies at none of the addresses stays -/
noncomputable def Keeps (as : List Addr) (h h' : Heap) : Prop := ∀ b o, b ∉ as → h.get? b = some o → h'.get? b = some o
section
variable {prog : Program} {w : World} {A₀ A : Around} {s : Shared} {base h₀ : Heap} {outer : List Env} {L : Addr} {m mg mb : Str → Option Value} {env : Env} {small : List (Addr × Obj)} {K : Frag} {p : Program} {loose : List Str} {mean : ExcName → Option Value}
  {Q E : Value → Shared → Prop} {name qual : Str} {params : Arguments} {body : List Stmt} {scope : Scope} {dV kV doc pm cdv ct oc : Value} {an od : Option Addr} {osl : Array (Option Value)} {f : Addr} {args : List Value} {kw : List (Str × Value)} {binds : List (Str × Value)}

/-- a call that takes but a part of the ledger along: what is left out stays as it was -/
theorem code_small (B : Below A₀ base outer h₀) (F : Fr h₀ L s.heap m) (X₀ : K.In h₀) (N : News h₀ L s.heap small) (T : Top p loose mean mg mb h₀) (hA : A.frames = some (env :: outer)) (hf : env.frame = some L) (hke : env.scope.kind = .function)
    (ho : K.lookup f = some ⟨oc, od, .func (fnOf name qual params body scope dV kV doc pm an cdv ct), osl⟩) (hcd : codeIn K cdv qual = true) (hroom : A.depth < recursionLimit)
    (hbind : BindsTo s (fnOf name qual params body scope dV kV doc pm an cdv ct) ⟨args, kw⟩ binds) (hloc : ∀ y ∈ binds, scope.names.lookup y.1 = some .local)
    (h : ∀ g L' h₁, Keeps (small.map (·.1)) s.heap g → Fr h₀ L g m → Fr g L' h₁ (fun y => binds.reverse.lookup y) → News g L' h₁ small → Below A base (env :: outer) g → K.In g → Top p loose mean mg mb g → (∀ p ∈ small, p.1 < L') →
      wpAny (model prog w) (A.deeper (envOf qual scope L' f cdv)) (execs body (envOf qual scope L' f cdv))
        (fun fl s' => LeaveK h₀ L m g (fun r s' => match r with | .ok (.ret v) => Q v s' | .ok _ => False | .error e => E e s') (match fl with | .ret v => v | _ => .none) s')
        (fun e s' => wpAny (model prog w) (A.deeper (envOf qual scope L' f cdv)) (leaving (envOf qual scope L' f cdv) e) (fun _ s'' => E e s'') (fun e' s'' => E e' s'') s')
        { s with heap := h₁, toks := s.toks + binds.length })
    (hco : scope.isCoroutine = false) (hgen : scope.isGenerator = false) (hk : scope.kind = .function)
    (hcell : ∀ x ∈ scope.names, x.2 ≠ .cell) : codeAny (model prog w) A (.call (.ref f) ⟨args, kw⟩) (fun r s' => match r with | .ok (.ret v) => Q v s' | .ok _ => False | .error e => E e s') s := by
  obtain ⟨FG, BG, st, lv⟩ := groundX (R := fun r s' => match r with | .ok (.ret v) => Q v s' | .ok _ => False | .error e => E e s') B F N hA hf hke
  have X := X₀.keeps F.keep
  refine codeAny_call_def (fd := fnOf name qual params body scope dV kV doc pm an cdv ct) (body := body) (binds := binds) hroom (X _ _ ho) rfl (T.nolimit.keeps F.keep) (codeRec_of X hcd) rfl hbind hcell hloc (fun h₁ hns hk₁ => ?_) hco hgen hk
  exact wpAny_mono (h _ s.heap.objs.size h₁ (fun b o n e => hideAll_get _ e n) FG ⟨hns, fun b o e => hk₁ b o (of_hideAll _ e), Nat.le_of_eq (hideAll_size _ _)⟩
    (fun p hp => ⟨hk₁ _ _ (N p hp).1, Nat.ne_of_lt (Heap.lt_size (N p hp).1), hideAll_none _ (List.mem_map_of_mem hp)⟩) BG (X₀.keeps st) (T.keeps st) (fun p hp => Heap.lt_size (N p hp).1)) (fun fl s' hl => lv _ _ hl) fun _ _ y => y
theorem call_small (B : Below A₀ base outer h₀) (F : Fr h₀ L s.heap m) (X₀ : K.In h₀) (N : News h₀ L s.heap small) (T : Top p loose mean mg mb h₀) (hA : A.frames = some (env :: outer)) (hf : env.frame = some L) (hke : env.scope.kind = .function)
    (ho : K.lookup f = some ⟨oc, od, .func (fnOf name qual params body scope dV kV doc pm an cdv ct), osl⟩) (hcd : codeIn K cdv qual = true) (hroom : A.depth < recursionLimit)
    (hbind : BindsTo s (fnOf name qual params body scope dV kV doc pm an cdv ct) ⟨args, kw⟩ binds) (hloc : ∀ y ∈ binds, scope.names.lookup y.1 = some .local)
    (h : ∀ g L' h₁, Keeps (small.map (·.1)) s.heap g → Fr h₀ L g m → Fr g L' h₁ (fun y => binds.reverse.lookup y) → News g L' h₁ small → Below A base (env :: outer) g → K.In g → Top p loose mean mg mb g → (∀ p ∈ small, p.1 < L') →
      wpAny (model prog w) (A.deeper (envOf qual scope L' f cdv)) (execs body (envOf qual scope L' f cdv))
        (fun fl s' => LeaveK h₀ L m g (fun r s' => match r with | .ok (.ret v) => Q v s' | .ok _ => False | .error e => E e s') (match fl with | .ret v => v | _ => .none) s')
        (fun e s' => wpAny (model prog w) (A.deeper (envOf qual scope L' f cdv)) (leaving (envOf qual scope L' f cdv) e) (fun _ s'' => E e s'') (fun e' s'' => E e' s'') s')
        { s with heap := h₁, toks := s.toks + binds.length })
    (hco : scope.isCoroutine = false) (hgen : scope.isGenerator = false) (hk : scope.kind = .function)
    (hcell : ∀ x ∈ scope.names, x.2 ≠ .cell) : wpAny (model prog w) A (call (.ref f) args kw) Q E s :=
  wpAny_call (code_small B F X₀ N T hA hf hke ho hcd hroom hbind hloc h hco hgen hk hcell)
end

theorem keeps_end {as : List Addr} {h g h' : Heap} {L' : Addr} {m' : Str → Option Value} (k : Keeps as h g) (F : Fr g L' h' m') : Keeps as h h' := fun b o n e => F.keep b o (k b o n e)
theorem news_sub {h₀ h : Heap} {L : Addr} {news small : List (Addr × Obj)} (N : News h₀ L h news) (hs : ∀ p ∈ small, p ∈ news) : News h₀ L h small := fun p hp => N p (hs p hp)
theorem news_tail {h₀ h : Heap} {L : Addr} {p : Addr × Obj} {news : List (Addr × Obj)} (N : News h₀ L h (p :: news)) : News h₀ L h news := fun q hq => N q (.tail _ hq)
/-- what of a ledger lies at none of the addresses -/
inductive Rest (as : List Addr) : List (Addr × Obj) → List (Addr × Obj) → Prop
  | nil : Rest as [] []
  | skip {p r r'} : p.1 ∈ as → Rest as r r' → Rest as (p :: r) r'
  | keep {p r r'} : (∀ a ∈ as, p.1 ≠ a) → Rest as r r' → Rest as (p :: r) (p :: r')
theorem Rest.none : ∀ {l : List (Addr × Obj)}, Rest [] l l
  | [] => .nil
  | _ :: _ => .keep (fun _ h => nomatch h) Rest.none
theorem Rest.own {as adr : List Addr} : ∀ {own : List (Addr × Obj)}, OwnOff own adr → (∀ a ∈ as, a ∈ adr) → Rest as own own
  | [], _, _ => .nil
  | p :: r, h, k => .keep (fun a ha => h p (.head _) a (k a ha)) (Rest.own (fun q hq => h q (.tail _ hq)) k)
theorem Rest.spec {as : List Addr} : ∀ {news rest : List (Addr × Obj)}, Rest as news rest → ∀ p ∈ rest, p ∈ news ∧ p.1 ∉ as
  | _, _, .nil, _, hp => nomatch hp
  | _, _, .skip _ r, p, hp => ⟨.tail _ (r.spec p hp).1, (r.spec p hp).2⟩
  | _, _, .keep n r, p, hp => by
    rcases List.mem_cons.mp hp with rfl | hp
    · exact ⟨.head _, fun q => n _ q rfl⟩
    · exact ⟨.tail _ (r.spec p hp).1, (r.spec p hp).2⟩
theorem news_next {h₀ h h' : Heap} {L : Addr} {as : List Addr} {news small' rest : List (Addr × Obj)} (N : News h₀ L h news) (k : Keeps as h h') (N' : News h₀ L h' small') (R : Rest as news rest) : News h₀ L h' (small' ++ rest) := by
  intro p hp
  rcases List.mem_append.mp hp with hp | hp
  · exact N' p hp
  · obtain ⟨a, b⟩ := R.spec p hp
    exact ⟨k _ _ b (N p a).1, (N p a).2.1, (N p a).2.2⟩
theorem new_of_hidden {h g h' : Heap} {L' : Addr} {as : List Addr} {news : List (Addr × Obj)} {d : Addr} {o : Obj} (k : Keeps as h g) (N : News g L' h' news) (hm : (d, o) ∈ news) (hn : ∀ a ∈ as, @LT.lt Nat _ a d) : h.get? d = none := by
  cases q : h.get? d with
  | none => rfl
  | some o' => have := (N _ hm).2.2; rw [k _ _ (fun z => absurd (hn _ z) (Nat.lt_irrefl _)) q] at this; cases this
theorem all_cons {α : Type} {P : α → Prop} {a : α} {l : List α} (h : P a) (r : ∀ x ∈ l, P x) : ∀ x ∈ a :: l, P x := List.forall_mem_cons.mpr ⟨h, r⟩
theorem sub_cons {α : Type} {a : α} {l big : List α} (h : a ∈ big) (r : ∀ x ∈ l, x ∈ big) : ∀ x ∈ a :: l, x ∈ big := List.forall_mem_cons.mpr ⟨h, r⟩
theorem mem_0 {α : Type} {a : α} {l : List α} : a ∈ a :: l := .head _
theorem mem_1 {α : Type} {a b0 : α} {l : List α} : a ∈ b0 :: a :: l := .tail _ (.head _)
theorem mem_2 {α : Type} {a b0 b1 : α} {l : List α} : a ∈ b0 :: b1 :: a :: l := .tail _ (.tail _ (.head _))
theorem mem_3 {α : Type} {a b0 b1 b2 : α} {l : List α} : a ∈ b0 :: b1 :: b2 :: a :: l := .tail _ (.tail _ (.tail _ (.head _)))
theorem mem_4 {α : Type} {a b0 b1 b2 b3 : α} {l : List α} : a ∈ b0 :: b1 :: b2 :: b3 :: a :: l := .tail _ (.tail _ (.tail _ (.tail _ (.head _))))
theorem mem_5 {α : Type} {a b0 b1 b2 b3 b4 : α} {l : List α} : a ∈ b0 :: b1 :: b2 :: b3 :: b4 :: a :: l := .tail _ (.tail _ (.tail _ (.tail _ (.tail _ (.head _)))))
theorem mem_6 {α : Type} {a b0 b1 b2 b3 b4 b5 : α} {l : List α} : a ∈ b0 :: b1 :: b2 :: b3 :: b4 :: b5 :: a :: l := .tail _ (.tail _ (.tail _ (.tail _ (.tail _ (.tail _ (.head _))))))
theorem mem_7 {α : Type} {a b0 b1 b2 b3 b4 b5 b6 : α} {l : List α} : a ∈ b0 :: b1 :: b2 :: b3 :: b4 :: b5 :: b6 :: a :: l := .tail _ (.tail _ (.tail _ (.tail _ (.tail _ (.tail _ (.tail _ (.head _)))))))
theorem mem_8 {α : Type} {a b0 b1 b2 b3 b4 b5 b6 b7 : α} {l : List α} : a ∈ b0 :: b1 :: b2 :: b3 :: b4 :: b5 :: b6 :: b7 :: a :: l := .tail _ (.tail _ (.tail _ (.tail _ (.tail _ (.tail _ (.tail _ (.tail _ (.head _))))))))
theorem mem_9 {α : Type} {a b0 b1 b2 b3 b4 b5 b6 b7 b8 : α} {l : List α} : a ∈ b0 :: b1 :: b2 :: b3 :: b4 :: b5 :: b6 :: b7 :: b8 :: a :: l := .tail _ (.tail _ (.tail _ (.tail _ (.tail _ (.tail _ (.tail _ (.tail _ (.tail _ (.head _)))))))))
theorem mem_10 {α : Type} {a b0 b1 b2 b3 b4 b5 b6 b7 b8 b9 : α} {l : List α} : a ∈ b0 :: b1 :: b2 :: b3 :: b4 :: b5 :: b6 :: b7 :: b8 :: b9 :: a :: l := .tail _ (.tail _ (.tail _ (.tail _ (.tail _ (.tail _ (.tail _ (.tail _ (.tail _ (.tail _ (.head _))))))))))
theorem mem_11 {α : Type} {a b0 b1 b2 b3 b4 b5 b6 b7 b8 b9 b10 : α} {l : List α} : a ∈ b0 :: b1 :: b2 :: b3 :: b4 :: b5 :: b6 :: b7 :: b8 :: b9 :: b10 :: a :: l := .tail _ (.tail _ (.tail _ (.tail _ (.tail _ (.tail _ (.tail _ (.tail _ (.tail _ (.tail _ (.tail _ (.head _)))))))))))
theorem mem_12 {α : Type} {a b0 b1 b2 b3 b4 b5 b6 b7 b8 b9 b10 b11 : α} {l : List α} : a ∈ b0 :: b1 :: b2 :: b3 :: b4 :: b5 :: b6 :: b7 :: b8 :: b9 :: b10 :: b11 :: a :: l := .tail _ (.tail _ (.tail _ (.tail _ (.tail _ (.tail _ (.tail _ (.tail _ (.tail _ (.tail _ (.tail _ (.tail _ (.head _))))))))))))
theorem mem_13 {α : Type} {a b0 b1 b2 b3 b4 b5 b6 b7 b8 b9 b10 b11 b12 : α} {l : List α} : a ∈ b0 :: b1 :: b2 :: b3 :: b4 :: b5 :: b6 :: b7 :: b8 :: b9 :: b10 :: b11 :: b12 :: a :: l := .tail _ (.tail _ (.tail _ (.tail _ (.tail _ (.tail _ (.tail _ (.tail _ (.tail _ (.tail _ (.tail _ (.tail _ (.tail _ (.head _)))))))))))))

/-- all the addresses lie below -/
structure AdrLt (D : Nat) (as : List Nat) : Prop where
  lt : ∀ a ∈ as, a < D
theorem adrLt_of {D : Addr} {news : List (Addr × Obj)} (h : ∀ p ∈ news, p.1 < D) : AdrLt D (news.map (·.1)) := ⟨fun a ha => by
  obtain ⟨p, hp, rfl⟩ := List.mem_map.mp ha
  exact h p hp⟩
theorem adr_lt {D a : Nat} {as : List Nat} (h : AdrLt D as) (m : a ∈ as) : a < D := h.lt a m
theorem adr_ne {D a : Nat} {as : List Nat} (h : AdrLt D as) (m : a ∈ as) : a ≠ D := Nat.ne_of_lt (h.lt a m)
theorem adr_en {D a : Nat} {as : List Nat} (h : AdrLt D as) (m : a ∈ as) : D ≠ a := Nat.ne_of_gt (h.lt a m)
theorem adr_ne2 {D b a : Nat} {as : List Nat} (h2 : b < D) (h : AdrLt b as) (m : a ∈ as) : a ≠ D := Nat.ne_of_lt (Nat.lt_trans (h.lt a m) h2)
theorem adr_ex {D : Addr} {as : List Nat} {ex : List (Addr × Obj)} (h : AdrLt D as) (s : ∀ a ∈ ex.map (·.1), a ∈ as) : ∀ p ∈ ex, p.1 ≠ D := fun p hp => Nat.ne_of_lt (h.lt p.1 (s _ (List.mem_map_of_mem hp)))
/-- one list behind the other, told item by item -/
inductive Cat {α : Type} : List α → List α → List α → Prop
  | nil {l} : Cat [] l l
  | cons {x a l o} : Cat a l o → Cat (x :: a) l (x :: o)
theorem Cat.eq {α : Type} {a l o : List α} (h : Cat a l o) : a ++ l = o := by
  induction h with
  | nil => rfl
  | cons _ ih => rw [List.cons_append, ih]
theorem news_nextc {h₀ h h' : Heap} {L : Addr} {as : List Addr} {news small' rest out : List (Addr × Obj)} (N : News h₀ L h news) (k : Keeps as h h') (N' : News h₀ L h' small') (R : Rest as news rest) (c : Cat small' rest out) : News h₀ L h' out := c.eq ▸ news_next N k N' R
theorem room0 {u k c : Nat} (h : u + k < c) : u < c := Nat.lt_of_le_of_lt (Nat.le_add_right _ _) h
theorem room1 {u n k c : Nat} (h : u + k < c) (e : Nat.ble n k = true) : u + n < c := Nat.lt_of_le_of_lt (Nat.add_le_add_left (Nat.le_of_ble_eq_true e) u) h
theorem room2 {u a n k c : Nat} (h : u + k < c) (e : Nat.ble (a + n) k = true) : u + a + n < c := Nat.add_assoc u a n ▸ room1 h e
theorem room3 {u a b n k c : Nat} (h : u + k < c) (e : Nat.ble (a + (b + n)) k = true) : u + a + b + n < c := Nat.add_assoc (u + a) b n ▸ room2 h e
theorem room4 {u a b d n k c : Nat} (h : u + k < c) (e : Nat.ble (a + (b + (d + n))) k = true) : u + a + b + d + n < c := Nat.add_assoc (u + a + b) d n ▸ room3 h e
theorem tok_ne0 {t u : Nat} (h : t + 1 ≤ u) : u ≠ 0 := Nat.ne_of_gt (Nat.lt_of_lt_of_le (Nat.succ_pos _) h)
theorem tok_ne1 {t : Nat} : t ≠ t + 1 := Nat.ne_of_lt (Nat.lt_succ_self _)
theorem big_le {n m b : Nat} (h : n < m) (e : Nat.ble m b = true) : n ≤ b := Nat.le_trans (Nat.le_of_lt h) (Nat.le_of_ble_eq_true e)
theorem big_lt {n m : Nat} {b : Int} (h : n < m) (e : decide ((m : Int) ≤ b) = true) : (n : Int) < b := Int.lt_of_lt_of_le (Int.ofNat_lt.mpr h) (of_decide_eq_true e)
theorem neg1_lt {n : Nat} : (-1 : Int) < (n : Int) := Int.lt_of_lt_of_le (by decide) (Int.natCast_nonneg n)
theorem pos_len {α : Type} {n : Nat} {a : α} {l : List α} : 0 < n + (a :: l).length := Nat.lt_of_lt_of_le (Nat.zero_lt_succ _) (Nat.le_add_left _ _)
theorem adr_up {d e : Nat} {as : List Nat} (h : AdrLt d as) (k : d < e) : AdrLt e (d :: as) := ⟨fun a ha => by
  rcases List.mem_cons.mp ha with rfl | ha
  · exact k
  · exact Nat.lt_trans (h.lt a ha) k⟩
theorem adr_nil {d : Nat} : AdrLt d [] := ⟨fun _ h => nomatch h⟩
end
section
open PySem PySem.W PyProof.Rows PySem.Calls
section
variable {prog : Program} {w : World} {A₀ A : Around} {s : Shared} {base h₀ : Heap} {outer : List Env} {L : Addr} {m mg mb : Str → Option Value} {env : Env} {small : List (Addr × Obj)} {K : Frag} {p : Program} {loose : List Str} {mean : ExcName → Option Value}
  {Q E : Value → Shared → Prop} {name qual : Str} {params : Arguments} {body : List Stmt} {scope : Scope} {dV kV doc pm cdv ct oc : Value} {an od : Option Addr} {osl : Array (Option Value)} {f : Addr} {args : List Value} {kw : List (Str × Value)} {binds : List (Str × Value)}
/-- what holds behind a call that may have caught an exception: the frames below bear other marks, all else stands -/
structure After (A₀ : Around) (base : Heap) (outer : List Env) (K : Frag) (p : Program) (loose : List Str) (mean : ExcName → Option Value) (mg mb : Str → Option Value) (h₀ h₁ : Heap) (L : Addr) (m : Str → Option Value) (as : List Addr) (h h' : Heap) (news : List (Addr × Obj)) : Prop where
  turn : KtsTurn (outer.filterMap (·.frame)) h₀ h₁
  fr : Fr h₁ L h' m
  below : Below A₀ base outer h₁
  ink : K.In h₁
  top : Top p loose mean mg mb h₁
  dicts : KtsDicts (outer.filterMap (·.frame)) h₁
  news : News h₁ L h' news
  rest : ∀ nw rest, News h₀ L h nw → Rest as nw rest → News h₁ L h' rest
noncomputable def BackS (fs : List Addr) (g : Heap) (C : Heap → List (Addr × Obj) → Prop) (Q : Value → Shared → Prop) (v : Value) (s' : Shared) : Prop := ∃ g' L' m' news', KtsTurn fs g g' ∧ Fr g' L' s'.heap m' ∧ News g' L' s'.heap news' ∧ (C s'.heap news' → Q v s')
theorem backS2 {fs : List Addr} {g g' h' : Heap} {L' : Addr} {m' : Str → Option Value} {news' : List (Addr × Obj)} {C : Heap → Heap → List (Addr × Obj) → Prop} {v : Value} {tk : Nat} (F : Fr g' L' h' m') (N : News g' L' h' news') (T : KtsTurn fs g g') (k : ∀ h₁, C h₁ h' news' → Q v { s with heap := h', toks := tk }) : BackS fs g (fun h' news' => ∃ h₁, C h₁ h' news') Q v { s with heap := h', toks := tk } := ⟨g', L', m', news', T, F, N, fun ⟨h₁, c⟩ => k h₁ c⟩
theorem codeS_small (B : Below A₀ base outer h₀) (F : Fr h₀ L s.heap m) (X₀ : K.In h₀) (N : News h₀ L s.heap small) (T : Top p loose mean mg mb h₀) (XB : K.In base) (TB : Top p loose mean mg mb base) (D : KtsDicts (outer.filterMap (·.frame)) h₀)
    (hA : A.frames = some (env :: outer)) (hf : env.frame = some L) (hke : env.scope.kind = .function)
    (ho : K.lookup f = some ⟨oc, od, .func (fnOf name qual params body scope dV kV doc pm an cdv ct), osl⟩) (hcd : codeIn K cdv qual = true) (hroom : A.depth < recursionLimit)
    (hbind : BindsTo s (fnOf name qual params body scope dV kV doc pm an cdv ct) ⟨args, kw⟩ binds) (hloc : ∀ y ∈ binds, scope.names.lookup y.1 = some .local)
    (h : ∀ g L' h₁, Keeps (small.map (·.1)) s.heap g → Fr h₀ L g m → Fr g L' h₁ (fun y => binds.reverse.lookup y) → News g L' h₁ small → Below A base (env :: outer) g → K.In g → Top p loose mean mg mb g → KtsDicts ((env :: outer).filterMap (·.frame)) g → (∀ p ∈ small, p.1 < L') →
      wpAny (model prog w) (A.deeper (envOf qual scope L' f cdv)) (execs body (envOf qual scope L' f cdv))
        (fun fl s' => BackS ((env :: outer).filterMap (·.frame)) g (fun h' news' => ∃ h₁, After A₀ base outer K p loose mean mg mb h₀ h₁ L m (small.map (·.1)) s.heap h' news') Q (match fl with | .ret v => v | _ => .none) s')
        (fun e s' => wpAny (model prog w) (A.deeper (envOf qual scope L' f cdv)) (leaving (envOf qual scope L' f cdv) e) (fun _ s'' => E e s'') (fun e' s'' => E e' s'') s')
        { s with heap := h₁, toks := s.toks + binds.length })
    (hco : scope.isCoroutine = false) (hgen : scope.isGenerator = false) (hk : scope.kind = .function)
    (hcell : ∀ x ∈ scope.names, x.2 ≠ .cell) : codeAny (model prog w) A (.call (.ref f) ⟨args, kw⟩) (fun r s' => match r with | .ok (.ret v) => Q v s' | .ok _ => False | .error e => E e s') s := by
  obtain ⟨FG, BG, st, _⟩ := groundX (R := fun r s' => match r with | .ok (.ret v) => Q v s' | .ok _ => False | .error e => E e s') B F N hA hf hke
  have X := X₀.keeps F.keep
  obtain ⟨oL, es, ep, hLg, hLd, hLk, hLf⟩ := FG.ns
  have nL₀ : h₀.get? L = none := kts_self F
  have mem : ∀ b ∈ (env :: outer).filterMap (·.frame), b = L ∨ b ∈ outer.filterMap (·.frame) := fun b hb => by
    obtain ⟨e, he, hfe⟩ := List.mem_filterMap.mp hb
    rcases List.mem_cons.mp he with rfl | he
    · exact .inl (Option.some.inj (hf.symm.trans hfe)).symm
    · exact .inr (List.mem_filterMap.mpr ⟨e, he, hfe⟩)
  have DG : KtsDicts ((env :: outer).filterMap (·.frame)) (hideAll s.heap (small.map (·.1))) := fun b hb => by
    rcases mem b hb with rfl | hb
    · exact ⟨oL, es, ep, hLg, hLd⟩
    · obtain ⟨o, es', n', ho', hd'⟩ := D b hb
      exact ⟨o, es', n', st b o ho', hd'⟩
  refine codeAny_call_def (fd := fnOf name qual params body scope dV kV doc pm an cdv ct) (body := body) (binds := binds) hroom (X _ _ ho) rfl (T.nolimit.keeps F.keep) (codeRec_of X hcd) rfl hbind hcell hloc (fun h₁ hns hk₁ => ?_) hco hgen hk
  refine wpAny_mono (h _ s.heap.objs.size h₁ (fun b o n e => hideAll_get _ e n) FG ⟨hns, fun b o e => hk₁ b o (of_hideAll _ e), Nat.le_of_eq (hideAll_size _ _)⟩
    (fun p hp => ⟨hk₁ _ _ (N p hp).1, Nat.ne_of_lt (Heap.lt_size (N p hp).1), hideAll_none _ (List.mem_map_of_mem hp)⟩) BG (X₀.keeps st) (T.keeps st) DG (fun p hp => Heap.lt_size (N p hp).1)) (fun fl s' hl => ?_) fun _ _ y => y
  obtain ⟨g', L', m', news', T', F', N', k⟩ := hl
  obtain ⟨sl, hs⟩ := T'.up hLg
  obtain ⟨T₁, S₁⟩ := kts_turn_at (h := s'.heap) (fs := outer.filterMap (·.frame)) (g := h₀)
    (fun b hb => by
      obtain ⟨_, o, ho', _⟩ := B.frames.mem hb
      exact ⟨o, ho'⟩)
    (fun b o e nmem => F'.keep b o (T'.other b o (st b o e) (fun q => by
      rcases mem b q with z | z
      · rw [z, nL₀] at e
        cases e
      · exact nmem z)))
    (fun b o e hm => by
      obtain ⟨sl', hs'⟩ := T'.up (st b o e)
      exact ⟨sl', F'.keep _ _ hs'⟩)
  have B₃ : Below A₀ base outer (ktsHeap s'.heap (outer.filterMap (·.frame)) h₀) := ⟨B.stack, fun b o e => T₁.other b o (B.stays b o e) (fun hm => by
    rw [(B.frames.mem hm).1] at e
    cases e), B.frames.of_keeps fun b o e _ => by
    obtain ⟨sl', hs'⟩ := T₁.up e
    exact ⟨_, hs', rfl⟩⟩
  refine k ⟨_, T₁, ⟨⟨_, es, ep, F'.keep _ _ hs, hLd, hLk, hLf⟩, S₁, by rw [T₁.size]; exact F.above⟩, B₃, XB.keeps B₃.stays, TB.keeps B₃.stays, D.turn T₁, fun p hp => ⟨(N' p hp).1, fun q => ?_, ?_⟩, fun nw rest Nw R p hp => ?_⟩
  · have := (N' p hp).2.2; rw [q, hs] at this; cases this
  · refine T₁.none_ _ ?_
    cases q : h₀.get? p.1 with
    | none => rfl
    | some o =>
      obtain ⟨sl', hs'⟩ := T'.up (st _ _ q)
      have := (N' p hp).2.2
      rw [hs'] at this
      cases this
  · obtain ⟨hp, hn⟩ := R.spec p hp
    obtain ⟨a, b, c⟩ := Nw p hp
    refine ⟨F'.keep _ _ (T'.other _ _ (hideAll_get _ a hn) fun q => ?_), b, T₁.none_ _ c⟩
    rcases mem _ q with z | z
    · exact b z
    · obtain ⟨_, o, ho', _⟩ := B.frames.mem z
      rw [c] at ho'; cases ho'
theorem callS_small (B : Below A₀ base outer h₀) (F : Fr h₀ L s.heap m) (X₀ : K.In h₀) (N : News h₀ L s.heap small) (T : Top p loose mean mg mb h₀) (XB : K.In base) (TB : Top p loose mean mg mb base) (D : KtsDicts (outer.filterMap (·.frame)) h₀)
    (hA : A.frames = some (env :: outer)) (hf : env.frame = some L) (hke : env.scope.kind = .function)
    (ho : K.lookup f = some ⟨oc, od, .func (fnOf name qual params body scope dV kV doc pm an cdv ct), osl⟩) (hcd : codeIn K cdv qual = true) (hroom : A.depth < recursionLimit)
    (hbind : BindsTo s (fnOf name qual params body scope dV kV doc pm an cdv ct) ⟨args, kw⟩ binds) (hloc : ∀ y ∈ binds, scope.names.lookup y.1 = some .local)
    (h : ∀ g L' h₁, Keeps (small.map (·.1)) s.heap g → Fr h₀ L g m → Fr g L' h₁ (fun y => binds.reverse.lookup y) → News g L' h₁ small → Below A base (env :: outer) g → K.In g → Top p loose mean mg mb g → KtsDicts ((env :: outer).filterMap (·.frame)) g → (∀ p ∈ small, p.1 < L') →
      wpAny (model prog w) (A.deeper (envOf qual scope L' f cdv)) (execs body (envOf qual scope L' f cdv))
        (fun fl s' => BackS ((env :: outer).filterMap (·.frame)) g (fun h' news' => ∃ h₁, After A₀ base outer K p loose mean mg mb h₀ h₁ L m (small.map (·.1)) s.heap h' news') Q (match fl with | .ret v => v | _ => .none) s')
        (fun e s' => wpAny (model prog w) (A.deeper (envOf qual scope L' f cdv)) (leaving (envOf qual scope L' f cdv) e) (fun _ s'' => E e s'') (fun e' s'' => E e' s'') s')
        { s with heap := h₁, toks := s.toks + binds.length })
    (hco : scope.isCoroutine = false) (hgen : scope.isGenerator = false) (hk : scope.kind = .function)
    (hcell : ∀ x ∈ scope.names, x.2 ≠ .cell) : wpAny (model prog w) A (call (.ref f) args kw) Q E s :=
  wpAny_call (codeS_small B F X₀ N T XB TB D hA hf hke ho hcd hroom hbind hloc h hco hgen hk hcell)
/-- in the law's own frame nothing lies below: the ground is the old one -/
theorem After.home {K : Frag} {h₁ h' : Heap} {as : List Addr} {h : Heap} {news : List (Addr × Obj)} (a : After A₀ base [] K p loose mean mg mb h₀ h₁ L m as h h' news) : Fr h₀ L h' m ∧ News h₀ L h' news ∧ ∀ nw rest, News h₀ L h nw → Rest as nw rest → News h₀ L h' rest := by
  have up : ∀ b o, h₀.get? b = some o → h₁.get? b = some o := fun b o e => a.turn.other b o e (fun z => nomatch z)
  have dn : ∀ b, h₁.get? b = none → h₀.get? b = none := fun b e => by
    cases q : h₀.get? b with
    | none => rfl
    | some o => have := up _ _ q; rw [e] at this; cases this
  refine ⟨⟨a.fr.ns, fun b o e => a.fr.keep b o (up b o e), by rw [← a.turn.size]; exact a.fr.above⟩, fun p hp => ?_, fun nw rest Nw R p hp => ?_⟩
  · obtain ⟨x, y, z⟩ := a.news p hp; exact ⟨x, y, dn _ z⟩
  · obtain ⟨x, y, z⟩ := a.rest nw rest Nw R p hp; exact ⟨x, y, dn _ z⟩
end
end
section
open PySem PySem.W PyProof.Rows PySem.Calls
/-- what holds of one that would break it, if any does, holds of all -/
theorem eps_all {C : Type} (ne : Nonempty C) {P : C → Prop} (h : P (@Classical.epsilon C ne fun c => ¬ P c)) (c : C) : P c :=
  Classical.byContradiction fun n => @Classical.epsilon_spec C (fun c => ¬ P c) ⟨c, n⟩ h
/-- what a body's way leaves to the call -/
noncomputable def leaveQ (h₀ : Heap) (L : Addr) (m : Str → Option Value) (g : Heap) (Q E : Value → Shared → Prop) : Flow → Shared → Prop := fun fl s' => LeaveK h₀ L m g (fun r s' => match r with | .ok (.ret v) => Q v s' | .ok _ => False | .error e => E e s') (match fl with | .ret v => v | _ => .none) s'
noncomputable def leaveE (prog : Program) (w : World) (A : Around) (env : Env) (E : Value → Shared → Prop) : Value → Shared → Prop := fun e s' => wpAny (model prog w) A (leaving env e) (fun _ s'' => E e s'') (fun e' s'' => E e' s'') s'
noncomputable def backQ (A₀ : Around) (base : Heap) (outer : List Env) (K : Frag) (p : Program) (loose : List Str) (mean : ExcName → Option Value) (mg mb : Str → Option Value) (h₀ : Heap) (L : Addr) (m : Str → Option Value) (as : List Addr) (h : Heap) (fs : List Addr) (g : Heap) (Q : Value → Shared → Prop) : Flow → Shared → Prop :=
  fun fl s' => BackS fs g (fun h' news' => ∃ h₁, After A₀ base outer K p loose mean mg mb h₀ h₁ L m as h h' news') Q (match fl with | .ret v => v | _ => .none) s'
noncomputable def wEx : Params := { strHash := fun _ => 0, shareClass := fun _ => 0, mergeTok := fun t => t, idOf := fun _ => 0, idOfShared := fun _ _ => 0, followText := fun _ => false, idOfImm := fun _ => 0 }
theorem seg_inc {goal : Prop} {look : Option Obj} {oc oc' : Value} {od od' : Option Addr} {n n' q q' : Str} {p p' : Arguments} {b b' : List Stmt} {sc sc' : Scope} {dV dV' kV kV' doc doc' pm pm' cdv cdv' ct ct' : Value} {an an' : Option Addr} {osl osl' : Array (Option Value)}
    (h : look = some ⟨oc, od, .func (fnOf n q p b sc dV kV doc pm an cdv ct), osl⟩) (h' : look = some ⟨oc', od', .func (fnOf n' q' p' b' sc' dV' kV' doc' pm' an' cdv' ct'), osl'⟩) (k : b = b' → sc = sc' → q = q' → cdv = cdv' → goal) : goal := by
  have e : fnOf n q p b sc dV kV doc pm an cdv ct = fnOf n' q' p' b' sc' dV' kV' doc' pm' an' cdv' ct' := by
    have := (h.symm.trans h' : _)
    injection this with e
    injection e with _ _ e _
    injection e
  exact k (FuncBody.stmts.inj (congrArg FuncData.body e)) (congrArg FuncData.scope e) (congrArg FuncData.qualname e) (congrArg FuncData.code e)
/-- what every call's body is walked in -/
structure Gd where
  (prog : Program) (w : World) (p : Program) (loose : List Str) (mean : ExcName → Option Value) (mg mb : Str → Option Value)
  (dp : Nat) (gd : Option (List Code)) (un : Nat) (env : Env) (outer : List Env) (A₀ : Around) (base h₀ : Heap) (L : Addr) (m : Str → Option Value) (s : Shared) (Q E : Value → Shared → Prop)
  (g' : Heap) (L' : Addr) (h' : Heap) (tk0 : Nat)
/-- what a stretch of a body is walked in -/
structure Bd where
  (prog : Program) (w : World) (p : Program) (loose : List Str) (mean : ExcName → Option Value) (mg mb : Str → Option Value)
  (dp : Nat) (gd : Option (List Code)) (un : Nat) (env : Env) (outer : List Env) (base : Heap) (s : Shared) (Qf : Flow → Shared → Prop) (E : Value → Shared → Prop)
  (g' : Heap) (L' : Addr) (h' : Heap) (tk0 : Nat) (u : Str → Option Value)
/-- what a stretch of the law is walked in -/
structure Ld where
  (prog : Program) (w : World) (p : Program) (loose : List Str) (mean : ExcName → Option Value) (mg mb : Str → Option Value)
  (h₀ : Heap) (L fa : Addr) (cd : Value) (s : Shared) (u : Str → Option Value) (Q : Flow → Shared → Prop) (E : Value → Shared → Prop)
theorem Gd.ne : Nonempty Gd := ⟨⟨default, ⟨fun _ _ => 0, wEx⟩, default, [], fun _ => none, fun _ => none, fun _ => none, 0, none, 0, default, [], {}, {}, {}, 0, fun _ => none, {}, fun _ _ => True, fun _ _ => True, {}, 0, {}, 0⟩⟩
theorem Bd.ne : Nonempty Bd := ⟨⟨default, ⟨fun _ _ => 0, wEx⟩, default, [], fun _ => none, fun _ => none, fun _ => none, 0, none, 0, default, [], {}, {}, fun _ _ => True, fun _ _ => True, {}, 0, {}, 0, fun _ => none⟩⟩
theorem Ld.ne : Nonempty Ld := ⟨⟨default, ⟨fun _ _ => 0, wEx⟩, default, [], fun _ => none, fun _ => none, fun _ => none, {}, 0, 0, .none, {}, fun _ => none, fun _ _ => True, fun _ _ => True⟩⟩
end
section
open PySem PySem.W PyProof.Rows PySem.Calls PySem.Builtin PySem.Builtin.Str
noncomputable def count4 (x y : Str) (i j : Int) : Int := (occurrences x y (fromIndex x.length i) (min (fromIndex x.length j) x.length) (x.length + 1)).length
noncomputable def rfind4 (x y : Str) (i j : Int) : Int := match lastOccurrence x y (fromIndex x.length i) (min (fromIndex x.length j) x.length) with | some k => (k : Int) | none => -1
theorem gives_count4 (x y : Str) (i j : Int) (t u v v' : Tok) : Gives («str.count» ⟨[.str x t, .str y u, .int i v, .int j v'], []⟩) (.int (count4 x y i j)) := .of_eq rfl
theorem gives_rfind4 (x y : Str) (i j : Int) (t u v v' : Tok) : Gives («str.rfind» ⟨[.str x t, .str y u, .int i v, .int j v'], []⟩) (.int (rfind4 x y i j)) := by
  show Gives (match lastOccurrence x y (fromIndex x.length i) (min (fromIndex x.length j) x.length) with | some k => retInt k | none => (do rule "str.rfind.not-found"; retInt (-1))) _
  unfold rfind4
  cases lastOccurrence x y (fromIndex x.length i) (min (fromIndex x.length j) x.length) with
  | none => exact .rule (.of_eq rfl)
  | some k => exact .of_eq rfl
section
variable {prog : Program} {w : World} {A : Around} {E : Value → Shared → Prop} {s : Shared} {x y : Str} {t u v v' : Tok} {i j : Int} {Q : Value → Shared → Prop}
theorem call_count4 (hq : Q (.int (count4 x y i j) s.toks) { s with toks := s.toks + 1 }) : wpAny (model prog w) A (call (.builtin "str.count") [.str x t, .str y u, .int i v, .int j v']) Q E s :=
  call_gives F.slot_str_count (typeIs_str _ _ _) F.entry_str_count (F.args_str_count_4 _ _ _ _) (gives_count4 x y i j t u v v') hq
theorem call_rfind4 (hq : Q (.int (rfind4 x y i j) s.toks) { s with toks := s.toks + 1 }) : wpAny (model prog w) A (call (.builtin "str.rfind") [.str x t, .str y u, .int i v, .int j v']) Q E s :=
  call_gives F.slot_str_rfind (typeIs_str _ _ _) F.entry_str_rfind (F.args_str_rfind_4 _ _ _ _) (gives_rfind4 x y i j t u v v') hq
end
/-- the counter of marks, forgotten but for this: it is not nought -/
theorem gen_toks {α : Type} {M : Model} {A : Around} {t : Sem α} {Q : α → Shared → Prop} {E : Value → Shared → Prop} {h : Heap} {g} {d} {n : Nat} {o} (k : ∀ tk, 0 < tk → wpAny M A t Q E ⟨h, g, d, tk, o⟩) : wpAny M A t Q E ⟨h, g, d, n + 1, o⟩ := k _ (Nat.succ_pos _)
section
variable {M : Model} {A : Around} {E : Value → Shared → Prop} {s : Shared} {h₀ : Heap} {L a : Addr} {news : List (Addr × Obj)} {f self : Value}
theorem looks_type (T : String) (name : Str) (r : Option Value) {h : Heap} (e : fastLookup T name = some r) : Looks M h (typeLookup (.type T) name) r := Looks.of_pure (by rw [typeLookup_type, builtinLookup_eq_fast, e])
theorem truthy_meth {Q : Bool → Shared → Prop} (N : News h₀ L s.heap news) (hm : (a, methodObj f self) ∈ news) (h : Q true s) : wpAny M A (truthy (.ref a)) Q E s := by
  have ty : Looks M s.heap (typeOf (.ref a)) (.type "method") := (Looks.ld (part := some headPart) (N _ hm).1).andThen .now
  unfold truthy
  refine wpAny_bind (m := callSpecial? (.ref a) (Str.ofString "__bool__")) (wpAny_bind (wpAny_bind (ty.here ((looks_type "method" "__bool__" none (by kernel_rfl)).here (wpAny_pure ?_)))))
  refine wpAny_bind (wpAny_bind (ty.here ((looks_type "method" "__len__" none (by kernel_rfl)).here ?_)))
  exact wpAny_pure h
end
theorem sw_empty {prog : Program} {w : World} {A : Around} {E : Value → Shared → Prop} {s : Shared} {x y : Str} {t u : Tok} {Q : Value → Shared → Prop} (hy : y.cps.toList = []) (h : Q (.bool true) s) : wpAny (model prog w) A (call (.builtin "str.startswith") [.str x t, .str y u]) Q E s := by
  refine SC.startswith ?_
  have hl : y.length = 0 := by unfold Str.length; rw [← Array.length_toList, hy]; rfl
  have e : Txt.startswith x y = true := by
    unfold Txt.startswith
    rw [hl]
    simp only [Nat.zero_add, Nat.add_zero, Nat.zero_le, decide_true, Bool.true_and]
    rw [StrLaws.subAt_eq, hl, hy]
    rfl
  rw [e]; exact h
end
section
open PySem PySem.W PyProof.Rows PySem.Calls
/-- the counter of marks never falls -/
theorem runs_toks {M : Model} {Γ : Ctx} {p : Pos} {t : Sem Fin} {fs : List Frame} {s s' : Shared} {e : End} (h : Runs M Γ p t fs s e s') : s.toks ≤ s'.toks := by
  induction h
  all_goals (try simp only [Shared.setGen] at *)
  all_goals omega
theorem wakes_toks {M : Model} {Γ : Ctx} {p : Pos} {g : Nat} {r : Resume} {s s' : Shared} {res : GenResult} (h : Wakes M Γ p g r s res s') : s.toks ≤ s'.toks := by
  unfold Wakes at h
  split at h
  · exact h.elim
  · split at h
    · obtain ⟨e₁, s₁, h1, _, _, rfl⟩ := h
      have z := runs_toks h1; exact z
    · exact Nat.le_of_eq (by rw [h.2])
    · exact Nat.le_of_eq (by rw [h.2]; rfl)
  · obtain ⟨e₁, s₁, h1, _, _, rfl⟩ := h
    have z := runs_toks h1; exact z
  · exact Nat.le_of_eq (by rw [h.2])
  · exact Nat.le_of_eq (by rw [h.2])
theorem wp_toks {α : Type} {M : Model} {Γ : Ctx} (k : Nat) {Q : α → Pos → Shared → Prop} {E : Value → Pos → Shared → Prop} (t : Sem α) : ∀ {p : Pos} {s : Shared}, k ≤ s.toks → Sem.wp M Γ t Q E p s →
    Sem.wp M Γ t (fun a p' s' => k ≤ s'.toks ∧ Q a p' s') (fun e p' s' => k ≤ s'.toks ∧ E e p' s') p s := by
  induction t with
  | pure a => intro p s hk h; rw [Sem.wp] at h ⊢; exact ⟨hk, h⟩
  | raise e => intro p s hk h; rw [Sem.wp] at h ⊢; exact ⟨hk, h⟩
  | unsupported _ => intro p s hk h; rw [Sem.wp] at h; exact h.elim
  | finish _ => intro p s hk h; rw [Sem.wp] at h; exact h.elim
  | rule _ c ih => intro p s hk h; rw [Sem.wp] at h ⊢; exact ih _ hk h
  | «at» _ c ih => intro p s hk h; rw [Sem.wp] at h ⊢; exact ih _ hk h
  | load a _ c ih => intro p s hk h; rw [Sem.wp] at h ⊢; obtain ⟨o, h1, h2⟩ := h; exact ⟨o, h1, ih _ hk h2⟩
  | update a _ f c ih => intro p s hk h; rw [Sem.wp] at h ⊢; exact ⟨h.1, ih _ hk h.2⟩
  | alloc o c ih => intro p s hk h; rw [Sem.wp] at h ⊢; exact ih _ hk h
  | register _ c ih => intro p s hk h; rw [Sem.wp] at h; exact h.elim
  | loadIfAlive a c ih => intro p s hk h; rw [Sem.wp] at h ⊢; exact ih _ hk h
  | point _ c ih => intro p s hk h; rw [Sem.wp] at h ⊢; exact ih _ hk h
  | fresh c ih => intro p s hk h; rw [Sem.wp] at h ⊢; exact ih _ (Nat.le_succ_of_le hk) h
  | ask c ih => intro p s hk h; rw [Sem.wp] at h ⊢; exact ih _ hk h
  | choose _ n c ih => intro p s hk h; rw [Sem.wp] at h ⊢; exact ⟨h.1, ih _ hk h.2⟩
  | os q l c ih => intro p s hk h; rw [Sem.wp] at h ⊢; exact ih _ hk h
  | call c hh g l cc ih => intro p s hk h; rw [Sem.wp] at h ⊢; obtain ⟨r, s', h1, h2⟩ := h; exact ⟨r, s', h1, ih _ (Nat.le_trans hk (runs_toks h1)) h2⟩
  | handled o c ih => intro p s hk h; rw [Sem.wp] at h ⊢; exact ih _ hk h
  | genState g c ih => intro p s hk h; rw [Sem.wp] at h ⊢; obtain ⟨st, h1, h2⟩ := h; exact ⟨st, h1, ih _ hk h2⟩
  | newGen c cc ih => intro p s hk h; rw [Sem.wp] at h ⊢; exact ih _ hk h
  | resume g r l cc ih => intro p s hk h; rw [Sem.wp] at h ⊢; obtain ⟨res, s', h1, h2⟩ := h; exact ⟨res, s', h1, ih _ (Nat.le_trans hk (wakes_toks h1)) h2⟩
  | yield v g l c ih => intro p s hk h; rw [Sem.wp] at h; exact h.elim
  | stack c ih => intro p s hk h; rw [Sem.wp] at h ⊢; exact ih _ hk h
  | fork c cc ih => intro p s hk h; rw [Sem.wp] at h; exact h.elim
  | thread c ih => intro p s hk h; rw [Sem.wp] at h ⊢; exact ih _ hk h
  | await a f d l c ih => intro p s hk h; rw [Sem.wp] at h; exact h.elim
theorem with_toks {α : Type} {M : Model} {A : Around} {t : Sem α} {Q : α → Shared → Prop} {E : Value → Shared → Prop} {s : Shared} (h : wpAny M A t (fun a s' => s.toks ≤ s'.toks → Q a s') E s) : wpAny M A t Q E s :=
  fun Γ p hΓ => Sem.wp_mono M Γ t (fun _ _ _ x => x.2 x.1) (fun _ _ _ x => x.2) p s (wp_toks s.toks t (Nat.le_refl _) (h Γ p hΓ))
end
section
open PySem PySem.W PyProof.Rows PySem.Calls PySem.Builtin PySem.Builtin.Str
local macro_rules | `(tactic| omega) => `(tactic| lia)
theorem len_list (x : Str) : x.cps.toList.length = x.length := Array.length_toList
theorem mk_list (x : Str) : (⟨x.cps.toList.toArray⟩ : Str) = x := rfl
theorem max_min (c n : Nat) : max (0 : Int) (min (c : Int) (n : Int)) = ((min c n : Nat) : Int) := by omega
theorem idx_nil {a b n : Nat} (h : b ≤ a ∨ n ≤ a) : strSliceIndices (some (a : Int)) (some (b : Int)) 1 n = [] := by
  have h4 : ¬ ((b : Int) < 0) := Int.not_lt.mpr (Int.natCast_nonneg _)
  have h5 : ¬ ((a : Int) < 0) := Int.not_lt.mpr (Int.natCast_nonneg _)
  have hle : min b n ≤ min a n := Nat.le_min.mpr ⟨h.elim (fun h => Nat.le_trans (Nat.min_le_left _ _) h) fun h => Nat.le_trans (Nat.min_le_right _ _) h, Nat.min_le_right _ _⟩
  unfold strSliceIndices sliceRange
  simp only [h4, h5, if_false, show (1 : Int) > 0 by decide, if_true, Int.ediv_one]
  rw [List.map_eq_nil_iff, List.range_eq_nil]
  split
  · rw [max_min b n, max_min a n, Int.add_sub_cancel]
    exact Int.toNat_of_nonpos (Int.sub_nonpos_of_le (Int.ofNat_le.mpr hle))
  · rfl
theorem slice_nil {x : Str} {a b : Nat} {l : List Nat} (_h0 : True) (h : b ≤ a ∨ x.length ≤ a) (hl : l = []) : Txt.slice x (some (a : Int)) (some (b : Int)) = ⟨l.toArray⟩ := by
  unfold Txt.slice
  rw [idx_nil h, hl]
  split
  · rename_i q
    have : x.length = 0 := by have q2 : 0 = x.length := by simpa using q
                              exact q2.symm
    refine Str.ext' ?_
    exact Array.eq_empty_of_size_eq_zero this
  · rfl
/-- any two bounds, cut to the text -/
theorem slice_nat (x : Str) (a b : Nat) : Txt.slice x (some (a : Int)) (some (b : Int)) = ⟨((x.cps.toList.drop a).take (b - a)).toArray⟩ := by
  have hl := len_list x
  by_cases h1 : a ≤ x.length
  · by_cases h2 : a ≤ b
    · by_cases h3 : b ≤ x.length
      · exact StrLaws.sliceText_nat x h2 h3
      · have e : strSliceIndices (some (a : Int)) (some (b : Int)) 1 x.length = strSliceIndices (some (a : Int)) (some (x.length : Int)) 1 x.length := by
          have : min (b : Int) (x.length : Int) = x.length := by omega
          have h4 : ¬ ((b : Int) < 0) := by omega
          have h5 : ¬ ((x.length : Int) < 0) := by omega
          simp [strSliceIndices, this, h4, h5]
        have e2 : Txt.slice x (some (a : Int)) (some (b : Int)) = StrLaws.sliceText x (some (a : Int)) (some (x.length : Int)) := by
          show StrLaws.sliceText _ _ _ = _
          unfold StrLaws.sliceText
          rw [e]
        rw [e2, StrLaws.sliceText_nat x h1 (Nat.le_refl _)]
        congr 2
        rw [List.take_of_length_le (by rw [List.length_drop]; omega), List.take_of_length_le (by rw [List.length_drop]; omega)]
    · exact slice_nil trivial (.inl (by omega)) (by rw [show b - a = 0 by omega]; rfl)
  · by_cases h2 : a ≤ b
    · exact slice_nil trivial (.inr (by omega)) (by rw [List.drop_eq_nil_of_le (by omega), List.take_nil])
    · exact slice_nil trivial (.inl (by omega)) (by rw [show b - a = 0 by omega]; rfl)
theorem item_at {x : Str} {i c : Nat} (h : x.cps.toList[i]? = some c) : Txt.item x (i : Int) = ⟨#[c]⟩ := by
  unfold Txt.item Txt.charAt
  rw [StrLaws.at_nonneg (by omega) (by simpa using h)]
  rfl
theorem slice_all {x : Str} (h : x.length < 1000) : Txt.slice x (some 0) (some (0 + 10240)) = x := by
  have e := slice_nat x 0 10240
  have hl := len_list x
  rw [List.drop_zero, List.take_of_length_le (by omega)] at e
  exact e
theorem slice_end {x : Str} : Txt.slice x (some (x.length : Int)) (some ((x.length : Int) + 10240)) = Str.ofString "" := by
  have e := slice_nat x x.length (x.length + 10240)
  have hl := len_list x
  rw [List.drop_eq_nil_of_le (by omega), List.take_nil] at e
  exact e.trans (by decide +kernel)
theorem slice_to_neg {x : Str} {k : Nat} (h0 : 0 < k) (h1 : k ≤ x.length) : Txt.slice x none (some (-(k : Int))) = ⟨(x.cps.toList.take (x.length - k)).toArray⟩ := by
  have e := StrLaws.sliceText_to_neg (x := x) (j := -(k : Int)) (by omega) (by omega)
  rw [List.drop_zero, show (-(k : Int) + x.length - 0).toNat = x.length - k by omega] at e
  exact e
theorem cut_is {x : Str} (h1 : 0 < x.length) : Txt.slice x none (some (-1)) = ⟨(x.cps.toList.take (x.length - 1)).toArray⟩ := slice_to_neg (k := 1) (by omega) (by omega)
theorem cut_len {x : Str} (h : x.length < 1000) : (Txt.slice x none (some (-1))).length < 1000 := Nat.lt_of_le_of_lt (Txt.slice_le x none (some (-1))) h
theorem cut_pos {x : Str} (h : 1 < x.length) : 0 < (Txt.slice x none (some (-1))).length := by
  have hl := len_list x
  rw [cut_is (by omega)]
  show 0 < (List.toArray _).size
  rw [List.size_toArray, List.length_take]
  omega
noncomputable def okc (n : Nat) : Prop := n = 0 ∨ n = 9 ∨ n = 10 ∨ n = 12 ∨ n = 13 ∨ (32 ≤ n ∧ n < 127) ∨ n = 233
theorem item_last {x : Str} (h0 : 0 < x.length) : ∃ n, x.cps.toList[x.length - 1]? = some n ∧ Txt.item x (-1) = ⟨#[n]⟩ := by
  have hl := len_list x
  have hlt : x.length - 1 < x.cps.toList.length := by omega
  refine ⟨x.cps.toList[x.length - 1], List.getElem?_eq_getElem hlt, ?_⟩
  unfold Txt.item Txt.charAt
  rw [StrLaws.at_neg (n := x.cps.toList[x.length - 1]) (by omega) (by omega) (by rw [show (-1 + (x.length : Int)).toNat = x.length - 1 by omega, ← Array.getElem?_toList]; exact List.getElem?_eq_getElem hlt)]
  rfl
theorem last_ok {x : Str} (h0 : 0 < x.length) (h : ∀ c ∈ x.cps.toList, okc c) : okc ((Txt.item x (-1)).cps.getD 0 0) := by
  obtain ⟨n, hn, e⟩ := item_last h0
  rw [e]
  exact h n (List.mem_of_getElem? hn)
theorem cut_ok {x : Str} (h : ∀ c ∈ x.cps.toList, okc c) : ∀ c ∈ (Txt.slice x none (some (-1))).cps.toList, okc c := by
  by_cases h0 : 0 < x.length
  · rw [cut_is h0]
    exact fun c hc => h c (List.mem_of_mem_take hc)
  · intro c hc
    have := Txt.slice_le x none (some (-1))
    have h1 := len_list (Txt.slice x none (some (-1)))
    have := List.length_pos_of_mem hc
    omega
theorem item_13 {x : Str} (_h1 : 1 ≤ (Txt.item x (-1)).length ∧ (Txt.item x (-1)).length ≤ 1) (h : (((Txt.item x (-1)).cps.getD 0 0 : Nat) : Int) = 13) : Txt.item x (-1) = ⟨#[13]⟩ := by
  unfold Txt.item at h ⊢
  have e : (Txt.charAt x (-1)).getD 0 = 13 := by
    have : (((Txt.charAt x (-1)).getD 0 : Nat) : Int) = 13 := h
    omega
  rw [e]
end
section
open PySem PySem.W PyProof.Rows PySem.Calls PySem.Builtin PySem.Builtin.Str
local macro_rules | `(tactic| omega) => `(tactic| lia)
noncomputable def repG (y z : List Nat) : Nat → List Nat → List Nat
  | _, [] => []
  | k + 1, _ :: r => repG y z k r
  | 0, c :: r => if y.isPrefixOf (c :: r) then z ++ repG y z (y.length - 1) r else c :: repG y z 0 r
theorem repG_nil (y z : List Nat) (k : Nat) : repG y z k [] = [] := by cases k <;> rfl
theorem repG_skip (y z : List Nat) : ∀ (k : Nat) (l : List Nat), repG y z k l = repG y z 0 (l.drop k)
  | 0, _ => rfl
  | k + 1, [] => by rw [repG_nil, List.drop_nil, repG_nil]
  | k + 1, _ :: r => by rw [List.drop_succ_cons, ← repG_skip y z k r]; rfl
theorem at_pre {s sub : Str} {i : Nat} (hm : 0 < sub.length) : StrLaws.At s sub s.length i ↔ sub.cps.toList.isPrefixOf (s.cps.toList.drop i) = true := by
  unfold StrLaws.At
  rw [StrLaws.subAt_eq, beq_iff_eq, List.isPrefixOf_iff_prefix]
  have h1 := len_list s
  have h2 := len_list sub
  constructor
  · rintro ⟨_, h⟩
    rw [← h]
    exact List.take_prefix _ _
  · intro h
    have hl := h.length_le
    rw [List.length_drop] at hl
    obtain ⟨t, ht⟩ := h
    exact ⟨by omega, by rw [← ht, ← h2, List.take_left]⟩
section
variable {x y z : Str}
theorem rep_hit (hm : 0 < y.length) {c : Nat} (h : StrLaws.At x y x.length c) : repG y.cps.toList z.cps.toList 0 (x.cps.toList.drop c) = z.cps.toList ++ repG y.cps.toList z.cps.toList 0 (x.cps.toList.drop (c + y.length)) := by
  have hp := (at_pre hm).mp h
  have h1 := len_list x
  have h2 := len_list y
  have hc := h.1
  have hd : x.cps.toList.drop c = x.cps.toList[c]'(by omega) :: x.cps.toList.drop (c + 1) := List.drop_eq_getElem_cons (by omega)
  rw [hd] at hp ⊢
  rw [repG, if_pos hp, repG_skip, List.drop_drop, h2, show c + 1 + (y.length - 1) = c + y.length by omega]
theorem rep_run (hm : 0 < y.length) : ∀ (n a c : Nat), a + n = c → c ≤ x.length → (∀ k, a ≤ k → k < c → ¬ StrLaws.At x y x.length k) →
    repG y.cps.toList z.cps.toList 0 (x.cps.toList.drop a) = (x.cps.toList.drop a).take (c - a) ++ repG y.cps.toList z.cps.toList 0 (x.cps.toList.drop c)
  | 0, a, c, e, _, _ => by
    have : a = c := by omega
    subst this
    rw [Nat.sub_self, List.take_zero, List.nil_append]
  | n + 1, a, c, e, hc, hn => by
    have h1 := len_list x
    have hd : x.cps.toList.drop a = x.cps.toList[a]'(by omega) :: x.cps.toList.drop (a + 1) := List.drop_eq_getElem_cons (by omega)
    have hp : ¬ y.cps.toList.isPrefixOf (x.cps.toList.drop a) = true := fun q => hn a (Nat.le_refl _) (by omega) ((at_pre hm).mpr q)
    have ih := rep_run hm n (a + 1) c (by omega) hc (fun k h1 h2 => hn k (by omega) h2)
    rw [hd] at hp ⊢
    rw [repG, if_neg hp, ih, show c - a = (c - (a + 1)) + 1 by omega, List.take_succ_cons]
    rfl
theorem rep_parts (hm : 0 < y.length) : ∀ (cuts : List Nat) (a f : Nat), StrLaws.ChainG x y x.length a cuts f → (∀ k, f ≤ k → ¬ StrLaws.At x y x.length k) → a ≤ x.length →
    (Str.join z (StrLaws.partsFrom x y.length a cuts)).cps.toList = repG y.cps.toList z.cps.toList 0 (x.cps.toList.drop a)
  | [], a, f, h, hn, ha => by
    have e : f = a := h
    subst e
    have h1 := len_list x
    rw [rep_run hm (x.length - f) f x.length (by omega) (Nat.le_refl _) (fun k h1 _ => hn k h1), List.drop_eq_nil_of_le (by omega : x.cps.toList.length ≤ x.length), repG_nil, List.append_nil]
    show (strSub x f x.length).cps.toList = _
    rw [StrLaws.strSub_toList]
  | c :: r, a, f, h, hn, ha => by
    obtain ⟨h1, h2, h3, h4⟩ := h
    obtain ⟨p, q, e⟩ := StrLaws.partsFrom_ne x y.length (c + y.length) r
    have ih := rep_parts hm r (c + y.length) f h4 hn h2.1
    have h5 := h2.1
    show (Str.join z (strSub x a c :: StrLaws.partsFrom x y.length (c + y.length) r)).cps.toList = _
    rw [rep_run hm (c - a) a c (by omega) (by omega) h3, rep_hit hm h2, ← ih, e]
    show (strSub x a c ++ z ++ Str.join z (p :: q)).cps.toList = _
    simp only [Str.cps_append, Array.toList_append, StrLaws.strSub_toList, List.append_assoc]
/-- replace, as a plain function -/
theorem replace_is (x y z : Str) (hm : 0 < y.length) : (Txt.replace x y z).cps.toList = repG y.cps.toList z.cps.toList 0 x.cps.toList := by
  obtain ⟨f, h1, h2⟩ := StrLaws.occ_tight x y hm
  have key := rep_parts (z := z) hm _ 0 f h1 h2 (Nat.zero_le _)
  rw [List.drop_zero] at key
  unfold Txt.replace
  split
  · rename_i hc
    have h0 : (y.length == 0) = false := by simp; omega
    rw [h0, Bool.false_and, Bool.or_false] at hc
    rw [List.isEmpty_iff.mp hc] at key
    rw [← key]
    show _ = (strSub x 0 x.length).cps.toList
    rw [StrLaws.sub_whole]
  · rw [StrLaws.glued_eq_join, StrLaws.partsBetween_eq]
    exact key
end
/-- CR LF as one LF -/
noncomputable def crl : List Nat → List Nat
  | [] => []
  | [c] => [c]
  | c :: d :: r => if c = 13 ∧ d = 10 then 10 :: crl r else c :: crl (d :: r)
noncomputable def cr1 (l : List Nat) : List Nat := l.map fun c => if c = 13 then 10 else c
theorem rep_crl : ∀ l : List Nat, repG [13, 10] [10] 0 l = crl l
  | [] => rfl
  | [c] => by
    rw [repG, if_neg (by simp [List.isPrefixOf])]
    rfl
  | c :: d :: r => by
    rw [repG, crl]
    by_cases h : c = 13 ∧ d = 10
    · rw [if_pos (by simp [List.isPrefixOf, h.1, h.2]), if_pos h, repG_skip, List.length_cons, List.length_cons, List.length_nil]
      show [10] ++ repG [13, 10] [10] 0 (List.drop 1 (d :: r)) = _
      rw [List.drop_succ_cons, List.drop_zero, rep_crl r]
      rfl
    · rw [if_neg (fun q => h (by simp [List.isPrefixOf] at q; exact ⟨q.1.symm, q.2.symm⟩)), if_neg h, rep_crl (d :: r)]
theorem rep_cr1 : ∀ l : List Nat, repG [13] [10] 0 l = cr1 l
  | [] => rfl
  | c :: r => by
    rw [repG, cr1, List.map_cons, ← cr1, ← rep_cr1 r]
    by_cases h : c = 13
    · rw [if_pos (by simp [List.isPrefixOf, h]), if_pos h]
      rfl
    · rw [if_neg (fun q => h (by simp [List.isPrefixOf] at q; exact q.symm)), if_neg h]
theorem crlf_is (x : Str) : (Txt.replace x (Str.ofString "\x0d\n") (Str.ofString "\n")).cps.toList = crl x.cps.toList := by
  rw [replace_is x _ _ (by decide +kernel), ← rep_crl]
  congr 1 <;> decide +kernel
theorem cr_is (x : Str) : (Txt.replace x (Str.ofString "\x0d") (Str.ofString "\n")).cps.toList = cr1 x.cps.toList := by
  rw [replace_is x _ _ (by decide +kernel), ← rep_cr1]
  congr 1 <;> decide +kernel
theorem mend_is (x : Str) : (Txt.replace (Txt.replace x (Str.ofString "\x0d\n") (Str.ofString "\n")) (Str.ofString "\x0d") (Str.ofString "\n")).cps.toList = cr1 (crl x.cps.toList) := by
  rw [cr_is, crlf_is]
theorem crl_len : ∀ l : List Nat, (crl l).length ≤ l.length
  | [] => Nat.le_refl _
  | [_] => Nat.le_refl _
  | c :: d :: r => by
    rw [crl]
    split
    · have := crl_len r
      simp only [List.length_cons]; omega
    · have := crl_len (d :: r)
      simp only [List.length_cons] at this ⊢; omega
theorem crl_pos : ∀ l : List Nat, 0 < l.length → 0 < (crl l).length
  | [], h => h
  | [_], h => h
  | c :: d :: r, _ => by rw [crl]; split <;> simp
theorem crl_keep : ∀ l : List Nat, crl (l ++ [13]) = crl l ++ [13]
  | [] => rfl
  | [c] => by
    show (if c = 13 ∧ (13 : Nat) = 10 then 10 :: crl [] else c :: crl [13]) = _
    rw [if_neg (by omega)]
    rfl
  | c :: d :: r => by
    show crl (c :: d :: (r ++ [13])) = _
    rw [crl, crl]
    split
    · rw [crl_keep r]; rfl
    · rw [show d :: (r ++ [13]) = (d :: r) ++ [13] from rfl, crl_keep (d :: r)]; rfl
theorem crl_mem : ∀ (l : List Nat) (c : Nat), c ∈ crl l → c = 10 ∨ c ∈ l
  | [], _, h => .inr h
  | [_], _, h => .inr h
  | c :: d :: r, e, h => by
    rw [crl] at h
    split at h
    · rcases List.mem_cons.mp h with rfl | h
      · exact .inl rfl
      · exact (crl_mem r e h).imp id fun q => .tail _ (.tail _ q)
    · rcases List.mem_cons.mp h with rfl | h
      · exact .inr (.head _)
      · exact (crl_mem (d :: r) e h).imp id fun q => .tail _ q
theorem crlf_len (x : Str) : (Txt.replace x (Str.ofString "\x0d\n") (Str.ofString "\n")).length ≤ x.length := by
  rw [← len_list, crlf_is, ← len_list x]
  exact crl_len _
theorem mend_len (x : Str) : (Txt.replace (Txt.replace x (Str.ofString "\x0d\n") (Str.ofString "\n")) (Str.ofString "\x0d") (Str.ofString "\n")).length ≤ x.length := by
  rw [← len_list, mend_is, cr1, List.length_map, ← len_list x]
  exact crl_len _
theorem mend_pos {x : Str} (h : 0 < x.length) : 0 < (Txt.replace (Txt.replace x (Str.ofString "\x0d\n") (Str.ofString "\n")) (Str.ofString "\x0d") (Str.ofString "\n")).length := by
  rw [← len_list, mend_is, cr1, List.length_map]
  exact crl_pos _ (by rw [len_list]; exact h)
theorem mend_keep {x : Str} (h1 : 1 < x.length) (h : (Txt.item x (-1)).cps.getD 0 0 = 13) : (Txt.replace (Txt.replace x (Str.ofString "\x0d\n") (Str.ofString "\n")) (Str.ofString "\x0d") (Str.ofString "\n")).cps.toList = (Txt.replace (Txt.replace (Txt.slice x none (some (-1))) (Str.ofString "\x0d\n") (Str.ofString "\n")) (Str.ofString "\x0d") (Str.ofString "\n")).cps.toList ++ [10] := by
  obtain ⟨n, hn, e⟩ := item_last (x := x) (by omega)
  rw [e] at h
  have hn13 : n = 13 := h
  subst hn13
  have hx : x.cps.toList = x.cps.toList.take (x.length - 1) ++ [13] := by
    have hl := len_list x
    have h2 := List.take_append_drop (x.length - 1) x.cps.toList
    rw [List.drop_eq_getElem_cons (by omega), List.drop_eq_nil_of_le (by omega)] at h2
    rw [List.getElem?_eq_getElem (by omega)] at hn
    rw [Option.some.inj hn] at h2
    exact h2.symm
  rw [mend_is, mend_is, cut_is (by omega)]
  show cr1 (crl x.cps.toList) = cr1 (crl (x.cps.toList.take (x.length - 1))) ++ [10]
  rw [hx, crl_keep, cr1, List.map_append]
  congr 2
  rw [← hx]
theorem mend_no13 (x : Str) : ∀ c ∈ (Txt.replace (Txt.replace x (Str.ofString "\x0d\n") (Str.ofString "\n")) (Str.ofString "\x0d") (Str.ofString "\n")).cps.toList, c ≠ 13 := by
  intro c hc
  rw [mend_is] at hc
  obtain ⟨d, _, e⟩ := List.mem_map.mp hc
  split at e <;> omega
theorem mend_mem (x : Str) : ∀ c ∈ (Txt.replace (Txt.replace x (Str.ofString "\x0d\n") (Str.ofString "\n")) (Str.ofString "\x0d") (Str.ofString "\n")).cps.toList, c = 10 ∨ c ∈ x.cps.toList := by
  intro c hc
  rw [mend_is] at hc
  obtain ⟨d, hd, e⟩ := List.mem_map.mp hc
  split at e
  · exact .inl e.symm
  · subst e; exact crl_mem _ _ hd
theorem no_line {x : Str} {k : Nat} (h : k ≤ x.length) (hn : ∀ c ∈ x.cps.toList.take k, c ≠ 10) : count4 x (Str.ofString "\n") 0 k = 0 ∧ rfind4 x (Str.ofString "\n") 0 k = -1 := by
  have hno : ∀ i, i + (⟨#[10]⟩ : Str).length ≤ min (fromIndex x.length (k : Int)) x.length → ¬ subAt x ⟨#[10]⟩ i = true := by
    intro i hi hs
    have h1 : (⟨#[10]⟩ : Str).length = 1 := rfl
    have hf : fromIndex x.length (k : Int) = k := by
      unfold fromIndex
      rw [if_neg (by omega)]
      omega
    rw [hf, h1] at hi
    have h2 := (StrLaws.subAt_one x 10 i).mp ⟨by rw [h1]; omega, hs⟩
    refine hn 10 ?_ rfl
    refine List.mem_of_getElem? (i := i) ?_
    rw [List.getElem?_take, if_pos (by omega)]
    exact h2
  have e10 : (Str.ofString "\n") = ⟨#[10]⟩ := by decide +kernel
  rw [e10]
  constructor
  · unfold count4
    have : occurrences x ⟨#[10]⟩ (fromIndex x.length 0) (min (fromIndex x.length (k : Int)) x.length) (x.length + 1) = [] := by
      refine List.eq_nil_iff_forall_not_mem.mpr fun i hi => ?_
      have := StrLaws.occ_spec _ _ _ _ _ i hi
      exact hno i this.1 this.2
    rw [this]
    rfl
  · unfold rfind4
    have : lastOccurrence x ⟨#[10]⟩ (fromIndex x.length 0) (min (fromIndex x.length (k : Int)) x.length) = none := by
      rw [StrLaws.last_eq]
      generalize List.range' _ _ = l
      induction l with
      | nil => rfl
      | cons a l ih =>
        rw [List.forIn_cons]
        unfold StrLaws.lastBody
        rw [if_neg (fun q => by
          exact hno a q.1 q.2)]
        exact ih
    rw [this]
end
section
open PySem PySem.W PyProof.Rows PySem.Calls PySem.Builtin PySem.Builtin.Str
local macro_rules | `(tactic| omega) => `(tactic| lia)
noncomputable def keysL : List Str := [Str.ofString "AMP", Str.ofString "AMP;", Str.ofString "Eacute", Str.ofString "Eacute;", Str.ofString "Mopf;", Str.ofString "ac;", Str.ofString "acE;", Str.ofString "acute", Str.ofString "acute;", Str.ofString "amp", Str.ofString "amp;", Str.ofString "ang;", Str.ofString "angle;", Str.ofString "bne;", Str.ofString "copy", Str.ofString "copy;", Str.ofString "eacute", Str.ofString "eacute;", Str.ofString "frac12", Str.ofString "frac12;", Str.ofString "gt", Str.ofString "gt;", Str.ofString "lt", Str.ofString "lt;", Str.ofString "nbsp", Str.ofString "nbsp;", Str.ofString "not", Str.ofString "not;", Str.ofString "notin;", Str.ofString "notni;", Str.ofString "para", Str.ofString "para;", Str.ofString "parallel;", Str.ofString "quot", Str.ofString "quot;", Str.ofString "sup1", Str.ofString "sup1;", Str.ofString "sup2", Str.ofString "sup2;", Str.ofString "sup;", Str.ofString "times", Str.ofString "times;", Str.ofString "timesb;"]
noncomputable def keyAt (i : Int) : Str := keysL.getD i.toNat Str.empty
/-- the bisection as a plain function -/
noncomputable def bisN (key : Str) : Nat → Int → Int → Int
  | 0, lo, _ => lo
  | f + 1, lo, hi => if lo < hi then (if (keyAt ((lo + hi).fdiv 2)).cps.toList < key.cps.toList then bisN key f ((lo + hi).fdiv 2 + 1) hi else bisN key f lo ((lo + hi).fdiv 2)) else lo
theorem bisN_end {key : Str} {f : Nat} {lo hi : Int} (h : ¬ lo < hi) : bisN key f lo hi = lo := by
  cases f with
  | zero => rfl
  | succ f => exact if_neg h
theorem bis_rng {key : Str} : ∀ {f : Nat} {lo hi : Int}, lo ≤ hi → lo ≤ bisN key f lo hi ∧ bisN key f lo hi ≤ hi
  | 0, lo, hi, h => ⟨Int.le_refl _, h⟩
  | f + 1, lo, hi, h => by
    have e : (lo + hi).fdiv 2 = (lo + hi) / 2 := Int.fdiv_eq_ediv_of_nonneg _ (by omega)
    rw [bisN]
    split
    · split
      · have := bis_rng (key := key) (f := f) (lo := (lo + hi).fdiv 2 + 1) (hi := hi) (by rw [e]; omega)
        rw [e] at this ⊢
        omega
      · have := bis_rng (key := key) (f := f) (lo := lo) (hi := (lo + hi).fdiv 2) (by rw [e]; omega)
        rw [e] at this ⊢
        omega
    · omega
theorem bis_um {a b : Int} (h : a < b) : (b - ((a + b).fdiv 2 + 1)).toNat < (b - a).toNat := by
  have e : (a + b).fdiv 2 = (a + b) / 2 := Int.fdiv_eq_ediv_of_nonneg _ (by omega)
  rw [e]; omega
theorem bis_dm {a b : Int} (h : a < b) : ((a + b).fdiv 2 - a).toNat < (b - a).toNat := by
  have e : (a + b).fdiv 2 = (a + b) / 2 := Int.fdiv_eq_ediv_of_nonneg _ (by omega)
  rw [e]; omega
theorem bis_up {key : Str} {lo hi a b : Int} {f : Nat} (p1 : lo ≤ a) (p2 : a ≤ b) (p3 : b ≤ hi) (p4 : (b - a).toNat ≤ f) (p5 : bisN key f a b = bisN key (hi - lo).toNat lo hi) (h : a < b) (hc : (keyAt ((a + b).fdiv 2)).cps.toList < key.cps.toList) :
    lo ≤ (a + b).fdiv 2 + 1 ∧ (a + b).fdiv 2 + 1 ≤ b ∧ b ≤ hi ∧ ∃ f, (b - ((a + b).fdiv 2 + 1)).toNat ≤ f ∧ bisN key f ((a + b).fdiv 2 + 1) b = bisN key (hi - lo).toNat lo hi := by
  cases f with
  | zero => omega
  | succ f =>
    rw [bisN, if_pos h, if_pos hc] at p5
    have e : (a + b).fdiv 2 = (a + b) / 2 := Int.fdiv_eq_ediv_of_nonneg _ (by omega)
    rw [e] at p5 ⊢
    exact ⟨by omega, by omega, by omega, f, by omega, p5⟩
theorem bis_down {key : Str} {lo hi a b : Int} {f : Nat} (p1 : lo ≤ a) (p2 : a ≤ b) (p3 : b ≤ hi) (p4 : (b - a).toNat ≤ f) (p5 : bisN key f a b = bisN key (hi - lo).toNat lo hi) (h : a < b) (hc : ¬ (keyAt ((a + b).fdiv 2)).cps.toList < key.cps.toList) :
    lo ≤ a ∧ a ≤ (a + b).fdiv 2 ∧ (a + b).fdiv 2 ≤ hi ∧ ∃ f, ((a + b).fdiv 2 - a).toNat ≤ f ∧ bisN key f a ((a + b).fdiv 2) = bisN key (hi - lo).toNat lo hi := by
  cases f with
  | zero => omega
  | succ f =>
    rw [bisN, if_pos h, if_neg hc] at p5
    have e : (a + b).fdiv 2 = (a + b) / 2 := Int.fdiv_eq_ediv_of_nonneg _ (by omega)
    rw [e] at p5 ⊢
    exact ⟨by omega, by omega, by omega, f, by omega, p5⟩

/-- the table's names, in its order -/
noncomputable def namesA : List Str := [⟨#[65, 77, 80]⟩, ⟨#[65, 77, 80, 59]⟩, ⟨#[69, 97, 99, 117, 116, 101]⟩, ⟨#[69, 97, 99, 117, 116, 101, 59]⟩, ⟨#[77, 111, 112, 102, 59]⟩, ⟨#[97, 99, 59]⟩, ⟨#[97, 99, 69, 59]⟩, ⟨#[97, 99, 117, 116, 101]⟩, ⟨#[97, 99, 117, 116, 101, 59]⟩, ⟨#[97, 109, 112]⟩, ⟨#[97, 109, 112, 59]⟩, ⟨#[97, 110, 103, 59]⟩, ⟨#[97, 110, 103, 108, 101, 59]⟩, ⟨#[98, 110, 101, 59]⟩, ⟨#[99, 111, 112, 121]⟩, ⟨#[99, 111, 112, 121, 59]⟩, ⟨#[101, 97, 99, 117, 116, 101]⟩, ⟨#[101, 97, 99, 117, 116, 101, 59]⟩, ⟨#[102, 114, 97, 99, 49, 50]⟩, ⟨#[102, 114, 97, 99, 49, 50, 59]⟩, ⟨#[103, 116]⟩, ⟨#[103, 116, 59]⟩, ⟨#[108, 116]⟩, ⟨#[108, 116, 59]⟩, ⟨#[110, 98, 115, 112]⟩, ⟨#[110, 98, 115, 112, 59]⟩, ⟨#[110, 111, 116]⟩, ⟨#[110, 111, 116, 59]⟩, ⟨#[110, 111, 116, 105, 110, 59]⟩, ⟨#[110, 111, 116, 110, 105, 59]⟩, ⟨#[112, 97, 114, 97]⟩, ⟨#[112, 97, 114, 97, 59]⟩, ⟨#[112, 97, 114, 97, 108, 108, 101, 108, 59]⟩, ⟨#[113, 117, 111, 116]⟩, ⟨#[113, 117, 111, 116, 59]⟩, ⟨#[115, 117, 112, 49]⟩, ⟨#[115, 117, 112, 49, 59]⟩, ⟨#[115, 117, 112, 50]⟩, ⟨#[115, 117, 112, 50, 59]⟩, ⟨#[115, 117, 112, 59]⟩, ⟨#[116, 105, 109, 101, 115]⟩, ⟨#[116, 105, 109, 101, 115, 59]⟩, ⟨#[116, 105, 109, 101, 115, 98, 59]⟩]
noncomputable def inE (x : Str) : Bool := namesA.any fun k => decide (x = k)
noncomputable def hasK (x : Str) : Bool := inE x || (!decide (bisN x 43 0 43 = 43) && Txt.startswith (keyAt (bisN x 43 0 43)) x)
theorem hasK_1 {x : Str} (h : inE x = true) : true = hasK x := by unfold hasK; rw [h]; rfl
theorem hasK_2 {x : Str} {r : Int} (h : inE x = false) (hr : r = bisN x 43 0 43) (e : r = 43) : false = hasK x := by unfold hasK; rw [h, ← hr, e]; rfl
theorem hasK_3 {x : Str} {r : Int} (h : inE x = false) (hr : r = bisN x 43 0 43) (e : r ≠ 43) : Txt.startswith (keyAt r) x = hasK x := by unfold hasK; rw [h, ← hr, decide_eq_false e]; rfl
end
section
open PySem PySem.W PyProof.Rows PySem.Calls PySem.Builtin PySem.Builtin.Str
local macro_rules | `(tactic| omega) => `(tactic| lia)
/-- the names as codes -/
noncomputable def nL : List (List Nat) := namesA.map fun k => k.cps.toList
theorem keys_names : keysL = namesA := by decide +kernel
theorem str_eq {x y : Str} (h : x.cps.toList = y.cps.toList) : x = y := Str.ext' (Array.toList_inj.mp h)
theorem mem_nL {x : Str} : inE x = true ↔ x.cps.toList ∈ nL := by
  unfold inE nL
  rw [List.any_eq_true, List.mem_map]
  constructor
  · rintro ⟨k, hk, e⟩; exact ⟨k, hk, by rw [of_decide_eq_true e]⟩
  · rintro ⟨k, hk, e⟩; exact ⟨k, hk, decide_eq_true (str_eq e.symm)⟩
theorem sorted_nL : nL.Pairwise (· < ·) := by decide +kernel
noncomputable def nAt (i : Nat) : List Nat := nL.getD i []
theorem keyAt_nat (i : Nat) : (keyAt (i : Int)).cps.toList = nAt i := by
  unfold keyAt nAt nL
  rw [keys_names, Int.toNat_natCast]
  simp only [List.getD_eq_getElem?_getD, List.getElem?_map]
  cases namesA[i]? with
  | none => decide +kernel
  | some k => rfl
theorem nL_len : nL.length = 43 := by decide +kernel
theorem nAt_lt {i j : Nat} (h : i < j) (hj : j < 43) : nAt i < nAt j := by
  have hl := nL_len
  have := List.pairwise_iff_getElem.mp sorted_nL i j (by omega) (by omega) h
  unfold nAt
  rw [List.getD_eq_getElem?_getD, List.getD_eq_getElem?_getD, List.getElem?_eq_getElem (by omega), List.getElem?_eq_getElem (by omega)]
  exact this
theorem nAt_mem {i : Nat} (h : i < 43) : nAt i ∈ nL := by
  have hl := nL_len
  unfold nAt
  rw [List.getD_eq_getElem?_getD, List.getElem?_eq_getElem (by omega)]
  exact List.getElem_mem _
theorem mem_nAt {k : List Nat} (h : k ∈ nL) : ∃ i, i < 43 ∧ nAt i = k := by
  have hl := nL_len
  obtain ⟨i, hi, e⟩ := List.getElem_of_mem h
  refine ⟨i, by omega, ?_⟩
  unfold nAt
  rw [List.getD_eq_getElem?_getD, List.getElem?_eq_getElem (by omega)]
  exact e
theorem pre_not_lt : ∀ {x k : List Nat}, x <+: k → ¬ k < x
  | [], k, _, h => List.not_lt_nil _ h
  | c :: x, k, hp, h => by
    obtain ⟨t, rfl⟩ := hp
    rw [List.cons_append, List.cons_lt_cons_iff] at h
    rcases h with h | ⟨_, h⟩
    · omega
    · exact pre_not_lt (List.prefix_append x t) h
theorem pre_between : ∀ {x a k : List Nat}, x <+: k → ¬ a < x → ¬ k < a → x <+: a
  | [], a, _, _, _, _ => List.nil_prefix
  | c :: x, [], _, _, h, _ => absurd (List.nil_lt_cons _ _) h
  | c :: x, d :: a, k, hp, h1, h2 => by
    obtain ⟨t, rfl⟩ := hp
    rw [List.cons_lt_cons_iff] at h1
    rw [List.cons_append, List.cons_lt_cons_iff] at h2
    have e : c = d := by omega
    subst e
    have := pre_between (List.prefix_append x t) (fun q => h1 (.inr ⟨rfl, q⟩)) (fun q => h2 (.inr ⟨rfl, q⟩))
    exact List.cons_prefix_cons.mpr ⟨rfl, this⟩
/-- the bisection's place: all ahead of it are less, all from it on are not -/
theorem bis_spec {key : Str} : ∀ {f lo hi : Nat}, lo ≤ hi → hi ≤ 43 → hi - lo ≤ f → (∀ i, i < lo → nAt i < key.cps.toList) → (∀ i, hi ≤ i → i < 43 → ¬ nAt i < key.cps.toList) →
    ∃ r : Nat, bisN key f lo hi = r ∧ r ≤ 43 ∧ (∀ i, i < r → nAt i < key.cps.toList) ∧ (∀ i, r ≤ i → i < 43 → ¬ nAt i < key.cps.toList)
  | 0, lo, hi, h1, h2, h3, h4, h5 => ⟨lo, rfl, by omega, h4, fun i hi' => h5 i (by omega)⟩
  | f + 1, lo, hi, h1, h2, h3, h4, h5 => by
    by_cases hlt : lo < hi
    · have e : ((lo : Int) + hi).fdiv 2 = ((lo + hi) / 2 : Nat) := by
        rw [Int.fdiv_eq_ediv_of_nonneg _ (by omega)]; omega
      rw [bisN, if_pos (by omega), e, keyAt_nat]
      by_cases hk : nAt ((lo + hi) / 2) < key.cps.toList
      · rw [if_pos hk]
        refine bis_spec (lo := (lo + hi) / 2 + 1) (hi := hi) (by omega) h2 (by omega) (fun i hi' => ?_) h5
        by_cases hm : i = (lo + hi) / 2
        · exact hm ▸ hk
        · exact List.lt_trans (nAt_lt (show i < (lo + hi) / 2 by omega) (by omega)) hk
      · rw [if_neg hk]
        refine bis_spec (lo := lo) (hi := (lo + hi) / 2) (by omega) (by omega) (by omega) h4 (fun i hi' h43 q => ?_)
        by_cases hm : i = (lo + hi) / 2
        · exact hk (hm ▸ q)
        · exact hk (List.lt_trans (nAt_lt (show (lo + hi) / 2 < i by omega) h43) q)
    · have : lo = hi := by omega
      subst this
      exact ⟨lo, bisN_end (by omega), h2, h4, h5⟩
theorem starts_iff (x y : Str) : Txt.startswith x y = true ↔ y.cps.toList <+: x.cps.toList := by
  have h1 := len_list x
  have h2 := len_list y
  unfold Txt.startswith
  rw [Bool.and_eq_true, decide_eq_true_iff, StrLaws.subAt_eq, beq_iff_eq]
  simp only [List.drop_zero]
  constructor
  · rintro ⟨_, h⟩; rw [← h]; exact List.take_prefix _ _
  · intro h
    have := h.length_le
    obtain ⟨t, ht⟩ := h
    exact ⟨by omega, by rw [← ht, ← h2, List.take_left]⟩
/-- does a name begin so? -/
noncomputable def preN (l : List Nat) : Bool := nL.any fun k => l.isPrefixOf k
theorem preN_iff {l : List Nat} : preN l = true ↔ ∃ k ∈ nL, l <+: k := by
  unfold preN
  rw [List.any_eq_true]
  simp only [List.isPrefixOf_iff_prefix]
theorem hasK_is (x : Str) : hasK x = preN x.cps.toList := by
  obtain ⟨r, hr, h43, hlo, hhi⟩ := bis_spec (key := x) (f := 43) (lo := 0) (hi := 43) (by omega) (by omega) (by omega) (fun i h => absurd h (by omega)) (fun i h1 h2 => absurd h1 (by omega))
  have hr' : bisN x 43 0 43 = r := hr
  rw [Bool.eq_iff_iff]
  unfold hasK
  rw [preN_iff, hr', Bool.or_eq_true, Bool.and_eq_true, mem_nL, starts_iff, keyAt_nat]
  constructor
  · rintro (h | ⟨h, hp⟩)
    · exact ⟨_, h, List.prefix_refl _⟩
    · have : r ≠ 43 := fun q => by subst q; simp at h
      exact ⟨_, nAt_mem (by omega), hp⟩
  · rintro ⟨k, hk, hp⟩
    right
    obtain ⟨i, hi, rfl⟩ := mem_nAt hk
    have hir : r ≤ i := by
      rcases Nat.lt_or_ge i r with q | q
      · exact absurd (hlo i q) (pre_not_lt hp)
      · exact q
    have hr43 : r ≠ 43 := by omega
    refine ⟨by simp; omega, ?_⟩
    refine pre_between hp (hhi r (Nat.le_refl _) (by omega)) fun q => ?_
    by_cases e : r = i
    · subst e; exact List.lt_irrefl _ q
    · exact List.lt_irrefl _ (List.lt_trans q (nAt_lt (show r < i by omega) hi))
end
section
open PySem PySem.W PyProof.Rows PySem.Calls PySem.Builtin PySem.Builtin.Str
local macro_rules | `(tactic| omega) => `(tactic| lia)
noncomputable def lcp : List Nat → List Nat → Nat
  | c :: k, d :: r => if d = c then lcp k r + 1 else 0
  | _, _ => 0
theorem lcp_le_l : ∀ k r : List Nat, lcp k r ≤ k.length
  | [], _ => Nat.le_refl _
  | _ :: _, [] => Nat.zero_le _
  | c :: k, d :: r => by
    rw [lcp]
    split
    · have := lcp_le_l k r; simp only [List.length_cons]; omega
    · exact Nat.zero_le _
theorem lcp_le_r : ∀ k r : List Nat, lcp k r ≤ r.length
  | [], _ => Nat.zero_le _
  | _ :: _, [] => Nat.le_refl _
  | c :: k, d :: r => by
    rw [lcp]
    split
    · have := lcp_le_r k r; simp only [List.length_cons]; omega
    · exact Nat.zero_le _
theorem lcp_take : ∀ {k r : List Nat} {j : Nat}, j ≤ r.length → (r.take j <+: k ↔ j ≤ lcp k r)
  | k, r, 0, _ => by simp
  | k, [], j + 1, h => absurd h (by simp)
  | [], d :: r, j + 1, h => by
    rw [List.take_succ_cons]
    constructor
    · intro q; exact absurd (List.prefix_nil.mp q) (by simp)
    · intro q; exact absurd q (by rw [lcp]; · omega
                                  · intro _ _ _ _ e; cases e)
  | c :: k, d :: r, j + 1, h => by
    rw [List.take_succ_cons, List.cons_prefix_cons, lcp, lcp_take (by simpa using h)]
    split
    · rename_i e; subst e; simp
    · rename_i e; constructor
      · rintro ⟨q, _⟩; exact absurd q e
      · intro q; omega
theorem lcp_all {k r : List Nat} : k <+: r ↔ lcp k r = k.length := by
  constructor
  · rintro ⟨t, rfl⟩
    induction k with
    | nil => cases t <;> rfl
    | cons c k ih => rw [List.cons_append, lcp, if_pos rfl, ih]; rfl
  · intro h
    have h1 := lcp_le_r k r
    have h2 := (lcp_take (k := k) (r := r) (j := k.length) (by omega)).mpr (by omega)
    have e : r.take k.length = k := h2.eq_of_length (by rw [List.length_take]; omega)
    rw [← e]
    exact List.take_prefix _ _
/-- one turn of the law's own reader -/
noncomputable def stepM (r : List Nat) (s : List Nat × Nat) (k : List Nat) : List Nat × Nat := (if lcp k r = k.length ∧ s.1.length < lcp k r then k else s.1, max s.2 (lcp k r))
theorem foldM (r : List Nat) : ∀ (l : List (List Nat)) (s : List Nat × Nat),
    (∀ k ∈ l, lcp k r ≤ (l.foldl (stepM r) s).2) ∧ s.2 ≤ (l.foldl (stepM r) s).2 ∧ ((l.foldl (stepM r) s).2 = s.2 ∨ ∃ k ∈ l, lcp k r = (l.foldl (stepM r) s).2) ∧
    ((l.foldl (stepM r) s).1 = s.1 ∨ ((l.foldl (stepM r) s).1 ∈ l ∧ (l.foldl (stepM r) s).1 <+: r)) ∧ (∀ k ∈ l, k <+: r → k.length ≤ (l.foldl (stepM r) s).1.length) ∧ s.1.length ≤ (l.foldl (stepM r) s).1.length
  | [], s => ⟨fun _ h => (nomatch h), Nat.le_refl _, .inl rfl, .inl rfl, fun _ h => (nomatch h), Nat.le_refl _⟩
  | k :: l, s => by
    obtain ⟨h1, h2, h3, h4, h5, h6⟩ := foldM r l (stepM r s k)
    rw [List.foldl_cons]
    have hs : (stepM r s k).2 = max s.2 (lcp k r) := rfl
    have hb : (stepM r s k).1 = if lcp k r = k.length ∧ s.1.length < lcp k r then k else s.1 := rfl
    rw [hs] at h2 h3
    refine ⟨fun q hq => ?_, by omega, ?_, ?_, fun q hq hp => ?_, ?_⟩
    · rcases List.mem_cons.mp hq with rfl | hq
      · omega
      · exact h1 q hq
    · rcases h3 with h3 | ⟨q, hq, e⟩
      · by_cases z : s.2 ≤ lcp k r
        · exact .inr ⟨k, .head _, by omega⟩
        · exact .inl (by omega)
      · exact .inr ⟨q, .tail _ hq, e⟩
    · rcases h4 with h4 | ⟨hm, hp⟩
      · rw [h4, hb]
        split
        · rename_i z; exact .inr ⟨.head _, lcp_all.mpr z.1⟩
        · exact .inl rfl
      · exact .inr ⟨.tail _ hm, hp⟩
    · rcases List.mem_cons.mp hq with rfl | hq
      · have := lcp_all.mp hp
        refine Nat.le_trans ?_ h6
        rw [hb]
        split
        · exact Nat.le_refl _
        · omega
      · exact h5 q hq hp
    · refine Nat.le_trans ?_ h6
      rw [hb]
      split
      · omega
      · exact Nat.le_refl _
noncomputable def matchN (r : List Nat) : List Nat × Nat := nL.foldl (stepM r) ([], 0)
noncomputable abbrev bestN (r : List Nat) : List Nat := (matchN r).1
noncomputable abbrev takenN (r : List Nat) : Nat := (matchN r).2
theorem nil_nL : [] ∉ nL := by decide +kernel
theorem taken_ge (r : List Nat) {k : List Nat} (h : k ∈ nL) : lcp k r ≤ takenN r := (foldM r nL ([], 0)).1 k h
theorem taken_is (r : List Nat) : takenN r = 0 ∨ ∃ k ∈ nL, lcp k r = takenN r := (foldM r nL ([], 0)).2.2.1
theorem taken_le (r : List Nat) : takenN r ≤ r.length := by
  rcases taken_is r with h | ⟨k, _, h⟩
  · omega
  · rw [← h]; exact lcp_le_r k r
theorem best_is (r : List Nat) : bestN r = [] ∨ (bestN r ∈ nL ∧ bestN r <+: r) := (foldM r nL ([], 0)).2.2.2.1
theorem best_ge (r : List Nat) {k : List Nat} (h : k ∈ nL) (hp : k <+: r) : k.length ≤ (bestN r).length := (foldM r nL ([], 0)).2.2.2.2.1 k h hp
theorem pre_taken {r : List Nat} {j : Nat} (h : j ≤ r.length) : preN (r.take j) = true ↔ j ≤ takenN r := by
  rw [preN_iff]
  constructor
  · rintro ⟨k, hk, hp⟩
    exact Nat.le_trans ((lcp_take h).mp hp) (taken_ge r hk)
  · intro hj
    rcases taken_is r with z | ⟨k, hk, z⟩
    · obtain rfl : j = 0 := by omega
      exact ⟨_, nAt_mem (show 0 < 43 by omega), List.nil_prefix⟩
    · exact ⟨k, hk, (lcp_take h).mpr (by omega)⟩
/-- where the trie's scan ends -/
theorem scan_is {r : List Nat} {n : Nat} (h : n ≤ r.length) (h1 : n = 0 ∨ preN (r.take n) = true) (h2 : n = r.length ∨ preN (r.take (n + 1)) = false) : n = takenN r := by
  have ht := taken_le r
  have hle : n ≤ takenN r := by
    rcases h1 with z | z
    · omega
    · exact (pre_taken h).mp z
  rcases h2 with z | z
  · omega
  · rcases Nat.lt_or_ge n (takenN r) with q | q
    · rw [(pre_taken (by omega)).mpr (by omega)] at z; cases z
    · omega
theorem taken_names {r : List Nat} : ∃ k ∈ nL, r.take (takenN r) <+: k := by
  rcases taken_is r with z | ⟨k, hk, z⟩
  · exact ⟨_, nAt_mem (show 0 < 43 by omega), by rw [z, List.take_zero]; exact List.nil_prefix⟩
  · exact ⟨k, hk, (lcp_take (taken_le r)).mpr (by omega)⟩
/-- the longest name among the beginnings -/
noncomputable def lpF (x : List Nat) : Nat → Option (List Nat)
  | 0 => none
  | n + 1 => if x.take (n + 1) ∈ nL then some (x.take (n + 1)) else lpF x n
theorem lpF_some {x y : List Nat} : ∀ {n : Nat}, lpF x n = some y → y ∈ nL ∧ ∃ j, 1 ≤ j ∧ j ≤ n ∧ y = x.take j ∧ ∀ i, j < i → i ≤ n → x.take i ∉ nL
  | 0, h => by cases h
  | n + 1, h => by
    rw [lpF] at h
    split at h
    · rename_i q
      obtain rfl := Option.some.inj h
      exact ⟨q, n + 1, by omega, Nat.le_refl _, rfl, fun i h1 h2 => by omega⟩
    · rename_i q
      obtain ⟨a, j, b, c, d, e⟩ := lpF_some h
      refine ⟨a, j, b, by omega, d, fun i h1 h2 => ?_⟩
      by_cases z : i = n + 1
      · exact z ▸ q
      · exact e i h1 (by omega)
theorem lpF_none {x : List Nat} : ∀ {n : Nat}, lpF x n = none → ∀ i, 1 ≤ i → i ≤ n → x.take i ∉ nL
  | 0, _, i, h1, h2 => by omega
  | n + 1, h, i, h1, h2 => by
    rw [lpF] at h
    split at h
    · cases h
    · rename_i q
      by_cases z : i = n + 1
      · exact z ▸ q
      · exact lpF_none h i h1 (by omega)
theorem best_len (r : List Nat) : (bestN r).length ≤ takenN r := by
  rcases best_is r with z | ⟨hm, hp⟩
  · rw [z]; exact Nat.zero_le _
  · have := taken_ge r hm; rw [lcp_all.mp hp] at this; exact this
theorem lp_is (r : List Nat) : lpF (r.take (takenN r)) (r.take (takenN r)).length = if bestN r = [] then none else some (bestN r) := by
  have hx : (r.take (takenN r)).length = takenN r := by rw [List.length_take]; have := taken_le r; omega
  rw [hx]
  cases q : lpF (r.take (takenN r)) (takenN r) with
  | none =>
    rcases best_is r with z | ⟨hm, hp⟩
    · rw [if_pos z]
    · exfalso
      have hl := best_len r
      refine lpF_none q (bestN r).length ?_ hl ?_
      · rcases Nat.eq_zero_or_pos (bestN r).length with e | e
        · rw [List.eq_nil_of_length_eq_zero e] at hm; exact absurd hm nil_nL
        · exact e
      · rw [List.take_take, Nat.min_eq_left hl, ← List.prefix_iff_eq_take.mp hp]; exact hm
  | some y =>
    obtain ⟨hy, j, h1, h2, rfl, h3⟩ := lpF_some q
    rw [List.take_take, Nat.min_eq_left h2] at hy ⊢
    have hr := taken_le r
    have hge := best_ge r hy (List.take_prefix _ _)
    rw [List.length_take] at hge
    have hne : bestN r ≠ [] := fun e => by rw [e] at hge; simp only [List.length_nil] at hge; omega
    rw [if_neg hne]
    rcases best_is r with z | ⟨hm, hp⟩
    · exact absurd z hne
    · have hl := best_len r
      have : (bestN r).length = j := by
        rcases Nat.lt_or_ge j (bestN r).length with w | w
        · refine absurd ?_ (h3 (bestN r).length w hl)
          rw [List.take_take, Nat.min_eq_left hl, ← List.prefix_iff_eq_take.mp hp]; exact hm
        · omega
      rw [← this, ← List.prefix_iff_eq_take.mp hp]
end
section
open PySem PySem.W PyProof.Rows PySem.Calls
local macro_rules | `(tactic| omega) => `(tactic| lia)
/-- the state where a while is left -/
noncomputable def OutW {σ : Type} (h₀ : Heap) (L : Addr) (s : Shared) (Led : σ → List (Addr × Obj)) (ps : σ → List (Str × Value)) (stored : List Str) (m₀ : Str → Option Value) (Ex : σ → Prop) (s₂ : Shared) : Prop :=
  ∃ (c' : σ) (h' : Heap) (tk : Nat) (m' : Str → Option Value) (news' : List (Addr × Obj)), s₂ = { s with heap := h', toks := tk } ∧ Fr h₀ L h' m' ∧ News h₀ L h' news' ∧ (∀ p ∈ Led c', p ∈ news') ∧ (∀ p ∈ ps c', m' p.1 = some p.2) ∧ (∀ z, (∀ p ∈ ps c', z ≠ p.1) → stored.contains z = false → m' z = m₀ z) ∧ Ex c'
theorem outW_ {σ : Type} {h₀ : Heap} {L : Addr} {s : Shared} {Led : σ → List (Addr × Obj)} {ps : σ → List (Str × Value)} {stored : List Str} {m₀ m' : Str → Option Value} {Ex : σ → Prop} {h' : Heap} {tk : Nat} {news' : List (Addr × Obj)} (c' : σ)
    (F : Fr h₀ L h' m') (N : News h₀ L h' news') (hn : ∀ p ∈ Led c', p ∈ news') (hk : ∀ p ∈ ps c', m' p.1 = some p.2) (hr : ∀ z, (∀ p ∈ ps c', z ≠ p.1) → stored.contains z = false → m' z = m₀ z) (hp : Ex c') :
    OutW h₀ L s Led ps stored m₀ Ex { s with heap := h', toks := tk } := ⟨c', h', tk, m', news', rfl, F, N, hn, hk, hr, hp⟩
/-- the flow of a body of such a while -/
noncomputable def FlowW {σ : Type} (h₀ : Heap) (L : Addr) (s : Shared) (Led : σ → List (Addr × Obj)) (ps : σ → List (Str × Value)) (stored : List Str) (m₀ : Str → Option Value) (Ex : σ → Prop) (Q : Flow → Shared → Prop) (f : Flow) (s₂ : Shared) : Prop :=
  match f with
  | .next => OutW h₀ L s Led ps stored m₀ Ex s₂
  | f => Q f s₂
section
variable {prog : Program} {w : World} {A : Around} {E : Value → Shared → Prop} {Q : Flow → Shared → Prop} {s : Shared} {env : Env} {h₀ : Heap} {L : Addr}
/-- a while with one way behind it, however it is left -/
theorem while_X {σ : Type} {test : Expr} {body : List Stmt} {pos : Pos} {m₀ : Str → Option Value} (Led : σ → List (Addr × Obj)) (ps : σ → List (Str × Value)) (stored : List Str) (P Ex : σ → Prop) (μ : σ → Nat) (c₀ : σ)
    (F : Fr h₀ L s.heap m₀) (N : News h₀ L s.heap (Led c₀)) (hk : ∀ p ∈ ps c₀, m₀ p.1 = some p.2) (hp : P c₀)
    (turn : ∀ (c : σ) (u : Str → Option Value) h tk, P c → Fr h₀ L h (kstB (fun z => if stored.contains z then u z else m₀ z) (ps c)) → News h₀ L h (Led c) →
      wpAny (model prog w) A (isTrue test env (eval test env)) (fun b s₂ =>
        if b = true then wpAny (model prog w) A (execs body env) (KswPost h₀ L s Led ps (fun _ => True) stored m₀ P μ (FlowW h₀ L s Led ps stored m₀ Ex Q) c) E s₂ else OutW h₀ L s Led ps stored m₀ Ex s₂) E { s with heap := h, toks := tk })
    (done : ∀ (c : σ) (u : Str → Option Value) h tk, Ex c → Fr h₀ L h (kstB (fun z => if stored.contains z then u z else m₀ z) (ps c)) → News h₀ L h (Led c) → Q .next { s with heap := h, toks := tk })
    (hE : PassesOwn (model prog w) A env E := by passes_own) :
    wpAny (model prog w) A (exec (.While test body [] pos) env) Q E s := by
  refine wpAny_mono (ksw_while (Q := FlowW h₀ L s Led ps stored m₀ Ex Q) Led ps (fun _ => True) stored P μ c₀ F N trivial hk hp (fun c u h tk _ hp F N => turn c u h tk hp F N) hE) (fun f s₂ x => ?_) fun _ _ x => x
  cases f with
  | next =>
    obtain ⟨c', h', tk, m', news', rfl, F', N', hn, h1, h2, hx⟩ := x
    exact done c' m' h' tk hx (ksw_fr h1 h2 F') fun p hp => N' p (hn p hp)
  | ret v => exact x
  | brk => exact x
  | cont => exact x
end
/-- values that are single signs -/
inductive SignsAre : List Value → List Nat → Prop
  | nil : SignsAre [] []
  | cons (c : Nat) (t : Tok) {vs cs} : SignsAre vs cs → SignsAre (.str ⟨#[c]⟩ t :: vs) (c :: cs)
theorem SignsAre.snoc {c : Nat} {t : Tok} : ∀ {vs cs}, SignsAre vs cs → SignsAre (vs ++ [.str ⟨#[c]⟩ t]) (cs ++ [c])
  | _, _, .nil => .cons c t .nil
  | _, _, .cons d u r => .cons d u r.snoc
theorem SignsAre.drop : ∀ {vs cs} (n : Nat), SignsAre vs cs → SignsAre (vs.drop n) (cs.drop n)
  | _, _, 0, h => h
  | _, _, _ + 1, .nil => .nil
  | _, _, n + 1, .cons _ _ r => r.drop n
theorem SignsAre.carried : ∀ {vs cs}, SignsAre vs cs → CarriedAll vs (cs.map fun c => PyData.str ⟨#[c]⟩)
  | _, _, .nil => .nil
  | _, _, .cons _ _ r => .cons (.str _ _) r.carried
theorem SignsAre.at {vs cs} (h : SignsAre vs cs) : ∀ {i : Nat} {c : Nat}, cs[i]? = some c → ∃ t, vs[i]? = some (.str ⟨#[c]⟩ t) := by
  induction h with
  | nil => intro i c e; simp at e
  | cons d u r ih =>
    intro i c e
    cases i with
    | zero => simp at e; subst e; exact ⟨u, rfl⟩
    | succ i => simpa using ih (by simpa using e)
section
variable {prog : Program} {w : World} {A : Around} {E : Value → Shared → Prop} {s : Shared} {t : Tok} {Q : Value → Shared → Prop} {D : Addr} {ys : List Value} {cs : List Nat}
theorem join_signs (hl : s.heap.IsList D ys.toArray) (hs : SignsAre ys cs) (hn : cs.length ≤ 10000) (h : ∀ t' k, (⟨cs.toArray⟩ : Str).length = cs.length → Q (.str ⟨cs.toArray⟩ t') { s with toks := k }) :
    wpAny (model prog w) A (call (.builtin "str.join") [.str (Str.ofString "") t, .ref D]) Q E s := by
  refine KT.join_1 (l := cs) (g := fun c => ⟨#[c]⟩) hl hs.carried (fun _ _ => rfl) (by omega) fun t' k _ => ?_
  have e : Txt.join (Str.ofString "") (cs.map fun c => (⟨#[c]⟩ : Str)) = ⟨cs.toArray⟩ := by
    show Builtin.Str.glued (Str.ofString "") _ = _
    rw [StrLaws.glued_eq_join, show (Str.ofString "") = (⟨#[]⟩ : Str) by decide +kernel, join_ones]
  rw [e]
  exact h t' k (by show (List.toArray cs).size = _; rw [List.size_toArray])
theorem nth_list {value slice : Expr} {l : Addr} {vs : List Value} {k : Int} {u : Tok} {x : Value} (hl : s.heap.IsList l vs.toArray) (h0 : 0 ≤ k) (hx : vs[k.toNat]? = some x) (hn : vs.length < 2000) (h : Q x s)
    (hs : subscripted slice false (.ref l) (.int k u) = operate [.ref l, .int k u] (getItem (.ref l) (.int k u)) := by with_unfolding_all rfl) (hg : ∀ r, letTemporaryGo value (.ref l) r = pure () := by intro _; with_unfolding_all rfl) :
    wpAny (model prog w) A (subscriptTail value slice (.ref l) (.int k u)) Q E s := by
  have hlt := (List.getElem?_eq_some_iff.mp hx).1
  exact subscriptTail_builtin hl.typeIs slot_list_getitem.lookup (wpAny_getItem_list hl h0 (by omega) (by simpa using hx) h) hs hg
end
section
variable {prog : Program} {w : World} {A : Around} {E : Value → Shared → Prop} {s : Shared} {h₀ : Heap} {L D : Addr} {m : Str → Option Value} {news news' : List (Addr × Obj)} {n : Nat} {vs : List Value} {y : Value}
theorem pop_last {Q : Value → Shared → Prop} (F : Fr h₀ L s.heap m) (N : News h₀ L s.heap news) (U : Upd D (listOf (vs ++ [y]).toArray n) (listOf vs.toArray (n + 1)) news news')
    (hz : vs.length < 10000) (h : ∀ h', Fr h₀ L h' m → News h₀ L h' news' → Q y { s with heap := h' }) : wpAny (model prog w) A (call (.builtin "list.pop") [.ref D]) Q E s :=
  kl_pop F N (p := vs) (y := y) (by simpa using kpa_last y vs) U (by rw [sizeLine_eq]; simp; omega) h
end
theorem pick_front {vs : List Value} {y : Value} {k : Int} (hk : k = -1) : kms_pick ((vs ++ [y]).toArray).toList none (some k) = vs := by
  subst hk
  unfold kms_pick kms_lo kms_hi
  simp
theorem pick_back {vs : List Value} {k : Int} (h0 : 0 ≤ k) (h1 : k ≤ vs.length) : kms_pick (vs.toArray).toList (some k) none = vs.drop k.toNat := by
  have e : kms_lo (some k) vs.length = k.toNat := by
    show (if k < 0 then vs.length - (-k).toNat else min k.toNat vs.length) = k.toNat
    rw [if_neg (by omega)]; omega
  show (vs.drop (kms_lo (some k) vs.length)).take (vs.length - kms_lo (some k) vs.length) = _
  rw [e, List.take_of_length_le (by rw [List.length_drop]; omega)]
end
section
open PySem PySem.W PyProof.Rows PySem.Calls
noncomputable def alIs (al : Value) (c : Nat) : Bool := match al with | .str e _ => e == ⟨#[c]⟩ | _ => false
noncomputable def AlOk (al : Value) : Prop := al = .none ∨ ∃ e u, al = .str e u
theorem AlOk.handed {al : Value} (h : AlOk al) : handedIn al = true := by rcases h with rfl | ⟨_, _, rfl⟩ <;> rfl
section
variable {prog : Program} {w : World} {A : Around} {E : Value → Shared → Prop} {s : Shared} {name : Str} {scope : Scope} {L a l : Addr} {cd : Value} {h₀ : Heap} {m : Str → Option Value} {news : List (Addr × Obj)} {al : Value} {c : Nat} {t u1 u2 : Tok} {n : Nat} {q1 q2 q3 q4 q5 q6 q7 q8 q9 : Pos} {whole : Sem Value} {Q : Bool → Shared → Prop}
/-- «allowedChar is not None and allowedChar == charStack[0]», one way -/
theorem join_al (F : Fr h₀ L s.heap m) (N : News h₀ L s.heap news) (hm : (l, listOf #[.str ⟨#[c]⟩ t] n) ∈ news) (hal : AlOk al) (h1 : m (Str.ofString "allowedChar") = some al) (h2 : m (Str.ofString "charStack") = some (.ref l))
    (k1 : scope.names.lookup (Str.ofString "allowedChar") = some .local) (k2 : scope.names.lookup (Str.ofString "charStack") = some .local) (hk : scope.kind = .function)
    (h : ∀ tk, Q (alIs al c) { s with toks := tk }) :
    wpAny (model prog w) A (isTrue (.BoolOp .And [.Compare (.Name (Str.ofString "allowedChar") q1) [.IsNot] [.Constant .none u1 q2] q3, .Compare (.Name (Str.ofString "allowedChar") q4) [.Eq] [.Subscript (.Name (Str.ofString "charStack") q5) (.Constant (.int 0) u2 q6) q7] q8] q9) (envOf name scope L a cd) whole) Q E s := by
  have kk1 : (envOf name scope L a cd).kindOf (Str.ofString "allowedChar") = some .local := k1
  have kk2 : (envOf name scope L a cd).kindOf (Str.ofString "charStack") = some .local := k2
  refine isTrue_and (wpAny_isTrue_Compare1 (ld F h1 (wpAny_Constant_none ?_) hk kk1 (by decide +kernel)))
  rcases hal with rfl | ⟨al0, u, rfl⟩
  · refine wpAny_isNot_self rfl (wpAny_truthy_bool ?_)
    exact h s.toks
  · refine wpAny_isNot_other rfl (fun q => by cases q) (wpAny_truthy_bool ?_)
    show wpAny _ _ _ _ _ _
    refine isTrue_and (wpAny_isTrue_Compare1 (ld F h1 (Subscript_ (ld F h2 (wpAny_Constant_int ?_) hk kk2 (by decide +kernel))) hk kk1 (by decide +kernel)))
    refine nth_list (vs := [.str ⟨#[c]⟩ t]) ⟨_, (N _ hm).1, rfl, n, rfl⟩ (Int.le_refl _) rfl (by simp) ?_
    refine eq_str (wpAny_truthy_bool ?_)
    have e : (al0 == (⟨#[c]⟩ : Str)) = alIs (.str al0 u) c := rfl
    rw [e]
    have z := h (s.toks + 1)
    cases hb : alIs (.str al0 u) c with
    | false => rw [hb] at z; exact z
    | true => rw [hb] at z; exact isTrue_and_nil z
end
end
section
open PySem PySem.W PyProof.Rows PySem.Calls
noncomputable def KstT {σ α : Type} (Led : σ → List (Addr × Obj)) (ps : σ → List (Str × Value)) (x : Str) (stored : List Str) (m₀ : Str → Option Value) (P : List α → σ → Prop) (pre : List α) (m : Str → Option Value) (nx : List (Addr × Obj)) : Prop :=
  ∃ c : σ, nx = Led c ∧ (∀ p ∈ ps c, m p.1 = some p.2) ∧ (∀ z, z ≠ x → (∀ p ∈ ps c, z ≠ p.1) → stored.contains z = false → m z = m₀ z) ∧ P pre c
section
variable {prog : Program} {w : World} {A : Around} {E : Value → Shared → Prop} {s : Shared} {env : Env} {h₀ : Heap} {x : Str} {body : List Stmt} {Q : Flow → Shared → Prop}
/-- a loop over a standing dict's keys, by what holds of those taken -/
theorem kst_keys {σ : Type} {d : Addr} {kvs : List (Str × Value)} {ep : Nat} {m₀ : Str → Option Value} (Led : σ → List (Addr × Obj)) (ps : σ → List (Str × Value)) (stored : List Str) (P : List Str → σ → Prop) (c₀ : σ)
    (hh : A.handled = none) (lo : (d == sysModules) = false) (hd : ∃ o, h₀.get? d = some o) (hm : s.heap.DictAt (PySem.strKind prog w) d kvs ep) (F : Fr h₀ env.locals s.heap m₀) (N : News h₀ env.locals s.heap (Led c₀)) (hk : ∀ p ∈ ps c₀, m₀ p.1 = some p.2) (hp : P [] c₀)
    (turn : ∀ (c : σ) (pre : List Str) (k : Str) t (u : Str → Option Value) h tk own, (∃ post, kvs.map (·.1) = pre ++ k :: post) → OwnOff own ((Led c₀).map (·.1)) → P pre c →
      Fr h₀ env.locals h (fun y => if y = x then some (.str k t) else kstB (fun z => if stored.contains z then u z else m₀ z) (ps c) y) → News h₀ env.locals h (Led c ++ own) →
      wpAny (model prog w) A (execs body env) (InvPostN h₀ env.locals (KstT Led ps x stored m₀ P (pre ++ [k])) own ((Led c₀).map (·.1)) { s with heap := h, toks := tk } Q) E { s with heap := h, toks := tk })
    (done : ∀ (c : σ) (u : Str → Option Value) h tk, P (kvs.map (·.1)) c → Fr h₀ env.locals h (fun y => if y = x then u y else kstB (fun z => if stored.contains z then u z else m₀ z) (ps c) y) → News h₀ env.locals h (Led c) → Q .next { s with heap := h, toks := tk }) :
    wpAny (model prog w) A (pyIter (.ref d)) (fun it s₂ => LoopAtV prog w A h₀ env x body Q E it s₂) E s := by
  refine wpAny_pyIter_dict lo hm ?_
  have hne : d ≠ s.heap.objs.size := Nat.ne_of_lt hm.lt_size
  refine loop_invN (fun i m nx => KstT Led ps x stored m₀ P ((kvs.map (·.1)).take i) m nx) (Walks.dictKeys (knd := PySem.strKind prog w) hh s.heap.objs.size d hne kvs ep) ?_ ?_ ?_ ?_ ⟨⟨_, Heap.get?_push_size _ rfl, rfl, rfl⟩, hm.push _⟩ (F.push _) (fun p hp => ⟨Heap.get?_push_of_some _ (N p hp).1, (N p hp).2⟩) ⟨c₀, rfl, hk, fun _ _ _ _ => rfl, by simpa using hp⟩ ?_ ?_
  · intro q
    rcases List.mem_cons.mp q with e | q
    · exact absurd F.ns.lt (e ▸ Nat.lt_irrefl _)
    · obtain ⟨o, ho⟩ := hd
      have e := List.mem_singleton.mp q
      have := Nat.lt_of_lt_of_le (Heap.lt_size ho) F.above
      rw [e] at this
      exact Nat.lt_irrefl _ this
  · intro b hb
    rw [List.mem_singleton.mp hb]
    exact next_is_new F
  · intro p hp q
    exact absurd (Heap.lt_size (N p hp).1) ((List.mem_singleton.mp q) ▸ Nat.lt_irrefl _)
  · intro p hp q
    rcases List.mem_cons.mp q with e | q
    · exact absurd (Heap.lt_size (N p hp).1) (e ▸ Nat.lt_irrefl _)
    · obtain ⟨o, ho⟩ := hd
      have e := List.mem_singleton.mp q
      have := (N p hp).2.2
      rw [e, ho] at this; cases this
  · rintro i v m₁ nx h tk own hi ⟨k, xv, hx, hkey⟩ _ hoff ⟨c, rfl, h1, h2, hp'⟩ F₁ N₁
    obtain ⟨t, rfl⟩ := Value.isStrOf_shape hkey
    have hk' : (kvs.map (·.1))[i]? = some k := by rw [List.getElem?_map, hx]; rfl
    have hs : (kvs.map (·.1)).take (i + 1) = (kvs.map (·.1)).take i ++ [k] := by rw [List.take_add_one, hk']; rfl
    have e : kvs.map (·.1) = (kvs.map (·.1)).take i ++ k :: (kvs.map (·.1)).drop (i + 1) := by
      have ht := List.take_append_drop (i + 1) (kvs.map (·.1))
      rw [hs, List.append_assoc] at ht
      exact ht.symm
    rw [hs]
    exact turn c _ k t m₁ h tk own ⟨_, e⟩ hoff hp' (kst_fr h1 h2 F₁) N₁
  · rintro m₁ nx h tk ⟨c, rfl, h1, h2, hp'⟩ F₁ N₁
    have hl : (kvs.map (·.1)).take kvs.length = kvs.map (·.1) := List.take_of_length_le (by rw [List.length_map]; exact Nat.le_refl _)
    rw [hl] at hp'
    exact done c m₁ h tk hp' (kst_frOut h1 h2 F₁) N₁
theorem kstT_end {σ α : Type} {Led : σ → List (Addr × Obj)} {ps : σ → List (Str × Value)} {stored : List Str} {m₀ : Str → Option Value} {P : List α → σ → Prop} {pre : List α} (c : σ) {L : Addr} {m' : Str → Option Value} {own news' : List (Addr × Obj)} {adr : List Addr} {s₁ : Shared} {h' : Heap} {tk : Nat}
    (F : Fr h₀ L h' m') (N : News h₀ L h' news') (hn : ∀ p ∈ Led c, p ∈ news') (ho : ∀ p ∈ own, p ∈ news') (ha : (Led c).map (·.1) = adr) (hk : ∀ p ∈ ps c, m' p.1 = some p.2) (hr : ∀ z, z ≠ x → (∀ p ∈ ps c, z ≠ p.1) → stored.contains z = false → m' z = m₀ z) (hp : P pre c) :
    InvEndN h₀ L (KstT Led ps x stored m₀ P pre) own adr s₁ { s₁ with heap := h', toks := tk } :=
  InvEndN.intro F N ⟨c, rfl, hk, hr, hp⟩ ha hn ho
end
end
section
open PySem PySem.W PyProof.Rows PySem.Calls
/-- the state where the ways behind a statement meet; the frames below may bear other marks -/
noncomputable def OutS {σ : Type} (fs : List Addr) (C : Heap → Prop) (h₀ : Heap) (L : Addr) (s : Shared) (Led : σ → List (Addr × Obj)) (ps : σ → List (Str × Value)) (stored : List Str) (m₀ : Str → Option Value) (Ex : σ → Prop) (s₂ : Shared) : Prop :=
  ∃ h₁, KtsTurn fs h₀ h₁ ∧ C h₁ ∧ OutW h₁ L s Led ps stored m₀ Ex s₂
noncomputable def FlowS (J : Shared → Prop) (Q : Flow → Shared → Prop) (f : Flow) (s₂ : Shared) : Prop :=
  match f with
  | .next => J s₂
  | f => Q f s₂
section
variable {prog : Program} {w : World} {A : Around} {E : Value → Shared → Prop} {Q : Flow → Shared → Prop} {s : Shared} {env : Env} {h₀ : Heap} {L : Addr}
/-- a statement whose ways meet -/
theorem stmt_join {st : Stmt} (J : Shared → Prop) (h1 : wpAny (model prog w) A (exec st env) (FlowS J Q) E s) (h2 : ∀ s', J s' → Q .next s') : wpAny (model prog w) A (exec st env) Q E s := by
  refine wpAny_mono h1 (fun f s₂ x => ?_) fun _ _ x => x
  cases f with
  | next => exact h2 _ x
  | ret v => exact x
  | brk => exact x
  | cont => exact x
theorem stmt_meet {σ : Type} {st : Stmt} {m₀ : Str → Option Value} (fs : List Addr) (C : Heap → Prop) (Led : σ → List (Addr × Obj)) (ps : σ → List (Str × Value)) (stored : List Str) (Ex : σ → Prop) (F : Fr h₀ L s.heap m₀)
    (h1 : wpAny (model prog w) A (exec st env) (FlowS (OutS fs C h₀ L s Led ps stored m₀ Ex) Q) E s)
    (h2 : ∀ (c : σ) (u : Str → Option Value) h₁ h tk, KtsTurn fs h₀ h₁ → C h₁ → Ex c → Fr h₁ L h (kstB (fun z => if stored.contains z then u z else m₀ z) (ps c)) → News h₁ L h (Led c) → Q .next { s with heap := h, toks := tk }) :
    wpAny (model prog w) A (exec st env) Q E s := by
  refine stmt_join _ h1 ?_
  rintro s' ⟨h₁, T, c1, c, h, tk, m', nw, rfl, F', N', a, b, d, e⟩
  exact h2 c m' h₁ h tk T c1 e (ksw_fr b d F') fun p hp => N' p (a p hp)
end
theorem outS_ {σ : Type} {fs : List Addr} {C : Heap → Prop} {h₀ h₁ : Heap} {L : Addr} {s : Shared} {Led : σ → List (Addr × Obj)} {ps : σ → List (Str × Value)} {stored : List Str} {m₀ m' : Str → Option Value} {Ex : σ → Prop} {h' : Heap} {tk : Nat} {news' : List (Addr × Obj)} (c' : σ)
    (T : KtsTurn fs h₀ h₁) (c1 : C h₁) (F : Fr h₁ L h' m') (N : News h₁ L h' news') (hn : ∀ p ∈ Led c', p ∈ news') (hk : ∀ p ∈ ps c', m' p.1 = some p.2) (hr : ∀ z, (∀ p ∈ ps c', z ≠ p.1) → stored.contains z = false → m' z = m₀ z) (hp : Ex c') :
    OutS fs C h₀ L s Led ps stored m₀ Ex { s with heap := h', toks := tk } := ⟨h₁, T, c1, outW_ c' F N hn hk hr hp⟩
section
variable {prog : Program} {w : World} {A : Around} {E : Value → Shared → Prop} {s : Shared} {h₀ : Heap} {L : Addr} {m : Str → Option Value} {news : List (Addr × Obj)}
/-- a test whose ways all give one bool -/
noncomputable def MeetB (h₀ : Heap) (L : Addr) (m : Str → Option Value) (news : List (Addr × Obj)) (s : Shared) (B : Bool) (b : Bool) (s' : Shared) : Prop := b = B ∧ ∃ h' tk, s' = { s with heap := h', toks := tk } ∧ Fr h₀ L h' m ∧ News h₀ L h' news
theorem meetB_ {h' : Heap} {tk : Nat} {B b : Bool} {news' : List (Addr × Obj)} (F : Fr h₀ L h' m) (N : News h₀ L h' news') (hn : ∀ p ∈ news, p ∈ news') (e : b = B) : MeetB h₀ L m news s B b { s with heap := h', toks := tk } := ⟨e, h', tk, rfl, F, fun p hp => N p (hn p hp)⟩
theorem test_meet {t : Sem Bool} {Q : Bool → Shared → Prop} (B : Bool) (_F : Fr h₀ L s.heap m) (_N : News h₀ L s.heap news) (h1 : wpAny (model prog w) A t (MeetB h₀ L m news s B) E s)
    (h2 : ∀ h' tk, Fr h₀ L h' m → News h₀ L h' news → Q B { s with heap := h', toks := tk }) : wpAny (model prog w) A t Q E s := by
  refine wpAny_mono h1 (fun b s' x => ?_) fun _ _ x => x
  obtain ⟨rfl, h', tk, rfl, F', N'⟩ := x
  exact h2 h' tk F' N'
end
end
section
open PySem PySem.W PyProof.Rows PySem.Calls PyProof.V
section
open PySem.SeqAt PySem.AutoSeq1 PySem.MeetsSeq PySem.MeetsSeq2 PySem.MeetsSeq3
variable {prog : Program} {w : World}
/-- two values are equal, in this world -/
noncomputable def EqP (prog : Program) (w : World) (A : Around) (s : Shared) (y x : Value) : Prop := ∀ (E : Value → Shared → Prop) (Q : Bool → Shared → Prop), Q true s → wpAny (model prog w) A (eqBool y x) Q E s
theorem same_loop (l b : Addr) (items items2 : Array Value) (n n2 : Nat) (dd dd2 : Option Addr) (sl sl2 : Array (Option Value)) (hsz : items.size = items2.size) (k : Nat) :
    ∀ (i : Nat) (A : Around) (R : Result → Shared → Prop) (s : Shared), items.size - i = k → s.heap.get? l = some { cls := .type "list", dict := dd, data := .seq items n, slots := sl } → s.heap.get? b = some { cls := .type "list", dict := dd2, data := .seq items2 n2, slots := sl2 } →
      (∀ j (h1 : j < items.size) (h2 : j < items2.size), EqP prog w A.in1 s items[j] items2[j]) → R (.ok (.ret (.bool false))) s →
      wpAny (model prog w) A.in1 (Builtin.«list.__eq__.loop» ⟨[.ref l, .ref b, rawInt i, rawInt 3], []⟩) (fun fin s' => match fin with | .done f => R (.ok f) s' | .again c' => c'.quiet = true ∧ codeAny (model prog w) A c' R s') (fun e s' => R (.error e) s') s := by
  induction k with
  | zero =>
    intro i A R s hk hl hb he h
    obtain ⟨hp, g, d, tk, os⟩ := s
    have hi1 : items[((i : Nat) : Int).toNat]? = none := by simp; omega
    have hi2 : items2[((i : Nat) : Int).toNat]? = none := by simp; omega
    wp_walk using wpAny_loadPart' hl, wpAny_loadPart' hb
    rw [hi1, hi2]
    wp_walk using wpAny_loadPart' hl, wpAny_loadPart' hb
    show R (.ok (.ret (.bool (items.size != items2.size)))) _
    rw [hsz, bne_self_eq_false]
    exact h
  | succ k ih =>
    intro i A R s hk hl hb he h
    obtain ⟨hp, g, d, tk, os⟩ := s
    have hlt : i < items.size := by omega
    have hlt2 : i < items2.size := by omega
    have hi1 : items[((i : Nat) : Int).toNat]? = some items[i] := by simp [hlt]
    have hi2 : items2[((i : Nat) : Int).toNat]? = some items2[i] := by simp [hlt2]
    have hc : ((i : Int) + 1) = ((i + 1 : Nat) : Int) := by push_cast; rfl
    wp_walk using wpAny_loadPart' hl, wpAny_loadPart' hb
    rw [hi1, hi2]
    refine wpAny_bind (he i hlt hlt2 _ _ ?_)
    wp_walk
    rw [hc]
    exact ⟨plainId_quiet plain_eq_loop _, codeAny_builtin entry_eq_loop (by
      rw [Around.under_plainId plain_eq_loop _]
      exact ih (i + 1) A R _ (by omega) hl hb he h)⟩
theorem lists_ne {A : Around} {s : Shared} {E : Value → Shared → Prop} {Q : Value → Shared → Prop} {l b : Addr} {items items2 : Array Value} (hl : s.heap.IsList l items) (hb : s.heap.IsList b items2) (hsz : items.size = items2.size) (hu : A.units < cLine)
    (he : ∀ j (h1 : j < items.size) (h2 : j < items2.size), EqP prog w A.in1 s items[j] items2[j]) (h : Q (.bool false) s) : wpAny (model prog w) A (compareOp .NotEq (.ref l) (.ref b)) Q E s := by
  obtain ⟨⟨cls, dd, data, sl⟩, ho, hc, n, hd⟩ := id hl
  obtain ⟨⟨cls2, dd2, data2, sl2⟩, ho2, hc2, n2, hd2⟩ := id hb
  simp only at hc hd hc2 hd2
  subst hc hd hc2 hd2
  refine wpAny_richCompare_same_room (op := .NotEq) ⟨_, ho, rfl⟩ ⟨_, ho2, rfl⟩ F.slot_list_ne (wpAny_call (codeAny_call_builtin F.slot_list_ne.plain F.entry_list_ne (F.slot_list_ne.check _ _ _ _ _ _ _ _ ⟨_, ho, rfl⟩ (F.args_list_ne_2 _ _) ?_))) hu
  obtain ⟨hp, g, d, tk, os⟩ := s
  have f3 := AutoSeq1.sub_list_list
  have hne : ¬ (items.size != items2.size) = true := by simp [hsz]
  wp_walk using wpAny_loadPart' ho, wpAny_loadPart' ho2
  exact ⟨plainId_quiet plain_eq_loop _, codeAny_builtin entry_eq_loop (by
    rw [Around.under_plainId plain_eq_loop _]
    exact same_loop l b items items2 n n2 dd dd2 sl sl2 hsz _ 0 A (fun r s' => match r with | .ok (.ret v) => v ≠ .notImplemented ∧ Q v s' | .ok _ => False | .error e => E e s') _ rfl ho ho2 he ⟨(fun x => nomatch x), h⟩)⟩
theorem eqP_refs {A : Around} {s : Shared} {a b : Addr} (h : ∀ (E Q : Value → Shared → Prop), Q (.bool true) s → wpAny (model prog w) A (compareOp .Eq (.ref a) (.ref b)) Q E s) : EqP prog w A s (.ref a) (.ref b) := fun E Q hq => by
  unfold eqBool
  refine wpAny_holding ?_
  refine wpAny_ite_split (fun _ => wpAny_bind (wpAny_rule (wpAny_pure hq))) (fun _ => ?_)
  exact wpAny_bind (h E _ (wpAny_truthy_bool hq))
theorem eqP_dict {A : Around} {s : Shared} {h₀ : Heap} {L : Addr} {news : List (Addr × Obj)} {a b : Addr} {oa ob : Obj} {ka kb : List (Str × Value)} (N : News h₀ L s.heap news) (ha : (a == sysModules) = false) (hb : (b == sysModules) = false) (pa : (a, oa) ∈ news) (pb : (b, ob) ∈ news) (da : oa.IsDictOf (PySem.strKind prog w) ka) (db : ob.IsDictOf (PySem.strKind prog w) kb)
    (hl : ka.length = kb.length) (hu : A.units < cLine) (hits : ∀ s, KeqHits A.in1 s kb ka true) : EqP prog w A s (.ref a) (.ref b) := eqP_refs fun E Q hq => by
  refine keq_eq (r := true) ha hb (Heap.dictOf_iff.mpr ⟨oa, (N _ pa).1, da⟩) (Heap.dictOf_iff.mpr ⟨ob, (N _ pb).1, db⟩) hu (fun _ => hits s) ?_
  rw [hl, beq_self_eq_true, Bool.true_and]; exact hq
theorem int_at {A : Around} {s : Shared} {i : Int} {t u : Tok} : SeqAt.EqAt A s (.int i t) (.int i u) true := by
  have := keq_flat (A := A) (s := s) (Flat.int i t) (Flat.int i u)
  rw [show PyData.eqv (.int i) (.int i) = true by unfold PyData.eqv; exact decide_eq_true rfl] at this
  exact this
theorem str_at {A : Around} {s : Shared} {x : Str} {t u : Tok} : SeqAt.EqAt A s (.str x t) (.str x u) true := by
  have := keq_flat (A := A) (s := s) (Flat.str x t) (Flat.str x u)
  rw [show PyData.eqv (.str x) (.str x) = true by unfold PyData.eqv; exact decide_eq_true rfl] at this
  exact this
theorem tok_hits {A : Around} {s : Shared} {k : Int} {x : Str} {t u t' u' : Tok} : KeqHits A s [(Str.ofString "type", .int k t), (Str.ofString "data", .str x u)] [(Str.ofString "type", .int k t'), (Str.ofString "data", .str x u')] true :=
  .hit (y := .int k t) (e := true) (b := true) (by simp [valueAt]) int_at (.hit (y := .str x u) (e := true) (b := true) (by simp [valueAt, show ¬ Str.ofString "type" = Str.ofString "data" by decide +kernel]) str_at .nil)
theorem at_one {P : Value → Value → Prop} {i1 i2 : Array Value} {x y : Value} (e1 : i1 = #[x]) (e2 : i2 = #[y]) (h : P x y) : ∀ j (h1 : j < i1.size) (h2 : j < i2.size), P i1[j] i2[j] := by
  subst e1 e2
  intro j h1 _
  obtain rfl : j = 0 := Nat.lt_one_iff.mp h1
  exact h
theorem at_two {P : Value → Value → Prop} {i1 i2 : Array Value} {x y x' y' : Value} (e1 : i1 = #[x, x']) (e2 : i2 = #[y, y']) (h : P x y) (h' : P x' y') : ∀ j (h1 : j < i1.size) (h2 : j < i2.size), P i1[j] i2[j] := by
  subst e1 e2
  intro j h1 _
  match j, h1 with
  | 0, _ => exact h
  | 1, _ => exact h'
  | j + 2, h1 => exact absurd h1 (Nat.not_lt.mpr (Nat.le_add_left _ _))
variable {A : Around} {s : Shared} {E : Value → Shared → Prop} {Q : Value → Shared → Prop} {h₀ : Heap} {L : Addr} {news : List (Addr × Obj)} {q r a b a' b' : Addr} {i1 i2 : Array Value} {n1 n2 : Nat} {oa ob oa' ob' : Obj} {k k' : Int} {x x' : Str} {t1 t2 t3 t4 t5 t6 t7 t8 : Tok}
noncomputable abbrev tokKv (k : Int) (t : Tok) (x : Str) (u : Tok) : List (Str × Value) := [(Str.ofString "type", .int k t), (Str.ofString "data", .str x u)]
theorem eqP_tok (N : News h₀ L s.heap news) (pa : (a, oa) ∈ news) (pb : (b, ob) ∈ news) (da : oa.IsDictOf (PySem.strKind prog w) (tokKv k t1 x t2)) (db : ob.IsDictOf (PySem.strKind prog w) (tokKv k t3 x t4)) (ma : (a == sysModules) = false) (mb : (b == sysModules) = false) (hu : A.units < cLine) : EqP prog w A s (.ref a) (.ref b) :=
  eqP_dict N ma mb pa pb da db rfl hu fun _ => tok_hits
theorem queue_1 (N : News h₀ L s.heap news) (hq : (q, listOf i1 n1) ∈ news) (hr : (r, listOf i2 n2) ∈ news) (e1 : i1 = #[.ref a]) (e2 : i2 = #[.ref b]) (pa : (a, oa) ∈ news) (pb : (b, ob) ∈ news)
    (da : oa.IsDictOf (PySem.strKind prog w) (tokKv k t1 x t2)) (db : ob.IsDictOf (PySem.strKind prog w) (tokKv k t3 x t4)) (ma : (a == sysModules) = false) (mb : (b == sysModules) = false) (hu : A.units + 1 < cLine) (h : Q (.bool false) s) : wpAny (model prog w) A (compareOp .NotEq (.ref q) (.ref r)) Q E s :=
  lists_ne (items := i1) (items2 := i2) ⟨_, (N _ hq).1, rfl, _, rfl⟩ ⟨_, (N _ hr).1, rfl, _, rfl⟩ (by rw [e1, e2]; rfl) (Nat.lt_of_succ_lt hu) (at_one e1 e2 (eqP_tok N pa pb da db ma mb hu)) h
theorem queue_2 (N : News h₀ L s.heap news) (hq : (q, listOf i1 n1) ∈ news) (hr : (r, listOf i2 n2) ∈ news) (e1 : i1 = #[.ref a, .ref a']) (e2 : i2 = #[.ref b, .ref b']) (pa : (a, oa) ∈ news) (pb : (b, ob) ∈ news) (pa' : (a', oa') ∈ news) (pb' : (b', ob') ∈ news)
    (da : oa.IsDictOf (PySem.strKind prog w) (tokKv k t1 x t2)) (db : ob.IsDictOf (PySem.strKind prog w) (tokKv k t3 x t4)) (da' : oa'.IsDictOf (PySem.strKind prog w) (tokKv k' t5 x' t6)) (db' : ob'.IsDictOf (PySem.strKind prog w) (tokKv k' t7 x' t8))
    (ma : (a == sysModules) = false) (mb : (b == sysModules) = false) (ma' : (a' == sysModules) = false) (mb' : (b' == sysModules) = false) (hu : A.units + 1 < cLine) (h : Q (.bool false) s) : wpAny (model prog w) A (compareOp .NotEq (.ref q) (.ref r)) Q E s :=
  lists_ne (items := i1) (items2 := i2) ⟨_, (N _ hq).1, rfl, _, rfl⟩ ⟨_, (N _ hr).1, rfl, _, rfl⟩ (by rw [e1, e2]; rfl) (Nat.lt_of_succ_lt hu) (at_two e1 e2 (eqP_tok N pa pb da db ma mb hu) (eqP_tok N pa' pb' da' db' ma' mb' hu)) h
theorem queue_0 (N : News h₀ L s.heap news) (hq : (q, listOf i1 n1) ∈ news) (hr : (r, listOf i2 n2) ∈ news) (e1 : i1 = #[]) (e2 : i2 = #[]) (hu : A.units < cLine) (h : Q (.bool false) s) : wpAny (model prog w) A (compareOp .NotEq (.ref q) (.ref r)) Q E s :=
  lists_ne (items := i1) (items2 := i2) ⟨_, (N _ hq).1, rfl, _, rfl⟩ ⟨_, (N _ hr).1, rfl, _, rfl⟩ (by rw [e1, e2]) hu (fun j h1 _ => by subst e1; exact absurd h1 (Nat.not_lt_zero _)) h
theorem eqAt_refs {l b : Addr} (h : SeqAt.RcAt A s (.ref l) (.ref b) true) : SeqAt.EqAt A s (.ref l) (.ref b) true := fun prog w E Q hq => by
  unfold eqBool
  refine wpAny_holding ?_
  refine wpAny_ite_split (fun _ => wpAny_bind (wpAny_rule (wpAny_pure hq))) (fun _ => ?_)
  exact wpAny_bind (h prog w E _ (wpAny_truthy_bool hq))
theorem eqAt_two {l b : Addr} {v1 v2 v3 v4 : Value} (N : News h₀ L s.heap news) (hl : (l, listOf i1 n1) ∈ news) (hb : (b, listOf i2 n2) ∈ news) (e1 : i1 = #[v1, v2]) (e2 : i2 = #[v3, v4]) (h : SeqAt.EqAt A.in1 s v1 v3 true) (h' : SeqAt.EqAt A.in1 s v2 v4 true) (hu : A.units < cLine) : SeqAt.EqAt A s (.ref l) (.ref b) true := by
  have z := SeqAt.RcAt.lists (A := A) (s := s) (l := l) (b := b) (e := fun _ => true) (items := i1) (items2 := i2) ⟨_, (N _ hl).1, rfl, _, rfl⟩ ⟨_, (N _ hb).1, rfl, _, rfl⟩ (by rw [e1, e2]; rfl) hu (at_two (P := fun a b => SeqAt.EqAt A.in1 s a b true) e1 e2 h h')
  rw [show (List.range i1.size).all (fun _ => true) = true from List.all_eq_true.mpr fun _ _ => rfl] at z
  exact eqAt_refs z
theorem nest_ne {d1 d2 l1 l2 a1 a2 b1 b2 : Addr} {o1 o2 : Obj} {j1 j2 k1 k2 : Array Value} {m1 m2 m3 m4 : Nat} {x1 x2 x3 x4 : Str} {dt : Str} (N : News h₀ L s.heap news) (p1 : (d1, o1) ∈ news) (p2 : (d2, o2) ∈ news) (h1 : o1.IsDictOf (PySem.strKind prog w) [(dt, .ref l1)]) (h2 : o2.IsDictOf (PySem.strKind prog w) [(dt, .ref l2)])
    (y1 : (d1 == sysModules) = false) (y2 : (d2 == sysModules) = false) (p3 : (l1, listOf i1 n1) ∈ news) (p4 : (l2, listOf i2 n2) ∈ news) (e1 : i1 = #[.ref a1, .ref b1]) (e2 : i2 = #[.ref a2, .ref b2])
    (p5 : (a1, listOf j1 m1) ∈ news) (p6 : (a2, listOf j2 m2) ∈ news) (e3 : j1 = #[.str x1 t1, .str x2 t2]) (e4 : j2 = #[.str x1 t3, .str x2 t4]) (p7 : (b1, listOf k1 m3) ∈ news) (p8 : (b2, listOf k2 m4) ∈ news) (e5 : k1 = #[.str x3 t5, .str x4 t6]) (e6 : k2 = #[.str x3 t7, .str x4 t8])
    (hu : A.units + 3 < cLine) (h : Q (.bool false) s) : wpAny (model prog w) A (compareOp .NotEq (.ref d1) (.ref d2)) Q E s := by
  have hu1 : A.in1.units + 1 < cLine := by rw [units_in1]; omega
  have hu2 : A.in1.in1.units < cLine := by rw [units_in1]; exact hu1
  refine keq_ne (r := true) y1 y2 (Heap.dictOf_iff.mpr ⟨o1, (N _ p1).1, h1⟩) (Heap.dictOf_iff.mpr ⟨o2, (N _ p2).1, h2⟩) (by omega) (fun _ => .hit (y := .ref l2) (e := true) (b := true) (by simp [valueAt]) (eqAt_two N p3 p4 e1 e2 (eqAt_two N p5 p6 e3 e4 str_at str_at hu2) (eqAt_two N p7 p8 e5 e6 str_at str_at hu2) (Nat.lt_of_succ_lt hu1)) .nil) ?_
  exact h
noncomputable abbrev tupOf (items : Array Value) : Obj := { cls := .type "tuple", data := .seq items }
theorem tup2_reads {i j : Int} (N : News h₀ L s.heap news) (hm : (a, tupOf #[.int i t1, .int j t2]) ∈ news) : Reads s.heap (.ref a) (.tuple [.int i, .int j]) ([] ++ ([] ++ [])) :=
  .tuple (N _ hm).1 rfl rfl (.cons (.int _ _) (.cons (.int _ _) .nil))
theorem tup2_ne {i j : Int} (N : News h₀ L s.heap news) (ha : (a, tupOf #[.int i t1, .int j t2]) ∈ news) (hb : (b, tupOf #[.int i t3, .int j t4]) ∈ news) (hu : A.units + 64 < cLine) (h : Q (.bool false) s) : wpAny (model prog w) A (compareOp .NotEq (.ref a) (.ref b)) Q E s :=
  ne_dataH (tup2_reads N ha) (tup2_reads N hb) rfl rfl hu (by rw [show PyData.eqv (.tuple [.int i, .int j]) (.tuple [.int i, .int j]) = true from eqv_refl _ rfl]; exact h)
theorem tup2_eq {i j : Int} (N : News h₀ L s.heap news) (ha : (a, tupOf #[.int i t1, .int j t2]) ∈ news) (hb : (b, tupOf #[.int i t3, .int j t4]) ∈ news) (hu : A.units + 64 < cLine) (h : Q (.bool true) s) : wpAny (model prog w) A (compareOp .Eq (.ref a) (.ref b)) Q E s :=
  eq_dataH (tup2_reads N ha) (tup2_reads N hb) rfl rfl hu (by rw [show PyData.eqv (.tuple [.int i, .int j]) (.tuple [.int i, .int j]) = true from eqv_refl _ rfl]; exact h)
theorem ne_same {x y : Str} (e : x = y) (h : Q (.bool false) s) : wpAny (model prog w) A (compareOp .NotEq (.str x t1) (.str y t2)) Q E s := PyProof.Rows.ne_str (by rw [e, bne_self_eq_false]; exact h)
theorem eq_same {x y : Str} (e : x = y) (h : Q (.bool true) s) : wpAny (model prog w) A (compareOp .Eq (.str x t1) (.str y t2)) Q E s := PyProof.Rows.eq_str (by rw [e, beq_self_eq_true]; exact h)
theorem not_mods {a : Nat} (h : 1 < a) : (a == sysModules) = false := beq_eq_false_iff_ne.mpr (Nat.ne_of_gt h)
end
end
section
open PySem PySem.W PyProof.Rows PySem.Calls
noncomputable abbrev sEnt (w : World) (k : Str) (t : Tok) (v : Value) : DictEntry := ⟨PyData.keyHash w.params k, .str k t, v⟩
/-- what of a stream's dict never turns: the keys' marks, the objects it names -/
structure Ks where
  (a1 a2 a3 a4 a5 a6 a7 a8 a9 a10 : Tok)
  (mo nl ds el : Nat)
/-- what turns -/
structure Sv where
  (c : Str)
  (n k pl pc : Int)
  (buf : Value)
  (u1 u2 u3 u4 u5 : Tok)
noncomputable abbrev sdict (w : World) (K : Ks) (v : Sv) : Obj := dictOf [sEnt w (Str.ofString "reportCharacterErrors") K.a1 (.ref K.mo), sEnt w (Str.ofString "newLines") K.a2 (.ref K.nl), sEnt w (Str.ofString "dataStream") K.a3 (.ref K.ds),
  sEnt w (Str.ofString "chunk") K.a4 (.str v.c v.u1), sEnt w (Str.ofString "chunkSize") K.a5 (.int v.n v.u2), sEnt w (Str.ofString "chunkOffset") K.a6 (.int v.k v.u3), sEnt w (Str.ofString "errors") K.a7 (.ref K.el),
  sEnt w (Str.ofString "prevNumLines") K.a8 (.int v.pl v.u4), sEnt w (Str.ofString "prevNumCols") K.a9 (.int v.pc v.u5), sEnt w (Str.ofString "_bufferedCharacter") K.a10 v.buf] 10
/-- the text's own object -/
structure Kt where
  (b1 b2 : Tok)
noncomputable abbrev tdict (w : World) (K : Kt) (x : Str) (ux : Tok) (d : Int) (ud : Tok) : Obj := dictOf [sEnt w (Str.ofString "text") K.b1 (.str x ux), sEnt w (Str.ofString "place") K.b2 (.int d ud)] 2
end
open PySem PySem.W PyProof.Rows PySem.Calls
noncomputable def InP (n : Nat) : Prop := n = n
theorem fill_all : (fun (_ : OpenLaw) (_ : Params → Frag) => True) PySem.Challenge.rw_ru0004_01 Mine.a.heap_1_39 := by
  k_fill
  trivial
theorem top_off : (fun (_ : Params → Frag) => True) Mine.a.heap_1_39 := by
  w_top off
  trivial
local macro_rules | `(tactic| walk_at $s:str) => `(tactic| k_extra $s)
local macro_rules | `(tactic| omega) => `(tactic| k_extra "om")
local macro_rules | `(tactic| k_room) => `(tactic| k_extra "room")
local macro_rules | `(tactic| k_units) => `(tactic| k_extra "units")
local macro_rules | `(tactic| k_ne) => `(tactic| k_extra "ne")
local macro_rules | `(tactic| k_mem) => `(tactic| k_extra "mem")
local macro_rules | `(tactic| k_all) => `(tactic| k_extra "all")
local macro_rules | `(tactic| k_lt $h:ident) => `(tactic| (replace $h := adrLt_of $h; (try dsimp only [List.map] at $h:ident)))
section
local macro_rules | `(tactic| omega) => `(tactic| lia)
local macro_rules | `(tactic| omega) => `(tactic| k_extra "om")
theorem lines_P1_1 : True := by
  k_with_none
  (k_with "om" => safely (((k_whole; (first | with_reducible assumption | with_reducible exact Nat.succ_ne_zero _ | with_reducible exact Nat.ne_of_gt (by with_reducible assumption) | with_reducible exact tok_ne1 | with_reducible exact tok_ne0 (by with_reducible assumption) | exact room2 (by with_reducible assumption) rfl | exact room3 (by with_reducible assumption) rfl | exact room4 (by with_reducible assumption) rfl | exact room1 (by with_reducible assumption) rfl | exact room0 (by with_reducible assumption) | with_reducible exact big_le (by with_reducible assumption) rfl | with_reducible exact big_lt (by with_reducible assumption) rfl | with_reducible exact Int.natCast_nonneg _ | with_reducible exact neg1_lt | fail "o")))))
  (k_with "room" => safely ((first | exact room2 (by with_reducible assumption) rfl | exact room3 (by with_reducible assumption) rfl | exact room4 (by with_reducible assumption) rfl | exact room1 (by with_reducible assumption) rfl | exact room0 (by with_reducible assumption) | ((try simp only [depth_under_make, depth_under_kw, depth_in1, depth_deeper, depth_caller]); omega))))
  (k_with "units" => safely ((first | exact room2 (by with_reducible assumption) rfl | exact room3 (by with_reducible assumption) rfl | exact room4 (by with_reducible assumption) rfl | exact room1 (by with_reducible assumption) rfl | exact room0 (by with_reducible assumption) | ((have hcL9Qq := cLine_is); (simp only [units_in1, units_deeper, Around.mark_units, units_caller] at *); omega))))
  (k_with "ne" => safely (((refine neN ?_; (try dsimp only); first | exact Nat.ne_of_lt (by with_reducible assumption) | exact Nat.ne_of_gt (by with_reducible assumption) | with_reducible assumption | exact Ne.symm (by with_reducible assumption) | (refine' adr_ne ?qzhQ ?qzmQ; (case qzhQ => with_reducible assumption); (case qzmQ => k_mem)) | (refine' adr_en ?qzhQ ?qzmQ; (case qzhQ => with_reducible assumption); (case qzmQ => k_mem)) | exact adr_ne2 (by with_reducible assumption) (by with_reducible assumption) (by k_mem) | exact Ne.symm (adr_ne2 (by with_reducible assumption) (by with_reducible assumption) (by k_mem)) | fail "k_ne"))))
  (k_with "mem" => safely ((first | exact mem_0 | exact mem_1 | exact mem_2 | exact mem_3 | exact mem_4 | exact mem_5 | exact mem_6 | exact mem_7 | exact mem_8 | exact mem_9 | exact mem_10 | exact mem_11 | exact mem_12 | exact mem_13 | fail "k_mem")))
  (k_with "all" => safely ((first | exact List.forall_mem_nil _ | (refine' all_cons ?qaQ ?qbQ; (case qaQ => k_ne); (case qbQ => k_all)) | exact adr_ex (by with_reducible assumption) (fun aQq haQq => by (repeat (first | exact haQq | refine List.mem_cons_of_mem _ ?_))) | fail "k_all")))
  (k_with "eval Name" => safely ((k_here; (with_reducible show wpAny _ _ (eval (Expr.Name _ _) (envOf _ _ _ _ _)) _ _ _); (with_reducible rename Fr _ _ _ _ => kFQq); k_dflt (refine' name_K kFQq ?qk1Q ?qk2Q ?qk3Q ?_ ?qk4Q ?qk5Q ?qk6Q; (case qk4Q => exact rfl); (case qk5Q => exact rfl); (case qk6Q => exact rfl); (case qk1Q => k_asm); (case qk2Q => k_asm); (case qk3Q => k_is); k_whole))))
  (k_with "getMethod ref" => safely ((k_here; k_dflt (refine' kmu_own ?qk1Q ?qk2Q ?qk3Q ?qk4Q ?qk5Q ?_; (case qk1Q => k_asm); (case qk2Q => k_asm); (case qk3Q => k_inst); (case qk4Q => k_is); (case qk5Q => k_is); k_whole))))
  (k_with "getMethod ref" => safely ((k_here; k_dflt (refine' method_inst ?qk1Q ?qk2Q ?qk3Q ?qk4Q ?qk5Q ?qk6Q ?qk7Q ?_; (case qk1Q => k_asm); (case qk2Q => k_asm); (case qk3Q => k_inst); (case qk4Q => k_is); (case qk5Q => k_is); (case qk6Q => k_is); (case qk7Q => k_get); k_whole))))
  (k_with "getMethod ref" => safely ((k_here; (with_reducible show wpAny _ _ (getMethod (Value.ref _) (Str.ofString "append") _) _ _ _); k_dflt (refine' listMethod_K ?qk1Q ?qk2Q PySem.F.slot_list_append PySem.F.type_list_append ?_; (case qk1Q => k_asm); (case qk2Q => k_mem); k_whole))))
  (k_with "getMethod ref" => safely ((k_here; (with_reducible show wpAny _ _ (getMethod (Value.ref _) (Str.ofString "pop") _) _ _ _); k_dflt (refine' kl_method ?qk1Q ?qk2Q PySem.F.slot_list_pop PySem.F.type_list_pop ?_; (case qk1Q => k_asm); (case qk2Q => k_mem); k_whole))))
  (k_with "eval Name" => safely ((k_here; (with_reducible show wpAny _ _ (eval (Expr.Name _ _) (envOf _ _ _ _ _)) _ _ _); k_dflt (refine' ld ?qk1Q ?qk2Q ?_ ?qk4Q ?qk5Q ?qk6Q; (case qk4Q => exact rfl); (case qk5Q => exact rfl); (case qk6Q => exact rfl); (case qk1Q => k_asm); (case qk2Q => exact rfl); k_whole))))
  (k_with "eval Name" => safely ((k_here; (with_reducible show wpAny _ _ (eval (Expr.Name _ _) (envOf _ _ _ _ _)) _ _ _); (with_reducible rename Fr _ _ _ _ => kFQq); k_dflt (refine' name_K kFQq ?qk1Q ?qk2Q ?qk3Q ?_ ?qk4Q ?qk5Q ?qk6Q; (case qk4Q => exact rfl); (case qk5Q => decide +kernel); (case qk6Q => decide +kernel); (case qk1Q => k_asm); (case qk2Q => k_asm); (case qk3Q => k_is); k_whole))))
  (k_with "eval Name" => safely ((k_here; (with_reducible show wpAny _ _ (eval (Expr.Name _ _) (envOf _ _ _ _ _)) _ _ _); k_dflt (refine' ld ?qk1Q ?qk2Q ?_ ?qk4Q ?qk5Q ?qk6Q; (case qk4Q => exact rfl); (case qk5Q => decide +kernel); (case qk6Q => decide +kernel); (case qk1Q => k_asm); (case qk2Q => exact rfl); k_whole))))
  (k_with "callWith" => safely (((with_reducible show wpAny _ _ (callWith _ (Value.builtin _) [_] (backTo _ (starEach (_ :: _) _)) []) _ _ _); refine PyProof.Rows.callWith_method1 ?_)))
  (k_with "call builtin:str.count" => safely ((k_here; refine call_count4 ?_)))
  (k_with "call builtin:str.rfind" => safely ((k_here; refine call_rfind4 ?_)))
  (k_with "truthy ref" => safely ((k_here; k_dflt (refine' truthy_meth ?qk1Q ?qk2Q ?_; (case qk1Q => k_asm); (case qk2Q => k_mem); k_whole))))
  (k_with "assign Tuple" => safely ((k_here; (with_reducible show wpAny _ _ (assign (Expr.Tuple _ _ _) _ (Value.ref _)) _ _ _); k_dflt (refine' unpackN_ ?qk1Q ?qk2Q ?qk3Q ?qk4Q ?qk5Q ?qk6Q ?_; (case qk1Q => k_asm); (case qk2Q => k_asm); (case qk3Q => exact News.isTup (by k_asm) (List.Mem.head _)); (case qk4Q => exact rfl); (case qk5Q => exact rfl); (case qk6Q => exact rfl); k_whole); intro hpQq FpQq NpQq; (replace NpQq := news_tail NpQq); (try k_sweep))))
  (k_with "execs cons" => safely ((k_here; (with_reducible show wpAny _ _ _ _ _ (Shared.mk _ _ _ (_ + 1) _)); refine gen_toks ?_; intro tk9Qq htk9Qq)))
  (k_with "call builtin:str.replace" => safely ((k_here; (with_reducible show wpAny _ _ (call (Value.builtin "str.replace") [Value.str _ _, Value.str _ _, Value.str _ _]) _ _ _); refine SC.replaceW (by (show @Ne Nat _ _); omega) (by (show @Ne Nat _ _); omega) (by (show @Ne Nat _ _); omega) (by decide +kernel) (by first | omega | (refine Nat.le_trans (crlf_len _) ?_; omega) | decide +kernel) (by decide +kernel) ?_; intro _ _)))
  (k_with "call builtin:str.startswith" => safely ((k_here; refine sw_empty (by first | rfl | decide +kernel) ?_)))
  (k_with "subscriptTail" => safely ((k_here; (fail_if_success (with_reducible show wpAny _ _ (subscriptTail (Expr.Name _ _) _ _ _) _ _ _)); (with_reducible show wpAny _ _ (subscriptTail _ _ (Value.str _ _) _) _ _ _); k_dflt (refine PySem.W.kba_turn (value' := Expr.Name (Str.ofString "_") ⟨0, 0, 0, 0⟩) (fun _ => rfl) ?_))))
  (k_with "subscriptTail Name Attribute str int" => safely ((refine item_str (by first | exact fitsSsize_of (N := 9223372036854775808) (by omega) (by omega) (Int.le_refl _) | decide) (by omega) (by omega) ?_; intro _)))
  trivial
noncomputable def okI (n : Int) : Prop := n = 0 ∨ n = 9 ∨ n = 10 ∨ n = 12 ∨ n = 13 ∨ (32 ≤ n ∧ n < 127) ∨ n = 233
theorem okI_of {n : Nat} (h : okc n) : okI n := by
  rcases h with rfl | rfl | rfl | rfl | rfl | ⟨a, b⟩ | rfl
  · exact .inl rfl
  · exact .inr (.inl rfl)
  · exact .inr (.inr (.inl rfl))
  · exact .inr (.inr (.inr (.inl rfl)))
  · exact .inr (.inr (.inr (.inr (.inl rfl))))
  · exact .inr (.inr (.inr (.inr (.inr (.inl ⟨Int.ofNat_le.mpr a, Int.ofNat_lt.mpr b⟩)))))
  · exact .inr (.inr (.inr (.inr (.inr (.inr rfl)))))
theorem any_mod {n : Int} (h : okI n) : ([65534, 65535].any fun x => x == n.fmod 65536) = false := by
  unfold okI at h
  rw [Int.fmod_eq_emod_of_nonneg _ (by omega)]
  have : n % 65536 = n := Int.emod_eq_of_lt (by omega) (by omega)
  rw [this]
  simp only [List.any_cons, List.any_nil, Bool.or_false, Bool.or_eq_false_iff, beq_eq_false_iff_ne]
  omega
namespace Zinv_spec
noncomputable def P (prog : Program) (w : World) (p : Program) (loose : List Str) (mean : ExcName → Option Value) (mg : Str → Option Value) (mb : Str → Option Value) (dp : Nat) (gd : Option (List Code)) (un : Nat) (env : Env) (outer : List Env) (A₀ : Around) (base : Heap) (h₀ : Heap) (L : Addr) (m : Str → Option Value) (s : Shared) (Q : Value → Shared → Prop) (E : Value → Shared → Prop) (g' : Heap) (L' : Addr) (h' : Heap) (tk0 : Nat) (n : Int) (un0 : Tok) : Prop := ∀ {fname qual : Str} {params : Arguments} {body : List Stmt} {scope : Scope} {dV kV doc pm cdv fct foc : Value} {fan fod : Option Addr} {fosl : Array (Option Value)} (hl : (Mine.a.heap_1_39 w.params).lookup 84 = some ⟨foc, fod, .func (fnOf fname qual params body scope dV kV doc pm fan cdv fct), fosl⟩) (hd : dp + 1 < recursionLimit) (hu : un + 10 < cLine) (X : (Mine.a.heap_1_39 w.params).In h₀) (T : Top p loose mean mg mb h₀) (hok : okI n)
    (KG' : Keeps (([] : List (Addr × Obj)).map (·.1)) s.heap g') (F' : Fr g' L' h' (fun y => (([(Str.ofString "codepoint", .int n un0)] : List (Str × Value)).reverse).lookup y)) (N' : News g' L' h' []) (B' : Below ⟨none, dp, some (env :: outer), gd, un⟩ base (env :: outer) g') (X' : (Mine.a.heap_1_39 w.params).In g') (T' : Top p loose mean mg mb g') (l1 : ∀ q ∈ ([] : List (Addr × Obj)), q.1 < L') (htk0 : 0 < tk0)
    (post : ∀ h' tk b, b = false → Fr h₀ L h' m → News h₀ L h' [] → Keeps [] s.heap h' → Q (.bool b) { s with heap := h', toks := tk }), wpAny (model prog w) (Around.deeper ⟨none, dp, some (env :: outer), gd, un⟩ (envOf qual scope L' 84 cdv)) (execs body (envOf qual scope L' 84 cdv)) (leaveQ h₀ L m g' Q E) (leaveE prog w (Around.deeper ⟨none, dp, some (env :: outer), gd, un⟩ (envOf qual scope L' 84 cdv)) (envOf qual scope L' 84 cdv) E) { s with heap := h', toks := tk0 }
@[irreducible] noncomputable def c0 : Gd × Int × Tok := @Classical.epsilon _ (Nonempty.elim Gd.ne fun b => ⟨(b, 0, 0)⟩) fun c => ¬ P (c.1.prog) (c.1.w) (c.1.p) (c.1.loose) (c.1.mean) (c.1.mg) (c.1.mb) (c.1.dp) (c.1.gd) (c.1.un) (c.1.env) (c.1.outer) (c.1.A₀) (c.1.base) (c.1.h₀) (c.1.L) (c.1.m) (c.1.s) (c.1.Q) (c.1.E) (c.1.g') (c.1.L') (c.1.h') (c.1.tk0) (c.2.1) (c.2.2)
@[irreducible] noncomputable def prog : Program := c0.1.prog
@[irreducible] noncomputable def w : World := c0.1.w
@[irreducible] noncomputable def p : Program := c0.1.p
@[irreducible] noncomputable def loose : List Str := c0.1.loose
@[irreducible] noncomputable def mean : ExcName → Option Value := c0.1.mean
@[irreducible] noncomputable def mg : Str → Option Value := c0.1.mg
@[irreducible] noncomputable def mb : Str → Option Value := c0.1.mb
@[irreducible] noncomputable def dp : Nat := c0.1.dp
@[irreducible] noncomputable def gd : Option (List Code) := c0.1.gd
@[irreducible] noncomputable def un : Nat := c0.1.un
@[irreducible] noncomputable def env : Env := c0.1.env
@[irreducible] noncomputable def outer : List Env := c0.1.outer
@[irreducible] noncomputable def A₀ : Around := c0.1.A₀
@[irreducible] noncomputable def base : Heap := c0.1.base
@[irreducible] noncomputable def h₀ : Heap := c0.1.h₀
@[irreducible] noncomputable def L : Addr := c0.1.L
@[irreducible] noncomputable def m : Str → Option Value := c0.1.m
@[irreducible] noncomputable def s : Shared := c0.1.s
@[irreducible] noncomputable def Q : Value → Shared → Prop := c0.1.Q
@[irreducible] noncomputable def E : Value → Shared → Prop := c0.1.E
@[irreducible] noncomputable def g' : Heap := c0.1.g'
@[irreducible] noncomputable def L' : Addr := c0.1.L'
@[irreducible] noncomputable def h' : Heap := c0.1.h'
@[irreducible] noncomputable def tk0 : Nat := c0.1.tk0
@[irreducible] noncomputable def n : Int := c0.2.1
@[irreducible] noncomputable def un0 : Tok := c0.2.2
theorem core {fname qual : Str} {params : Arguments} {body : List Stmt} {scope : Scope} {dV kV doc pm cdv fct foc : Value} {fan fod : Option Addr} {fosl : Array (Option Value)} (hl : (Mine.a.heap_1_39 w.params).lookup 84 = some ⟨foc, fod, .func (fnOf fname qual params body scope dV kV doc pm fan cdv fct), fosl⟩) (hd : dp + 1 < recursionLimit) (hu : un + 10 < cLine) (X : (Mine.a.heap_1_39 w.params).In h₀) (T : Top p loose mean mg mb h₀) (hok : okI n)
    (KG' : Keeps (([] : List (Addr × Obj)).map (·.1)) s.heap g') (F' : Fr g' L' h' (fun y => (([(Str.ofString "codepoint", .int n un0)] : List (Str × Value)).reverse).lookup y)) (N' : News g' L' h' []) (B' : Below ⟨none, dp, some (env :: outer), gd, un⟩ base (env :: outer) g') (X' : (Mine.a.heap_1_39 w.params).In g') (T' : Top p loose mean mg mb g') (l1 : ∀ q ∈ ([] : List (Addr × Obj)), q.1 < L') (htk0 : 0 < tk0)
    (post : ∀ h' tk b, b = false → Fr h₀ L h' m → News h₀ L h' [] → Keeps [] s.heap h' → Q (.bool b) { s with heap := h', toks := tk }) : wpAny (model prog w) (Around.deeper ⟨none, dp, some (env :: outer), gd, un⟩ (envOf qual scope L' 84 cdv)) (execs body (envOf qual scope L' 84 cdv)) (leaveQ h₀ L m g' Q E) (leaveE prog w (Around.deeper ⟨none, dp, some (env :: outer), gd, un⟩ (envOf qual scope L' 84 cdv)) (envOf qual scope L' 84 cdv) E) { s with heap := h', toks := tk0 } := by
  delta leaveQ leaveE
  refine' seg_inc hl ?hk ?_
  (case hk => k_is)
  rintro rfl rfl rfl rfl
  clear hl
  (try dsimp only)
  (try dsimp only [sdict, tdict, sEnt] at N')
  (try k_lt l1)
  have hok' := hok
  unfold okI at hok
  k_steps
  all_goals (refine' post _ _ _ ?e ?f ?N ?k; (case f => k_asm); (case N => exact News.nil); (case k => exact keeps_end KG' (by k_asm)); (case e => first | rfl | exact any_mod hok' | exact beq_eq_false_iff_ne.mpr (by omega) | exact decide_eq_false (by omega) | (exfalso; exact absurd (any_mod hok') (by simp only [*]; decide)) | (exfalso; simp_all [any_mod hok'])))
theorem all : ∀ c : Gd × Int × Tok, P (c.1.prog) (c.1.w) (c.1.p) (c.1.loose) (c.1.mean) (c.1.mg) (c.1.mb) (c.1.dp) (c.1.gd) (c.1.un) (c.1.env) (c.1.outer) (c.1.A₀) (c.1.base) (c.1.h₀) (c.1.L) (c.1.m) (c.1.s) (c.1.Q) (c.1.E) (c.1.g') (c.1.L') (c.1.h') (c.1.tk0) (c.2.1) (c.2.2) := by with_unfolding_all exact eps_all (Nonempty.elim Gd.ne fun b => ⟨(b, 0, 0)⟩) (P := fun c : Gd × Int × Tok => P (c.1.prog) (c.1.w) (c.1.p) (c.1.loose) (c.1.mean) (c.1.mg) (c.1.mb) (c.1.dp) (c.1.gd) (c.1.un) (c.1.env) (c.1.outer) (c.1.A₀) (c.1.base) (c.1.h₀) (c.1.L) (c.1.m) (c.1.s) (c.1.Q) (c.1.E) (c.1.g') (c.1.L') (c.1.h') (c.1.tk0) (c.2.1) (c.2.2)) @core
end Zinv_spec
theorem inv_spec {prog : Program} {w : World} {p : Program} {loose : List Str} {mean : ExcName → Option Value} {mg mb : Str → Option Value}
    {A : Around} {env : Env} {outer : List Env} {A₀ : Around} {base h₀ : Heap} {L : Addr} {m : Str → Option Value} {s : Shared} {Q E : Value → Shared → Prop}
    {n : Int} {un0 : Tok}
    (B : Below A₀ base outer h₀) (F : Fr h₀ L s.heap m) (X : (Mine.a.heap_1_39 w.params).In h₀) (T : Top p loose mean mg mb h₀) (hA : A.frames = some (env :: outer)) (hh : A.handled = none) (hf : env.frame = some L) (hke : env.scope.kind = .function)
    (hd : A.depth + 1 < recursionLimit) (hu : A.units + 10 < cLine) (N : News h₀ L s.heap [])
    (hok : okI n)
    (post : ∀ h' tk b, b = false → Fr h₀ L h' m → News h₀ L h' [] → Keeps [] s.heap h' → Q (.bool b) { s with heap := h', toks := tk }) : wpAny (model prog w) A (call (.ref 84) [.int n un0]) Q E s := by
  obtain ⟨hn, dp, fr, gd, un⟩ := A
  obtain rfl : fr = some (env :: outer) := hA
  obtain rfl : hn = none := hh
  dsimp only at hd hu
  refine' call_small (binds := [(Str.ofString "codepoint", .int n un0)]) B F X N T rfl hf hke ?k6 ?k7 ?k8 ?k9 ?kB ?_ ?c2 ?c3 ?c4 ?c5
  (case k6 => k_is)
  (case k7 => k_is)
  (case k8 => k_room)
  (case k9 => first | exact BindsTo.of_eq rfl | exact binds_K (by k_in) rfl (by k_is) rfl rfl rfl)
  (case kB => exact locs rfl)
  (case c2 => exact rfl)
  (case c3 => exact rfl)
  (case c4 => exact rfl)
  (case c5 => decide)
  intro g' L' h' KG' FG' F' N' B' X' T' l1
  exact Zinv_spec.all ⟨⟨prog, w, p, loose, mean, mg, mb, dp, gd, un, env, outer, A₀, base, h₀, L, m, s, Q, E, g', L', h', s.toks + List.length ([(Str.ofString "codepoint", .int n un0)] : List (Str × Value))⟩, n, un0⟩ (by k_is) hd hu X T hok KG' F' N' B' X' T' l1 pos_len post
theorem lines_P1_2 : True := by
  (k_with "call ref" => safely ((k_here; (with_reducible show wpAny _ _ (call (Value.ref 84) _ _) _ _ _); (refine with_toks ?_); k_dflt (refine' inv_spec  ?quBQ ?quFQ ?quXQ ?quTQ ?quAQ ?quhQ ?qufQ ?qukQ ?qudQ ?quuQ ?quNQ ?qo1Q ?_; (case quAQ => exact rfl); (case quhQ => exact rfl); (case qufQ => exact rfl); (case qukQ => exact rfl); (case quBQ => k_asm); (case quFQ => k_asm); (case quXQ => k_asm); (case quTQ => k_asm); (case quNQ => exact news_sub (by k_asm) (by (repeat (first | exact List.forall_mem_nil _ | (refine' sub_cons ?qzA9Q ?_; (case qzA9Q => k_mem)))))); (case qudQ => k_room); (case quuQ => k_units); (case qo1Q => first | assumption | exact okI_of (by assumption)); k_whole; intro h9Qq tk9Qq b9Qq hb9Qq F9Qq N9Qq K9Qq; intro ht9Qq; (have N9pQq := news_nextc (by k_asm) K9Qq N9Qq (by (repeat (first | exact Rest.nil | exact Rest.none | (refine Rest.own (by assumption) ?_; (repeat (first | exact List.forall_mem_nil _ | (refine' sub_cons ?qzA9Q ?_; (case qzA9Q => k_mem))))) | (apply Rest.skip; (focus first | exact mem_0 | exact mem_1 | exact mem_2 | exact mem_3 | exact mem_4 | exact mem_5 | exact mem_6)) | (apply Rest.keep; (focus k_all))))) (by first | exact Cat.nil | exact (Cat.cons Cat.nil) | exact (Cat.cons (Cat.cons Cat.nil)) | exact (Cat.cons (Cat.cons (Cat.cons Cat.nil))) | exact (Cat.cons (Cat.cons (Cat.cons (Cat.cons Cat.nil)))) | exact (Cat.cons (Cat.cons (Cat.cons (Cat.cons (Cat.cons Cat.nil))))) | exact (Cat.cons (Cat.cons (Cat.cons (Cat.cons (Cat.cons (Cat.cons Cat.nil)))))) | exact (Cat.cons (Cat.cons (Cat.cons (Cat.cons (Cat.cons (Cat.cons (Cat.cons Cat.nil))))))) | exact (Cat.cons (Cat.cons (Cat.cons (Cat.cons (Cat.cons (Cat.cons (Cat.cons (Cat.cons Cat.nil)))))))))); clear N9Qq K9Qq; (try dsimp only at ht9Qq); (try k_sweep); (subst hb9Qq)))))
  trivial
theorem mem_codes {x : Str} {n : Nat} {pre post : List Int} (h : KStt.codes x = pre ++ (n : Int) :: post) : n ∈ x.cps.toList := by
  have : (n : Int) ∈ KStt.codes x := by rw [h]; simp
  unfold KStt.codes at this
  obtain ⟨c, hc, e⟩ := List.mem_map.mp this
  have : c = n := by omega
  exact this ▸ hc
theorem errs_spec {prog : Program} {w : World} {p : Program} {loose : List Str} {mean : ExcName → Option Value} {mg mb : Str → Option Value}
    {A : Around} {env : Env} {outer : List Env} {A₀ : Around} {base h₀ : Heap} {L : Addr} {m : Str → Option Value} {s : Shared} {Q E : Value → Shared → Prop}
    {x : Nat} {tx : Str} {ut : Tok}
    (B : Below A₀ base outer h₀) (F : Fr h₀ L s.heap m) (X : (Mine.a.heap_1_39 w.params).In h₀) (T : Top p loose mean mg mb h₀) (hA : A.frames = some (env :: outer)) (hh : A.handled = none) (hf : env.frame = some L) (hke : env.scope.kind = .function)
    (hd : A.depth + 3 < recursionLimit) (hu : A.units + 20 < cLine) (N : News h₀ L s.heap [])
    (hok : ∀ c ∈ tx.cps.toList, okc c)
    (post : ∀ h' tk, Fr h₀ L h' m → News h₀ L h' [] → Keeps [] s.heap h' → Q .none { s with heap := h', toks := tk }) : codeAny (model prog w) A (.call (.ref 148) ⟨[.ref x, .str tx ut], []⟩) (fun r s' => match r with | .ok (.ret v) => Q v s' | .ok _ => False | .error e => E e s') s := by
  obtain ⟨hn, dp, fr, gd, un⟩ := A
  obtain rfl : fr = some (env :: outer) := hA
  obtain rfl : hn = none := hh
  dsimp only at hd hu
  refine' code_small (binds := [(Str.ofString "self", .ref x), (Str.ofString "data", .str tx ut)]) B F X N T rfl hf hke ?k6 ?k7 ?k8 ?k9 ?kB ?_ ?c2 ?c3 ?c4 ?c5
  (case k6 => k_is)
  (case k7 => k_is)
  (case k8 => k_room)
  (case k9 => first | exact BindsTo.of_eq rfl | exact binds_K (by k_in) rfl (by k_is) rfl rfl rfl)
  (case kB => exact locs rfl)
  (case c2 => exact rfl)
  (case c3 => exact rfl)
  (case c4 => exact rfl)
  (case c5 => decide)
  intro g' L' h' KG' FG' F' N' B' X' T' l1
  clear B F N hf hke FG'
  (try dsimp only)
  (try dsimp only [sdict, tdict, sEnt] at N')
  (try k_lt l1)
  (have htk0 : 0 < s.toks + List.length ([(Str.ofString "self", .ref x), (Str.ofString "data", .str tx ut)] : List (Str × Value)) := pos_len)
  (generalize (s.toks + List.length _) = tk0 at htk0 ⊢)
  all_goals (have hin9 : InP 2 := rfl)
  k_with "pyIter str" => ((with_reducible (rename InP 2 => hin9)); ((with_unfolding_all refine' KStt.kst_text (σ := Unit) (fun _ => []) (fun _ => []) (fun _ => True) [] (fun _ _ => True) () (by rfl) (by k_asm) News.nil trivial (fun _ hp => nomatch hp) trivial ?ht ?hz); (case' ht => (intro c9 pre9 post9 n9 t9 u9 h9 tk9 own9 hEq9 hOff9 _ _ kF9 kN9; (have ok9 : okI n9 := okI_of (hok n9 (mem_codes hEq9))); (simp only [List.nil_append] at kN9))); (case' hz => (intro c9 u9 h9 tk9 _ _ kF9 kN9))))
  k_steps
  all_goals (first | (refine' ⟨_, _, _, _, [], rfl, ?f, ?n, List.forall_mem_nil _, ?o, rfl, ⟨(), rfl, trivial, List.forall_mem_nil _, ?z, trivial⟩⟩; (case f => k_asm); (case n => k_asm); (case o => exact fun _ h => h); (case z => intro z h1 _ _; simp [h1, kstB])) | (exact post _ _ (by k_asm) News.nil (keeps_end KG' (by k_asm))))

noncomputable def colF (c : Str) (pc off : Int) : Int := if rfind4 c (Str.ofString "\n") 0 off = -1 then pc + off else off - (rfind4 c (Str.ofString "\n") 0 off + 1)
theorem colF_1 {c : Str} {pc off : Int} (h : rfind4 c (Str.ofString "\n") 0 off = -1) : pc + off = colF c pc off := (if_pos h).symm
theorem colF_2 {c : Str} {pc off : Int} (h : ¬ rfind4 c (Str.ofString "\n") 0 off = -1) : off - (rfind4 c (Str.ofString "\n") 0 off + 1) = colF c pc off := (if_neg h).symm
namespace Zpos_spec
noncomputable def P (prog : Program) (w : World) (p : Program) (loose : List Str) (mean : ExcName → Option Value) (mg : Str → Option Value) (mb : Str → Option Value) (dp : Nat) (gd : Option (List Code)) (un : Nat) (env : Env) (outer : List Env) (A₀ : Around) (base : Heap) (h₀ : Heap) (L : Addr) (m : Str → Option Value) (s : Shared) (Q : Value → Shared → Prop) (E : Value → Shared → Prop) (g' : Heap) (L' : Addr) (h' : Heap) (tk0 : Nat) (x : Nat) (sd : Nat) (K : Ks) (v : Sv) (off : Int) (uo : Tok) : Prop := ∀ {fname qual : Str} {params : Arguments} {body : List Stmt} {scope : Scope} {dV kV doc pm cdv fct foc : Value} {fan fod : Option Addr} {fosl : Array (Option Value)} (hl : (Mine.a.heap_1_39 w.params).lookup 119 = some ⟨foc, fod, .func (fnOf fname qual params body scope dV kV doc pm fan cdv fct), fosl⟩) (hd : dp + 1 < recursionLimit) (hu : un + 10 < cLine) (X : (Mine.a.heap_1_39 w.params).In h₀) (T : Top p loose mean mg mb h₀) (o1 : sd < x)
    (KG' : Keeps (([(x, instObj 166 sd), (sd, sdict w K v)] : List (Addr × Obj)).map (·.1)) s.heap g') (F' : Fr g' L' h' (fun y => (([(Str.ofString "self", .ref x), (Str.ofString "offset", .int off uo)] : List (Str × Value)).reverse).lookup y)) (N' : News g' L' h' [(x, instObj 166 sd), (sd, sdict w K v)]) (B' : Below ⟨none, dp, some (env :: outer), gd, un⟩ base (env :: outer) g') (X' : (Mine.a.heap_1_39 w.params).In g') (T' : Top p loose mean mg mb g') (l1 : ∀ q ∈ ([(x, instObj 166 sd), (sd, sdict w K v)] : List (Addr × Obj)), q.1 < L') (htk0 : 0 < tk0)
    (post : ∀ (D : Nat) h' tk t1 t2 cv, cv = colF v.c v.pc off → s.heap.get? D = none → x < D → sd < D → Fr h₀ L h' m → News h₀ L h' [(D, { cls := .type "tuple", data := .seq #[.int (v.pl + count4 v.c (Str.ofString "\n") 0 off) t1, .int cv t2] }), (x, instObj 166 sd), (sd, sdict w K v)] → Keeps [x, sd] s.heap h' → Q (.ref D) { s with heap := h', toks := tk }), wpAny (model prog w) (Around.deeper ⟨none, dp, some (env :: outer), gd, un⟩ (envOf qual scope L' 119 cdv)) (execs body (envOf qual scope L' 119 cdv)) (leaveQ h₀ L m g' Q E) (leaveE prog w (Around.deeper ⟨none, dp, some (env :: outer), gd, un⟩ (envOf qual scope L' 119 cdv)) (envOf qual scope L' 119 cdv) E) { s with heap := h', toks := tk0 }
@[irreducible] noncomputable def c0 : Gd × Nat × Nat × Ks × Sv × Int × Tok := @Classical.epsilon _ (Nonempty.elim Gd.ne fun b => ⟨(b, 0, 0, ⟨0,0,0,0,0,0,0,0,0,0,0,0,0,0⟩, ⟨default,0,0,0,0,.none,0,0,0,0,0⟩, 0, 0)⟩) fun c => ¬ P (c.1.prog) (c.1.w) (c.1.p) (c.1.loose) (c.1.mean) (c.1.mg) (c.1.mb) (c.1.dp) (c.1.gd) (c.1.un) (c.1.env) (c.1.outer) (c.1.A₀) (c.1.base) (c.1.h₀) (c.1.L) (c.1.m) (c.1.s) (c.1.Q) (c.1.E) (c.1.g') (c.1.L') (c.1.h') (c.1.tk0) (c.2.1) (c.2.2.1) (c.2.2.2.1) (c.2.2.2.2.1) (c.2.2.2.2.2.1) (c.2.2.2.2.2.2)
@[irreducible] noncomputable def prog : Program := c0.1.prog
@[irreducible] noncomputable def w : World := c0.1.w
@[irreducible] noncomputable def p : Program := c0.1.p
@[irreducible] noncomputable def loose : List Str := c0.1.loose
@[irreducible] noncomputable def mean : ExcName → Option Value := c0.1.mean
@[irreducible] noncomputable def mg : Str → Option Value := c0.1.mg
@[irreducible] noncomputable def mb : Str → Option Value := c0.1.mb
@[irreducible] noncomputable def dp : Nat := c0.1.dp
@[irreducible] noncomputable def gd : Option (List Code) := c0.1.gd
@[irreducible] noncomputable def un : Nat := c0.1.un
@[irreducible] noncomputable def env : Env := c0.1.env
@[irreducible] noncomputable def outer : List Env := c0.1.outer
@[irreducible] noncomputable def A₀ : Around := c0.1.A₀
@[irreducible] noncomputable def base : Heap := c0.1.base
@[irreducible] noncomputable def h₀ : Heap := c0.1.h₀
@[irreducible] noncomputable def L : Addr := c0.1.L
@[irreducible] noncomputable def m : Str → Option Value := c0.1.m
@[irreducible] noncomputable def s : Shared := c0.1.s
@[irreducible] noncomputable def Q : Value → Shared → Prop := c0.1.Q
@[irreducible] noncomputable def E : Value → Shared → Prop := c0.1.E
@[irreducible] noncomputable def g' : Heap := c0.1.g'
@[irreducible] noncomputable def L' : Addr := c0.1.L'
@[irreducible] noncomputable def h' : Heap := c0.1.h'
@[irreducible] noncomputable def tk0 : Nat := c0.1.tk0
@[irreducible] noncomputable def x : Nat := c0.2.1
@[irreducible] noncomputable def sd : Nat := c0.2.2.1
@[irreducible] noncomputable def K : Ks := c0.2.2.2.1
@[irreducible] noncomputable def v : Sv := c0.2.2.2.2.1
@[irreducible] noncomputable def off : Int := c0.2.2.2.2.2.1
@[irreducible] noncomputable def uo : Tok := c0.2.2.2.2.2.2
theorem core {fname qual : Str} {params : Arguments} {body : List Stmt} {scope : Scope} {dV kV doc pm cdv fct foc : Value} {fan fod : Option Addr} {fosl : Array (Option Value)} (hl : (Mine.a.heap_1_39 w.params).lookup 119 = some ⟨foc, fod, .func (fnOf fname qual params body scope dV kV doc pm fan cdv fct), fosl⟩) (hd : dp + 1 < recursionLimit) (hu : un + 10 < cLine) (X : (Mine.a.heap_1_39 w.params).In h₀) (T : Top p loose mean mg mb h₀) (o1 : sd < x)
    (KG' : Keeps (([(x, instObj 166 sd), (sd, sdict w K v)] : List (Addr × Obj)).map (·.1)) s.heap g') (F' : Fr g' L' h' (fun y => (([(Str.ofString "self", .ref x), (Str.ofString "offset", .int off uo)] : List (Str × Value)).reverse).lookup y)) (N' : News g' L' h' [(x, instObj 166 sd), (sd, sdict w K v)]) (B' : Below ⟨none, dp, some (env :: outer), gd, un⟩ base (env :: outer) g') (X' : (Mine.a.heap_1_39 w.params).In g') (T' : Top p loose mean mg mb g') (l1 : ∀ q ∈ ([(x, instObj 166 sd), (sd, sdict w K v)] : List (Addr × Obj)), q.1 < L') (htk0 : 0 < tk0)
    (post : ∀ (D : Nat) h' tk t1 t2 cv, cv = colF v.c v.pc off → s.heap.get? D = none → x < D → sd < D → Fr h₀ L h' m → News h₀ L h' [(D, { cls := .type "tuple", data := .seq #[.int (v.pl + count4 v.c (Str.ofString "\n") 0 off) t1, .int cv t2] }), (x, instObj 166 sd), (sd, sdict w K v)] → Keeps [x, sd] s.heap h' → Q (.ref D) { s with heap := h', toks := tk }) : wpAny (model prog w) (Around.deeper ⟨none, dp, some (env :: outer), gd, un⟩ (envOf qual scope L' 119 cdv)) (execs body (envOf qual scope L' 119 cdv)) (leaveQ h₀ L m g' Q E) (leaveE prog w (Around.deeper ⟨none, dp, some (env :: outer), gd, un⟩ (envOf qual scope L' 119 cdv)) (envOf qual scope L' 119 cdv) E) { s with heap := h', toks := tk0 } := by
  delta leaveQ leaveE
  refine' seg_inc hl ?hk ?_
  (case hk => k_is)
  rintro rfl rfl rfl rfl
  clear hl
  (try dsimp only)
  (try dsimp only [sdict, tdict, sEnt] at N')
  (try k_lt l1)
  k_steps
  all_goals (refine' post _ _ _ _ _ _ ?e ?n ?l1 ?l2 ?f ?N ?k; (case f => k_asm); (case l1 => first | assumption | exact adr_lt (by with_reducible assumption) (by k_mem)); (case l2 => first | assumption | exact adr_lt (by with_reducible assumption) (by k_mem)); (case N => k_asm); (case e => first | exact colF_1 (by assumption) | exact colF_2 (by assumption)); (case k => exact keeps_end KG' (by k_asm)); (case n => exact new_of_hidden KG' (by k_asm) (.head _) (by (with_reducible rename AdrLt _ _ => l9); exact l9.lt)))
theorem all : ∀ c : Gd × Nat × Nat × Ks × Sv × Int × Tok, P (c.1.prog) (c.1.w) (c.1.p) (c.1.loose) (c.1.mean) (c.1.mg) (c.1.mb) (c.1.dp) (c.1.gd) (c.1.un) (c.1.env) (c.1.outer) (c.1.A₀) (c.1.base) (c.1.h₀) (c.1.L) (c.1.m) (c.1.s) (c.1.Q) (c.1.E) (c.1.g') (c.1.L') (c.1.h') (c.1.tk0) (c.2.1) (c.2.2.1) (c.2.2.2.1) (c.2.2.2.2.1) (c.2.2.2.2.2.1) (c.2.2.2.2.2.2) := by with_unfolding_all exact eps_all (Nonempty.elim Gd.ne fun b => ⟨(b, 0, 0, ⟨0,0,0,0,0,0,0,0,0,0,0,0,0,0⟩, ⟨default,0,0,0,0,.none,0,0,0,0,0⟩, 0, 0)⟩) (P := fun c : Gd × Nat × Nat × Ks × Sv × Int × Tok => P (c.1.prog) (c.1.w) (c.1.p) (c.1.loose) (c.1.mean) (c.1.mg) (c.1.mb) (c.1.dp) (c.1.gd) (c.1.un) (c.1.env) (c.1.outer) (c.1.A₀) (c.1.base) (c.1.h₀) (c.1.L) (c.1.m) (c.1.s) (c.1.Q) (c.1.E) (c.1.g') (c.1.L') (c.1.h') (c.1.tk0) (c.2.1) (c.2.2.1) (c.2.2.2.1) (c.2.2.2.2.1) (c.2.2.2.2.2.1) (c.2.2.2.2.2.2)) @core
end Zpos_spec
theorem pos_spec {prog : Program} {w : World} {p : Program} {loose : List Str} {mean : ExcName → Option Value} {mg mb : Str → Option Value}
    {A : Around} {env : Env} {outer : List Env} {A₀ : Around} {base h₀ : Heap} {L : Addr} {m : Str → Option Value} {s : Shared} {Q E : Value → Shared → Prop}
    {x sd : Nat} {K : Ks} {v : Sv} {off : Int} {uo : Tok}
    (B : Below A₀ base outer h₀) (F : Fr h₀ L s.heap m) (X : (Mine.a.heap_1_39 w.params).In h₀) (T : Top p loose mean mg mb h₀) (hA : A.frames = some (env :: outer)) (hh : A.handled = none) (hf : env.frame = some L) (hke : env.scope.kind = .function)
    (hd : A.depth + 1 < recursionLimit) (hu : A.units + 10 < cLine) (N : News h₀ L s.heap [(x, instObj 166 sd), (sd, sdict w K v)])
    (o1 : sd < x)
    (post : ∀ (D : Nat) h' tk t1 t2 cv, cv = colF v.c v.pc off → s.heap.get? D = none → x < D → sd < D → Fr h₀ L h' m → News h₀ L h' [(D, { cls := .type "tuple", data := .seq #[.int (v.pl + count4 v.c (Str.ofString "\n") 0 off) t1, .int cv t2] }), (x, instObj 166 sd), (sd, sdict w K v)] → Keeps [x, sd] s.heap h' → Q (.ref D) { s with heap := h', toks := tk }) : wpAny (model prog w) A (call (.ref 119) [.ref x, .int off uo]) Q E s := by
  obtain ⟨hn, dp, fr, gd, un⟩ := A
  obtain rfl : fr = some (env :: outer) := hA
  obtain rfl : hn = none := hh
  dsimp only at hd hu
  refine' call_small (binds := [(Str.ofString "self", .ref x), (Str.ofString "offset", .int off uo)]) B F X N T rfl hf hke ?k6 ?k7 ?k8 ?k9 ?kB ?_ ?c2 ?c3 ?c4 ?c5
  (case k6 => k_is)
  (case k7 => k_is)
  (case k8 => k_room)
  (case k9 => first | exact BindsTo.of_eq rfl | exact binds_K (by k_in) rfl (by k_is) rfl rfl rfl)
  (case kB => exact locs rfl)
  (case c2 => exact rfl)
  (case c3 => exact rfl)
  (case c4 => exact rfl)
  (case c5 => decide)
  intro g' L' h' KG' FG' F' N' B' X' T' l1
  exact Zpos_spec.all ⟨⟨prog, w, p, loose, mean, mg, mb, dp, gd, un, env, outer, A₀, base, h₀, L, m, s, Q, E, g', L', h', s.toks + List.length ([(Str.ofString "self", .ref x), (Str.ofString "offset", .int off uo)] : List (Str × Value))⟩, x, sd, K, v, off, uo⟩ (by k_is) hd hu X T o1 KG' F' N' B' X' T' l1 pos_len post
end
theorem lines_P2_1 : True := by
  (k_with "execs cons" => safely ((k_here; (with_reducible show wpAny _ _ _ _ _ (Shared.mk _ _ _ (_ + 1) _)); refine gen_toks ?_; intro tk9Qq htk9Qq; (try k_fold))))
  (k_with "call ref" => safely ((k_here; (with_reducible show wpAny _ _ (call (Value.ref 119) _ _) _ _ _); (refine with_toks ?_); k_dflt (refine' pos_spec (K := ⟨_, _, _, _, _, _, _, _, _, _, _, _, _, _⟩) (v := ⟨_, _, _, _, _, _, _, _, _, _, _⟩) ?quBQ ?quFQ ?quXQ ?quTQ ?quAQ ?quhQ ?qufQ ?qukQ ?qudQ ?quuQ ?quNQ ?qo1Q ?_; (case quAQ => exact rfl); (case quhQ => exact rfl); (case qufQ => exact rfl); (case qukQ => exact rfl); (case quBQ => k_asm); (case quFQ => k_asm); (case quXQ => k_asm); (case quTQ => k_asm); (case quNQ => exact news_sub (by k_asm) (by (repeat (first | exact List.forall_mem_nil _ | (refine' sub_cons ?qzA9Q ?_; (case qzA9Q => k_mem)))))); (case qudQ => k_room); (case quuQ => k_units); (case qo1Q => omega); k_whole; intro D9Qq h9Qq tk9Qq t9Qq u9Qq cv9Qq hcv9Qq hD9Qq lx9Qq ls9Qq F9Qq N9Qq K9Qq; intro ht9Qq; (have N9pQq := news_nextc (by k_asm) K9Qq N9Qq (by (repeat (first | exact Rest.nil | exact Rest.none | (refine Rest.own (by assumption) ?_; (repeat (first | exact List.forall_mem_nil _ | (refine' sub_cons ?qzA9Q ?_; (case qzA9Q => k_mem))))) | (apply Rest.skip; (focus first | exact mem_0 | exact mem_1 | exact mem_2 | exact mem_3 | exact mem_4 | exact mem_5 | exact mem_6)) | (apply Rest.keep; (focus k_all))))) (by first | exact Cat.nil | exact (Cat.cons Cat.nil) | exact (Cat.cons (Cat.cons Cat.nil)) | exact (Cat.cons (Cat.cons (Cat.cons Cat.nil))) | exact (Cat.cons (Cat.cons (Cat.cons (Cat.cons Cat.nil)))) | exact (Cat.cons (Cat.cons (Cat.cons (Cat.cons (Cat.cons Cat.nil))))) | exact (Cat.cons (Cat.cons (Cat.cons (Cat.cons (Cat.cons (Cat.cons Cat.nil)))))) | exact (Cat.cons (Cat.cons (Cat.cons (Cat.cons (Cat.cons (Cat.cons (Cat.cons Cat.nil))))))) | exact (Cat.cons (Cat.cons (Cat.cons (Cat.cons (Cat.cons (Cat.cons (Cat.cons (Cat.cons Cat.nil)))))))))); clear N9Qq K9Qq; (try dsimp only at ht9Qq); (try k_sweep); (subst hcv9Qq)))))
  (k_with "call ref" => safely ((k_here; (refine with_toks ?_); k_dflt (refine' call_meth (f := .ref 148) ?qk1Q ?qk2Q ?_; (case qk1Q => k_asm); (case qk2Q => k_mem); refine' errs_spec ?quBQ ?quFQ ?quXQ ?quTQ ?quAQ ?quhQ ?qufQ ?qukQ ?qudQ ?quuQ ?quNQ ?qo1Q ?_; (case quAQ => exact rfl); (case quhQ => exact rfl); (case qufQ => exact rfl); (case qukQ => exact rfl); (case quBQ => k_asm); (case quFQ => k_asm); (case quXQ => k_asm); (case quTQ => k_asm); (case quNQ => exact News.nil); (case qudQ => k_room); (case quuQ => k_units); (case qo1Q => assumption); k_whole; intro h9Qq tk9Qq F9Qq N9Qq K9Qq; intro ht9Qq; (have N9pQq := news_next (by k_asm) K9Qq N9Qq Rest.none); (try dsimp only [List.cons_append, List.nil_append] at N9pQq); clear N9Qq K9Qq; (try dsimp only at ht9Qq); (try k_sweep)))))
  trivial
noncomputable abbrev crlf : Str := Str.ofString "\x0d\n"
noncomputable abbrev cr : Str := Str.ofString "\x0d"
noncomputable abbrev lf : Str := Str.ofString "\n"
theorem read0 {prog : Program} {w : World} {p : Program} {loose : List Str} {mean : ExcName → Option Value} {mg mb : Str → Option Value}
    {A : Around} {env : Env} {outer : List Env} {A₀ : Around} {base h₀ : Heap} {L : Addr} {m : Str → Option Value} {s : Shared} {Q E : Value → Shared → Prop}
    {ds td : Nat} {Kx : Kt} {tx : Str} {ux ud us : Tok}
    (B : Below A₀ base outer h₀) (F : Fr h₀ L s.heap m) (X : (Mine.a.heap_1_39 w.params).In h₀) (T : Top p loose mean mg mb h₀) (hA : A.frames = some (env :: outer)) (hh : A.handled = none) (hf : env.frame = some L) (hke : env.scope.kind = .function)
    (hd : A.depth + 1 < recursionLimit) (hu : A.units + 10 < cLine) (N : News h₀ L s.heap [(ds, instObj 73 td), (td, tdict w Kx tx ux 0 ud)])
    (o1 : td < ds) (hx : tx.length < 1000)
    (post : ∀ h' tk ty ud' y d', tx = y → (tx.length : Int) = d' → Fr h₀ L h' m → News h₀ L h' [(ds, instObj 73 td), (td, tdict w Kx tx ux d' ud')] → Keeps [ds, td] s.heap h' → Q (.str y ty) { s with heap := h', toks := tk }) : wpAny (model prog w) A (call (.ref 70) [.ref ds, .int 10240 us]) Q E s := by
  obtain ⟨hn, dp, fr, gd, un⟩ := A
  obtain rfl : fr = some (env :: outer) := hA
  obtain rfl : hn = none := hh
  dsimp only at hd hu
  refine' call_small (binds := [(Str.ofString "self", .ref ds), (Str.ofString "size", .int 10240 us)]) B F X N T rfl hf hke ?k6 ?k7 ?k8 ?k9 ?kB ?_ ?c2 ?c3 ?c4 ?c5
  (case k6 => k_is)
  (case k7 => k_is)
  (case k8 => k_room)
  (case k9 => first | exact BindsTo.of_eq rfl | exact binds_K (by k_in) rfl (by k_is) rfl rfl rfl)
  (case kB => exact locs rfl)
  (case c2 => exact rfl)
  (case c3 => exact rfl)
  (case c4 => exact rfl)
  (case c5 => decide)
  intro g' L' h' KG' FG' F' N' B' X' T' l1
  clear B F N hf hke FG'
  (try dsimp only)
  (try dsimp only [sdict, tdict, sEnt] at N')
  (try k_lt l1)
  (have htk0 : 0 < s.toks + List.length ([(Str.ofString "self", .ref ds), (Str.ofString "size", .int 10240 us)] : List (Str × Value)) := pos_len)
  (generalize (s.toks + List.length _) = tk0 at htk0 ⊢)
  (try k_fold)
  k_steps
  all_goals (refine' post _ _ _ _ _ _ ?y ?d ?f ?N ?k; (case f => k_asm); (case N => k_asm); (case k => exact keeps_end KG' (by k_asm)); (case y => exact (slice_all hx).symm); (case d => rw [slice_all hx]; (try rw [show (Str.ofString "").length = 0 from by decide +kernel]); omega))
theorem read1 {prog : Program} {w : World} {p : Program} {loose : List Str} {mean : ExcName → Option Value} {mg mb : Str → Option Value}
    {A : Around} {env : Env} {outer : List Env} {A₀ : Around} {base h₀ : Heap} {L : Addr} {m : Str → Option Value} {s : Shared} {Q E : Value → Shared → Prop}
    {ds td : Nat} {Kx : Kt} {tx : Str} {ux ud us : Tok}
    (B : Below A₀ base outer h₀) (F : Fr h₀ L s.heap m) (X : (Mine.a.heap_1_39 w.params).In h₀) (T : Top p loose mean mg mb h₀) (hA : A.frames = some (env :: outer)) (hh : A.handled = none) (hf : env.frame = some L) (hke : env.scope.kind = .function)
    (hd : A.depth + 1 < recursionLimit) (hu : A.units + 10 < cLine) (N : News h₀ L s.heap [(ds, instObj 73 td), (td, tdict w Kx tx ux (tx.length : Int) ud)])
    (o1 : td < ds) (hx : tx.length < 1000)
    (post : ∀ h' tk ty ud' y d', (Str.ofString "") = y → (tx.length : Int) = d' → Fr h₀ L h' m → News h₀ L h' [(ds, instObj 73 td), (td, tdict w Kx tx ux d' ud')] → Keeps [ds, td] s.heap h' → Q (.str y ty) { s with heap := h', toks := tk }) : wpAny (model prog w) A (call (.ref 70) [.ref ds, .int 10240 us]) Q E s := by
  obtain ⟨hn, dp, fr, gd, un⟩ := A
  obtain rfl : fr = some (env :: outer) := hA
  obtain rfl : hn = none := hh
  dsimp only at hd hu
  refine' call_small (binds := [(Str.ofString "self", .ref ds), (Str.ofString "size", .int 10240 us)]) B F X N T rfl hf hke ?k6 ?k7 ?k8 ?k9 ?kB ?_ ?c2 ?c3 ?c4 ?c5
  (case k6 => k_is)
  (case k7 => k_is)
  (case k8 => k_room)
  (case k9 => first | exact BindsTo.of_eq rfl | exact binds_K (by k_in) rfl (by k_is) rfl rfl rfl)
  (case kB => exact locs rfl)
  (case c2 => exact rfl)
  (case c3 => exact rfl)
  (case c4 => exact rfl)
  (case c5 => decide)
  intro g' L' h' KG' FG' F' N' B' X' T' l1
  clear B F N hf hke FG'
  (try dsimp only)
  (try dsimp only [sdict, tdict, sEnt] at N')
  (try k_lt l1)
  (have htk0 : 0 < s.toks + List.length ([(Str.ofString "self", .ref ds), (Str.ofString "size", .int 10240 us)] : List (Str × Value)) := pos_len)
  (generalize (s.toks + List.length _) = tk0 at htk0 ⊢)
  (try k_fold)
  k_steps
  all_goals (refine' post _ _ _ _ _ _ ?y ?d ?f ?N ?k; (case f => k_asm); (case N => k_asm); (case k => exact keeps_end KG' (by k_asm)); (case y => exact (slice_end).symm); (case d => rw [slice_end]; (try rw [show (Str.ofString "").length = 0 from by decide +kernel]); omega))
theorem lines_P3_1 : True := by
  (k_with "call ref" => safely ((k_here; (with_reducible show wpAny _ _ (call (Value.ref 70) _ _) _ _ _); (refine with_toks ?_); k_dflt (refine' read0 (Kx := ⟨_, _⟩) ?quBQ ?quFQ ?quXQ ?quTQ ?quAQ ?quhQ ?qufQ ?qukQ ?qudQ ?quuQ ?quNQ ?qo1Q ?qo2Q ?_; (case quAQ => exact rfl); (case quhQ => exact rfl); (case qufQ => exact rfl); (case qukQ => exact rfl); (case quBQ => k_asm); (case quFQ => k_asm); (case quXQ => k_asm); (case quTQ => k_asm); (case quNQ => exact news_sub (by k_asm) (by (repeat (first | exact List.forall_mem_nil _ | (refine' sub_cons ?qzA9Q ?_; (case qzA9Q => k_mem)))))); (case qudQ => k_room); (case quuQ => k_units); (case qo1Q => omega); (case qo2Q => assumption); k_whole; intro h9Qq tk9Qq ty9Qq ud9Qq y9Qq d9Qq hy9Qq hd9Qq F9Qq N9Qq K9Qq; intro ht9Qq; (have N9pQq := news_nextc (by k_asm) K9Qq N9Qq (by (repeat (first | exact Rest.nil | exact Rest.none | (refine Rest.own (by assumption) ?_; (repeat (first | exact List.forall_mem_nil _ | (refine' sub_cons ?qzA9Q ?_; (case qzA9Q => k_mem))))) | (apply Rest.skip; (focus first | exact mem_0 | exact mem_1 | exact mem_2 | exact mem_3 | exact mem_4 | exact mem_5 | exact mem_6)) | (apply Rest.keep; (focus k_all))))) (by first | exact Cat.nil | exact (Cat.cons Cat.nil) | exact (Cat.cons (Cat.cons Cat.nil)) | exact (Cat.cons (Cat.cons (Cat.cons Cat.nil))) | exact (Cat.cons (Cat.cons (Cat.cons (Cat.cons Cat.nil)))) | exact (Cat.cons (Cat.cons (Cat.cons (Cat.cons (Cat.cons Cat.nil))))) | exact (Cat.cons (Cat.cons (Cat.cons (Cat.cons (Cat.cons (Cat.cons Cat.nil)))))) | exact (Cat.cons (Cat.cons (Cat.cons (Cat.cons (Cat.cons (Cat.cons (Cat.cons Cat.nil))))))) | exact (Cat.cons (Cat.cons (Cat.cons (Cat.cons (Cat.cons (Cat.cons (Cat.cons (Cat.cons Cat.nil)))))))))); clear N9Qq K9Qq; (try dsimp only at ht9Qq); (try k_sweep); (subst hy9Qq); (subst hd9Qq)))))
  (k_with "call ref" => safely ((k_here; (with_reducible show wpAny _ _ (call (Value.ref 70) _ _) _ _ _); (refine with_toks ?_); k_dflt (refine' read1 (Kx := ⟨_, _⟩) ?quBQ ?quFQ ?quXQ ?quTQ ?quAQ ?quhQ ?qufQ ?qukQ ?qudQ ?quuQ ?quNQ ?qo1Q ?qo2Q ?_; (case quAQ => exact rfl); (case quhQ => exact rfl); (case qufQ => exact rfl); (case qukQ => exact rfl); (case quBQ => k_asm); (case quFQ => k_asm); (case quXQ => k_asm); (case quTQ => k_asm); (case quNQ => exact news_sub (by k_asm) (by (repeat (first | exact List.forall_mem_nil _ | (refine' sub_cons ?qzA9Q ?_; (case qzA9Q => k_mem)))))); (case qudQ => k_room); (case quuQ => k_units); (case qo1Q => omega); (case qo2Q => assumption); k_whole; intro h9Qq tk9Qq ty9Qq ud9Qq y9Qq d9Qq hy9Qq hd9Qq F9Qq N9Qq K9Qq; intro ht9Qq; (have N9pQq := news_nextc (by k_asm) K9Qq N9Qq (by (repeat (first | exact Rest.nil | exact Rest.none | (refine Rest.own (by assumption) ?_; (repeat (first | exact List.forall_mem_nil _ | (refine' sub_cons ?qzA9Q ?_; (case qzA9Q => k_mem))))) | (apply Rest.skip; (focus first | exact mem_0 | exact mem_1 | exact mem_2 | exact mem_3 | exact mem_4 | exact mem_5 | exact mem_6)) | (apply Rest.keep; (focus k_all))))) (by first | exact Cat.nil | exact (Cat.cons Cat.nil) | exact (Cat.cons (Cat.cons Cat.nil)) | exact (Cat.cons (Cat.cons (Cat.cons Cat.nil))) | exact (Cat.cons (Cat.cons (Cat.cons (Cat.cons Cat.nil)))) | exact (Cat.cons (Cat.cons (Cat.cons (Cat.cons (Cat.cons Cat.nil))))) | exact (Cat.cons (Cat.cons (Cat.cons (Cat.cons (Cat.cons (Cat.cons Cat.nil)))))) | exact (Cat.cons (Cat.cons (Cat.cons (Cat.cons (Cat.cons (Cat.cons (Cat.cons Cat.nil))))))) | exact (Cat.cons (Cat.cons (Cat.cons (Cat.cons (Cat.cons (Cat.cons (Cat.cons (Cat.cons Cat.nil)))))))))); clear N9Qq K9Qq; (try dsimp only at ht9Qq); (try k_sweep); (subst hy9Qq); (subst hd9Qq)))))
  trivial
noncomputable abbrev mendS (x : Str) : Str := Txt.replace (Txt.replace x crlf lf) cr lf
/-- what a first piece holds: the text without a last CR that is kept back, or the text -/
noncomputable def RC (tx c' : Str) (buf' : Value) : Prop :=
  (1 < tx.length ∧ (Txt.item tx (-1)).cps.getD 0 0 = 13 ∧ (∃ B u, B = ⟨#[13]⟩ ∧ buf' = .str B u) ∧ c' = mendS (Txt.slice tx none (some (-1)))) ∨
  ((1 < tx.length → (Txt.item tx (-1)).cps.getD 0 0 ≠ 13) ∧ buf' = .none ∧ c' = mendS tx)
theorem seg_in {goal : Prop} {look : Option Obj} {oc oc' : Value} {od od' : Option Addr} {n n' q q' : Str} {p p' : Arguments} {b b' : List Stmt} {sc sc' : Scope} {dV dV' kV kV' doc doc' pm pm' cdv cdv' ct ct' : Value} {an an' : Option Addr} {osl osl' : Array (Option Value)}
    (h : look = some ⟨oc, od, .func (fnOf n q p b sc dV kV doc pm an cdv ct), osl⟩) (h' : look = some ⟨oc', od', .func (fnOf n' q' p' b' sc' dV' kV' doc' pm' an' cdv' ct'), osl'⟩) (k : b = b' → sc = sc' → q = q' → n = n' → goal) : goal := by
  rw [h'] at h
  injection h with h
  injection h with _ _ h _
  injection h with h
  unfold fnOf at h
  injection h with h1 h2 h3 h4 h5 h6
  injection h4 with h4
  exact k h4.symm h5.symm h2.symm h1.symm

theorem fr_ps {h₀ h : Heap} {L : Addr} {m : Str → Option Value} {ps : List (Str × Value)} (F : Fr h₀ L h m) (hk : ∀ p ∈ ps, m p.1 = some p.2) : Fr h₀ L h (kstB m ps) := by
  have e : kstB m ps = m := funext fun z => kstB_eq hk (fun _ => rfl)
  rw [e]; exact F
theorem no_surr {n : Nat} (h : n = 0 ∨ n = 9 ∨ n = 10 ∨ n = 12 ∨ n = 13 ∨ (32 ≤ n ∧ n < 127) ∨ n = 233) (k : (55296 : Int) ≤ (n : Int)) : False := by
  have h2 : n < 234 := by rcases h with rfl | rfl | rfl | rfl | rfl | ⟨_, h⟩ | rfl <;> first | decide | exact Nat.lt_trans h (by decide)
  exact absurd (Nat.le_trans (by decide : 234 ≤ 55296) (Int.ofNat_le.mp k)) (Nat.not_le.mpr h2)
theorem rc_tail {prog : Program} {w : World} {p : Program} {loose : List Str} {mean : ExcName → Option Value} {mg mb : Str → Option Value}
    {A : Around} {env : Env} {outer : List Env} {base h₀ : Heap} {L fa : Addr} {cd : Value} {s : Shared} {u : Str → Option Value} {Q : Flow → Shared → Prop} {E : Value → Shared → Prop}
    {fname qual : Str} {params : Arguments} {body : List Stmt} {scope : Scope} {dV kV doc pm cdv ct oc : Value} {an od : Option Addr} {osl : Array (Option Value)}
    {x sd td : Nat} {K : Ks} {pl pc d : Int} {buf : Value} {u1 u2 u3 u4 u5 uy ux ud : Tok} {Kx : Kt} {tx y : Str} {tl : List Stmt}
    (hl : (Mine.a.heap_1_39 w.params).lookup 141 = some ⟨oc, od, .func (fnOf fname qual params body scope dV kV doc pm an cdv ct), osl⟩)
    (htl : body.drop 8 = tl) (hA : A.frames = some (env :: outer)) (hh : A.handled = none) (hd : A.depth + 5 < recursionLimit) (hu : A.units + 40 < cLine)
    (B : Below A base (env :: outer) h₀) (F : Fr h₀ L s.heap (kstB u [(Str.ofString "self", .ref x), (Str.ofString "data", .str y uy)])) (X : (Mine.a.heap_1_39 w.params).In h₀) (T : Top p loose mean mg mb h₀) (N : News h₀ L s.heap [(x, instObj 166 sd), (sd, sdict w K ⟨Str.ofString "", 0, 0, pl, pc, buf, u1, u2, u3, u4, u5⟩), (K.ds, instObj 73 td), (td, tdict w Kx tx ux d ud), (K.mo, methodObj (.ref 148) (.ref x))])
    (o1 : sd < x) (o2 : x < K.mo) (o3 : K.mo < td) (o4 : td < K.ds) (hy : y.length < 1000) (hok : ∀ c ∈ y.cps.toList, okc c)
    (post : ∀ h' tk (m' : Str → Option Value) v1 v2 v3, Fr h₀ L h' m' → News h₀ L h' [(x, instObj 166 sd), (sd, sdict w K ⟨mendS y, (mendS y).length, 0, pl, pc, buf, v1, v2, v3, u4, u5⟩), (K.ds, instObj 73 td), (td, tdict w Kx tx ux d ud), (K.mo, methodObj (.ref 148) (.ref x))] → Q (.ret (.bool true)) { s with heap := h', toks := tk }) :
    wpAny (model prog w) (A.deeper (envOf qual scope L fa cd)) (execs tl (envOf qual scope L fa cd)) Q E s := by
  subst htl
  obtain ⟨hn, dp, fr, gd, un⟩ := A
  obtain rfl : fr = some (env :: outer) := hA
  obtain rfl : hn = none := hh
  dsimp only at hd hu
  refine' seg_in hl ?hk ?_
  (case hk => k_is)
  rintro rfl rfl rfl rfl
  clear hl
  (try dsimp only [List.drop])
  (try dsimp only [kstB] at F)
  (try dsimp only [sdict, tdict, sEnt] at N)
  have hm9 := mend_len y
  have q_0_2 : @LT.lt Nat _ sd K.mo := Nat.lt_trans o1 o2
  have q_0_3 : @LT.lt Nat _ sd td := Nat.lt_trans q_0_2 o3
  have q_0_4 : @LT.lt Nat _ sd K.ds := Nat.lt_trans q_0_3 o4
  have q_1_3 : @LT.lt Nat _ x td := Nat.lt_trans o2 o3
  have q_1_4 : @LT.lt Nat _ x K.ds := Nat.lt_trans q_1_3 o4
  have q_2_4 : @LT.lt Nat _ K.mo K.ds := Nat.lt_trans o3 o4
  k_steps
  all_goals first
    | (refine' post _ _ _ _ _ _ ?f ?N; (case f => k_asm); (case N => exact news_sub (by k_asm) (by (repeat (first | exact List.forall_mem_nil _ | (refine' sub_cons ?zA9 ?_; (case zA9 => k_mem)))))))
namespace Zrc_new
noncomputable def P (prog : Program) (w : World) (p : Program) (loose : List Str) (mean : ExcName → Option Value) (mg : Str → Option Value) (mb : Str → Option Value) (dp : Nat) (gd : Option (List Code)) (un : Nat) (env : Env) (outer : List Env) (A₀ : Around) (base : Heap) (h₀ : Heap) (L : Addr) (m : Str → Option Value) (s : Shared) (Q : Value → Shared → Prop) (E : Value → Shared → Prop) (g' : Heap) (L' : Addr) (h' : Heap) (tk0 : Nat) (x : Nat) (sd : Nat) (td : Nat) (K : Ks) (c : Str) (n : Int) (k : Int) (pl : Int) (pc : Int) (u1 : Tok) (u2 : Tok) (u3 : Tok) (u4 : Tok) (u5 : Tok) (Kx : Kt) (tx : Str) (ux : Tok) (ud : Tok) : Prop := ∀ {fname qual : Str} {params : Arguments} {body : List Stmt} {scope : Scope} {dV kV doc pm cdv fct foc : Value} {fan fod : Option Addr} {fosl : Array (Option Value)} (hl : (Mine.a.heap_1_39 w.params).lookup 141 = some ⟨foc, fod, .func (fnOf fname qual params body scope dV kV doc pm fan cdv fct), fosl⟩) (hd : dp + 5 < recursionLimit) (hu : un + 40 < cLine) (X : (Mine.a.heap_1_39 w.params).In h₀) (T : Top p loose mean mg mb h₀) (o1 : sd < x) (o2 : x < K.mo) (o3 : K.mo < td) (o4 : td < K.ds) (hx : tx.length < 1000) (h0 : 0 < tx.length) (hok : ∀ c ∈ tx.cps.toList, okc c)
    (KG' : Keeps (([(x, instObj 166 sd), (sd, sdict w K ⟨c, n, k, pl, pc, .none, u1, u2, u3, u4, u5⟩), (K.ds, instObj 73 td), (td, tdict w Kx tx ux 0 ud), (K.mo, methodObj (.ref 148) (.ref x))] : List (Addr × Obj)).map (·.1)) s.heap g') (F' : Fr g' L' h' (fun y => (([(Str.ofString "self", .ref x), (Str.ofString "chunkSize", .none)] : List (Str × Value)).reverse).lookup y)) (N' : News g' L' h' [(x, instObj 166 sd), (sd, sdict w K ⟨c, n, k, pl, pc, .none, u1, u2, u3, u4, u5⟩), (K.ds, instObj 73 td), (td, tdict w Kx tx ux 0 ud), (K.mo, methodObj (.ref 148) (.ref x))]) (B' : Below ⟨none, dp, some (env :: outer), gd, un⟩ base (env :: outer) g') (X' : (Mine.a.heap_1_39 w.params).In g') (T' : Top p loose mean mg mb g') (l1 : ∀ q ∈ ([(x, instObj 166 sd), (sd, sdict w K ⟨c, n, k, pl, pc, .none, u1, u2, u3, u4, u5⟩), (K.ds, instObj 73 td), (td, tdict w Kx tx ux 0 ud), (K.mo, methodObj (.ref 148) (.ref x))] : List (Addr × Obj)), q.1 < L') (htk0 : 0 < tk0)
    (post : ∀ h' tk c' buf' v1 v2 v3 v4 v5 ud', RC tx c' buf' → Fr h₀ L h' m → News h₀ L h' [(x, instObj 166 sd), (sd, sdict w K ⟨c', c'.length, 0, pl + count4 c lf 0 n, colF c pc n, buf', v1, v2, v3, v4, v5⟩), (K.ds, instObj 73 td), (td, tdict w Kx tx ux (tx.length : Int) ud'), (K.mo, methodObj (.ref 148) (.ref x))] → Keeps [x, sd, K.ds, td, K.mo] s.heap h' → Q (.bool true) { s with heap := h', toks := tk }), wpAny (model prog w) (Around.deeper ⟨none, dp, some (env :: outer), gd, un⟩ (envOf qual scope L' 141 cdv)) (execs body (envOf qual scope L' 141 cdv)) (leaveQ h₀ L m g' Q E) (leaveE prog w (Around.deeper ⟨none, dp, some (env :: outer), gd, un⟩ (envOf qual scope L' 141 cdv)) (envOf qual scope L' 141 cdv) E) { s with heap := h', toks := tk0 }
@[irreducible] noncomputable def c0 : Gd × Nat × Nat × Nat × Ks × Str × Int × Int × Int × Int × Tok × Tok × Tok × Tok × Tok × Kt × Str × Tok × Tok := @Classical.epsilon _ (Nonempty.elim Gd.ne fun b => ⟨(b, 0, 0, 0, ⟨0,0,0,0,0,0,0,0,0,0,0,0,0,0⟩, default, 0, 0, 0, 0, 0, 0, 0, 0, 0, ⟨0,0⟩, default, 0, 0)⟩) fun c => ¬ P (c.1.prog) (c.1.w) (c.1.p) (c.1.loose) (c.1.mean) (c.1.mg) (c.1.mb) (c.1.dp) (c.1.gd) (c.1.un) (c.1.env) (c.1.outer) (c.1.A₀) (c.1.base) (c.1.h₀) (c.1.L) (c.1.m) (c.1.s) (c.1.Q) (c.1.E) (c.1.g') (c.1.L') (c.1.h') (c.1.tk0) (c.2.1) (c.2.2.1) (c.2.2.2.1) (c.2.2.2.2.1) (c.2.2.2.2.2.1) (c.2.2.2.2.2.2.1) (c.2.2.2.2.2.2.2.1) (c.2.2.2.2.2.2.2.2.1) (c.2.2.2.2.2.2.2.2.2.1) (c.2.2.2.2.2.2.2.2.2.2.1) (c.2.2.2.2.2.2.2.2.2.2.2.1) (c.2.2.2.2.2.2.2.2.2.2.2.2.1) (c.2.2.2.2.2.2.2.2.2.2.2.2.2.1) (c.2.2.2.2.2.2.2.2.2.2.2.2.2.2.1) (c.2.2.2.2.2.2.2.2.2.2.2.2.2.2.2.1) (c.2.2.2.2.2.2.2.2.2.2.2.2.2.2.2.2.1) (c.2.2.2.2.2.2.2.2.2.2.2.2.2.2.2.2.2.1) (c.2.2.2.2.2.2.2.2.2.2.2.2.2.2.2.2.2.2)
@[irreducible] noncomputable def prog : Program := c0.1.prog
@[irreducible] noncomputable def w : World := c0.1.w
@[irreducible] noncomputable def p : Program := c0.1.p
@[irreducible] noncomputable def loose : List Str := c0.1.loose
@[irreducible] noncomputable def mean : ExcName → Option Value := c0.1.mean
@[irreducible] noncomputable def mg : Str → Option Value := c0.1.mg
@[irreducible] noncomputable def mb : Str → Option Value := c0.1.mb
@[irreducible] noncomputable def dp : Nat := c0.1.dp
@[irreducible] noncomputable def gd : Option (List Code) := c0.1.gd
@[irreducible] noncomputable def un : Nat := c0.1.un
@[irreducible] noncomputable def env : Env := c0.1.env
@[irreducible] noncomputable def outer : List Env := c0.1.outer
@[irreducible] noncomputable def A₀ : Around := c0.1.A₀
@[irreducible] noncomputable def base : Heap := c0.1.base
@[irreducible] noncomputable def h₀ : Heap := c0.1.h₀
@[irreducible] noncomputable def L : Addr := c0.1.L
@[irreducible] noncomputable def m : Str → Option Value := c0.1.m
@[irreducible] noncomputable def s : Shared := c0.1.s
@[irreducible] noncomputable def Q : Value → Shared → Prop := c0.1.Q
@[irreducible] noncomputable def E : Value → Shared → Prop := c0.1.E
@[irreducible] noncomputable def g' : Heap := c0.1.g'
@[irreducible] noncomputable def L' : Addr := c0.1.L'
@[irreducible] noncomputable def h' : Heap := c0.1.h'
@[irreducible] noncomputable def tk0 : Nat := c0.1.tk0
@[irreducible] noncomputable def x : Nat := c0.2.1
@[irreducible] noncomputable def sd : Nat := c0.2.2.1
@[irreducible] noncomputable def td : Nat := c0.2.2.2.1
@[irreducible] noncomputable def K : Ks := c0.2.2.2.2.1
@[irreducible] noncomputable def c : Str := c0.2.2.2.2.2.1
@[irreducible] noncomputable def n : Int := c0.2.2.2.2.2.2.1
@[irreducible] noncomputable def k : Int := c0.2.2.2.2.2.2.2.1
@[irreducible] noncomputable def pl : Int := c0.2.2.2.2.2.2.2.2.1
@[irreducible] noncomputable def pc : Int := c0.2.2.2.2.2.2.2.2.2.1
@[irreducible] noncomputable def u1 : Tok := c0.2.2.2.2.2.2.2.2.2.2.1
@[irreducible] noncomputable def u2 : Tok := c0.2.2.2.2.2.2.2.2.2.2.2.1
@[irreducible] noncomputable def u3 : Tok := c0.2.2.2.2.2.2.2.2.2.2.2.2.1
@[irreducible] noncomputable def u4 : Tok := c0.2.2.2.2.2.2.2.2.2.2.2.2.2.1
@[irreducible] noncomputable def u5 : Tok := c0.2.2.2.2.2.2.2.2.2.2.2.2.2.2.1
@[irreducible] noncomputable def Kx : Kt := c0.2.2.2.2.2.2.2.2.2.2.2.2.2.2.2.1
@[irreducible] noncomputable def tx : Str := c0.2.2.2.2.2.2.2.2.2.2.2.2.2.2.2.2.1
@[irreducible] noncomputable def ux : Tok := c0.2.2.2.2.2.2.2.2.2.2.2.2.2.2.2.2.2.1
@[irreducible] noncomputable def ud : Tok := c0.2.2.2.2.2.2.2.2.2.2.2.2.2.2.2.2.2.2
theorem core {fname qual : Str} {params : Arguments} {body : List Stmt} {scope : Scope} {dV kV doc pm cdv fct foc : Value} {fan fod : Option Addr} {fosl : Array (Option Value)} (hl : (Mine.a.heap_1_39 w.params).lookup 141 = some ⟨foc, fod, .func (fnOf fname qual params body scope dV kV doc pm fan cdv fct), fosl⟩) (hd : dp + 5 < recursionLimit) (hu : un + 40 < cLine) (X : (Mine.a.heap_1_39 w.params).In h₀) (T : Top p loose mean mg mb h₀) (o1 : sd < x) (o2 : x < K.mo) (o3 : K.mo < td) (o4 : td < K.ds) (hx : tx.length < 1000) (h0 : 0 < tx.length) (hok : ∀ c ∈ tx.cps.toList, okc c)
    (KG' : Keeps (([(x, instObj 166 sd), (sd, sdict w K ⟨c, n, k, pl, pc, .none, u1, u2, u3, u4, u5⟩), (K.ds, instObj 73 td), (td, tdict w Kx tx ux 0 ud), (K.mo, methodObj (.ref 148) (.ref x))] : List (Addr × Obj)).map (·.1)) s.heap g') (F' : Fr g' L' h' (fun y => (([(Str.ofString "self", .ref x), (Str.ofString "chunkSize", .none)] : List (Str × Value)).reverse).lookup y)) (N' : News g' L' h' [(x, instObj 166 sd), (sd, sdict w K ⟨c, n, k, pl, pc, .none, u1, u2, u3, u4, u5⟩), (K.ds, instObj 73 td), (td, tdict w Kx tx ux 0 ud), (K.mo, methodObj (.ref 148) (.ref x))]) (B' : Below ⟨none, dp, some (env :: outer), gd, un⟩ base (env :: outer) g') (X' : (Mine.a.heap_1_39 w.params).In g') (T' : Top p loose mean mg mb g') (l1 : ∀ q ∈ ([(x, instObj 166 sd), (sd, sdict w K ⟨c, n, k, pl, pc, .none, u1, u2, u3, u4, u5⟩), (K.ds, instObj 73 td), (td, tdict w Kx tx ux 0 ud), (K.mo, methodObj (.ref 148) (.ref x))] : List (Addr × Obj)), q.1 < L') (htk0 : 0 < tk0)
    (post : ∀ h' tk c' buf' v1 v2 v3 v4 v5 ud', RC tx c' buf' → Fr h₀ L h' m → News h₀ L h' [(x, instObj 166 sd), (sd, sdict w K ⟨c', c'.length, 0, pl + count4 c lf 0 n, colF c pc n, buf', v1, v2, v3, v4, v5⟩), (K.ds, instObj 73 td), (td, tdict w Kx tx ux (tx.length : Int) ud'), (K.mo, methodObj (.ref 148) (.ref x))] → Keeps [x, sd, K.ds, td, K.mo] s.heap h' → Q (.bool true) { s with heap := h', toks := tk }) : wpAny (model prog w) (Around.deeper ⟨none, dp, some (env :: outer), gd, un⟩ (envOf qual scope L' 141 cdv)) (execs body (envOf qual scope L' 141 cdv)) (leaveQ h₀ L m g' Q E) (leaveE prog w (Around.deeper ⟨none, dp, some (env :: outer), gd, un⟩ (envOf qual scope L' 141 cdv)) (envOf qual scope L' 141 cdv) E) { s with heap := h', toks := tk0 } := by
  delta leaveQ leaveE
  refine' seg_inc hl ?hk ?_
  (case hk => k_is)
  rintro rfl rfl rfl rfl
  clear hl
  have q_0_2 : @LT.lt Nat _ sd K.mo := Nat.lt_trans o1 o2
  have q_0_3 : @LT.lt Nat _ sd td := Nat.lt_trans q_0_2 o3
  have q_0_4 : @LT.lt Nat _ sd K.ds := Nat.lt_trans q_0_3 o4
  have q_1_3 : @LT.lt Nat _ x td := Nat.lt_trans o2 o3
  have q_1_4 : @LT.lt Nat _ x K.ds := Nat.lt_trans q_1_3 o4
  have q_2_4 : @LT.lt Nat _ K.mo K.ds := Nat.lt_trans o3 o4
  (try dsimp only)
  (try dsimp only [sdict, tdict, sEnt] at N')
  (try k_lt l1)
  have hl9 := last_ok h0 hok
  unfold okc at hl9
  have hs9 := cut_ok hok
  have hn9 := cut_len hx
  have hm9 := mend_len tx
  have hm8 := mend_len (Txt.slice tx none (some (-1)))
  k_with "execs cons If" => ((with_reducible show wpAny _ _ (execs (Stmt.If _ _ _ ⟨93, _, _, _⟩ :: _) _) _ _ _); k_dflt (refine' rc_tail ?thl ?ttl ?tA ?th ?td ?tu ?tB (fr_ps ?tF ?tk) ?tX ?tT ?tN o1 o2 o3 o4 ?ty ?to ?_; (case thl => k_is); (case ttl => exact rfl); (case tA => exact rfl); (case th => exact rfl); (case td => first | assumption | (show _ + 5 < _; omega)); (case tu => first | assumption | (show _ + 40 < _; omega)); (case tB => k_asm); (case tF => k_asm); (case tk => (repeat (first | exact List.forall_mem_nil _ | (refine' all_cons ?zA9 ?_; (case zA9 => with_unfolding_all rfl))))); (case tX => k_asm); (case tT => k_asm); (case tN => exact news_sub (by k_asm) (by (repeat (first | exact List.forall_mem_nil _ | (refine' sub_cons ?zA9 ?_; (case zA9 => k_mem)))))); (case ty => first | assumption | omega); (case to => assumption)); (intro h9 tk9 m9 v91 v92 v93 F9 N9))
  k_steps
  all_goals first
    | (refine' post _ _ _ _ _ _ _ _ _ _ ?rc ?f ?N ?k; (case f => k_asm); (case N => exact news_sub (by k_asm) (by (repeat (first | exact List.forall_mem_nil _ | (refine' sub_cons ?zA9 ?_; (case zA9 => k_mem)))))); (case k => exact keeps_end KG' (by k_asm)); (case rc => first | exact .inl ⟨by omega, by omega, ⟨_, _, item_13 (by assumption) (by assumption), rfl⟩, rfl⟩ | exact .inr ⟨fun _ => by omega, rfl, rfl⟩ | exact .inr ⟨fun _ => absurd (by assumption) (by omega), rfl, rfl⟩))
    | (exfalso; exact no_surr (by with_reducible assumption) (by with_reducible assumption))
    | (exfalso; omega)
theorem all : ∀ c : Gd × Nat × Nat × Nat × Ks × Str × Int × Int × Int × Int × Tok × Tok × Tok × Tok × Tok × Kt × Str × Tok × Tok, P (c.1.prog) (c.1.w) (c.1.p) (c.1.loose) (c.1.mean) (c.1.mg) (c.1.mb) (c.1.dp) (c.1.gd) (c.1.un) (c.1.env) (c.1.outer) (c.1.A₀) (c.1.base) (c.1.h₀) (c.1.L) (c.1.m) (c.1.s) (c.1.Q) (c.1.E) (c.1.g') (c.1.L') (c.1.h') (c.1.tk0) (c.2.1) (c.2.2.1) (c.2.2.2.1) (c.2.2.2.2.1) (c.2.2.2.2.2.1) (c.2.2.2.2.2.2.1) (c.2.2.2.2.2.2.2.1) (c.2.2.2.2.2.2.2.2.1) (c.2.2.2.2.2.2.2.2.2.1) (c.2.2.2.2.2.2.2.2.2.2.1) (c.2.2.2.2.2.2.2.2.2.2.2.1) (c.2.2.2.2.2.2.2.2.2.2.2.2.1) (c.2.2.2.2.2.2.2.2.2.2.2.2.2.1) (c.2.2.2.2.2.2.2.2.2.2.2.2.2.2.1) (c.2.2.2.2.2.2.2.2.2.2.2.2.2.2.2.1) (c.2.2.2.2.2.2.2.2.2.2.2.2.2.2.2.2.1) (c.2.2.2.2.2.2.2.2.2.2.2.2.2.2.2.2.2.1) (c.2.2.2.2.2.2.2.2.2.2.2.2.2.2.2.2.2.2) := by with_unfolding_all exact eps_all (Nonempty.elim Gd.ne fun b => ⟨(b, 0, 0, 0, ⟨0,0,0,0,0,0,0,0,0,0,0,0,0,0⟩, default, 0, 0, 0, 0, 0, 0, 0, 0, 0, ⟨0,0⟩, default, 0, 0)⟩) (P := fun c : Gd × Nat × Nat × Nat × Ks × Str × Int × Int × Int × Int × Tok × Tok × Tok × Tok × Tok × Kt × Str × Tok × Tok => P (c.1.prog) (c.1.w) (c.1.p) (c.1.loose) (c.1.mean) (c.1.mg) (c.1.mb) (c.1.dp) (c.1.gd) (c.1.un) (c.1.env) (c.1.outer) (c.1.A₀) (c.1.base) (c.1.h₀) (c.1.L) (c.1.m) (c.1.s) (c.1.Q) (c.1.E) (c.1.g') (c.1.L') (c.1.h') (c.1.tk0) (c.2.1) (c.2.2.1) (c.2.2.2.1) (c.2.2.2.2.1) (c.2.2.2.2.2.1) (c.2.2.2.2.2.2.1) (c.2.2.2.2.2.2.2.1) (c.2.2.2.2.2.2.2.2.1) (c.2.2.2.2.2.2.2.2.2.1) (c.2.2.2.2.2.2.2.2.2.2.1) (c.2.2.2.2.2.2.2.2.2.2.2.1) (c.2.2.2.2.2.2.2.2.2.2.2.2.1) (c.2.2.2.2.2.2.2.2.2.2.2.2.2.1) (c.2.2.2.2.2.2.2.2.2.2.2.2.2.2.1) (c.2.2.2.2.2.2.2.2.2.2.2.2.2.2.2.1) (c.2.2.2.2.2.2.2.2.2.2.2.2.2.2.2.2.1) (c.2.2.2.2.2.2.2.2.2.2.2.2.2.2.2.2.2.1) (c.2.2.2.2.2.2.2.2.2.2.2.2.2.2.2.2.2.2)) @core
end Zrc_new
theorem rc_new {prog : Program} {w : World} {p : Program} {loose : List Str} {mean : ExcName → Option Value} {mg mb : Str → Option Value}
    {A : Around} {env : Env} {outer : List Env} {A₀ : Around} {base h₀ : Heap} {L : Addr} {m : Str → Option Value} {s : Shared} {Q E : Value → Shared → Prop}
    {x sd td : Nat} {K : Ks} {c : Str} {n k pl pc : Int} {u1 u2 u3 u4 u5 : Tok} {Kx : Kt} {tx : Str} {ux ud : Tok}
    (B : Below A₀ base outer h₀) (F : Fr h₀ L s.heap m) (X : (Mine.a.heap_1_39 w.params).In h₀) (T : Top p loose mean mg mb h₀) (hA : A.frames = some (env :: outer)) (hh : A.handled = none) (hf : env.frame = some L) (hke : env.scope.kind = .function)
    (hd : A.depth + 5 < recursionLimit) (hu : A.units + 40 < cLine) (N : News h₀ L s.heap [(x, instObj 166 sd), (sd, sdict w K ⟨c, n, k, pl, pc, .none, u1, u2, u3, u4, u5⟩), (K.ds, instObj 73 td), (td, tdict w Kx tx ux 0 ud), (K.mo, methodObj (.ref 148) (.ref x))])
    (o1 : sd < x) (o2 : x < K.mo) (o3 : K.mo < td) (o4 : td < K.ds) (hx : tx.length < 1000) (h0 : 0 < tx.length) (hok : ∀ c ∈ tx.cps.toList, okc c)
    (post : ∀ h' tk c' buf' v1 v2 v3 v4 v5 ud', RC tx c' buf' → Fr h₀ L h' m → News h₀ L h' [(x, instObj 166 sd), (sd, sdict w K ⟨c', c'.length, 0, pl + count4 c lf 0 n, colF c pc n, buf', v1, v2, v3, v4, v5⟩), (K.ds, instObj 73 td), (td, tdict w Kx tx ux (tx.length : Int) ud'), (K.mo, methodObj (.ref 148) (.ref x))] → Keeps [x, sd, K.ds, td, K.mo] s.heap h' → Q (.bool true) { s with heap := h', toks := tk }) : wpAny (model prog w) A (call (.ref 141) [.ref x]) Q E s := by
  obtain ⟨hn, dp, fr, gd, un⟩ := A
  obtain rfl : fr = some (env :: outer) := hA
  obtain rfl : hn = none := hh
  dsimp only at hd hu
  refine' call_small (binds := [(Str.ofString "self", .ref x), (Str.ofString "chunkSize", .none)]) B F X N T rfl hf hke ?k6 ?k7 ?k8 ?k9 ?kB ?_ ?c2 ?c3 ?c4 ?c5
  (case k6 => k_is)
  (case k7 => k_is)
  (case k8 => k_room)
  (case k9 => first | exact BindsTo.of_eq rfl | exact binds_K (by k_in) rfl (by k_is) rfl rfl rfl)
  (case kB => exact locs rfl)
  (case c2 => exact rfl)
  (case c3 => exact rfl)
  (case c4 => exact rfl)
  (case c5 => decide)
  intro g' L' h' KG' FG' F' N' B' X' T' l1
  exact Zrc_new.all ⟨⟨prog, w, p, loose, mean, mg, mb, dp, gd, un, env, outer, A₀, base, h₀, L, m, s, Q, E, g', L', h', s.toks + List.length ([(Str.ofString "self", .ref x), (Str.ofString "chunkSize", .none)] : List (Str × Value))⟩, x, sd, td, K, c, n, k, pl, pc, u1, u2, u3, u4, u5, Kx, tx, ux, ud⟩ (by k_is) hd hu X T o1 o2 o3 o4 hx h0 hok KG' F' N' B' X' T' l1 pos_len post
namespace Zrc_end
noncomputable def P (prog : Program) (w : World) (p : Program) (loose : List Str) (mean : ExcName → Option Value) (mg : Str → Option Value) (mb : Str → Option Value) (dp : Nat) (gd : Option (List Code)) (un : Nat) (env : Env) (outer : List Env) (A₀ : Around) (base : Heap) (h₀ : Heap) (L : Addr) (m : Str → Option Value) (s : Shared) (Q : Value → Shared → Prop) (E : Value → Shared → Prop) (g' : Heap) (L' : Addr) (h' : Heap) (tk0 : Nat) (x : Nat) (sd : Nat) (td : Nat) (K : Ks) (c : Str) (n : Int) (k : Int) (pl : Int) (pc : Int) (u1 : Tok) (u2 : Tok) (u3 : Tok) (u4 : Tok) (u5 : Tok) (Kx : Kt) (tx : Str) (ux : Tok) (ud : Tok) : Prop := ∀ {fname qual : Str} {params : Arguments} {body : List Stmt} {scope : Scope} {dV kV doc pm cdv fct foc : Value} {fan fod : Option Addr} {fosl : Array (Option Value)} (hl : (Mine.a.heap_1_39 w.params).lookup 141 = some ⟨foc, fod, .func (fnOf fname qual params body scope dV kV doc pm fan cdv fct), fosl⟩) (hd : dp + 5 < recursionLimit) (hu : un + 40 < cLine) (X : (Mine.a.heap_1_39 w.params).In h₀) (T : Top p loose mean mg mb h₀) (o1 : sd < x) (o2 : x < K.mo) (o3 : K.mo < td) (o4 : td < K.ds) (hx : tx.length < 1000)
    (KG' : Keeps (([(x, instObj 166 sd), (sd, sdict w K ⟨c, n, k, pl, pc, .none, u1, u2, u3, u4, u5⟩), (K.ds, instObj 73 td), (td, tdict w Kx tx ux (tx.length : Int) ud), (K.mo, methodObj (.ref 148) (.ref x))] : List (Addr × Obj)).map (·.1)) s.heap g') (F' : Fr g' L' h' (fun y => (([(Str.ofString "self", .ref x), (Str.ofString "chunkSize", .none)] : List (Str × Value)).reverse).lookup y)) (N' : News g' L' h' [(x, instObj 166 sd), (sd, sdict w K ⟨c, n, k, pl, pc, .none, u1, u2, u3, u4, u5⟩), (K.ds, instObj 73 td), (td, tdict w Kx tx ux (tx.length : Int) ud), (K.mo, methodObj (.ref 148) (.ref x))]) (B' : Below ⟨none, dp, some (env :: outer), gd, un⟩ base (env :: outer) g') (X' : (Mine.a.heap_1_39 w.params).In g') (T' : Top p loose mean mg mb g') (l1 : ∀ q ∈ ([(x, instObj 166 sd), (sd, sdict w K ⟨c, n, k, pl, pc, .none, u1, u2, u3, u4, u5⟩), (K.ds, instObj 73 td), (td, tdict w Kx tx ux (tx.length : Int) ud), (K.mo, methodObj (.ref 148) (.ref x))] : List (Addr × Obj)), q.1 < L') (htk0 : 0 < tk0)
    (post : ∀ h' tk c' v1 v2 v3 v4 v5 ud', c' = Str.ofString "" → Fr h₀ L h' m → News h₀ L h' [(x, instObj 166 sd), (sd, sdict w K ⟨c', 0, 0, pl + count4 c lf 0 n, colF c pc n, .none, v1, v2, v3, v4, v5⟩), (K.ds, instObj 73 td), (td, tdict w Kx tx ux (tx.length : Int) ud'), (K.mo, methodObj (.ref 148) (.ref x))] → Keeps [x, sd, K.ds, td, K.mo] s.heap h' → Q (.bool false) { s with heap := h', toks := tk }), wpAny (model prog w) (Around.deeper ⟨none, dp, some (env :: outer), gd, un⟩ (envOf qual scope L' 141 cdv)) (execs body (envOf qual scope L' 141 cdv)) (leaveQ h₀ L m g' Q E) (leaveE prog w (Around.deeper ⟨none, dp, some (env :: outer), gd, un⟩ (envOf qual scope L' 141 cdv)) (envOf qual scope L' 141 cdv) E) { s with heap := h', toks := tk0 }
@[irreducible] noncomputable def c0 : Gd × Nat × Nat × Nat × Ks × Str × Int × Int × Int × Int × Tok × Tok × Tok × Tok × Tok × Kt × Str × Tok × Tok := @Classical.epsilon _ (Nonempty.elim Gd.ne fun b => ⟨(b, 0, 0, 0, ⟨0,0,0,0,0,0,0,0,0,0,0,0,0,0⟩, default, 0, 0, 0, 0, 0, 0, 0, 0, 0, ⟨0,0⟩, default, 0, 0)⟩) fun c => ¬ P (c.1.prog) (c.1.w) (c.1.p) (c.1.loose) (c.1.mean) (c.1.mg) (c.1.mb) (c.1.dp) (c.1.gd) (c.1.un) (c.1.env) (c.1.outer) (c.1.A₀) (c.1.base) (c.1.h₀) (c.1.L) (c.1.m) (c.1.s) (c.1.Q) (c.1.E) (c.1.g') (c.1.L') (c.1.h') (c.1.tk0) (c.2.1) (c.2.2.1) (c.2.2.2.1) (c.2.2.2.2.1) (c.2.2.2.2.2.1) (c.2.2.2.2.2.2.1) (c.2.2.2.2.2.2.2.1) (c.2.2.2.2.2.2.2.2.1) (c.2.2.2.2.2.2.2.2.2.1) (c.2.2.2.2.2.2.2.2.2.2.1) (c.2.2.2.2.2.2.2.2.2.2.2.1) (c.2.2.2.2.2.2.2.2.2.2.2.2.1) (c.2.2.2.2.2.2.2.2.2.2.2.2.2.1) (c.2.2.2.2.2.2.2.2.2.2.2.2.2.2.1) (c.2.2.2.2.2.2.2.2.2.2.2.2.2.2.2.1) (c.2.2.2.2.2.2.2.2.2.2.2.2.2.2.2.2.1) (c.2.2.2.2.2.2.2.2.2.2.2.2.2.2.2.2.2.1) (c.2.2.2.2.2.2.2.2.2.2.2.2.2.2.2.2.2.2)
@[irreducible] noncomputable def prog : Program := c0.1.prog
@[irreducible] noncomputable def w : World := c0.1.w
@[irreducible] noncomputable def p : Program := c0.1.p
@[irreducible] noncomputable def loose : List Str := c0.1.loose
@[irreducible] noncomputable def mean : ExcName → Option Value := c0.1.mean
@[irreducible] noncomputable def mg : Str → Option Value := c0.1.mg
@[irreducible] noncomputable def mb : Str → Option Value := c0.1.mb
@[irreducible] noncomputable def dp : Nat := c0.1.dp
@[irreducible] noncomputable def gd : Option (List Code) := c0.1.gd
@[irreducible] noncomputable def un : Nat := c0.1.un
@[irreducible] noncomputable def env : Env := c0.1.env
@[irreducible] noncomputable def outer : List Env := c0.1.outer
@[irreducible] noncomputable def A₀ : Around := c0.1.A₀
@[irreducible] noncomputable def base : Heap := c0.1.base
@[irreducible] noncomputable def h₀ : Heap := c0.1.h₀
@[irreducible] noncomputable def L : Addr := c0.1.L
@[irreducible] noncomputable def m : Str → Option Value := c0.1.m
@[irreducible] noncomputable def s : Shared := c0.1.s
@[irreducible] noncomputable def Q : Value → Shared → Prop := c0.1.Q
@[irreducible] noncomputable def E : Value → Shared → Prop := c0.1.E
@[irreducible] noncomputable def g' : Heap := c0.1.g'
@[irreducible] noncomputable def L' : Addr := c0.1.L'
@[irreducible] noncomputable def h' : Heap := c0.1.h'
@[irreducible] noncomputable def tk0 : Nat := c0.1.tk0
@[irreducible] noncomputable def x : Nat := c0.2.1
@[irreducible] noncomputable def sd : Nat := c0.2.2.1
@[irreducible] noncomputable def td : Nat := c0.2.2.2.1
@[irreducible] noncomputable def K : Ks := c0.2.2.2.2.1
@[irreducible] noncomputable def c : Str := c0.2.2.2.2.2.1
@[irreducible] noncomputable def n : Int := c0.2.2.2.2.2.2.1
@[irreducible] noncomputable def k : Int := c0.2.2.2.2.2.2.2.1
@[irreducible] noncomputable def pl : Int := c0.2.2.2.2.2.2.2.2.1
@[irreducible] noncomputable def pc : Int := c0.2.2.2.2.2.2.2.2.2.1
@[irreducible] noncomputable def u1 : Tok := c0.2.2.2.2.2.2.2.2.2.2.1
@[irreducible] noncomputable def u2 : Tok := c0.2.2.2.2.2.2.2.2.2.2.2.1
@[irreducible] noncomputable def u3 : Tok := c0.2.2.2.2.2.2.2.2.2.2.2.2.1
@[irreducible] noncomputable def u4 : Tok := c0.2.2.2.2.2.2.2.2.2.2.2.2.2.1
@[irreducible] noncomputable def u5 : Tok := c0.2.2.2.2.2.2.2.2.2.2.2.2.2.2.1
@[irreducible] noncomputable def Kx : Kt := c0.2.2.2.2.2.2.2.2.2.2.2.2.2.2.2.1
@[irreducible] noncomputable def tx : Str := c0.2.2.2.2.2.2.2.2.2.2.2.2.2.2.2.2.1
@[irreducible] noncomputable def ux : Tok := c0.2.2.2.2.2.2.2.2.2.2.2.2.2.2.2.2.2.1
@[irreducible] noncomputable def ud : Tok := c0.2.2.2.2.2.2.2.2.2.2.2.2.2.2.2.2.2.2
theorem core {fname qual : Str} {params : Arguments} {body : List Stmt} {scope : Scope} {dV kV doc pm cdv fct foc : Value} {fan fod : Option Addr} {fosl : Array (Option Value)} (hl : (Mine.a.heap_1_39 w.params).lookup 141 = some ⟨foc, fod, .func (fnOf fname qual params body scope dV kV doc pm fan cdv fct), fosl⟩) (hd : dp + 5 < recursionLimit) (hu : un + 40 < cLine) (X : (Mine.a.heap_1_39 w.params).In h₀) (T : Top p loose mean mg mb h₀) (o1 : sd < x) (o2 : x < K.mo) (o3 : K.mo < td) (o4 : td < K.ds) (hx : tx.length < 1000)
    (KG' : Keeps (([(x, instObj 166 sd), (sd, sdict w K ⟨c, n, k, pl, pc, .none, u1, u2, u3, u4, u5⟩), (K.ds, instObj 73 td), (td, tdict w Kx tx ux (tx.length : Int) ud), (K.mo, methodObj (.ref 148) (.ref x))] : List (Addr × Obj)).map (·.1)) s.heap g') (F' : Fr g' L' h' (fun y => (([(Str.ofString "self", .ref x), (Str.ofString "chunkSize", .none)] : List (Str × Value)).reverse).lookup y)) (N' : News g' L' h' [(x, instObj 166 sd), (sd, sdict w K ⟨c, n, k, pl, pc, .none, u1, u2, u3, u4, u5⟩), (K.ds, instObj 73 td), (td, tdict w Kx tx ux (tx.length : Int) ud), (K.mo, methodObj (.ref 148) (.ref x))]) (B' : Below ⟨none, dp, some (env :: outer), gd, un⟩ base (env :: outer) g') (X' : (Mine.a.heap_1_39 w.params).In g') (T' : Top p loose mean mg mb g') (l1 : ∀ q ∈ ([(x, instObj 166 sd), (sd, sdict w K ⟨c, n, k, pl, pc, .none, u1, u2, u3, u4, u5⟩), (K.ds, instObj 73 td), (td, tdict w Kx tx ux (tx.length : Int) ud), (K.mo, methodObj (.ref 148) (.ref x))] : List (Addr × Obj)), q.1 < L') (htk0 : 0 < tk0)
    (post : ∀ h' tk c' v1 v2 v3 v4 v5 ud', c' = Str.ofString "" → Fr h₀ L h' m → News h₀ L h' [(x, instObj 166 sd), (sd, sdict w K ⟨c', 0, 0, pl + count4 c lf 0 n, colF c pc n, .none, v1, v2, v3, v4, v5⟩), (K.ds, instObj 73 td), (td, tdict w Kx tx ux (tx.length : Int) ud'), (K.mo, methodObj (.ref 148) (.ref x))] → Keeps [x, sd, K.ds, td, K.mo] s.heap h' → Q (.bool false) { s with heap := h', toks := tk }) : wpAny (model prog w) (Around.deeper ⟨none, dp, some (env :: outer), gd, un⟩ (envOf qual scope L' 141 cdv)) (execs body (envOf qual scope L' 141 cdv)) (leaveQ h₀ L m g' Q E) (leaveE prog w (Around.deeper ⟨none, dp, some (env :: outer), gd, un⟩ (envOf qual scope L' 141 cdv)) (envOf qual scope L' 141 cdv) E) { s with heap := h', toks := tk0 } := by
  delta leaveQ leaveE
  refine' seg_inc hl ?hk ?_
  (case hk => k_is)
  rintro rfl rfl rfl rfl
  clear hl
  have q_0_2 : @LT.lt Nat _ sd K.mo := Nat.lt_trans o1 o2
  have q_0_3 : @LT.lt Nat _ sd td := Nat.lt_trans q_0_2 o3
  have q_0_4 : @LT.lt Nat _ sd K.ds := Nat.lt_trans q_0_3 o4
  have q_1_3 : @LT.lt Nat _ x td := Nat.lt_trans o2 o3
  have q_1_4 : @LT.lt Nat _ x K.ds := Nat.lt_trans q_1_3 o4
  have q_2_4 : @LT.lt Nat _ K.mo K.ds := Nat.lt_trans o3 o4
  (try dsimp only)
  (try dsimp only [sdict, tdict, sEnt] at N')
  (try k_lt l1)
  k_steps
  all_goals first
    | (refine' post _ _ _ _ _ _ _ _ _ rfl ?f ?N ?k; (case f => k_asm); (case N => exact news_sub (by k_asm) (by (repeat (first | exact List.forall_mem_nil _ | (refine' sub_cons ?zA9 ?_; (case zA9 => k_mem)))))); (case k => exact keeps_end KG' (by k_asm)))
    | (exfalso; omega)
theorem all : ∀ c : Gd × Nat × Nat × Nat × Ks × Str × Int × Int × Int × Int × Tok × Tok × Tok × Tok × Tok × Kt × Str × Tok × Tok, P (c.1.prog) (c.1.w) (c.1.p) (c.1.loose) (c.1.mean) (c.1.mg) (c.1.mb) (c.1.dp) (c.1.gd) (c.1.un) (c.1.env) (c.1.outer) (c.1.A₀) (c.1.base) (c.1.h₀) (c.1.L) (c.1.m) (c.1.s) (c.1.Q) (c.1.E) (c.1.g') (c.1.L') (c.1.h') (c.1.tk0) (c.2.1) (c.2.2.1) (c.2.2.2.1) (c.2.2.2.2.1) (c.2.2.2.2.2.1) (c.2.2.2.2.2.2.1) (c.2.2.2.2.2.2.2.1) (c.2.2.2.2.2.2.2.2.1) (c.2.2.2.2.2.2.2.2.2.1) (c.2.2.2.2.2.2.2.2.2.2.1) (c.2.2.2.2.2.2.2.2.2.2.2.1) (c.2.2.2.2.2.2.2.2.2.2.2.2.1) (c.2.2.2.2.2.2.2.2.2.2.2.2.2.1) (c.2.2.2.2.2.2.2.2.2.2.2.2.2.2.1) (c.2.2.2.2.2.2.2.2.2.2.2.2.2.2.2.1) (c.2.2.2.2.2.2.2.2.2.2.2.2.2.2.2.2.1) (c.2.2.2.2.2.2.2.2.2.2.2.2.2.2.2.2.2.1) (c.2.2.2.2.2.2.2.2.2.2.2.2.2.2.2.2.2.2) := by with_unfolding_all exact eps_all (Nonempty.elim Gd.ne fun b => ⟨(b, 0, 0, 0, ⟨0,0,0,0,0,0,0,0,0,0,0,0,0,0⟩, default, 0, 0, 0, 0, 0, 0, 0, 0, 0, ⟨0,0⟩, default, 0, 0)⟩) (P := fun c : Gd × Nat × Nat × Nat × Ks × Str × Int × Int × Int × Int × Tok × Tok × Tok × Tok × Tok × Kt × Str × Tok × Tok => P (c.1.prog) (c.1.w) (c.1.p) (c.1.loose) (c.1.mean) (c.1.mg) (c.1.mb) (c.1.dp) (c.1.gd) (c.1.un) (c.1.env) (c.1.outer) (c.1.A₀) (c.1.base) (c.1.h₀) (c.1.L) (c.1.m) (c.1.s) (c.1.Q) (c.1.E) (c.1.g') (c.1.L') (c.1.h') (c.1.tk0) (c.2.1) (c.2.2.1) (c.2.2.2.1) (c.2.2.2.2.1) (c.2.2.2.2.2.1) (c.2.2.2.2.2.2.1) (c.2.2.2.2.2.2.2.1) (c.2.2.2.2.2.2.2.2.1) (c.2.2.2.2.2.2.2.2.2.1) (c.2.2.2.2.2.2.2.2.2.2.1) (c.2.2.2.2.2.2.2.2.2.2.2.1) (c.2.2.2.2.2.2.2.2.2.2.2.2.1) (c.2.2.2.2.2.2.2.2.2.2.2.2.2.1) (c.2.2.2.2.2.2.2.2.2.2.2.2.2.2.1) (c.2.2.2.2.2.2.2.2.2.2.2.2.2.2.2.1) (c.2.2.2.2.2.2.2.2.2.2.2.2.2.2.2.2.1) (c.2.2.2.2.2.2.2.2.2.2.2.2.2.2.2.2.2.1) (c.2.2.2.2.2.2.2.2.2.2.2.2.2.2.2.2.2.2)) @core
end Zrc_end
theorem rc_end {prog : Program} {w : World} {p : Program} {loose : List Str} {mean : ExcName → Option Value} {mg mb : Str → Option Value}
    {A : Around} {env : Env} {outer : List Env} {A₀ : Around} {base h₀ : Heap} {L : Addr} {m : Str → Option Value} {s : Shared} {Q E : Value → Shared → Prop}
    {x sd td : Nat} {K : Ks} {c : Str} {n k pl pc : Int} {u1 u2 u3 u4 u5 : Tok} {Kx : Kt} {tx : Str} {ux ud : Tok}
    (B : Below A₀ base outer h₀) (F : Fr h₀ L s.heap m) (X : (Mine.a.heap_1_39 w.params).In h₀) (T : Top p loose mean mg mb h₀) (hA : A.frames = some (env :: outer)) (hh : A.handled = none) (hf : env.frame = some L) (hke : env.scope.kind = .function)
    (hd : A.depth + 5 < recursionLimit) (hu : A.units + 40 < cLine) (N : News h₀ L s.heap [(x, instObj 166 sd), (sd, sdict w K ⟨c, n, k, pl, pc, .none, u1, u2, u3, u4, u5⟩), (K.ds, instObj 73 td), (td, tdict w Kx tx ux (tx.length : Int) ud), (K.mo, methodObj (.ref 148) (.ref x))])
    (o1 : sd < x) (o2 : x < K.mo) (o3 : K.mo < td) (o4 : td < K.ds) (hx : tx.length < 1000)
    (post : ∀ h' tk c' v1 v2 v3 v4 v5 ud', c' = Str.ofString "" → Fr h₀ L h' m → News h₀ L h' [(x, instObj 166 sd), (sd, sdict w K ⟨c', 0, 0, pl + count4 c lf 0 n, colF c pc n, .none, v1, v2, v3, v4, v5⟩), (K.ds, instObj 73 td), (td, tdict w Kx tx ux (tx.length : Int) ud'), (K.mo, methodObj (.ref 148) (.ref x))] → Keeps [x, sd, K.ds, td, K.mo] s.heap h' → Q (.bool false) { s with heap := h', toks := tk }) : wpAny (model prog w) A (call (.ref 141) [.ref x]) Q E s := by
  obtain ⟨hn, dp, fr, gd, un⟩ := A
  obtain rfl : fr = some (env :: outer) := hA
  obtain rfl : hn = none := hh
  dsimp only at hd hu
  refine' call_small (binds := [(Str.ofString "self", .ref x), (Str.ofString "chunkSize", .none)]) B F X N T rfl hf hke ?k6 ?k7 ?k8 ?k9 ?kB ?_ ?c2 ?c3 ?c4 ?c5
  (case k6 => k_is)
  (case k7 => k_is)
  (case k8 => k_room)
  (case k9 => first | exact BindsTo.of_eq rfl | exact binds_K (by k_in) rfl (by k_is) rfl rfl rfl)
  (case kB => exact locs rfl)
  (case c2 => exact rfl)
  (case c3 => exact rfl)
  (case c4 => exact rfl)
  (case c5 => decide)
  intro g' L' h' KG' FG' F' N' B' X' T' l1
  exact Zrc_end.all ⟨⟨prog, w, p, loose, mean, mg, mb, dp, gd, un, env, outer, A₀, base, h₀, L, m, s, Q, E, g', L', h', s.toks + List.length ([(Str.ofString "self", .ref x), (Str.ofString "chunkSize", .none)] : List (Str × Value))⟩, x, sd, td, K, c, n, k, pl, pc, u1, u2, u3, u4, u5, Kx, tx, ux, ud⟩ (by k_is) hd hu X T o1 o2 o3 o4 hx KG' F' N' B' X' T' l1 pos_len post

theorem okc_13 : ∀ c ∈ ((⟨#[13]⟩ : Str) ++ Str.ofString "").cps.toList, okc c := by
  have e : ((⟨#[13]⟩ : Str) ++ Str.ofString "").cps.toList = [13] := by decide +kernel
  rw [e]
  intro c hc
  rw [List.mem_singleton.mp hc]
  unfold okc
  omega
theorem okc_r : ∀ c ∈ (Str.ofString "\x0d").cps.toList, okc c := by
  have e : (Str.ofString "\x0d").cps.toList = [13] := by decide +kernel
  rw [e]
  intro c hc
  rw [List.mem_singleton.mp hc]
  exact .inr (.inr (.inr (.inr (.inl rfl))))
theorem len_r : (Str.ofString "\x0d").length < 1000 := by decide +kernel
theorem len_13 : ((⟨#[13]⟩ : Str) ++ Str.ofString "").length = 1 := by decide +kernel
theorem mend_13 : mendS ((⟨#[13]⟩ : Str) ++ Str.ofString "") = ⟨#[10]⟩ := by decide +kernel
namespace Zrc_buf
noncomputable def P (prog : Program) (w : World) (p : Program) (loose : List Str) (mean : ExcName → Option Value) (mg : Str → Option Value) (mb : Str → Option Value) (dp : Nat) (gd : Option (List Code)) (un : Nat) (env : Env) (outer : List Env) (A₀ : Around) (base : Heap) (h₀ : Heap) (L : Addr) (m : Str → Option Value) (s : Shared) (Q : Value → Shared → Prop) (E : Value → Shared → Prop) (g' : Heap) (L' : Addr) (h' : Heap) (tk0 : Nat) (x : Nat) (sd : Nat) (td : Nat) (K : Ks) (c : Str) (n : Int) (k : Int) (pl : Int) (pc : Int) (u1 : Tok) (u2 : Tok) (u3 : Tok) (u4 : Tok) (u5 : Tok) (Kx : Kt) (tx : Str) (ux : Tok) (ud : Tok) (ub : Tok) : Prop := ∀ {fname qual : Str} {params : Arguments} {body : List Stmt} {scope : Scope} {dV kV doc pm cdv fct foc : Value} {fan fod : Option Addr} {fosl : Array (Option Value)} (hl : (Mine.a.heap_1_39 w.params).lookup 141 = some ⟨foc, fod, .func (fnOf fname qual params body scope dV kV doc pm fan cdv fct), fosl⟩) (hd : dp + 5 < recursionLimit) (hu : un + 40 < cLine) (X : (Mine.a.heap_1_39 w.params).In h₀) (T : Top p loose mean mg mb h₀) (o1 : sd < x) (o2 : x < K.mo) (o3 : K.mo < td) (o4 : td < K.ds) (hx : tx.length < 1000)
    (KG' : Keeps (([(x, instObj 166 sd), (sd, sdict w K ⟨c, n, k, pl, pc, (.str ⟨#[13]⟩ ub), u1, u2, u3, u4, u5⟩), (K.ds, instObj 73 td), (td, tdict w Kx tx ux (tx.length : Int) ud), (K.mo, methodObj (.ref 148) (.ref x))] : List (Addr × Obj)).map (·.1)) s.heap g') (F' : Fr g' L' h' (fun y => (([(Str.ofString "self", .ref x), (Str.ofString "chunkSize", .none)] : List (Str × Value)).reverse).lookup y)) (N' : News g' L' h' [(x, instObj 166 sd), (sd, sdict w K ⟨c, n, k, pl, pc, (.str ⟨#[13]⟩ ub), u1, u2, u3, u4, u5⟩), (K.ds, instObj 73 td), (td, tdict w Kx tx ux (tx.length : Int) ud), (K.mo, methodObj (.ref 148) (.ref x))]) (B' : Below ⟨none, dp, some (env :: outer), gd, un⟩ base (env :: outer) g') (X' : (Mine.a.heap_1_39 w.params).In g') (T' : Top p loose mean mg mb g') (l1 : ∀ q ∈ ([(x, instObj 166 sd), (sd, sdict w K ⟨c, n, k, pl, pc, (.str ⟨#[13]⟩ ub), u1, u2, u3, u4, u5⟩), (K.ds, instObj 73 td), (td, tdict w Kx tx ux (tx.length : Int) ud), (K.mo, methodObj (.ref 148) (.ref x))] : List (Addr × Obj)), q.1 < L') (htk0 : 0 < tk0)
    (post : ∀ h' tk c' n' v1 v2 v3 v4 v5 ud', c' = ⟨#[10]⟩ → n' = 1 → Fr h₀ L h' m → News h₀ L h' [(x, instObj 166 sd), (sd, sdict w K ⟨c', n', 0, pl + count4 c lf 0 n, colF c pc n, .none, v1, v2, v3, v4, v5⟩), (K.ds, instObj 73 td), (td, tdict w Kx tx ux (tx.length : Int) ud'), (K.mo, methodObj (.ref 148) (.ref x))] → Keeps [x, sd, K.ds, td, K.mo] s.heap h' → Q (.bool true) { s with heap := h', toks := tk }), wpAny (model prog w) (Around.deeper ⟨none, dp, some (env :: outer), gd, un⟩ (envOf qual scope L' 141 cdv)) (execs body (envOf qual scope L' 141 cdv)) (leaveQ h₀ L m g' Q E) (leaveE prog w (Around.deeper ⟨none, dp, some (env :: outer), gd, un⟩ (envOf qual scope L' 141 cdv)) (envOf qual scope L' 141 cdv) E) { s with heap := h', toks := tk0 }
@[irreducible] noncomputable def c0 : Gd × Nat × Nat × Nat × Ks × Str × Int × Int × Int × Int × Tok × Tok × Tok × Tok × Tok × Kt × Str × Tok × Tok × Tok := @Classical.epsilon _ (Nonempty.elim Gd.ne fun b => ⟨(b, 0, 0, 0, ⟨0,0,0,0,0,0,0,0,0,0,0,0,0,0⟩, default, 0, 0, 0, 0, 0, 0, 0, 0, 0, ⟨0,0⟩, default, 0, 0, 0)⟩) fun c => ¬ P (c.1.prog) (c.1.w) (c.1.p) (c.1.loose) (c.1.mean) (c.1.mg) (c.1.mb) (c.1.dp) (c.1.gd) (c.1.un) (c.1.env) (c.1.outer) (c.1.A₀) (c.1.base) (c.1.h₀) (c.1.L) (c.1.m) (c.1.s) (c.1.Q) (c.1.E) (c.1.g') (c.1.L') (c.1.h') (c.1.tk0) (c.2.1) (c.2.2.1) (c.2.2.2.1) (c.2.2.2.2.1) (c.2.2.2.2.2.1) (c.2.2.2.2.2.2.1) (c.2.2.2.2.2.2.2.1) (c.2.2.2.2.2.2.2.2.1) (c.2.2.2.2.2.2.2.2.2.1) (c.2.2.2.2.2.2.2.2.2.2.1) (c.2.2.2.2.2.2.2.2.2.2.2.1) (c.2.2.2.2.2.2.2.2.2.2.2.2.1) (c.2.2.2.2.2.2.2.2.2.2.2.2.2.1) (c.2.2.2.2.2.2.2.2.2.2.2.2.2.2.1) (c.2.2.2.2.2.2.2.2.2.2.2.2.2.2.2.1) (c.2.2.2.2.2.2.2.2.2.2.2.2.2.2.2.2.1) (c.2.2.2.2.2.2.2.2.2.2.2.2.2.2.2.2.2.1) (c.2.2.2.2.2.2.2.2.2.2.2.2.2.2.2.2.2.2.1) (c.2.2.2.2.2.2.2.2.2.2.2.2.2.2.2.2.2.2.2)
@[irreducible] noncomputable def prog : Program := c0.1.prog
@[irreducible] noncomputable def w : World := c0.1.w
@[irreducible] noncomputable def p : Program := c0.1.p
@[irreducible] noncomputable def loose : List Str := c0.1.loose
@[irreducible] noncomputable def mean : ExcName → Option Value := c0.1.mean
@[irreducible] noncomputable def mg : Str → Option Value := c0.1.mg
@[irreducible] noncomputable def mb : Str → Option Value := c0.1.mb
@[irreducible] noncomputable def dp : Nat := c0.1.dp
@[irreducible] noncomputable def gd : Option (List Code) := c0.1.gd
@[irreducible] noncomputable def un : Nat := c0.1.un
@[irreducible] noncomputable def env : Env := c0.1.env
@[irreducible] noncomputable def outer : List Env := c0.1.outer
@[irreducible] noncomputable def A₀ : Around := c0.1.A₀
@[irreducible] noncomputable def base : Heap := c0.1.base
@[irreducible] noncomputable def h₀ : Heap := c0.1.h₀
@[irreducible] noncomputable def L : Addr := c0.1.L
@[irreducible] noncomputable def m : Str → Option Value := c0.1.m
@[irreducible] noncomputable def s : Shared := c0.1.s
@[irreducible] noncomputable def Q : Value → Shared → Prop := c0.1.Q
@[irreducible] noncomputable def E : Value → Shared → Prop := c0.1.E
@[irreducible] noncomputable def g' : Heap := c0.1.g'
@[irreducible] noncomputable def L' : Addr := c0.1.L'
@[irreducible] noncomputable def h' : Heap := c0.1.h'
@[irreducible] noncomputable def tk0 : Nat := c0.1.tk0
@[irreducible] noncomputable def x : Nat := c0.2.1
@[irreducible] noncomputable def sd : Nat := c0.2.2.1
@[irreducible] noncomputable def td : Nat := c0.2.2.2.1
@[irreducible] noncomputable def K : Ks := c0.2.2.2.2.1
@[irreducible] noncomputable def c : Str := c0.2.2.2.2.2.1
@[irreducible] noncomputable def n : Int := c0.2.2.2.2.2.2.1
@[irreducible] noncomputable def k : Int := c0.2.2.2.2.2.2.2.1
@[irreducible] noncomputable def pl : Int := c0.2.2.2.2.2.2.2.2.1
@[irreducible] noncomputable def pc : Int := c0.2.2.2.2.2.2.2.2.2.1
@[irreducible] noncomputable def u1 : Tok := c0.2.2.2.2.2.2.2.2.2.2.1
@[irreducible] noncomputable def u2 : Tok := c0.2.2.2.2.2.2.2.2.2.2.2.1
@[irreducible] noncomputable def u3 : Tok := c0.2.2.2.2.2.2.2.2.2.2.2.2.1
@[irreducible] noncomputable def u4 : Tok := c0.2.2.2.2.2.2.2.2.2.2.2.2.2.1
@[irreducible] noncomputable def u5 : Tok := c0.2.2.2.2.2.2.2.2.2.2.2.2.2.2.1
@[irreducible] noncomputable def Kx : Kt := c0.2.2.2.2.2.2.2.2.2.2.2.2.2.2.2.1
@[irreducible] noncomputable def tx : Str := c0.2.2.2.2.2.2.2.2.2.2.2.2.2.2.2.2.1
@[irreducible] noncomputable def ux : Tok := c0.2.2.2.2.2.2.2.2.2.2.2.2.2.2.2.2.2.1
@[irreducible] noncomputable def ud : Tok := c0.2.2.2.2.2.2.2.2.2.2.2.2.2.2.2.2.2.2.1
@[irreducible] noncomputable def ub : Tok := c0.2.2.2.2.2.2.2.2.2.2.2.2.2.2.2.2.2.2.2
theorem core {fname qual : Str} {params : Arguments} {body : List Stmt} {scope : Scope} {dV kV doc pm cdv fct foc : Value} {fan fod : Option Addr} {fosl : Array (Option Value)} (hl : (Mine.a.heap_1_39 w.params).lookup 141 = some ⟨foc, fod, .func (fnOf fname qual params body scope dV kV doc pm fan cdv fct), fosl⟩) (hd : dp + 5 < recursionLimit) (hu : un + 40 < cLine) (X : (Mine.a.heap_1_39 w.params).In h₀) (T : Top p loose mean mg mb h₀) (o1 : sd < x) (o2 : x < K.mo) (o3 : K.mo < td) (o4 : td < K.ds) (hx : tx.length < 1000)
    (KG' : Keeps (([(x, instObj 166 sd), (sd, sdict w K ⟨c, n, k, pl, pc, (.str ⟨#[13]⟩ ub), u1, u2, u3, u4, u5⟩), (K.ds, instObj 73 td), (td, tdict w Kx tx ux (tx.length : Int) ud), (K.mo, methodObj (.ref 148) (.ref x))] : List (Addr × Obj)).map (·.1)) s.heap g') (F' : Fr g' L' h' (fun y => (([(Str.ofString "self", .ref x), (Str.ofString "chunkSize", .none)] : List (Str × Value)).reverse).lookup y)) (N' : News g' L' h' [(x, instObj 166 sd), (sd, sdict w K ⟨c, n, k, pl, pc, (.str ⟨#[13]⟩ ub), u1, u2, u3, u4, u5⟩), (K.ds, instObj 73 td), (td, tdict w Kx tx ux (tx.length : Int) ud), (K.mo, methodObj (.ref 148) (.ref x))]) (B' : Below ⟨none, dp, some (env :: outer), gd, un⟩ base (env :: outer) g') (X' : (Mine.a.heap_1_39 w.params).In g') (T' : Top p loose mean mg mb g') (l1 : ∀ q ∈ ([(x, instObj 166 sd), (sd, sdict w K ⟨c, n, k, pl, pc, (.str ⟨#[13]⟩ ub), u1, u2, u3, u4, u5⟩), (K.ds, instObj 73 td), (td, tdict w Kx tx ux (tx.length : Int) ud), (K.mo, methodObj (.ref 148) (.ref x))] : List (Addr × Obj)), q.1 < L') (htk0 : 0 < tk0)
    (post : ∀ h' tk c' n' v1 v2 v3 v4 v5 ud', c' = ⟨#[10]⟩ → n' = 1 → Fr h₀ L h' m → News h₀ L h' [(x, instObj 166 sd), (sd, sdict w K ⟨c', n', 0, pl + count4 c lf 0 n, colF c pc n, .none, v1, v2, v3, v4, v5⟩), (K.ds, instObj 73 td), (td, tdict w Kx tx ux (tx.length : Int) ud'), (K.mo, methodObj (.ref 148) (.ref x))] → Keeps [x, sd, K.ds, td, K.mo] s.heap h' → Q (.bool true) { s with heap := h', toks := tk }) : wpAny (model prog w) (Around.deeper ⟨none, dp, some (env :: outer), gd, un⟩ (envOf qual scope L' 141 cdv)) (execs body (envOf qual scope L' 141 cdv)) (leaveQ h₀ L m g' Q E) (leaveE prog w (Around.deeper ⟨none, dp, some (env :: outer), gd, un⟩ (envOf qual scope L' 141 cdv)) (envOf qual scope L' 141 cdv) E) { s with heap := h', toks := tk0 } := by
  delta leaveQ leaveE
  refine' seg_inc hl ?hk ?_
  (case hk => k_is)
  rintro rfl rfl rfl rfl
  clear hl
  have q_0_2 : @LT.lt Nat _ sd K.mo := Nat.lt_trans o1 o2
  have q_0_3 : @LT.lt Nat _ sd td := Nat.lt_trans q_0_2 o3
  have q_0_4 : @LT.lt Nat _ sd K.ds := Nat.lt_trans q_0_3 o4
  have q_1_3 : @LT.lt Nat _ x td := Nat.lt_trans o2 o3
  have q_1_4 : @LT.lt Nat _ x K.ds := Nat.lt_trans q_1_3 o4
  have q_2_4 : @LT.lt Nat _ K.mo K.ds := Nat.lt_trans o3 o4
  (try dsimp only)
  (try dsimp only [sdict, tdict, sEnt] at N')
  (try k_lt l1)
  have h13 := okc_13
  have h13r := okc_r
  have hl13r := len_r
  have hl13 := len_13
  have hm13 := congrArg Str.length mend_13
  have hz13 : (⟨#[10]⟩ : Str).length = 1 := rfl
  dsimp only [mendS, crlf, lf, cr] at hm13
  k_with "execs cons If" => ((with_reducible show wpAny _ _ (execs (Stmt.If _ _ _ ⟨93, _, _, _⟩ :: _) _) _ _ _); k_dflt (refine' rc_tail ?thl ?ttl ?tA ?th ?td ?tu ?tB (fr_ps ?tF ?tk) ?tX ?tT ?tN o1 o2 o3 o4 ?ty ?to ?_; (case thl => k_is); (case ttl => exact rfl); (case tA => exact rfl); (case th => exact rfl); (case td => first | assumption | (show _ + 5 < _; omega)); (case tu => first | assumption | (show _ + 40 < _; omega)); (case tB => k_asm); (case tF => k_asm); (case tk => (repeat (first | exact List.forall_mem_nil _ | (refine' all_cons ?zA9 ?_; (case zA9 => with_unfolding_all rfl))))); (case tX => k_asm); (case tT => k_asm); (case tN => exact news_sub (by k_asm) (by (repeat (first | exact List.forall_mem_nil _ | (refine' sub_cons ?zA9 ?_; (case zA9 => k_mem)))))); (case ty => first | assumption | omega); (case to => assumption)); (intro h9 tk9 m9 v91 v92 v93 F9 N9))
  k_steps
  all_goals first
    | (refine' post _ _ _ _ _ _ _ _ _ _ ?e ?n ?f ?N ?k; (case f => k_asm); (case N => exact news_sub (by k_asm) (by (repeat (first | exact List.forall_mem_nil _ | (refine' sub_cons ?zA9 ?_; (case zA9 => k_mem)))))); (case k => exact keeps_end KG' (by k_asm)); (case e => first | rfl | decide +kernel); (case n => first | rfl | decide +kernel | omega))
theorem all : ∀ c : Gd × Nat × Nat × Nat × Ks × Str × Int × Int × Int × Int × Tok × Tok × Tok × Tok × Tok × Kt × Str × Tok × Tok × Tok, P (c.1.prog) (c.1.w) (c.1.p) (c.1.loose) (c.1.mean) (c.1.mg) (c.1.mb) (c.1.dp) (c.1.gd) (c.1.un) (c.1.env) (c.1.outer) (c.1.A₀) (c.1.base) (c.1.h₀) (c.1.L) (c.1.m) (c.1.s) (c.1.Q) (c.1.E) (c.1.g') (c.1.L') (c.1.h') (c.1.tk0) (c.2.1) (c.2.2.1) (c.2.2.2.1) (c.2.2.2.2.1) (c.2.2.2.2.2.1) (c.2.2.2.2.2.2.1) (c.2.2.2.2.2.2.2.1) (c.2.2.2.2.2.2.2.2.1) (c.2.2.2.2.2.2.2.2.2.1) (c.2.2.2.2.2.2.2.2.2.2.1) (c.2.2.2.2.2.2.2.2.2.2.2.1) (c.2.2.2.2.2.2.2.2.2.2.2.2.1) (c.2.2.2.2.2.2.2.2.2.2.2.2.2.1) (c.2.2.2.2.2.2.2.2.2.2.2.2.2.2.1) (c.2.2.2.2.2.2.2.2.2.2.2.2.2.2.2.1) (c.2.2.2.2.2.2.2.2.2.2.2.2.2.2.2.2.1) (c.2.2.2.2.2.2.2.2.2.2.2.2.2.2.2.2.2.1) (c.2.2.2.2.2.2.2.2.2.2.2.2.2.2.2.2.2.2.1) (c.2.2.2.2.2.2.2.2.2.2.2.2.2.2.2.2.2.2.2) := by with_unfolding_all exact eps_all (Nonempty.elim Gd.ne fun b => ⟨(b, 0, 0, 0, ⟨0,0,0,0,0,0,0,0,0,0,0,0,0,0⟩, default, 0, 0, 0, 0, 0, 0, 0, 0, 0, ⟨0,0⟩, default, 0, 0, 0)⟩) (P := fun c : Gd × Nat × Nat × Nat × Ks × Str × Int × Int × Int × Int × Tok × Tok × Tok × Tok × Tok × Kt × Str × Tok × Tok × Tok => P (c.1.prog) (c.1.w) (c.1.p) (c.1.loose) (c.1.mean) (c.1.mg) (c.1.mb) (c.1.dp) (c.1.gd) (c.1.un) (c.1.env) (c.1.outer) (c.1.A₀) (c.1.base) (c.1.h₀) (c.1.L) (c.1.m) (c.1.s) (c.1.Q) (c.1.E) (c.1.g') (c.1.L') (c.1.h') (c.1.tk0) (c.2.1) (c.2.2.1) (c.2.2.2.1) (c.2.2.2.2.1) (c.2.2.2.2.2.1) (c.2.2.2.2.2.2.1) (c.2.2.2.2.2.2.2.1) (c.2.2.2.2.2.2.2.2.1) (c.2.2.2.2.2.2.2.2.2.1) (c.2.2.2.2.2.2.2.2.2.2.1) (c.2.2.2.2.2.2.2.2.2.2.2.1) (c.2.2.2.2.2.2.2.2.2.2.2.2.1) (c.2.2.2.2.2.2.2.2.2.2.2.2.2.1) (c.2.2.2.2.2.2.2.2.2.2.2.2.2.2.1) (c.2.2.2.2.2.2.2.2.2.2.2.2.2.2.2.1) (c.2.2.2.2.2.2.2.2.2.2.2.2.2.2.2.2.1) (c.2.2.2.2.2.2.2.2.2.2.2.2.2.2.2.2.2.1) (c.2.2.2.2.2.2.2.2.2.2.2.2.2.2.2.2.2.2.1) (c.2.2.2.2.2.2.2.2.2.2.2.2.2.2.2.2.2.2.2)) @core
end Zrc_buf
theorem rc_buf {prog : Program} {w : World} {p : Program} {loose : List Str} {mean : ExcName → Option Value} {mg mb : Str → Option Value}
    {A : Around} {env : Env} {outer : List Env} {A₀ : Around} {base h₀ : Heap} {L : Addr} {m : Str → Option Value} {s : Shared} {Q E : Value → Shared → Prop}
    {x sd td : Nat} {K : Ks} {c : Str} {n k pl pc : Int} {u1 u2 u3 u4 u5 : Tok} {Kx : Kt} {tx : Str} {ux ud : Tok} {ub : Tok}
    (B : Below A₀ base outer h₀) (F : Fr h₀ L s.heap m) (X : (Mine.a.heap_1_39 w.params).In h₀) (T : Top p loose mean mg mb h₀) (hA : A.frames = some (env :: outer)) (hh : A.handled = none) (hf : env.frame = some L) (hke : env.scope.kind = .function)
    (hd : A.depth + 5 < recursionLimit) (hu : A.units + 40 < cLine) (N : News h₀ L s.heap [(x, instObj 166 sd), (sd, sdict w K ⟨c, n, k, pl, pc, (.str ⟨#[13]⟩ ub), u1, u2, u3, u4, u5⟩), (K.ds, instObj 73 td), (td, tdict w Kx tx ux (tx.length : Int) ud), (K.mo, methodObj (.ref 148) (.ref x))])
    (o1 : sd < x) (o2 : x < K.mo) (o3 : K.mo < td) (o4 : td < K.ds) (hx : tx.length < 1000)
    (post : ∀ h' tk c' n' v1 v2 v3 v4 v5 ud', c' = ⟨#[10]⟩ → n' = 1 → Fr h₀ L h' m → News h₀ L h' [(x, instObj 166 sd), (sd, sdict w K ⟨c', n', 0, pl + count4 c lf 0 n, colF c pc n, .none, v1, v2, v3, v4, v5⟩), (K.ds, instObj 73 td), (td, tdict w Kx tx ux (tx.length : Int) ud'), (K.mo, methodObj (.ref 148) (.ref x))] → Keeps [x, sd, K.ds, td, K.mo] s.heap h' → Q (.bool true) { s with heap := h', toks := tk }) : wpAny (model prog w) A (call (.ref 141) [.ref x]) Q E s := by
  obtain ⟨hn, dp, fr, gd, un⟩ := A
  obtain rfl : fr = some (env :: outer) := hA
  obtain rfl : hn = none := hh
  dsimp only at hd hu
  refine' call_small (binds := [(Str.ofString "self", .ref x), (Str.ofString "chunkSize", .none)]) B F X N T rfl hf hke ?k6 ?k7 ?k8 ?k9 ?kB ?_ ?c2 ?c3 ?c4 ?c5
  (case k6 => k_is)
  (case k7 => k_is)
  (case k8 => k_room)
  (case k9 => first | exact BindsTo.of_eq rfl | exact binds_K (by k_in) rfl (by k_is) rfl rfl rfl)
  (case kB => exact locs rfl)
  (case c2 => exact rfl)
  (case c3 => exact rfl)
  (case c4 => exact rfl)
  (case c5 => decide)
  intro g' L' h' KG' FG' F' N' B' X' T' l1
  exact Zrc_buf.all ⟨⟨prog, w, p, loose, mean, mg, mb, dp, gd, un, env, outer, A₀, base, h₀, L, m, s, Q, E, g', L', h', s.toks + List.length ([(Str.ofString "self", .ref x), (Str.ofString "chunkSize", .none)] : List (Str × Value))⟩, x, sd, td, K, c, n, k, pl, pc, u1, u2, u3, u4, u5, Kx, tx, ux, ud, ub⟩ (by k_is) hd hu X T o1 o2 o3 o4 hx KG' F' N' B' X' T' l1 pos_len post

theorem rc_pos {tx c' : Str} {b' : Value} (h : RC tx c' b') (h0 : 0 < tx.length) : 0 < c'.length := by
  rcases h with ⟨h1, _, _, rfl⟩ | ⟨_, _, rfl⟩
  · exact mend_pos (cut_pos h1)
  · exact mend_pos h0
theorem rc_small {tx c' : Str} {b' : Value} (h : RC tx c' b') (h0 : tx.length < 1000) : c'.length < 1000 := by
  rcases h with ⟨h1, _, _, rfl⟩ | ⟨_, _, rfl⟩
  · exact Nat.lt_of_le_of_lt (mend_len _) (cut_len h0)
  · exact Nat.lt_of_le_of_lt (mend_len _) h0
theorem rc_handed {tx c' : Str} {b' : Value} (h : RC tx c' b') : handedIn b' = true := by
  rcases h with ⟨_, _, ⟨B, u, _, rfl⟩, _⟩ | ⟨_, rfl, _⟩ <;> rfl
theorem lines_P4_1 : True := by
  (k_with "call ref" => safely ((k_here; (with_reducible show wpAny _ _ (call (Value.ref 141) _ _) _ _ _); (refine with_toks ?_); k_dflt (refine' rc_end (K := ⟨_, _, _, _, _, _, _, _, _, _, _, _, _, _⟩) (Kx := ⟨_, _⟩) ?quBQ ?quFQ ?quXQ ?quTQ ?quAQ ?quhQ ?qufQ ?qukQ ?qudQ ?quuQ ?quNQ ?qo1Q ?qo2Q ?qo3Q ?qo4Q ?qo5Q ?_; (case quAQ => exact rfl); (case quhQ => exact rfl); (case qufQ => exact rfl); (case qukQ => exact rfl); (case quBQ => k_asm); (case quFQ => k_asm); (case quXQ => k_asm); (case quTQ => k_asm); (case quNQ => exact news_sub (by k_asm) (by (repeat (first | exact List.forall_mem_nil _ | (refine' sub_cons ?qzA9Q ?_; (case qzA9Q => k_mem)))))); (case qudQ => k_room); (case quuQ => k_units); (case qo1Q => omega); (case qo2Q => omega); (case qo3Q => omega); (case qo4Q => omega); (case qo5Q => assumption); k_whole; intro h9Qq tk9Qq c9Qq v1Qq v2Qq v3Qq v4Qq v5Qq ud9Qq hc9Qq F9Qq N9Qq K9Qq; intro ht9Qq; (have N9pQq := news_nextc (by k_asm) K9Qq N9Qq (by (repeat (first | exact Rest.nil | exact Rest.none | (refine Rest.own (by assumption) ?_; (repeat (first | exact List.forall_mem_nil _ | (refine' sub_cons ?qzA9Q ?_; (case qzA9Q => k_mem))))) | (apply Rest.skip; (focus first | exact mem_0 | exact mem_1 | exact mem_2 | exact mem_3 | exact mem_4 | exact mem_5 | exact mem_6)) | (apply Rest.keep; (focus k_all))))) (by first | exact Cat.nil | exact (Cat.cons Cat.nil) | exact (Cat.cons (Cat.cons Cat.nil)) | exact (Cat.cons (Cat.cons (Cat.cons Cat.nil))) | exact (Cat.cons (Cat.cons (Cat.cons (Cat.cons Cat.nil)))) | exact (Cat.cons (Cat.cons (Cat.cons (Cat.cons (Cat.cons Cat.nil))))) | exact (Cat.cons (Cat.cons (Cat.cons (Cat.cons (Cat.cons (Cat.cons Cat.nil)))))) | exact (Cat.cons (Cat.cons (Cat.cons (Cat.cons (Cat.cons (Cat.cons (Cat.cons Cat.nil))))))) | exact (Cat.cons (Cat.cons (Cat.cons (Cat.cons (Cat.cons (Cat.cons (Cat.cons (Cat.cons Cat.nil)))))))))); clear N9Qq K9Qq; (try dsimp only at ht9Qq); (try k_sweep); (subst hc9Qq)))))
  (k_with "call ref" => safely ((k_here; (with_reducible show wpAny _ _ (call (Value.ref 141) _ _) _ _ _); (refine with_toks ?_); k_dflt (refine' rc_buf (K := ⟨_, _, _, _, _, _, _, _, _, _, _, _, _, _⟩) (Kx := ⟨_, _⟩) ?quBQ ?quFQ ?quXQ ?quTQ ?quAQ ?quhQ ?qufQ ?qukQ ?qudQ ?quuQ ?quNQ ?qo1Q ?qo2Q ?qo3Q ?qo4Q ?qo5Q ?_; (case quAQ => exact rfl); (case quhQ => exact rfl); (case qufQ => exact rfl); (case qukQ => exact rfl); (case quBQ => k_asm); (case quFQ => k_asm); (case quXQ => k_asm); (case quTQ => k_asm); (case quNQ => exact news_sub (by k_asm) (by (repeat (first | exact List.forall_mem_nil _ | (refine' sub_cons ?qzA9Q ?_; (case qzA9Q => k_mem)))))); (case qudQ => k_room); (case quuQ => k_units); (case qo1Q => omega); (case qo2Q => omega); (case qo3Q => omega); (case qo4Q => omega); (case qo5Q => assumption); k_whole; intro h9Qq tk9Qq c9Qq n9Qq v1Qq v2Qq v3Qq v4Qq v5Qq ud9Qq hc9Qq hn9Qq F9Qq N9Qq K9Qq; intro ht9Qq; (have N9pQq := news_nextc (by k_asm) K9Qq N9Qq (by (repeat (first | exact Rest.nil | exact Rest.none | (refine Rest.own (by assumption) ?_; (repeat (first | exact List.forall_mem_nil _ | (refine' sub_cons ?qzA9Q ?_; (case qzA9Q => k_mem))))) | (apply Rest.skip; (focus first | exact mem_0 | exact mem_1 | exact mem_2 | exact mem_3 | exact mem_4 | exact mem_5 | exact mem_6)) | (apply Rest.keep; (focus k_all))))) (by first | exact Cat.nil | exact (Cat.cons Cat.nil) | exact (Cat.cons (Cat.cons Cat.nil)) | exact (Cat.cons (Cat.cons (Cat.cons Cat.nil))) | exact (Cat.cons (Cat.cons (Cat.cons (Cat.cons Cat.nil)))) | exact (Cat.cons (Cat.cons (Cat.cons (Cat.cons (Cat.cons Cat.nil))))) | exact (Cat.cons (Cat.cons (Cat.cons (Cat.cons (Cat.cons (Cat.cons Cat.nil)))))) | exact (Cat.cons (Cat.cons (Cat.cons (Cat.cons (Cat.cons (Cat.cons (Cat.cons Cat.nil))))))) | exact (Cat.cons (Cat.cons (Cat.cons (Cat.cons (Cat.cons (Cat.cons (Cat.cons (Cat.cons Cat.nil)))))))))); clear N9Qq K9Qq; (try dsimp only at ht9Qq); (try k_sweep); (subst hc9Qq); (subst hn9Qq)))))
  (k_with "call ref" => safely ((k_here; (with_reducible show wpAny _ _ (call (Value.ref 141) _ _) _ _ _); (refine with_toks ?_); k_dflt (refine' rc_new (K := ⟨_, _, _, _, _, _, _, _, _, _, _, _, _, _⟩) (Kx := ⟨_, _⟩) ?quBQ ?quFQ ?quXQ ?quTQ ?quAQ ?quhQ ?qufQ ?qukQ ?qudQ ?quuQ ?quNQ ?qo1Q ?qo2Q ?qo3Q ?qo4Q ?qo5Q ?qo6Q ?qo7Q ?_; (case quAQ => exact rfl); (case quhQ => exact rfl); (case qufQ => exact rfl); (case qukQ => exact rfl); (case quBQ => k_asm); (case quFQ => k_asm); (case quXQ => k_asm); (case quTQ => k_asm); (case quNQ => exact news_sub (by k_asm) (by (repeat (first | exact List.forall_mem_nil _ | (refine' sub_cons ?qzA9Q ?_; (case qzA9Q => k_mem)))))); (case qudQ => k_room); (case quuQ => k_units); (case qo1Q => omega); (case qo2Q => omega); (case qo3Q => omega); (case qo4Q => omega); (case qo5Q => assumption); (case qo6Q => assumption); (case qo7Q => assumption); k_whole; intro h9Qq tk9Qq c9Qq b9Qq v1Qq v2Qq v3Qq v4Qq v5Qq ud9Qq hr9Qq F9Qq N9Qq K9Qq; intro ht9Qq; (have N9pQq := news_nextc (by k_asm) K9Qq N9Qq (by (repeat (first | exact Rest.nil | exact Rest.none | (refine Rest.own (by assumption) ?_; (repeat (first | exact List.forall_mem_nil _ | (refine' sub_cons ?qzA9Q ?_; (case qzA9Q => k_mem))))) | (apply Rest.skip; (focus first | exact mem_0 | exact mem_1 | exact mem_2 | exact mem_3 | exact mem_4 | exact mem_5 | exact mem_6)) | (apply Rest.keep; (focus k_all))))) (by first | exact Cat.nil | exact (Cat.cons Cat.nil) | exact (Cat.cons (Cat.cons Cat.nil)) | exact (Cat.cons (Cat.cons (Cat.cons Cat.nil))) | exact (Cat.cons (Cat.cons (Cat.cons (Cat.cons Cat.nil)))) | exact (Cat.cons (Cat.cons (Cat.cons (Cat.cons (Cat.cons Cat.nil))))) | exact (Cat.cons (Cat.cons (Cat.cons (Cat.cons (Cat.cons (Cat.cons Cat.nil)))))) | exact (Cat.cons (Cat.cons (Cat.cons (Cat.cons (Cat.cons (Cat.cons (Cat.cons Cat.nil))))))) | exact (Cat.cons (Cat.cons (Cat.cons (Cat.cons (Cat.cons (Cat.cons (Cat.cons (Cat.cons Cat.nil)))))))))); clear N9Qq K9Qq; (try dsimp only at ht9Qq); (try k_sweep); (have hp9Qq := rc_pos hr9Qq (by assumption)); (have hq9Qq := rc_small hr9Qq (by assumption)); (have hb9Qq := rc_handed hr9Qq)))))
  trivial
theorem ch_in {prog : Program} {w : World} {p : Program} {loose : List Str} {mean : ExcName → Option Value} {mg mb : Str → Option Value}
    {A : Around} {env : Env} {outer : List Env} {A₀ : Around} {base h₀ : Heap} {L : Addr} {m : Str → Option Value} {s : Shared} {Q E : Value → Shared → Prop}
    {x sd td : Nat} {K : Ks} {c : Str} {n k pl pc : Int} {u1 u2 u3 u4 u5 : Tok} {Kx : Kt} {tx : Str} {ux ud : Tok} {d : Int} {buf : Value}
    (B : Below A₀ base outer h₀) (F : Fr h₀ L s.heap m) (X : (Mine.a.heap_1_39 w.params).In h₀) (T : Top p loose mean mg mb h₀) (hA : A.frames = some (env :: outer)) (hh : A.handled = none) (hf : env.frame = some L) (hke : env.scope.kind = .function)
    (hd : A.depth + 2 < recursionLimit) (hu : A.units + 20 < cLine) (N : News h₀ L s.heap [(x, instObj 166 sd), (sd, sdict w K ⟨c, n, k, pl, pc, buf, u1, u2, u3, u4, u5⟩), (K.ds, instObj 73 td), (td, tdict w Kx tx ux d ud), (K.mo, methodObj (.ref 148) (.ref x))])
    (o1 : sd < x) (o2 : x < K.mo) (o3 : K.mo < td) (o4 : td < K.ds) (h0 : 0 ≤ k) (h1 : k < n) (h2 : n = c.length) (h3 : n < 1000) (hb : handedIn buf = true)
    (post : ∀ h' tk t v1 v2 v3 v4 v5 ud', True → Fr h₀ L h' m → News h₀ L h' [(x, instObj 166 sd), (sd, sdict w K ⟨c, n, k + 1, pl, pc, buf, v1, v2, v3, v4, v5⟩), (K.ds, instObj 73 td), (td, tdict w Kx tx ux d ud'), (K.mo, methodObj (.ref 148) (.ref x))] → Keeps [x, sd, K.ds, td, K.mo] s.heap h' → Q (.str (Txt.item c k) t) { s with heap := h', toks := tk }) : wpAny (model prog w) A (call (.ref 133) [.ref x]) Q E s := by
  obtain ⟨hn, dp, fr, gd, un⟩ := A
  obtain rfl : fr = some (env :: outer) := hA
  obtain rfl : hn = none := hh
  dsimp only at hd hu
  have q_0_2 : @LT.lt Nat _ sd K.mo := Nat.lt_trans o1 o2
  have q_0_3 : @LT.lt Nat _ sd td := Nat.lt_trans q_0_2 o3
  have q_0_4 : @LT.lt Nat _ sd K.ds := Nat.lt_trans q_0_3 o4
  have q_1_3 : @LT.lt Nat _ x td := Nat.lt_trans o2 o3
  have q_1_4 : @LT.lt Nat _ x K.ds := Nat.lt_trans q_1_3 o4
  have q_2_4 : @LT.lt Nat _ K.mo K.ds := Nat.lt_trans o3 o4
  refine' call_small (binds := [(Str.ofString "self", .ref x)]) B F X N T rfl hf hke ?k6 ?k7 ?k8 ?k9 ?kB ?_ ?c2 ?c3 ?c4 ?c5
  (case k6 => k_is)
  (case k7 => k_is)
  (case k8 => k_room)
  (case k9 => first | exact BindsTo.of_eq rfl | exact binds_K (by k_in) rfl (by k_is) rfl rfl rfl)
  (case kB => exact locs rfl)
  (case c2 => exact rfl)
  (case c3 => exact rfl)
  (case c4 => exact rfl)
  (case c5 => decide)
  intro g' L' h' KG' FG' F' N' B' X' T' l1
  clear B F N hf hke FG'
  (try dsimp only)
  (try dsimp only [sdict, tdict, sEnt] at N')
  (try k_lt l1)
  (have htk0 : 0 < s.toks + List.length ([(Str.ofString "self", .ref x)] : List (Str × Value)) := pos_len)
  (generalize (s.toks + List.length _) = tk0 at htk0 ⊢)
  (try k_fold)
  k_steps
  all_goals first
    | (refine' post _ _ _ _ _ _ _ _ _ ?e ?f ?N ?k; (case f => k_asm); (case N => exact news_sub (by k_asm) (by (repeat (first | exact List.forall_mem_nil _ | (refine' sub_cons ?zA9 ?_; (case zA9 => k_mem)))))); (case k => exact keeps_end KG' (by k_asm)); (case e => trivial))
    | (exfalso; omega)
theorem ch_new {prog : Program} {w : World} {p : Program} {loose : List Str} {mean : ExcName → Option Value} {mg mb : Str → Option Value}
    {A : Around} {env : Env} {outer : List Env} {A₀ : Around} {base h₀ : Heap} {L : Addr} {m : Str → Option Value} {s : Shared} {Q E : Value → Shared → Prop}
    {x sd td : Nat} {K : Ks} {c : Str} {n k pl pc : Int} {u1 u2 u3 u4 u5 : Tok} {Kx : Kt} {tx : Str} {ux ud : Tok}
    (B : Below A₀ base outer h₀) (F : Fr h₀ L s.heap m) (X : (Mine.a.heap_1_39 w.params).In h₀) (T : Top p loose mean mg mb h₀) (hA : A.frames = some (env :: outer)) (hh : A.handled = none) (hf : env.frame = some L) (hke : env.scope.kind = .function)
    (hd : A.depth + 7 < recursionLimit) (hu : A.units + 60 < cLine) (N : News h₀ L s.heap [(x, instObj 166 sd), (sd, sdict w K ⟨c, n, k, pl, pc, .none, u1, u2, u3, u4, u5⟩), (K.ds, instObj 73 td), (td, tdict w Kx tx ux 0 ud), (K.mo, methodObj (.ref 148) (.ref x))])
    (o1 : sd < x) (o2 : x < K.mo) (o3 : K.mo < td) (o4 : td < K.ds) (hk : n ≤ k) (hx : tx.length < 1000) (h0 : 0 < tx.length) (hok : ∀ c ∈ tx.cps.toList, okc c)
    (post : ∀ h' tk t c' buf' v1 v2 v3 v4 v5 ud', RC tx c' buf' → Fr h₀ L h' m → News h₀ L h' [(x, instObj 166 sd), (sd, sdict w K ⟨c', c'.length, 1, pl + count4 c lf 0 n, colF c pc n, buf', v1, v2, v3, v4, v5⟩), (K.ds, instObj 73 td), (td, tdict w Kx tx ux (tx.length : Int) ud'), (K.mo, methodObj (.ref 148) (.ref x))] → Keeps [x, sd, K.ds, td, K.mo] s.heap h' → Q (.str (Txt.item c' 0) t) { s with heap := h', toks := tk }) : wpAny (model prog w) A (call (.ref 133) [.ref x]) Q E s := by
  obtain ⟨hn, dp, fr, gd, un⟩ := A
  obtain rfl : fr = some (env :: outer) := hA
  obtain rfl : hn = none := hh
  dsimp only at hd hu
  have q_0_2 : @LT.lt Nat _ sd K.mo := Nat.lt_trans o1 o2
  have q_0_3 : @LT.lt Nat _ sd td := Nat.lt_trans q_0_2 o3
  have q_0_4 : @LT.lt Nat _ sd K.ds := Nat.lt_trans q_0_3 o4
  have q_1_3 : @LT.lt Nat _ x td := Nat.lt_trans o2 o3
  have q_1_4 : @LT.lt Nat _ x K.ds := Nat.lt_trans q_1_3 o4
  have q_2_4 : @LT.lt Nat _ K.mo K.ds := Nat.lt_trans o3 o4
  refine' call_small (binds := [(Str.ofString "self", .ref x)]) B F X N T rfl hf hke ?k6 ?k7 ?k8 ?k9 ?kB ?_ ?c2 ?c3 ?c4 ?c5
  (case k6 => k_is)
  (case k7 => k_is)
  (case k8 => k_room)
  (case k9 => first | exact BindsTo.of_eq rfl | exact binds_K (by k_in) rfl (by k_is) rfl rfl rfl)
  (case kB => exact locs rfl)
  (case c2 => exact rfl)
  (case c3 => exact rfl)
  (case c4 => exact rfl)
  (case c5 => decide)
  intro g' L' h' KG' FG' F' N' B' X' T' l1
  clear B F N hf hke FG'
  (try dsimp only)
  (try dsimp only [sdict, tdict, sEnt] at N')
  (try k_lt l1)
  (have htk0 : 0 < s.toks + List.length ([(Str.ofString "self", .ref x)] : List (Str × Value)) := pos_len)
  (generalize (s.toks + List.length _) = tk0 at htk0 ⊢)
  (try k_fold)
  k_steps
  all_goals first
    | (refine' post _ _ _ _ _ _ _ _ _ _ _ ?e ?f ?N ?k; (case f => k_asm); (case N => exact news_sub (by k_asm) (by (repeat (first | exact List.forall_mem_nil _ | (refine' sub_cons ?zA9 ?_; (case zA9 => k_mem)))))); (case k => exact keeps_end KG' (by k_asm)); (case e => assumption))
    | (exfalso; omega)
theorem ch_buf {prog : Program} {w : World} {p : Program} {loose : List Str} {mean : ExcName → Option Value} {mg mb : Str → Option Value}
    {A : Around} {env : Env} {outer : List Env} {A₀ : Around} {base h₀ : Heap} {L : Addr} {m : Str → Option Value} {s : Shared} {Q E : Value → Shared → Prop}
    {x sd td : Nat} {K : Ks} {c : Str} {n k pl pc : Int} {u1 u2 u3 u4 u5 : Tok} {Kx : Kt} {tx : Str} {ux ud : Tok} {ub : Tok}
    (B : Below A₀ base outer h₀) (F : Fr h₀ L s.heap m) (X : (Mine.a.heap_1_39 w.params).In h₀) (T : Top p loose mean mg mb h₀) (hA : A.frames = some (env :: outer)) (hh : A.handled = none) (hf : env.frame = some L) (hke : env.scope.kind = .function)
    (hd : A.depth + 7 < recursionLimit) (hu : A.units + 60 < cLine) (N : News h₀ L s.heap [(x, instObj 166 sd), (sd, sdict w K ⟨c, n, k, pl, pc, (.str ⟨#[13]⟩ ub), u1, u2, u3, u4, u5⟩), (K.ds, instObj 73 td), (td, tdict w Kx tx ux (tx.length : Int) ud), (K.mo, methodObj (.ref 148) (.ref x))])
    (o1 : sd < x) (o2 : x < K.mo) (o3 : K.mo < td) (o4 : td < K.ds) (hk : n ≤ k) (hx : tx.length < 1000)
    (post : ∀ h' tk t v1 v2 v3 v4 v5 ud', True → Fr h₀ L h' m → News h₀ L h' [(x, instObj 166 sd), (sd, sdict w K ⟨⟨#[10]⟩, 1, 1, pl + count4 c lf 0 n, colF c pc n, .none, v1, v2, v3, v4, v5⟩), (K.ds, instObj 73 td), (td, tdict w Kx tx ux (tx.length : Int) ud'), (K.mo, methodObj (.ref 148) (.ref x))] → Keeps [x, sd, K.ds, td, K.mo] s.heap h' → Q (.str (Txt.item ⟨#[10]⟩ 0) t) { s with heap := h', toks := tk }) : wpAny (model prog w) A (call (.ref 133) [.ref x]) Q E s := by
  obtain ⟨hn, dp, fr, gd, un⟩ := A
  obtain rfl : fr = some (env :: outer) := hA
  obtain rfl : hn = none := hh
  dsimp only at hd hu
  have q_0_2 : @LT.lt Nat _ sd K.mo := Nat.lt_trans o1 o2
  have q_0_3 : @LT.lt Nat _ sd td := Nat.lt_trans q_0_2 o3
  have q_0_4 : @LT.lt Nat _ sd K.ds := Nat.lt_trans q_0_3 o4
  have q_1_3 : @LT.lt Nat _ x td := Nat.lt_trans o2 o3
  have q_1_4 : @LT.lt Nat _ x K.ds := Nat.lt_trans q_1_3 o4
  have q_2_4 : @LT.lt Nat _ K.mo K.ds := Nat.lt_trans o3 o4
  refine' call_small (binds := [(Str.ofString "self", .ref x)]) B F X N T rfl hf hke ?k6 ?k7 ?k8 ?k9 ?kB ?_ ?c2 ?c3 ?c4 ?c5
  (case k6 => k_is)
  (case k7 => k_is)
  (case k8 => k_room)
  (case k9 => first | exact BindsTo.of_eq rfl | exact binds_K (by k_in) rfl (by k_is) rfl rfl rfl)
  (case kB => exact locs rfl)
  (case c2 => exact rfl)
  (case c3 => exact rfl)
  (case c4 => exact rfl)
  (case c5 => decide)
  intro g' L' h' KG' FG' F' N' B' X' T' l1
  clear B F N hf hke FG'
  (try dsimp only)
  (try dsimp only [sdict, tdict, sEnt] at N')
  (try k_lt l1)
  (have htk0 : 0 < s.toks + List.length ([(Str.ofString "self", .ref x)] : List (Str × Value)) := pos_len)
  (generalize (s.toks + List.length _) = tk0 at htk0 ⊢)
  (try k_fold)
  have hz13 : (⟨#[10]⟩ : Str).length = 1 := rfl
  k_steps
  all_goals first
    | (refine' post _ _ _ _ _ _ _ _ _ ?e ?f ?N ?k; (case f => k_asm); (case N => exact news_sub (by k_asm) (by (repeat (first | exact List.forall_mem_nil _ | (refine' sub_cons ?zA9 ?_; (case zA9 => k_mem)))))); (case k => exact keeps_end KG' (by k_asm)); (case e => trivial))
    | (exfalso; omega)
theorem ch_end {prog : Program} {w : World} {p : Program} {loose : List Str} {mean : ExcName → Option Value} {mg mb : Str → Option Value}
    {A : Around} {env : Env} {outer : List Env} {A₀ : Around} {base h₀ : Heap} {L : Addr} {m : Str → Option Value} {s : Shared} {Q E : Value → Shared → Prop}
    {x sd td : Nat} {K : Ks} {c : Str} {n k pl pc : Int} {u1 u2 u3 u4 u5 : Tok} {Kx : Kt} {tx : Str} {ux ud : Tok}
    (B : Below A₀ base outer h₀) (F : Fr h₀ L s.heap m) (X : (Mine.a.heap_1_39 w.params).In h₀) (T : Top p loose mean mg mb h₀) (hA : A.frames = some (env :: outer)) (hh : A.handled = none) (hf : env.frame = some L) (hke : env.scope.kind = .function)
    (hd : A.depth + 7 < recursionLimit) (hu : A.units + 60 < cLine) (N : News h₀ L s.heap [(x, instObj 166 sd), (sd, sdict w K ⟨c, n, k, pl, pc, .none, u1, u2, u3, u4, u5⟩), (K.ds, instObj 73 td), (td, tdict w Kx tx ux (tx.length : Int) ud), (K.mo, methodObj (.ref 148) (.ref x))])
    (o1 : sd < x) (o2 : x < K.mo) (o3 : K.mo < td) (o4 : td < K.ds) (hk : n ≤ k) (hx : tx.length < 1000)
    (post : ∀ h' tk  v1 v2 v3 v4 v5 ud', True → Fr h₀ L h' m → News h₀ L h' [(x, instObj 166 sd), (sd, sdict w K ⟨Str.ofString "", 0, 0, pl + count4 c lf 0 n, colF c pc n, .none, v1, v2, v3, v4, v5⟩), (K.ds, instObj 73 td), (td, tdict w Kx tx ux (tx.length : Int) ud'), (K.mo, methodObj (.ref 148) (.ref x))] → Keeps [x, sd, K.ds, td, K.mo] s.heap h' → Q .none { s with heap := h', toks := tk }) : wpAny (model prog w) A (call (.ref 133) [.ref x]) Q E s := by
  obtain ⟨hn, dp, fr, gd, un⟩ := A
  obtain rfl : fr = some (env :: outer) := hA
  obtain rfl : hn = none := hh
  dsimp only at hd hu
  have q_0_2 : @LT.lt Nat _ sd K.mo := Nat.lt_trans o1 o2
  have q_0_3 : @LT.lt Nat _ sd td := Nat.lt_trans q_0_2 o3
  have q_0_4 : @LT.lt Nat _ sd K.ds := Nat.lt_trans q_0_3 o4
  have q_1_3 : @LT.lt Nat _ x td := Nat.lt_trans o2 o3
  have q_1_4 : @LT.lt Nat _ x K.ds := Nat.lt_trans q_1_3 o4
  have q_2_4 : @LT.lt Nat _ K.mo K.ds := Nat.lt_trans o3 o4
  refine' call_small (binds := [(Str.ofString "self", .ref x)]) B F X N T rfl hf hke ?k6 ?k7 ?k8 ?k9 ?kB ?_ ?c2 ?c3 ?c4 ?c5
  (case k6 => k_is)
  (case k7 => k_is)
  (case k8 => k_room)
  (case k9 => first | exact BindsTo.of_eq rfl | exact binds_K (by k_in) rfl (by k_is) rfl rfl rfl)
  (case kB => exact locs rfl)
  (case c2 => exact rfl)
  (case c3 => exact rfl)
  (case c4 => exact rfl)
  (case c5 => decide)
  intro g' L' h' KG' FG' F' N' B' X' T' l1
  clear B F N hf hke FG'
  (try dsimp only)
  (try dsimp only [sdict, tdict, sEnt] at N')
  (try k_lt l1)
  (have htk0 : 0 < s.toks + List.length ([(Str.ofString "self", .ref x)] : List (Str × Value)) := pos_len)
  (generalize (s.toks + List.length _) = tk0 at htk0 ⊢)
  (try k_fold)
  k_steps
  all_goals first
    | (refine' post _ _ _ _ _ _ _ _ ?e ?f ?N ?k; (case f => k_asm); (case N => exact news_sub (by k_asm) (by (repeat (first | exact List.forall_mem_nil _ | (refine' sub_cons ?zA9 ?_; (case zA9 => k_mem)))))); (case k => exact keeps_end KG' (by k_asm)); (case e => trivial))
    | (exfalso; omega)
theorem un_some {prog : Program} {w : World} {p : Program} {loose : List Str} {mean : ExcName → Option Value} {mg mb : Str → Option Value}
    {A : Around} {env : Env} {outer : List Env} {A₀ : Around} {base h₀ : Heap} {L : Addr} {m : Str → Option Value} {s : Shared} {Q E : Value → Shared → Prop}
    {x sd : Nat} {K : Ks} {c y : Str} {n k pl pc : Int} {buf : Value} {u1 u2 u3 u4 u5 uy : Tok}
    (B : Below A₀ base outer h₀) (F : Fr h₀ L s.heap m) (X : (Mine.a.heap_1_39 w.params).In h₀) (T : Top p loose mean mg mb h₀) (hA : A.frames = some (env :: outer)) (hh : A.handled = none) (hf : env.frame = some L) (hke : env.scope.kind = .function)
    (hd : A.depth + 1 < recursionLimit) (hu : A.units + 10 < cLine) (N : News h₀ L s.heap [(x, instObj 166 sd), (sd, sdict w K ⟨c, n, k, pl, pc, buf, u1, u2, u3, u4, u5⟩)])
    (o1 : sd < x) (h0 : 1 ≤ k) (h1 : k ≤ c.length) (h2 : c.length < 1000) (hy : Txt.item c (k - 1) = y) (hb : handedIn buf = true)
    (post : ∀ h' tk v3, Fr h₀ L h' m → News h₀ L h' [(x, instObj 166 sd), (sd, sdict w K ⟨c, n, k - 1, pl, pc, buf, u1, u2, v3, u4, u5⟩)] → Keeps [x, sd] s.heap h' → Q .none { s with heap := h', toks := tk }) : wpAny (model prog w) A (call (.ref 163) [.ref x, .str y uy]) Q E s := by
  obtain ⟨hn, dp, fr, gd, un⟩ := A
  obtain rfl : fr = some (env :: outer) := hA
  obtain rfl : hn = none := hh
  dsimp only at hd hu
  refine' call_small (binds := [(Str.ofString "self", .ref x), (Str.ofString "char", .str y uy)]) B F X N T rfl hf hke ?k6 ?k7 ?k8 ?k9 ?kB ?_ ?c2 ?c3 ?c4 ?c5
  (case k6 => k_is)
  (case k7 => k_is)
  (case k8 => k_room)
  (case k9 => first | exact BindsTo.of_eq rfl | exact binds_K (by k_in) rfl (by k_is) rfl rfl rfl)
  (case kB => exact locs rfl)
  (case c2 => exact rfl)
  (case c3 => exact rfl)
  (case c4 => exact rfl)
  (case c5 => decide)
  intro g' L' h' KG' FG' F' N' B' X' T' l1
  clear B F N hf hke FG'
  (try dsimp only)
  (try dsimp only [sdict, tdict, sEnt] at N')
  (try k_lt l1)
  (have htk0 : 0 < s.toks + List.length ([(Str.ofString "self", .ref x), (Str.ofString "char", .str y uy)] : List (Str × Value)) := pos_len)
  (generalize (s.toks + List.length _) = tk0 at htk0 ⊢)
  (try k_fold)
  k_steps
  all_goals first
    | (exfalso; omega)
    | (exfalso; simp_all; done)
    | (refine' post _ _ _ ?f ?N ?k; (case f => k_asm); (case N => exact news_sub (by k_asm) (by (repeat (first | exact List.forall_mem_nil _ | (refine' sub_cons ?zA9 ?_; (case zA9 => k_mem)))))); (case k => exact keeps_end KG' (by k_asm)))
theorem un_none {prog : Program} {w : World} {p : Program} {loose : List Str} {mean : ExcName → Option Value} {mg mb : Str → Option Value}
    {A : Around} {env : Env} {outer : List Env} {A₀ : Around} {base h₀ : Heap} {L : Addr} {m : Str → Option Value} {s : Shared} {Q E : Value → Shared → Prop}
    {x : Nat}
    (B : Below A₀ base outer h₀) (F : Fr h₀ L s.heap m) (X : (Mine.a.heap_1_39 w.params).In h₀) (T : Top p loose mean mg mb h₀) (hA : A.frames = some (env :: outer)) (hh : A.handled = none) (hf : env.frame = some L) (hke : env.scope.kind = .function)
    (hd : A.depth + 1 < recursionLimit) (hu : A.units + 10 < cLine) (N : News h₀ L s.heap [])
    
    (post : ∀ h' tk, Fr h₀ L h' m → News h₀ L h' [] → Keeps [] s.heap h' → Q .none { s with heap := h', toks := tk }) : wpAny (model prog w) A (call (.ref 163) [.ref x, .none]) Q E s := by
  obtain ⟨hn, dp, fr, gd, un⟩ := A
  obtain rfl : fr = some (env :: outer) := hA
  obtain rfl : hn = none := hh
  dsimp only at hd hu
  refine' call_small (binds := [(Str.ofString "self", .ref x), (Str.ofString "char", .none)]) B F X N T rfl hf hke ?k6 ?k7 ?k8 ?k9 ?kB ?_ ?c2 ?c3 ?c4 ?c5
  (case k6 => k_is)
  (case k7 => k_is)
  (case k8 => k_room)
  (case k9 => first | exact BindsTo.of_eq rfl | exact binds_K (by k_in) rfl (by k_is) rfl rfl rfl)
  (case kB => exact locs rfl)
  (case c2 => exact rfl)
  (case c3 => exact rfl)
  (case c4 => exact rfl)
  (case c5 => decide)
  intro g' L' h' KG' FG' F' N' B' X' T' l1
  clear B F N hf hke FG'
  (try dsimp only)
  (try dsimp only [sdict, tdict, sEnt] at N')
  (try k_lt l1)
  (have htk0 : 0 < s.toks + List.length ([(Str.ofString "self", .ref x), (Str.ofString "char", .none)] : List (Str × Value)) := pos_len)
  (generalize (s.toks + List.length _) = tk0 at htk0 ⊢)
  (try k_fold)
  k_steps
  all_goals (exact post _ _ (by k_asm) News.nil (keeps_end KG' (by k_asm)))
theorem place_spec {prog : Program} {w : World} {p : Program} {loose : List Str} {mean : ExcName → Option Value} {mg mb : Str → Option Value}
    {A : Around} {env : Env} {outer : List Env} {A₀ : Around} {base h₀ : Heap} {L : Addr} {m : Str → Option Value} {s : Shared} {Q E : Value → Shared → Prop}
    {x sd : Nat} {K : Ks} {v : Sv}
    (B : Below A₀ base outer h₀) (F : Fr h₀ L s.heap m) (X : (Mine.a.heap_1_39 w.params).In h₀) (T : Top p loose mean mg mb h₀) (hA : A.frames = some (env :: outer)) (hh : A.handled = none) (hf : env.frame = some L) (hke : env.scope.kind = .function)
    (hd : A.depth + 3 < recursionLimit) (hu : A.units + 20 < cLine) (N : News h₀ L s.heap [(x, instObj 166 sd), (sd, sdict w K v)])
    (o1 : sd < x) (hb : handedIn v.buf = true)
    (post : ∀ (D : Nat) h' tk t1 t2, s.heap.get? D = none → x < D → sd < D → Fr h₀ L h' m → News h₀ L h' [(D, { cls := .type "tuple", data := .seq #[.int (v.pl + count4 v.c (Str.ofString "\n") 0 v.k + 1) t1, .int (colF v.c v.pc v.k) t2] }), (x, instObj 166 sd), (sd, sdict w K v)] → Keeps [x, sd] s.heap h' → Q (.ref D) { s with heap := h', toks := tk }) : wpAny (model prog w) A (call (.ref 126) [.ref x]) Q E s := by
  obtain ⟨hn, dp, fr, gd, un⟩ := A
  obtain rfl : fr = some (env :: outer) := hA
  obtain rfl : hn = none := hh
  dsimp only at hd hu
  refine' call_small (binds := [(Str.ofString "self", .ref x)]) B F X N T rfl hf hke ?k6 ?k7 ?k8 ?k9 ?kB ?_ ?c2 ?c3 ?c4 ?c5
  (case k6 => k_is)
  (case k7 => k_is)
  (case k8 => k_room)
  (case k9 => first | exact BindsTo.of_eq rfl | exact binds_K (by k_in) rfl (by k_is) rfl rfl rfl)
  (case kB => exact locs rfl)
  (case c2 => exact rfl)
  (case c3 => exact rfl)
  (case c4 => exact rfl)
  (case c5 => decide)
  intro g' L' h' KG' FG' F' N' B' X' T' l1
  clear B F N hf hke FG'
  (try dsimp only)
  (try dsimp only [sdict, tdict, sEnt] at N')
  (try k_lt l1)
  (have htk0 : 0 < s.toks + List.length ([(Str.ofString "self", .ref x)] : List (Str × Value)) := pos_len)
  (generalize (s.toks + List.length _) = tk0 at htk0 ⊢)
  (try k_fold)
  k_steps
  all_goals first
    | (refine' post _ _ _ _ _ ?n ?l1 ?l2 ?f ?N ?k; (case f => k_asm); (case l1 => first | assumption | exact adr_lt (by with_reducible assumption) (by k_mem)); (case l2 => first | assumption | exact adr_lt (by with_reducible assumption) (by k_mem)); (case N => exact news_sub (by k_asm) (by (repeat (first | exact List.forall_mem_nil _ | (refine' sub_cons ?zA9 ?_; (case zA9 => k_mem)))))); (case k => exact keeps_end KG' (by k_asm)); (case n => exact new_of_hidden KG' (by k_asm) (.head _) (by (with_reducible rename AdrLt _ _ => l9); exact l9.lt)))
section
local macro_rules | `(tactic| omega) => `(tactic| lia)
/-- the text as the stream gives it -/
noncomputable def MM (tx : Str) : List Nat := (mendS tx).cps.toList
/-- lines and columns, where no line ends -/
noncomputable def PL (l : List Nat) (pl pc : Int) : Prop := (∀ c ∈ l, c ≠ 10) → pl = 0 ∧ pc = l.length
/-- i signs have been read -/
noncomputable def At (tx : Str) (v : Sv) (d : Int) (i : Nat) : Prop :=
  (v.c = Str.ofString "" ∧ v.n = 0 ∧ v.k = 0 ∧ v.pl = 0 ∧ v.pc = 0 ∧ v.buf = .none ∧ d = 0 ∧ i = 0) ∨
  (RC tx v.c v.buf ∧ v.n = v.c.length ∧ v.k = i ∧ i ≤ v.c.length ∧ v.pl = 0 ∧ v.pc = 0 ∧ d = tx.length ∧ 0 < tx.length) ∨
  (∃ c buf, RC tx c buf ∧ buf ≠ .none ∧ v.c = ⟨#[10]⟩ ∧ v.n = 1 ∧ (v.k = 0 ∨ v.k = 1) ∧ PL c.cps.toList v.pl v.pc ∧ v.buf = .none ∧ d = tx.length ∧ (i : Int) = c.length + v.k) ∨
  (v.c = Str.ofString "" ∧ v.n = 0 ∧ v.k = 0 ∧ PL (MM tx) v.pl v.pc ∧ v.buf = .none ∧ d = tx.length ∧ i = (MM tx).length)
theorem At.handed {tx : Str} {v : Sv} {d : Int} {i : Nat} (h : At tx v d i) : handedIn v.buf = true := by
  rcases h with ⟨_, _, _, _, _, e, _⟩ | ⟨h, _⟩ | ⟨_, _, _, _, _, _, _, _, e, _⟩ | ⟨_, _, _, _, e, _⟩
  · rw [e]; rfl
  · exact rc_handed h
  · rw [e]; rfl
  · rw [e]; rfl
theorem rc_none {tx c : Str} (h : RC tx c .none) : MM tx = c.cps.toList := by
  rcases h with ⟨_, _, ⟨B, u, _, e⟩, _⟩ | ⟨_, _, rfl⟩
  · cases e
  · rfl
theorem rc_some {tx c : Str} {buf : Value} (h : RC tx c buf) (hb : buf ≠ .none) : MM tx = c.cps.toList ++ [10] ∧ ∃ u, buf = .str ⟨#[13]⟩ u := by
  rcases h with ⟨h1, h2, ⟨B, u, rfl, rfl⟩, rfl⟩ | ⟨_, rfl, _⟩
  · exact ⟨mend_keep h1 h2, u, rfl⟩
  · exact absurd rfl hb
theorem rc_cases {tx c : Str} {buf : Value} (h : RC tx c buf) : (buf = .none ∧ MM tx = c.cps.toList) ∨ (buf ≠ .none ∧ MM tx = c.cps.toList ++ [10]) := by
  by_cases hb : buf = .none
  · subst hb; exact .inl ⟨rfl, rc_none h⟩
  · exact .inr ⟨hb, (rc_some h hb).1⟩
theorem mm_len (tx : Str) : (MM tx).length ≤ tx.length := by
  have := mend_len tx
  unfold MM
  rw [Array.length_toList]
  exact this
theorem len_eq (c : Str) : c.cps.toList.length = c.length := Array.length_toList
theorem At.le {tx : Str} {v : Sv} {d : Int} {i : Nat} (h : At tx v d i) : i ≤ (MM tx).length := by
  rcases h with ⟨_, _, _, _, _, _, _, rfl⟩ | ⟨h, _, _, h2, _⟩ | ⟨c, buf, h, hb, _, _, hk, _, _, _, hi⟩ | ⟨_, _, _, _, _, _, rfl⟩
  · exact Nat.zero_le _
  · have := len_eq v.c
    rcases rc_cases h with ⟨_, e⟩ | ⟨_, e⟩ <;> rw [e] <;> (try simp only [List.length_append, List.length_cons, List.length_nil]) <;> omega
  · have := len_eq c
    rw [(rc_some h hb).1, List.length_append]
    simp only [List.length_cons, List.length_nil]
    omega
  · exact Nat.le_refl _
theorem pl_next {c : Str} : PL c.cps.toList (0 + count4 c lf 0 c.length) (colF c 0 c.length) := by
  intro h
  obtain ⟨h1, h2⟩ := no_line (x := c) (k := c.length) (Nat.le_refl _) (by rw [← len_eq c, List.take_length]; exact h)
  refine ⟨by rw [h1]; rfl, ?_⟩
  unfold colF
  rw [if_pos h2, len_eq]
  omega
theorem pl0 : (0 : Int) + count4 (Str.ofString "") lf 0 0 = 0 := by decide +kernel
theorem pc0 : colF (Str.ofString "") 0 0 = 0 := by decide +kernel
theorem pl_fin2 {c : Str} {tx : Str} {pl pc : Int} (e : MM tx = c.cps.toList ++ [10]) : PL (MM tx) pl pc := by
  intro h
  exact absurd rfl (h 10 (by rw [e]; simp))
theorem pl_same {l : List Nat} {pl pc : Int} (h : PL l pl pc) : PL l (pl + count4 (Str.ofString "") lf 0 0) (colF (Str.ofString "") pc 0) := by
  intro hl
  obtain ⟨a, b⟩ := h hl
  refine ⟨by rw [a]; decide +kernel, ?_⟩
  rw [b]
  unfold colF
  rw [if_pos (by decide +kernel)]
  omega
theorem char_some {prog : Program} {w : World} {p : Program} {loose : List Str} {mean : ExcName → Option Value} {mg mb : Str → Option Value}
    {A : Around} {env : Env} {outer : List Env} {A₀ : Around} {base h₀ : Heap} {L : Addr} {m : Str → Option Value} {s : Shared} {Q E : Value → Shared → Prop}
    {x sd td : Nat} {K : Ks} {v : Sv} {Kx : Kt} {tx : Str} {ux ud : Tok} {d : Int} {i : Nat} {ch : Nat}
    (B : Below A₀ base outer h₀) (F : Fr h₀ L s.heap m) (X : (Mine.a.heap_1_39 w.params).In h₀) (T : Top p loose mean mg mb h₀) (hA : A.frames = some (env :: outer)) (hh : A.handled = none) (hf : env.frame = some L) (hke : env.scope.kind = .function)
    (hd : A.depth + 7 < recursionLimit) (hu : A.units + 60 < cLine) (N : News h₀ L s.heap [(x, instObj 166 sd), (sd, sdict w K v), (K.ds, instObj 73 td), (td, tdict w Kx tx ux d ud), (K.mo, methodObj (.ref 148) (.ref x))])
    (o1 : sd < x) (o2 : x < K.mo) (o3 : K.mo < td) (o4 : td < K.ds) (hx : tx.length < 1000) (hok : ∀ c ∈ tx.cps.toList, okc c) (hat : At tx v d i) (hi : (MM tx)[i]? = some ch)
    (post : ∀ h' tk t v' d' ud', At tx v' d' (i + 1) → 1 ≤ v'.k → Fr h₀ L h' m → News h₀ L h' [(x, instObj 166 sd), (sd, sdict w K v'), (K.ds, instObj 73 td), (td, tdict w Kx tx ux d' ud'), (K.mo, methodObj (.ref 148) (.ref x))] → Keeps [x, sd, K.ds, td, K.mo] s.heap h' → Q (.str ⟨#[ch]⟩ t) { s with heap := h', toks := tk }) : wpAny (model prog w) A (call (.ref 133) [.ref x]) Q E s := by
  obtain ⟨c, n, k, pl, pc, buf, u1, u2, u3, u4, u5⟩ := v
  have hl := (List.getElem?_eq_some_iff.mp hi).1
  have hml := mm_len tx
  unfold At at hat
  dsimp only at hat
  rcases hat with ⟨rfl, rfl, rfl, rfl, rfl, rfl, rfl, rfl⟩ | ⟨h, rfl, rfl, h2, rfl, rfl, rfl, h0⟩ | ⟨c1, buf1, h, hb, rfl, rfl, hk, hpl, rfl, rfl, hi1⟩ | ⟨rfl, rfl, rfl, hpl, rfl, rfl, rfl⟩
  · refine ch_new B F X T hA hh hf hke (by omega) (by omega) N o1 o2 o3 o4 (Int.le_refl _) hx (by omega) hok fun h' tk t c' buf' v1 v2 v3 v4 v5 ud' hr F' N' K' => ?_
    have hp := rc_pos hr (by omega)
    have e : Txt.item c' 0 = ⟨#[ch]⟩ := item_at (i := 0) (by rcases rc_cases hr with ⟨_, e⟩ | ⟨_, e⟩ <;> rw [e] at hi <;> (first | exact hi | (rw [List.getElem?_append_left (by rw [len_eq]; exact hp)] at hi; exact hi)))
    rw [e]
    exact post h' tk t _ _ ud' (.inr (.inl ⟨hr, rfl, rfl, Nat.succ_le_of_lt hp, pl0, pc0, rfl, by omega⟩)) (Int.le_refl _) F' N' K'
  · by_cases hc : i < c.length
    · refine ch_in B F X T hA hh hf hke (by omega) (by omega) N o1 o2 o3 o4 (Int.natCast_nonneg _) (by (try dsimp only); omega) rfl (by have := rc_small h hx; (try dsimp only at *); omega) (rc_handed h) fun h' tk t v1 v2 v3 v4 v5 ud' _ F' N' K' => ?_
      have e : Txt.item c (i : Int) = ⟨#[ch]⟩ := item_at (by rcases rc_cases h with ⟨_, e⟩ | ⟨_, e⟩ <;> rw [e] at hi <;> (first | exact hi | (rw [List.getElem?_append_left (by rw [len_eq]; exact hc)] at hi; exact hi)))
      (try dsimp only)
      rw [e]
      exact post h' tk t _ _ ud' (.inr (.inl ⟨h, rfl, by (try dsimp only); omega, Nat.succ_le_of_lt hc, rfl, rfl, rfl, h0⟩)) (by (try dsimp only); omega) F' N' K'
    · (try dsimp only at h2)
      have hci : i = c.length := by omega
      have hz := len_eq c
      rcases rc_cases h with ⟨_, e⟩ | ⟨hb, e⟩
      · rw [e] at hl; omega
      · obtain ⟨_, ub, hbu⟩ := rc_some h hb
        (try dsimp only at hbu)
        subst hbu
        refine ch_buf B F X T hA hh hf hke (by omega) (by omega) N o1 o2 o3 o4 (by (try dsimp only); omega) hx fun h' tk t v1 v2 v3 v4 v5 ud' _ F' N' K' => ?_
        have ec : ch = 10 := by
          rw [e, List.getElem?_append_right (by omega), show i - c.cps.toList.length = 0 by omega] at hi
          exact (Option.some.inj hi).symm
        subst ec
        exact post h' tk t _ _ ud' (.inr (.inr (.inl ⟨c, _, h, hb, rfl, rfl, .inr rfl, pl_next, rfl, rfl, by (try dsimp only); omega⟩))) (Int.le_refl _) F' N' K'
  · have hz := len_eq c1
    have e := (rc_some h hb).1
    rw [e, List.length_append] at hl
    simp only [List.length_cons, List.length_nil] at hl
    (try dsimp only at hk hi1)
    rcases hk with rfl | rfl
    · refine ch_in B F X T hA hh hf hke (by omega) (by omega) N o1 o2 o3 o4 (Int.le_refl _) (by (try dsimp only); omega) rfl (by (try dsimp only); omega) rfl fun h' tk t v1 v2 v3 v4 v5 ud' _ F' N' K' => ?_
      have ec : ch = 10 := by
        rw [e, List.getElem?_append_right (by omega), show i - c1.cps.toList.length = 0 by omega] at hi
        exact (Option.some.inj hi).symm
      subst ec
      exact post h' tk t _ _ ud' (.inr (.inr (.inl ⟨c1, _, h, hb, rfl, rfl, .inr rfl, hpl, rfl, rfl, by (try dsimp only); omega⟩))) (Int.le_refl _) F' N' K'
    · omega
  · exact absurd hl (Nat.lt_irrefl _)
theorem char_none {prog : Program} {w : World} {p : Program} {loose : List Str} {mean : ExcName → Option Value} {mg mb : Str → Option Value}
    {A : Around} {env : Env} {outer : List Env} {A₀ : Around} {base h₀ : Heap} {L : Addr} {m : Str → Option Value} {s : Shared} {Q E : Value → Shared → Prop}
    {x sd td : Nat} {K : Ks} {v : Sv} {Kx : Kt} {tx : Str} {ux ud : Tok} {d : Int} {i : Nat}
    (B : Below A₀ base outer h₀) (F : Fr h₀ L s.heap m) (X : (Mine.a.heap_1_39 w.params).In h₀) (T : Top p loose mean mg mb h₀) (hA : A.frames = some (env :: outer)) (hh : A.handled = none) (hf : env.frame = some L) (hke : env.scope.kind = .function)
    (hd : A.depth + 7 < recursionLimit) (hu : A.units + 60 < cLine) (N : News h₀ L s.heap [(x, instObj 166 sd), (sd, sdict w K v), (K.ds, instObj 73 td), (td, tdict w Kx tx ux d ud), (K.mo, methodObj (.ref 148) (.ref x))])
    (o1 : sd < x) (o2 : x < K.mo) (o3 : K.mo < td) (o4 : td < K.ds) (hx : tx.length < 1000) (hat : At tx v d i) (hi : i = (MM tx).length)
    (post : ∀ h' tk  v' d' ud', At tx v' d' i → Fr h₀ L h' m → News h₀ L h' [(x, instObj 166 sd), (sd, sdict w K v'), (K.ds, instObj 73 td), (td, tdict w Kx tx ux d' ud'), (K.mo, methodObj (.ref 148) (.ref x))] → Keeps [x, sd, K.ds, td, K.mo] s.heap h' → Q .none { s with heap := h', toks := tk }) : wpAny (model prog w) A (call (.ref 133) [.ref x]) Q E s := by
  obtain ⟨c, n, k, pl, pc, buf, u1, u2, u3, u4, u5⟩ := v
  have hml := mm_len tx
  subst hi
  unfold At at hat
  dsimp only at hat
  rcases hat with ⟨rfl, rfl, rfl, rfl, rfl, rfl, rfl, h9⟩ | ⟨h, rfl, rfl, h2, rfl, rfl, rfl, h0⟩ | ⟨c1, buf1, h, hb, rfl, rfl, hk, hpl, rfl, rfl, hi1⟩ | ⟨rfl, rfl, rfl, hpl, rfl, rfl, _⟩
  · have hz : (tx.length : Int) = 0 := by
      by_cases h : 0 < tx.length
      · have := mend_pos h
        have h8 : (MM tx).length = (mendS tx).length := len_eq _
        have h7 : 0 < (mendS tx).length := this
        omega
      · omega
    rw [show tdict w Kx tx ux 0 ud = tdict w Kx tx ux (tx.length : Int) ud from by rw [hz]] at N
    refine ch_end B F X T hA hh hf hke (by omega) (by omega) N o1 o2 o3 o4 (Int.le_refl _) hx fun h' tk v1 v2 v3 v4 v5 ud' _ F' N' K' => ?_
    exact post h' tk _ _ ud' (.inr (.inr (.inr ⟨rfl, rfl, rfl, fun _ => ⟨pl0, by rw [h9]; exact pc0⟩, rfl, rfl, rfl⟩))) F' N' K'
  · have hz := len_eq c
    (try dsimp only at h2)
    rcases rc_cases h with ⟨hb, e⟩ | ⟨hb, e⟩
    · (try dsimp only at hb)
      subst hb
      have he : (MM tx).length = c.length := by rw [e]; exact hz
      refine ch_end B F X T hA hh hf hke (by omega) (by omega) N o1 o2 o3 o4 (by (try dsimp only); omega) hx fun h' tk v1 v2 v3 v4 v5 ud' _ F' N' K' => ?_
      exact post h' tk _ _ ud' (.inr (.inr (.inr ⟨rfl, rfl, rfl, by rw [e]; exact pl_next, rfl, rfl, rfl⟩))) F' N' K'
    · rw [e, List.length_append] at h2
      simp only [List.length_cons, List.length_nil] at h2
      omega
  · have hz := len_eq c1
    have e := (rc_some h hb).1
    have hle : (MM tx).length = c1.length + 1 := by rw [e, List.length_append, hz]; rfl
    (try dsimp only at hk hi1)
    refine ch_end B F X T hA hh hf hke (by omega) (by omega) N o1 o2 o3 o4 (by (try dsimp only); omega) hx fun h' tk v1 v2 v3 v4 v5 ud' _ F' N' K' => ?_
    exact post h' tk _ _ ud' (.inr (.inr (.inr ⟨rfl, rfl, rfl, pl_fin2 e, rfl, rfl, rfl⟩))) F' N' K'
  · refine ch_end B F X T hA hh hf hke (by omega) (by omega) N o1 o2 o3 o4 (Int.le_refl _) hx fun h' tk v1 v2 v3 v4 v5 ud' _ F' N' K' => ?_
    exact post h' tk _ _ ud' (.inr (.inr (.inr ⟨rfl, rfl, rfl, pl_same hpl, rfl, rfl, rfl⟩))) F' N' K'
theorem un_at {prog : Program} {w : World} {p : Program} {loose : List Str} {mean : ExcName → Option Value} {mg mb : Str → Option Value}
    {A : Around} {env : Env} {outer : List Env} {A₀ : Around} {base h₀ : Heap} {L : Addr} {m : Str → Option Value} {s : Shared} {Q E : Value → Shared → Prop}
    {x sd : Nat} {K : Ks} {v : Sv} {tx : Str} {uy : Tok} {d : Int} {i ch : Nat}
    (B : Below A₀ base outer h₀) (F : Fr h₀ L s.heap m) (X : (Mine.a.heap_1_39 w.params).In h₀) (T : Top p loose mean mg mb h₀) (hA : A.frames = some (env :: outer)) (hh : A.handled = none) (hf : env.frame = some L) (hke : env.scope.kind = .function)
    (hd : A.depth + 1 < recursionLimit) (hu : A.units + 10 < cLine) (N : News h₀ L s.heap [(x, instObj 166 sd), (sd, sdict w K v)])
    (o1 : sd < x) (hx : tx.length < 1000) (hat : At tx v d (i + 1)) (hk1 : 1 ≤ v.k) (hi : (MM tx)[i]? = some ch)
    (post : ∀ h' tk v', At tx v' d i → Fr h₀ L h' m → News h₀ L h' [(x, instObj 166 sd), (sd, sdict w K v')] → Keeps [x, sd] s.heap h' → Q .none { s with heap := h', toks := tk }) : wpAny (model prog w) A (call (.ref 163) [.ref x, .str ⟨#[ch]⟩ uy]) Q E s := by
  obtain ⟨c, n, k, pl, pc, buf, u1, u2, u3, u4, u5⟩ := v
  have hhd := hat.handed
  unfold At at hat
  dsimp only at hat hk1 hhd
  rcases hat with ⟨rfl, rfl, rfl, rfl, rfl, rfl, rfl, h9⟩ | ⟨h, rfl, rfl, h2, rfl, rfl, rfl, h0⟩ | ⟨c1, buf1, h, hb, rfl, rfl, hk, hpl, rfl, rfl, hi1⟩ | ⟨rfl, rfl, rfl, hpl, rfl, rfl, h9⟩
  · omega
  · have e : Txt.item c (((i + 1 : Nat) : Int) - 1) = ⟨#[ch]⟩ := by
      rw [show ((i + 1 : Nat) : Int) - 1 = (i : Int) by omega]
      exact item_at (by rcases rc_cases h with ⟨_, e⟩ | ⟨_, e⟩ <;> rw [e] at hi <;> (first | exact hi | (rw [List.getElem?_append_left (by rw [len_eq]; omega)] at hi; exact hi)))
    refine un_some B F X T hA hh hf hke (by omega) (by omega) N o1 (by omega) (by omega) (rc_small h hx) e hhd fun h' tk v3 F' N' K' => ?_
    exact post h' tk _ (.inr (.inl ⟨h, rfl, by (try dsimp only); omega, Nat.le_of_succ_le h2, rfl, rfl, rfl, h0⟩)) F' N' K'
  · have hz := len_eq c1
    have e := (rc_some h hb).1
    have hk' : k = 1 := by omega
    subst hk'
    have ec : ch = 10 := by
      rw [e, List.getElem?_append_right (by omega), show i - c1.cps.toList.length = 0 by omega] at hi
      exact (Option.some.inj hi).symm
    subst ec
    refine un_some B F X T hA hh hf hke (by omega) (by omega) N o1 (Int.le_refl _) (by decide) (by decide) (by decide +kernel) rfl fun h' tk v3 F' N' K' => ?_
    exact post h' tk _ (.inr (.inr (.inl ⟨c1, _, h, hb, rfl, rfl, .inl rfl, hpl, rfl, rfl, by (try dsimp only); omega⟩))) F' N' K'
  · omega

theorem at_place {tx : Str} {v : Sv} {d : Int} {i : Nat} (hat : At tx v d i) (hn : ∀ c ∈ (MM tx).take i, c ≠ 10) : v.pl + count4 v.c (Str.ofString "\n") 0 v.k + 1 = 1 ∧ colF v.c v.pc v.k = i := by
  obtain ⟨c, n, k, pl, pc, buf, u1, u2, u3, u4, u5⟩ := v
  unfold At at hat
  dsimp only at hat ⊢
  rcases hat with ⟨rfl, rfl, rfl, rfl, rfl, rfl, rfl, rfl⟩ | ⟨h, rfl, rfl, h2, rfl, rfl, rfl, h0⟩ | ⟨c1, buf1, h, hb, rfl, rfl, hk, hpl, rfl, rfl, hi1⟩ | ⟨rfl, rfl, rfl, hpl, rfl, rfl, rfl⟩
  · exact ⟨by decide +kernel, pc0⟩
  · have hz := len_eq c
    have ht : (MM tx).take i = c.cps.toList.take i := by
      rcases rc_cases h with ⟨_, e⟩ | ⟨_, e⟩
      · rw [e]
      · rw [e, List.take_append_of_le_length (by omega)]
    rw [ht] at hn
    obtain ⟨h1, h3⟩ := no_line h2 hn
    refine ⟨by rw [h1]; rfl, ?_⟩
    unfold colF
    rw [if_pos h3]
    omega
  · have hz := len_eq c1
    have e := (rc_some h hb).1
    rcases hk with rfl | rfl
    · have hi' : i = c1.cps.toList.length := by omega
      rw [e, hi', List.take_left] at hn
      obtain ⟨rfl, rfl⟩ := hpl hn
      refine ⟨by decide +kernel, ?_⟩
      unfold colF
      rw [if_pos (by decide +kernel)]
      omega
    · exact absurd rfl (hn 10 (by rw [e, List.take_of_length_le (by rw [List.length_append]; simp only [List.length_cons, List.length_nil]; omega)]; simp))
  · rw [List.take_length] at hn
    obtain ⟨rfl, rfl⟩ := hpl hn
    refine ⟨by decide +kernel, ?_⟩
    unfold colF
    rw [if_pos (by decide +kernel)]
    omega
theorem place_at {prog : Program} {w : World} {p : Program} {loose : List Str} {mean : ExcName → Option Value} {mg mb : Str → Option Value}
    {A : Around} {env : Env} {outer : List Env} {A₀ : Around} {base h₀ : Heap} {L : Addr} {m : Str → Option Value} {s : Shared} {Q E : Value → Shared → Prop}
    {x sd : Nat} {K : Ks} {v : Sv} {tx : Str} {d : Int} {i : Nat}
    (B : Below A₀ base outer h₀) (F : Fr h₀ L s.heap m) (X : (Mine.a.heap_1_39 w.params).In h₀) (T : Top p loose mean mg mb h₀) (hA : A.frames = some (env :: outer)) (hh : A.handled = none) (hf : env.frame = some L) (hke : env.scope.kind = .function)
    (hd : A.depth + 3 < recursionLimit) (hu : A.units + 20 < cLine) (N : News h₀ L s.heap [(x, instObj 166 sd), (sd, sdict w K v)])
    (o1 : sd < x) (hat : At tx v d i) (hn : ∀ c ∈ (MM tx).take i, c ≠ 10)
    (post : ∀ (D : Nat) h' tk t1 t2 (a b : Int), a = 1 → b = i → s.heap.get? D = none → x < D → sd < D → Fr h₀ L h' m → News h₀ L h' [(D, { cls := .type "tuple", data := .seq #[.int a t1, .int b t2] }), (x, instObj 166 sd), (sd, sdict w K v)] → Keeps [x, sd] s.heap h' → Q (.ref D) { s with heap := h', toks := tk }) : wpAny (model prog w) A (call (.ref 126) [.ref x]) Q E s := by
  obtain ⟨e1, e2⟩ := at_place hat hn
  exact place_spec B F X T hA hh hf hke (by omega) (by omega) N o1 hat.handed fun D h' tk t1 t2 h1 h2 h3 F' N' K' => post D h' tk t1 t2 _ _ e1 e2 h1 h2 h3 F' N' K'
/-- what char gives: the next sign, or nothing at the end -/
noncomputable def CR (tx : Str) (i : Nat) (r : Value) (i' : Nat) (v' : Sv) : Prop := (∃ ch t, r = .str ⟨#[ch]⟩ t ∧ (MM tx)[i]? = some ch ∧ i' = i + 1 ∧ 1 ≤ v'.k) ∨ (r = .none ∧ i = (MM tx).length ∧ i' = i)
theorem char_any {prog : Program} {w : World} {p : Program} {loose : List Str} {mean : ExcName → Option Value} {mg mb : Str → Option Value}
    {A : Around} {env : Env} {outer : List Env} {A₀ : Around} {base h₀ : Heap} {L : Addr} {m : Str → Option Value} {s : Shared} {Q E : Value → Shared → Prop}
    {x sd td : Nat} {K : Ks} {v : Sv} {Kx : Kt} {tx : Str} {ux ud : Tok} {d : Int} {i : Nat}
    (B : Below A₀ base outer h₀) (F : Fr h₀ L s.heap m) (X : (Mine.a.heap_1_39 w.params).In h₀) (T : Top p loose mean mg mb h₀) (hA : A.frames = some (env :: outer)) (hh : A.handled = none) (hf : env.frame = some L) (hke : env.scope.kind = .function)
    (hd : A.depth + 7 < recursionLimit) (hu : A.units + 60 < cLine) (N : News h₀ L s.heap [(x, instObj 166 sd), (sd, sdict w K v), (K.ds, instObj 73 td), (td, tdict w Kx tx ux d ud), (K.mo, methodObj (.ref 148) (.ref x))])
    (o1 : sd < x) (o2 : x < K.mo) (o3 : K.mo < td) (o4 : td < K.ds) (hx : tx.length < 1000) (hok : ∀ c ∈ tx.cps.toList, okc c) (hat : At tx v d i)
    (post : ∀ h' tk r i' v' d' ud', CR tx i r i' v' → At tx v' d' i' → Fr h₀ L h' m → News h₀ L h' [(x, instObj 166 sd), (sd, sdict w K v'), (K.ds, instObj 73 td), (td, tdict w Kx tx ux d' ud'), (K.mo, methodObj (.ref 148) (.ref x))] → Keeps [x, sd, K.ds, td, K.mo] s.heap h' → Q r { s with heap := h', toks := tk }) : wpAny (model prog w) A (call (.ref 133) [.ref x]) Q E s := by
  by_cases hl : i < (MM tx).length
  · exact char_some B F X T hA hh hf hke (by omega) (by omega) N o1 o2 o3 o4 hx hok hat (List.getElem?_eq_getElem hl) fun h' tk t v' d' ud' h1 h2 F' N' K' => post h' tk _ (i + 1) v' d' ud' (.inl ⟨_, t, rfl, List.getElem?_eq_getElem hl, rfl, h2⟩) h1 F' N' K'
  · have e : i = (MM tx).length := by have := hat.le; omega
    exact char_none B F X T hA hh hf hke (by omega) (by omega) N o1 o2 o3 o4 hx hat e fun h' tk v' d' ud' h1 F' N' K' => post h' tk _ i v' d' ud' (.inr ⟨rfl, e, rfl⟩) h1 F' N' K'
end
namespace Zbis
noncomputable def P (prog : Program) (w : World) (p : Program) (loose : List Str) (mean : ExcName → Option Value) (mg : Str → Option Value) (mb : Str → Option Value) (dp : Nat) (gd : Option (List Code)) (un : Nat) (env : Env) (outer : List Env) (A₀ : Around) (base : Heap) (h₀ : Heap) (L : Addr) (m : Str → Option Value) (s : Shared) (Q : Value → Shared → Prop) (E : Value → Shared → Prop) (g' : Heap) (L' : Addr) (h' : Heap) (tk0 : Nat) (key : Str) (uk : Tok) (ul : Tok) (uh : Tok) (lo : Int) (hi : Int) : Prop := ∀ {fname qual : Str} {params : Arguments} {body : List Stmt} {scope : Scope} {dV kV doc pm cdv fct foc : Value} {fan fod : Option Addr} {fosl : Array (Option Value)} (hl : (Mine.a.heap_1_39 w.params).lookup 178 = some ⟨foc, fod, .func (fnOf fname qual params body scope dV kV doc pm fan cdv fct), fosl⟩) (hd : dp + 1 < recursionLimit) (hu : un + 10 < cLine) (X : (Mine.a.heap_1_39 w.params).In h₀) (T : Top p loose mean mg mb h₀) (h0 : 0 ≤ lo) (h1 : lo ≤ hi) (h2 : hi ≤ 43)
    (KG' : Keeps (([] : List (Addr × Obj)).map (·.1)) s.heap g') (F' : Fr g' L' h' (fun y => (([(Str.ofString "rows", .ref 243), (Str.ofString "key", .str key uk), (Str.ofString "low", .int lo ul), (Str.ofString "high", .int hi uh)] : List (Str × Value)).reverse).lookup y)) (N' : News g' L' h' []) (B' : Below ⟨none, dp, some (env :: outer), gd, un⟩ base (env :: outer) g') (X' : (Mine.a.heap_1_39 w.params).In g') (T' : Top p loose mean mg mb g') (l1 : ∀ q ∈ ([] : List (Addr × Obj)), q.1 < L') (htk0 : 0 < tk0)
    (post : ∀ h' tk r t, r = bisN key (hi - lo).toNat lo hi → Fr h₀ L h' m → News h₀ L h' [] → Keeps [] s.heap h' → Q (.int r t) { s with heap := h', toks := tk }), wpAny (model prog w) (Around.deeper ⟨none, dp, some (env :: outer), gd, un⟩ (envOf qual scope L' 178 cdv)) (execs body (envOf qual scope L' 178 cdv)) (leaveQ h₀ L m g' Q E) (leaveE prog w (Around.deeper ⟨none, dp, some (env :: outer), gd, un⟩ (envOf qual scope L' 178 cdv)) (envOf qual scope L' 178 cdv) E) { s with heap := h', toks := tk0 }
@[irreducible] noncomputable def c0 : Gd × Str × Tok × Tok × Tok × Int × Int := @Classical.epsilon _ (Nonempty.elim Gd.ne fun b => ⟨(b, default, 0, 0, 0, 0, 0)⟩) fun c => ¬ P (c.1.prog) (c.1.w) (c.1.p) (c.1.loose) (c.1.mean) (c.1.mg) (c.1.mb) (c.1.dp) (c.1.gd) (c.1.un) (c.1.env) (c.1.outer) (c.1.A₀) (c.1.base) (c.1.h₀) (c.1.L) (c.1.m) (c.1.s) (c.1.Q) (c.1.E) (c.1.g') (c.1.L') (c.1.h') (c.1.tk0) (c.2.1) (c.2.2.1) (c.2.2.2.1) (c.2.2.2.2.1) (c.2.2.2.2.2.1) (c.2.2.2.2.2.2)
@[irreducible] noncomputable def prog : Program := c0.1.prog
@[irreducible] noncomputable def w : World := c0.1.w
@[irreducible] noncomputable def p : Program := c0.1.p
@[irreducible] noncomputable def loose : List Str := c0.1.loose
@[irreducible] noncomputable def mean : ExcName → Option Value := c0.1.mean
@[irreducible] noncomputable def mg : Str → Option Value := c0.1.mg
@[irreducible] noncomputable def mb : Str → Option Value := c0.1.mb
@[irreducible] noncomputable def dp : Nat := c0.1.dp
@[irreducible] noncomputable def gd : Option (List Code) := c0.1.gd
@[irreducible] noncomputable def un : Nat := c0.1.un
@[irreducible] noncomputable def env : Env := c0.1.env
@[irreducible] noncomputable def outer : List Env := c0.1.outer
@[irreducible] noncomputable def A₀ : Around := c0.1.A₀
@[irreducible] noncomputable def base : Heap := c0.1.base
@[irreducible] noncomputable def h₀ : Heap := c0.1.h₀
@[irreducible] noncomputable def L : Addr := c0.1.L
@[irreducible] noncomputable def m : Str → Option Value := c0.1.m
@[irreducible] noncomputable def s : Shared := c0.1.s
@[irreducible] noncomputable def Q : Value → Shared → Prop := c0.1.Q
@[irreducible] noncomputable def E : Value → Shared → Prop := c0.1.E
@[irreducible] noncomputable def g' : Heap := c0.1.g'
@[irreducible] noncomputable def L' : Addr := c0.1.L'
@[irreducible] noncomputable def h' : Heap := c0.1.h'
@[irreducible] noncomputable def tk0 : Nat := c0.1.tk0
@[irreducible] noncomputable def key : Str := c0.2.1
@[irreducible] noncomputable def uk : Tok := c0.2.2.1
@[irreducible] noncomputable def ul : Tok := c0.2.2.2.1
@[irreducible] noncomputable def uh : Tok := c0.2.2.2.2.1
@[irreducible] noncomputable def lo : Int := c0.2.2.2.2.2.1
@[irreducible] noncomputable def hi : Int := c0.2.2.2.2.2.2
theorem core {fname qual : Str} {params : Arguments} {body : List Stmt} {scope : Scope} {dV kV doc pm cdv fct foc : Value} {fan fod : Option Addr} {fosl : Array (Option Value)} (hl : (Mine.a.heap_1_39 w.params).lookup 178 = some ⟨foc, fod, .func (fnOf fname qual params body scope dV kV doc pm fan cdv fct), fosl⟩) (hd : dp + 1 < recursionLimit) (hu : un + 10 < cLine) (X : (Mine.a.heap_1_39 w.params).In h₀) (T : Top p loose mean mg mb h₀) (h0 : 0 ≤ lo) (h1 : lo ≤ hi) (h2 : hi ≤ 43)
    (KG' : Keeps (([] : List (Addr × Obj)).map (·.1)) s.heap g') (F' : Fr g' L' h' (fun y => (([(Str.ofString "rows", .ref 243), (Str.ofString "key", .str key uk), (Str.ofString "low", .int lo ul), (Str.ofString "high", .int hi uh)] : List (Str × Value)).reverse).lookup y)) (N' : News g' L' h' []) (B' : Below ⟨none, dp, some (env :: outer), gd, un⟩ base (env :: outer) g') (X' : (Mine.a.heap_1_39 w.params).In g') (T' : Top p loose mean mg mb g') (l1 : ∀ q ∈ ([] : List (Addr × Obj)), q.1 < L') (htk0 : 0 < tk0)
    (post : ∀ h' tk r t, r = bisN key (hi - lo).toNat lo hi → Fr h₀ L h' m → News h₀ L h' [] → Keeps [] s.heap h' → Q (.int r t) { s with heap := h', toks := tk }) : wpAny (model prog w) (Around.deeper ⟨none, dp, some (env :: outer), gd, un⟩ (envOf qual scope L' 178 cdv)) (execs body (envOf qual scope L' 178 cdv)) (leaveQ h₀ L m g' Q E) (leaveE prog w (Around.deeper ⟨none, dp, some (env :: outer), gd, un⟩ (envOf qual scope L' 178 cdv)) (envOf qual scope L' 178 cdv) E) { s with heap := h', toks := tk0 } := by
  delta leaveQ leaveE
  refine' seg_inc hl ?hk ?_
  (case hk => k_is)
  rintro rfl rfl rfl rfl
  clear hl
  (try dsimp only)
  (try dsimp only [sdict, tdict, sEnt] at N')
  (try k_lt l1)
  all_goals (have hin9 : InP 3 := rfl)
  k_with "exec While Compare cons nil" => ((with_reducible (rename InP 3 => hin9)); ((with_unfolding_all refine' ksw_while (σ := Int × Int × Tok × Tok) (fun _ => []) (fun c => [(Str.ofString "low", .int c.1 c.2.2.1), (Str.ofString "high", .int c.2.1 c.2.2.2)]) (fun _ => True) [Str.ofString "middle"] (fun c => lo ≤ c.1 ∧ c.1 ≤ c.2.1 ∧ c.2.1 ≤ hi ∧ ∃ f, (c.2.1 - c.1).toNat ≤ f ∧ bisN key f c.1 c.2.1 = bisN key (hi - lo).toNat lo hi) (fun c => (c.2.1 - c.1).toNat) (lo, hi, ul, uh) ?kF News.nil trivial ?kk ?kp ?ht); (case kF => k_asm); (case kk => exact List.forall_mem_cons.mpr ⟨rfl, List.forall_mem_cons.mpr ⟨rfl, List.forall_mem_nil _⟩⟩); (case kp => exact ⟨Int.le_refl _, h1, Int.le_refl _, _, Nat.le_refl _, rfl⟩); (case' ht => (rintro ⟨lo9, hi9, t9, u9⟩ m9 hh9 tk9 _ ⟨p1, p2, p3, f9, p4, p5⟩ kF9 kN9; dsimp only at p1 p2 p3 p4 p5 kF9; (try dsimp only)))))
  k_with "KswEnd" => ((with_reducible (rename InP 3 => hin9)); (refine Halt.out ?_))
  k_steps
  all_goals (try (with_reducible refine Halt.mk ?_))
  all_goals first
    | (refine' ksw_end (_, _, _, _) ?F ?N (List.forall_mem_nil _) trivial ?hk ?hr ?hp ?hm; (case F => k_asm); (case N => k_asm); (case hk => (repeat (first | exact List.forall_mem_nil _ | (refine' all_cons ?zA9 ?_; (case zA9 => with_unfolding_all rfl))))); (case hr => (intro z h2 h3; (simp only [List.forall_mem_cons, List.not_mem_nil, false_implies, implies_true, and_true, ne_eq] at h2); (simp only [List.contains_cons, List.contains_nil, Bool.or_false, Bool.or_eq_false_iff, beq_eq_false_iff_ne, ne_eq] at h3); (simp [h2, h3, kstB]))); (case hm => first | exact bis_um (by assumption) | exact bis_dm (by assumption)); (case hp => first | exact bis_up p1 p2 p3 p4 p5 (by assumption) (by assumption) | exact bis_down p1 p2 p3 p4 p5 (by assumption) (by assumption)))
    | (refine' post _ _ _ _ ?e ?f News.nil ?k; (case f => k_asm); (case k => exact keeps_end KG' (by k_asm)); (case e => exact (bisN_end (by assumption)).symm.trans p5))
theorem all : ∀ c : Gd × Str × Tok × Tok × Tok × Int × Int, P (c.1.prog) (c.1.w) (c.1.p) (c.1.loose) (c.1.mean) (c.1.mg) (c.1.mb) (c.1.dp) (c.1.gd) (c.1.un) (c.1.env) (c.1.outer) (c.1.A₀) (c.1.base) (c.1.h₀) (c.1.L) (c.1.m) (c.1.s) (c.1.Q) (c.1.E) (c.1.g') (c.1.L') (c.1.h') (c.1.tk0) (c.2.1) (c.2.2.1) (c.2.2.2.1) (c.2.2.2.2.1) (c.2.2.2.2.2.1) (c.2.2.2.2.2.2) := by with_unfolding_all exact eps_all (Nonempty.elim Gd.ne fun b => ⟨(b, default, 0, 0, 0, 0, 0)⟩) (P := fun c : Gd × Str × Tok × Tok × Tok × Int × Int => P (c.1.prog) (c.1.w) (c.1.p) (c.1.loose) (c.1.mean) (c.1.mg) (c.1.mb) (c.1.dp) (c.1.gd) (c.1.un) (c.1.env) (c.1.outer) (c.1.A₀) (c.1.base) (c.1.h₀) (c.1.L) (c.1.m) (c.1.s) (c.1.Q) (c.1.E) (c.1.g') (c.1.L') (c.1.h') (c.1.tk0) (c.2.1) (c.2.2.1) (c.2.2.2.1) (c.2.2.2.2.1) (c.2.2.2.2.2.1) (c.2.2.2.2.2.2)) @core
end Zbis
theorem bis {prog : Program} {w : World} {p : Program} {loose : List Str} {mean : ExcName → Option Value} {mg mb : Str → Option Value}
    {A : Around} {env : Env} {outer : List Env} {A₀ : Around} {base h₀ : Heap} {L : Addr} {m : Str → Option Value} {s : Shared} {Q E : Value → Shared → Prop}
    {key : Str} {uk ul uh : Tok} {lo hi : Int}
    (B : Below A₀ base outer h₀) (F : Fr h₀ L s.heap m) (X : (Mine.a.heap_1_39 w.params).In h₀) (T : Top p loose mean mg mb h₀) (hA : A.frames = some (env :: outer)) (hh : A.handled = none) (hf : env.frame = some L) (hke : env.scope.kind = .function)
    (hd : A.depth + 1 < recursionLimit) (hu : A.units + 10 < cLine) (N : News h₀ L s.heap [])
    (h0 : 0 ≤ lo) (h1 : lo ≤ hi) (h2 : hi ≤ 43)
    (post : ∀ h' tk r t, r = bisN key (hi - lo).toNat lo hi → Fr h₀ L h' m → News h₀ L h' [] → Keeps [] s.heap h' → Q (.int r t) { s with heap := h', toks := tk }) : wpAny (model prog w) A (call (.ref 178) [.ref 243, .str key uk, .int lo ul, .int hi uh]) Q E s := by
  obtain ⟨hn, dp, fr, gd, un⟩ := A
  obtain rfl : fr = some (env :: outer) := hA
  obtain rfl : hn = none := hh
  dsimp only at hd hu
  refine' call_small (binds := [(Str.ofString "rows", .ref 243), (Str.ofString "key", .str key uk), (Str.ofString "low", .int lo ul), (Str.ofString "high", .int hi uh)]) B F X N T rfl hf hke ?k6 ?k7 ?k8 ?k9 ?kB ?_ ?c2 ?c3 ?c4 ?c5
  (case k6 => k_is)
  (case k7 => k_is)
  (case k8 => k_room)
  (case k9 => first | exact BindsTo.of_eq rfl | exact binds_K (by k_in) rfl (by k_is) rfl rfl rfl)
  (case kB => exact locs rfl)
  (case c2 => exact rfl)
  (case c3 => exact rfl)
  (case c4 => exact rfl)
  (case c5 => decide)
  intro g' L' h' KG' FG' F' N' B' X' T' l1
  exact Zbis.all ⟨⟨prog, w, p, loose, mean, mg, mb, dp, gd, un, env, outer, A₀, base, h₀, L, m, s, Q, E, g', L', h', s.toks + List.length ([(Str.ofString "rows", .ref 243), (Str.ofString "key", .str key uk), (Str.ofString "low", .int lo ul), (Str.ofString "high", .int hi uh)] : List (Str × Value))⟩, key, uk, ul, uh, lo, hi⟩ (by k_is) hd hu X T h0 h1 h2 KG' F' N' B' X' T' l1 pos_len post
theorem lines_T2_1 : True := by
  (k_with "call ref" => safely ((k_here; (with_reducible show wpAny _ _ (call (Value.ref 178) _ _) _ _ _); (refine with_toks ?_); k_dflt (refine' bis  ?quBQ ?quFQ ?quXQ ?quTQ ?quAQ ?quhQ ?qufQ ?qukQ ?qudQ ?quuQ ?quNQ ?qo1Q ?qo2Q ?qo3Q ?_; (case quAQ => exact rfl); (case quhQ => exact rfl); (case qufQ => exact rfl); (case qukQ => exact rfl); (case quBQ => k_asm); (case quFQ => k_asm); (case quXQ => k_asm); (case quTQ => k_asm); (case quNQ => exact news_sub (by k_asm) (by (repeat (first | exact List.forall_mem_nil _ | (refine' sub_cons ?qzA9Q ?_; (case qzA9Q => k_mem)))))); (case qudQ => k_room); (case quuQ => k_units); (case qo1Q => omega); (case qo2Q => omega); (case qo3Q => omega); k_whole; intro h9Qq tk9Qq r9Qq t9Qq hr9Qq F9Qq N9Qq K9Qq; intro ht9Qq; (have N9pQq := news_nextc (by k_asm) K9Qq N9Qq (by (repeat (first | exact Rest.nil | exact Rest.none | (refine Rest.own (by assumption) ?_; (repeat (first | exact List.forall_mem_nil _ | (refine' sub_cons ?qzA9Q ?_; (case qzA9Q => k_mem))))) | (apply Rest.skip; (focus first | exact mem_0 | exact mem_1 | exact mem_2 | exact mem_3 | exact mem_4 | exact mem_5 | exact mem_6)) | (apply Rest.keep; (focus k_all))))) (by first | exact Cat.nil | exact (Cat.cons Cat.nil) | exact (Cat.cons (Cat.cons Cat.nil)) | exact (Cat.cons (Cat.cons (Cat.cons Cat.nil))) | exact (Cat.cons (Cat.cons (Cat.cons (Cat.cons Cat.nil)))) | exact (Cat.cons (Cat.cons (Cat.cons (Cat.cons (Cat.cons Cat.nil))))) | exact (Cat.cons (Cat.cons (Cat.cons (Cat.cons (Cat.cons (Cat.cons Cat.nil)))))) | exact (Cat.cons (Cat.cons (Cat.cons (Cat.cons (Cat.cons (Cat.cons (Cat.cons Cat.nil))))))) | exact (Cat.cons (Cat.cons (Cat.cons (Cat.cons (Cat.cons (Cat.cons (Cat.cons (Cat.cons Cat.nil)))))))))); clear N9Qq K9Qq; (try dsimp only at ht9Qq); (try k_sweep); (have hb9Qq := hr9Qq ▸ bis_rng (by omega))))))
  trivial
namespace Zhk_spec
noncomputable def P (prog : Program) (w : World) (p : Program) (loose : List Str) (mean : ExcName → Option Value) (mg : Str → Option Value) (mb : Str → Option Value) (dp : Nat) (gd : Option (List Code)) (un : Nat) (env : Env) (outer : List Env) (A₀ : Around) (base : Heap) (h₀ : Heap) (L : Addr) (m : Str → Option Value) (s : Shared) (Q : Value → Shared → Prop) (E : Value → Shared → Prop) (g' : Heap) (L' : Addr) (h' : Heap) (tk0 : Nat) (pre : Str) (up : Tok) : Prop := ∀ {fname qual : Str} {params : Arguments} {body : List Stmt} {scope : Scope} {dV kV doc pm cdv fct foc : Value} {fan fod : Option Addr} {fosl : Array (Option Value)} (hl : (Mine.a.heap_1_39 w.params).lookup 220 = some ⟨foc, fod, .func (fnOf fname qual params body scope dV kV doc pm fan cdv fct), fosl⟩) (hd : dp + 3 < recursionLimit) (hu : un + 30 < cLine) (X : (Mine.a.heap_1_39 w.params).In h₀) (T : Top p loose mean mg mb h₀) (h1 : pre.length < 1000)
    (KG' : Keeps (([] : List (Addr × Obj)).map (·.1)) s.heap g') (F' : Fr g' L' h' (fun y => (([(Str.ofString "self", .ref 236), (Str.ofString "prefix", .str pre up)] : List (Str × Value)).reverse).lookup y)) (N' : News g' L' h' []) (B' : Below ⟨none, dp, some (env :: outer), gd, un⟩ base (env :: outer) g') (X' : (Mine.a.heap_1_39 w.params).In g') (T' : Top p loose mean mg mb g') (l1 : ∀ q ∈ ([] : List (Addr × Obj)), q.1 < L') (htk0 : 0 < tk0)
    (post : ∀ h' tk b, b = hasK pre → Fr h₀ L h' m → News h₀ L h' [] → Keeps [] s.heap h' → Q (.bool b) { s with heap := h', toks := tk }), wpAny (model prog w) (Around.deeper ⟨none, dp, some (env :: outer), gd, un⟩ (envOf qual scope L' 220 cdv)) (execs body (envOf qual scope L' 220 cdv)) (leaveQ h₀ L m g' Q E) (leaveE prog w (Around.deeper ⟨none, dp, some (env :: outer), gd, un⟩ (envOf qual scope L' 220 cdv)) (envOf qual scope L' 220 cdv) E) { s with heap := h', toks := tk0 }
@[irreducible] noncomputable def c0 : Gd × Str × Tok := @Classical.epsilon _ (Nonempty.elim Gd.ne fun b => ⟨(b, default, 0)⟩) fun c => ¬ P (c.1.prog) (c.1.w) (c.1.p) (c.1.loose) (c.1.mean) (c.1.mg) (c.1.mb) (c.1.dp) (c.1.gd) (c.1.un) (c.1.env) (c.1.outer) (c.1.A₀) (c.1.base) (c.1.h₀) (c.1.L) (c.1.m) (c.1.s) (c.1.Q) (c.1.E) (c.1.g') (c.1.L') (c.1.h') (c.1.tk0) (c.2.1) (c.2.2)
@[irreducible] noncomputable def prog : Program := c0.1.prog
@[irreducible] noncomputable def w : World := c0.1.w
@[irreducible] noncomputable def p : Program := c0.1.p
@[irreducible] noncomputable def loose : List Str := c0.1.loose
@[irreducible] noncomputable def mean : ExcName → Option Value := c0.1.mean
@[irreducible] noncomputable def mg : Str → Option Value := c0.1.mg
@[irreducible] noncomputable def mb : Str → Option Value := c0.1.mb
@[irreducible] noncomputable def dp : Nat := c0.1.dp
@[irreducible] noncomputable def gd : Option (List Code) := c0.1.gd
@[irreducible] noncomputable def un : Nat := c0.1.un
@[irreducible] noncomputable def env : Env := c0.1.env
@[irreducible] noncomputable def outer : List Env := c0.1.outer
@[irreducible] noncomputable def A₀ : Around := c0.1.A₀
@[irreducible] noncomputable def base : Heap := c0.1.base
@[irreducible] noncomputable def h₀ : Heap := c0.1.h₀
@[irreducible] noncomputable def L : Addr := c0.1.L
@[irreducible] noncomputable def m : Str → Option Value := c0.1.m
@[irreducible] noncomputable def s : Shared := c0.1.s
@[irreducible] noncomputable def Q : Value → Shared → Prop := c0.1.Q
@[irreducible] noncomputable def E : Value → Shared → Prop := c0.1.E
@[irreducible] noncomputable def g' : Heap := c0.1.g'
@[irreducible] noncomputable def L' : Addr := c0.1.L'
@[irreducible] noncomputable def h' : Heap := c0.1.h'
@[irreducible] noncomputable def tk0 : Nat := c0.1.tk0
@[irreducible] noncomputable def pre : Str := c0.2.1
@[irreducible] noncomputable def up : Tok := c0.2.2
theorem core {fname qual : Str} {params : Arguments} {body : List Stmt} {scope : Scope} {dV kV doc pm cdv fct foc : Value} {fan fod : Option Addr} {fosl : Array (Option Value)} (hl : (Mine.a.heap_1_39 w.params).lookup 220 = some ⟨foc, fod, .func (fnOf fname qual params body scope dV kV doc pm fan cdv fct), fosl⟩) (hd : dp + 3 < recursionLimit) (hu : un + 30 < cLine) (X : (Mine.a.heap_1_39 w.params).In h₀) (T : Top p loose mean mg mb h₀) (h1 : pre.length < 1000)
    (KG' : Keeps (([] : List (Addr × Obj)).map (·.1)) s.heap g') (F' : Fr g' L' h' (fun y => (([(Str.ofString "self", .ref 236), (Str.ofString "prefix", .str pre up)] : List (Str × Value)).reverse).lookup y)) (N' : News g' L' h' []) (B' : Below ⟨none, dp, some (env :: outer), gd, un⟩ base (env :: outer) g') (X' : (Mine.a.heap_1_39 w.params).In g') (T' : Top p loose mean mg mb g') (l1 : ∀ q ∈ ([] : List (Addr × Obj)), q.1 < L') (htk0 : 0 < tk0)
    (post : ∀ h' tk b, b = hasK pre → Fr h₀ L h' m → News h₀ L h' [] → Keeps [] s.heap h' → Q (.bool b) { s with heap := h', toks := tk }) : wpAny (model prog w) (Around.deeper ⟨none, dp, some (env :: outer), gd, un⟩ (envOf qual scope L' 220 cdv)) (execs body (envOf qual scope L' 220 cdv)) (leaveQ h₀ L m g' Q E) (leaveE prog w (Around.deeper ⟨none, dp, some (env :: outer), gd, un⟩ (envOf qual scope L' 220 cdv)) (envOf qual scope L' 220 cdv) E) { s with heap := h', toks := tk0 } := by
  delta leaveQ leaveE
  refine' seg_inc hl ?hk ?_
  (case hk => k_is)
  rintro rfl rfl rfl rfl
  clear hl
  (try dsimp only)
  (try dsimp only [sdict, tdict, sEnt] at N')
  (try k_lt l1)
  k_steps
  all_goals (refine' post _ _ _ ?e ?f News.nil ?k; (case f => k_asm); (case k => exact keeps_end KG' (by k_asm)); (case e => first | exact hasK_1 (by assumption) | exact hasK_2 (by assumption) (by assumption) (by assumption) | exact hasK_3 (by assumption) (by assumption) (by assumption)))
theorem all : ∀ c : Gd × Str × Tok, P (c.1.prog) (c.1.w) (c.1.p) (c.1.loose) (c.1.mean) (c.1.mg) (c.1.mb) (c.1.dp) (c.1.gd) (c.1.un) (c.1.env) (c.1.outer) (c.1.A₀) (c.1.base) (c.1.h₀) (c.1.L) (c.1.m) (c.1.s) (c.1.Q) (c.1.E) (c.1.g') (c.1.L') (c.1.h') (c.1.tk0) (c.2.1) (c.2.2) := by with_unfolding_all exact eps_all (Nonempty.elim Gd.ne fun b => ⟨(b, default, 0)⟩) (P := fun c : Gd × Str × Tok => P (c.1.prog) (c.1.w) (c.1.p) (c.1.loose) (c.1.mean) (c.1.mg) (c.1.mb) (c.1.dp) (c.1.gd) (c.1.un) (c.1.env) (c.1.outer) (c.1.A₀) (c.1.base) (c.1.h₀) (c.1.L) (c.1.m) (c.1.s) (c.1.Q) (c.1.E) (c.1.g') (c.1.L') (c.1.h') (c.1.tk0) (c.2.1) (c.2.2)) @core
end Zhk_spec
theorem hk_spec {prog : Program} {w : World} {p : Program} {loose : List Str} {mean : ExcName → Option Value} {mg mb : Str → Option Value}
    {A : Around} {env : Env} {outer : List Env} {A₀ : Around} {base h₀ : Heap} {L : Addr} {m : Str → Option Value} {s : Shared} {Q E : Value → Shared → Prop}
    {pre : Str} {up : Tok}
    (B : Below A₀ base outer h₀) (F : Fr h₀ L s.heap m) (X : (Mine.a.heap_1_39 w.params).In h₀) (T : Top p loose mean mg mb h₀) (hA : A.frames = some (env :: outer)) (hh : A.handled = none) (hf : env.frame = some L) (hke : env.scope.kind = .function)
    (hd : A.depth + 3 < recursionLimit) (hu : A.units + 30 < cLine) (N : News h₀ L s.heap [])
    (h1 : pre.length < 1000)
    (post : ∀ h' tk b, b = hasK pre → Fr h₀ L h' m → News h₀ L h' [] → Keeps [] s.heap h' → Q (.bool b) { s with heap := h', toks := tk }) : wpAny (model prog w) A (call (.ref 220) [.ref 236, .str pre up]) Q E s := by
  obtain ⟨hn, dp, fr, gd, un⟩ := A
  obtain rfl : fr = some (env :: outer) := hA
  obtain rfl : hn = none := hh
  dsimp only at hd hu
  refine' call_small (binds := [(Str.ofString "self", .ref 236), (Str.ofString "prefix", .str pre up)]) B F X N T rfl hf hke ?k6 ?k7 ?k8 ?k9 ?kB ?_ ?c2 ?c3 ?c4 ?c5
  (case k6 => k_is)
  (case k7 => k_is)
  (case k8 => k_room)
  (case k9 => first | exact BindsTo.of_eq rfl | exact binds_K (by k_in) rfl (by k_is) rfl rfl rfl)
  (case kB => exact locs rfl)
  (case c2 => exact rfl)
  (case c3 => exact rfl)
  (case c4 => exact rfl)
  (case c5 => decide)
  intro g' L' h' KG' FG' F' N' B' X' T' l1
  exact Zhk_spec.all ⟨⟨prog, w, p, loose, mean, mg, mb, dp, gd, un, env, outer, A₀, base, h₀, L, m, s, Q, E, g', L', h', s.toks + List.length ([(Str.ofString "self", .ref 236), (Str.ofString "prefix", .str pre up)] : List (Str × Value))⟩, pre, up⟩ (by k_is) hd hu X T h1 KG' F' N' B' X' T' l1 pos_len post
theorem in_spec {prog : Program} {w : World} {p : Program} {loose : List Str} {mean : ExcName → Option Value} {mg mb : Str → Option Value}
    {A : Around} {env : Env} {outer : List Env} {A₀ : Around} {base h₀ : Heap} {L : Addr} {m : Str → Option Value} {s : Shared} {Q E : Value → Shared → Prop}
    {pre : Str} {up : Tok}
    (B : Below A₀ base outer h₀) (F : Fr h₀ L s.heap m) (X : (Mine.a.heap_1_39 w.params).In h₀) (T : Top p loose mean mg mb h₀) (hA : A.frames = some (env :: outer)) (hh : A.handled = none) (hf : env.frame = some L) (hke : env.scope.kind = .function)
    (hd : A.depth + 1 < recursionLimit) (hu : A.units + 10 < cLine) (N : News h₀ L s.heap [])
    
    (post : ∀ h' tk b, b = inE pre → Fr h₀ L h' m → News h₀ L h' [] → Keeps [] s.heap h' → Q (.bool b) { s with heap := h', toks := tk }) : wpAny (model prog w) A (call (.ref 199) [.ref 236, .str pre up]) Q E s := by
  obtain ⟨hn, dp, fr, gd, un⟩ := A
  obtain rfl : fr = some (env :: outer) := hA
  obtain rfl : hn = none := hh
  dsimp only at hd hu
  refine' call_small (binds := [(Str.ofString "self", .ref 236), (Str.ofString "key", .str pre up)]) B F X N T rfl hf hke ?k6 ?k7 ?k8 ?k9 ?kB ?_ ?c2 ?c3 ?c4 ?c5
  (case k6 => k_is)
  (case k7 => k_is)
  (case k8 => k_room)
  (case k9 => first | exact BindsTo.of_eq rfl | exact binds_K (by k_in) rfl (by k_is) rfl rfl rfl)
  (case kB => exact locs rfl)
  (case c2 => exact rfl)
  (case c3 => exact rfl)
  (case c4 => exact rfl)
  (case c5 => decide)
  intro g' L' h' KG' FG' F' N' B' X' T' l1
  clear B F N hf hke FG'
  (try dsimp only)
  (try dsimp only [sdict, tdict, sEnt] at N')
  (try k_lt l1)
  (have htk0 : 0 < s.toks + List.length ([(Str.ofString "self", .ref 236), (Str.ofString "key", .str pre up)] : List (Str × Value)) := pos_len)
  (generalize (s.toks + List.length _) = tk0 at htk0 ⊢)
  k_steps
  all_goals (refine' post _ _ _ ?e ?f News.nil ?k; (case f => k_asm); (case k => exact keeps_end KG' (by k_asm)); (case e => rfl))
section
local macro_rules | `(tactic| omega) => `(tactic| lia)
local macro_rules | `(tactic| omega) => `(tactic| k_extra "om")
theorem lines_T3_1 : True := by
  (k_with "call ref" => safely ((k_here; (with_reducible show wpAny _ _ (call (Value.ref 220) _ _) _ _ _); (refine with_toks ?_); k_dflt (refine' hk_spec  ?quBQ ?quFQ ?quXQ ?quTQ ?quAQ ?quhQ ?qufQ ?qukQ ?qudQ ?quuQ ?quNQ ?qo1Q ?_; (case quAQ => exact rfl); (case quhQ => exact rfl); (case qufQ => exact rfl); (case qukQ => exact rfl); (case quBQ => k_asm); (case quFQ => k_asm); (case quXQ => k_asm); (case quTQ => k_asm); (case quNQ => exact news_sub (by k_asm) (by (repeat (first | exact List.forall_mem_nil _ | (refine' sub_cons ?qzA9Q ?_; (case qzA9Q => k_mem)))))); (case qudQ => k_room); (case quuQ => k_units); (case qo1Q => omega); k_whole; intro h9Qq tk9Qq b9Qq hb9Qq F9Qq N9Qq K9Qq; intro ht9Qq; (have N9pQq := news_nextc (by k_asm) K9Qq N9Qq (by (repeat (first | exact Rest.nil | exact Rest.none | (refine Rest.own (by assumption) ?_; (repeat (first | exact List.forall_mem_nil _ | (refine' sub_cons ?qzA9Q ?_; (case qzA9Q => k_mem))))) | (apply Rest.skip; (focus first | exact mem_0 | exact mem_1 | exact mem_2 | exact mem_3 | exact mem_4 | exact mem_5 | exact mem_6)) | (apply Rest.keep; (focus k_all))))) (by first | exact Cat.nil | exact (Cat.cons Cat.nil) | exact (Cat.cons (Cat.cons Cat.nil)) | exact (Cat.cons (Cat.cons (Cat.cons Cat.nil))) | exact (Cat.cons (Cat.cons (Cat.cons (Cat.cons Cat.nil)))) | exact (Cat.cons (Cat.cons (Cat.cons (Cat.cons (Cat.cons Cat.nil))))) | exact (Cat.cons (Cat.cons (Cat.cons (Cat.cons (Cat.cons (Cat.cons Cat.nil)))))) | exact (Cat.cons (Cat.cons (Cat.cons (Cat.cons (Cat.cons (Cat.cons (Cat.cons Cat.nil))))))) | exact (Cat.cons (Cat.cons (Cat.cons (Cat.cons (Cat.cons (Cat.cons (Cat.cons (Cat.cons Cat.nil)))))))))); clear N9Qq K9Qq; (try dsimp only at ht9Qq); (try k_sweep); (subst hb9Qq)))))
  (k_with "call ref" => safely ((k_here; (with_reducible show wpAny _ _ (call (Value.ref 199) _ _) _ _ _); (refine with_toks ?_); k_dflt (refine' in_spec  ?quBQ ?quFQ ?quXQ ?quTQ ?quAQ ?quhQ ?qufQ ?qukQ ?qudQ ?quuQ ?quNQ  ?_; (case quAQ => exact rfl); (case quhQ => exact rfl); (case qufQ => exact rfl); (case qukQ => exact rfl); (case quBQ => k_asm); (case quFQ => k_asm); (case quXQ => k_asm); (case quTQ => k_asm); (case quNQ => exact news_sub (by k_asm) (by (repeat (first | exact List.forall_mem_nil _ | (refine' sub_cons ?qzA9Q ?_; (case qzA9Q => k_mem)))))); (case qudQ => k_room); (case quuQ => k_units);  k_whole; intro h9Qq tk9Qq b9Qq hb9Qq F9Qq N9Qq K9Qq; intro ht9Qq; (have N9pQq := news_nextc (by k_asm) K9Qq N9Qq (by (repeat (first | exact Rest.nil | exact Rest.none | (refine Rest.own (by assumption) ?_; (repeat (first | exact List.forall_mem_nil _ | (refine' sub_cons ?qzA9Q ?_; (case qzA9Q => k_mem))))) | (apply Rest.skip; (focus first | exact mem_0 | exact mem_1 | exact mem_2 | exact mem_3 | exact mem_4 | exact mem_5 | exact mem_6)) | (apply Rest.keep; (focus k_all))))) (by first | exact Cat.nil | exact (Cat.cons Cat.nil) | exact (Cat.cons (Cat.cons Cat.nil)) | exact (Cat.cons (Cat.cons (Cat.cons Cat.nil))) | exact (Cat.cons (Cat.cons (Cat.cons (Cat.cons Cat.nil)))) | exact (Cat.cons (Cat.cons (Cat.cons (Cat.cons (Cat.cons Cat.nil))))) | exact (Cat.cons (Cat.cons (Cat.cons (Cat.cons (Cat.cons (Cat.cons Cat.nil)))))) | exact (Cat.cons (Cat.cons (Cat.cons (Cat.cons (Cat.cons (Cat.cons (Cat.cons Cat.nil))))))) | exact (Cat.cons (Cat.cons (Cat.cons (Cat.cons (Cat.cons (Cat.cons (Cat.cons (Cat.cons Cat.nil)))))))))); clear N9Qq K9Qq; (try dsimp only at ht9Qq); (try k_sweep); (subst hb9Qq)))))
  trivial
noncomputable def Hold (P : Prop) : Prop := P
theorem lp_first {x : Str} (h : inE x = false) : lpF x.cps.toList x.length = lpF x.cps.toList (x.length - 0 - 1) := by
  cases hn : x.length with
  | zero => rfl
  | succ n =>
    have hl := len_list x
    rw [lpF, if_neg fun q => ?_]
    · rfl
    · rw [List.take_of_length_le (by omega)] at q
      rw [mem_nL.mpr q] at h; cases h
theorem lp_cut {x : Str} {k : Int} (h0 : 1 ≤ k) (h1 : k ≤ x.length) : Txt.slice x none (some (-k)) = ⟨(x.cps.toList.take (x.length - k.toNat)).toArray⟩ := by
  have := slice_to_neg (x := x) (k := k.toNat) (by omega) (by omega)
  rw [show ((k.toNat : Nat) : Int) = k by omega] at this
  exact this
theorem lp_hit {x y : Str} {k : Int} {n : Nat} {o : Option (List Nat)} (hp : o = lpF x.cps.toList (x.length - n - 1)) (e : k = 1 + (n : Int)) (h1 : n < x.length) (hy : inE (Txt.slice x none (some (-k))) = true) (ho : o = some y.cps.toList) : Txt.slice x none (some (-k)) = y := by
  have hn := mem_nL.mp hy
  rw [lp_cut (by omega) (by omega), show k.toNat = n + 1 by omega] at hn ⊢
  have hn' : x.cps.toList.take (x.length - (n + 1)) ∈ nL := hn
  have h2 : x.length - (n + 1) ≠ 0 := fun q => by rw [q, List.take_zero] at hn'; exact nil_nL hn'
  obtain ⟨j, hj⟩ : ∃ j, x.length - (n + 1) = j + 1 := ⟨x.length - (n + 1) - 1, (Nat.sub_one_add_one h2).symm⟩
  rw [show x.length - n - 1 = x.length - (n + 1) by omega] at hp
  rw [hj] at hp hn' ⊢
  rw [lpF, if_pos hn', ho] at hp
  exact str_eq (Option.some.inj hp).symm
theorem lp_whole {x y : Str} (h : inE x = true) (hy : lpF x.cps.toList x.length = some y.cps.toList) : x = y := by
  have hl := len_list x
  have hn := mem_nL.mp h
  cases q : x.length with
  | zero => rw [q] at hl; rw [List.eq_nil_of_length_eq_zero hl] at hn; exact absurd hn nil_nL
  | succ n =>
    rw [q, lpF, List.take_of_length_le (by omega), if_pos hn] at hy
    exact str_eq (Option.some.inj hy)
theorem lp_over {x : Str} {n : Nat} {o : Option (List Nat)} (hp : o = lpF x.cps.toList (x.length - (rangeKs 1 n).length - 1)) (hn : x.length ≤ n) : o = none := by
  rw [rangeKs_length, show x.length - n - 1 = 0 by omega] at hp
  exact hp
theorem lp_not {x y : Str} {n : Nat} {o : Option (List Nat)} (hp : o = lpF x.cps.toList (x.length - (rangeKs 1 n).length - 1)) (hn : x.length ≤ n) (hy : o = some y.cps.toList) : False := by
  rw [lp_over hp hn] at hy; cases hy
theorem lp_no1 {x : Str} (h : inE x = true) (hy : lpF x.cps.toList x.length = none) : False := by
  have hl := len_list x
  have hn := mem_nL.mp h
  have h0 : x.length ≠ 0 := fun q => by rw [q] at hl; rw [List.eq_nil_of_length_eq_zero hl] at hn; exact nil_nL hn
  exact lpF_none hy x.length (by omega) (Nat.le_refl _) (by rw [List.take_of_length_le (by omega)]; exact hn)
theorem lp_no2 {x : Str} {k : Int} {n : Nat} (e : k = 1 + (n : Int)) (h1 : n < x.length) (hy : inE (Txt.slice x none (some (-k))) = true) (h : lpF x.cps.toList x.length = none) : False := by
  have hn := mem_nL.mp hy
  rw [lp_cut (by omega) (by omega), show k.toNat = n + 1 by omega] at hn
  have hn' : x.cps.toList.take (x.length - (n + 1)) ∈ nL := hn
  have h2 : x.length - (n + 1) ≠ 0 := fun q => by rw [q, List.take_zero] at hn'; exact nil_nL hn'
  exact lpF_none h _ (by omega) (by omega) hn'
theorem lp_miss {x : Str} {k : Int} {n : Nat} {o : Option (List Nat)} (hp : o = lpF x.cps.toList (x.length - n - 1)) (e : k = 1 + (n : Int)) (h1 : n < x.length) (hy : inE (Txt.slice x none (some (-k))) = false) : o = lpF x.cps.toList (x.length - (n + 1) - 1) := by
  rw [hp, show x.length - n - 1 = x.length - (n + 1) by omega]
  cases hj : x.length - (n + 1) with
  | zero => rfl
  | succ j =>
    rw [lpF, if_neg fun q => ?_]
    · rfl
    · have : inE (Txt.slice x none (some (-k))) = true := by
        rw [mem_nL, lp_cut (by omega) (by omega), show k.toNat = n + 1 by omega, hj]
        exact q
      rw [hy] at this; cases this
theorem lp_some {prog : Program} {w : World} {p : Program} {loose : List Str} {mean : ExcName → Option Value} {mg mb : Str → Option Value}
    {A : Around} {env : Env} {outer : List Env} {A₀ : Around} {base h₀ : Heap} {L : Addr} {m : Str → Option Value} {s : Shared} {Q E : Value → Shared → Prop}
    {x y : Str} {ux : Tok}
    (B : Below A₀ base outer h₀) (F : Fr h₀ L s.heap m) (X : (Mine.a.heap_1_39 w.params).In h₀) (T : Top p loose mean mg mb h₀) (hA : A.frames = some (env :: outer)) (hh : A.handled = none) (hf : env.frame = some L) (hke : env.scope.kind = .function)
    (hd : A.depth + 4 < recursionLimit) (hu : A.units + 30 < cLine) (N : News h₀ L s.heap [])
    (hx : x.length < 1000) (hy : lpF x.cps.toList x.length = some y.cps.toList)
    (post : ∀ h' tk y' t', y' = y → Fr h₀ L h' m → News h₀ L h' [] → Keeps [] s.heap h' → Q (.str y' t') { s with heap := h', toks := tk }) : wpAny (model prog w) A (call (.ref 227) [.ref 236, .str x ux]) Q E s := by
  obtain ⟨hn, dp, fr, gd, un⟩ := A
  obtain rfl : fr = some (env :: outer) := hA
  obtain rfl : hn = none := hh
  dsimp only at hd hu
  refine' call_small (binds := [(Str.ofString "self", .ref 236), (Str.ofString "prefix", .str x ux)]) B F X N T rfl hf hke ?k6 ?k7 ?k8 ?k9 ?kB ?_ ?c2 ?c3 ?c4 ?c5
  (case k6 => k_is)
  (case k7 => k_is)
  (case k8 => k_room)
  (case k9 => first | exact BindsTo.of_eq rfl | exact binds_K (by k_in) rfl (by k_is) rfl rfl rfl)
  (case kB => exact locs rfl)
  (case c2 => exact rfl)
  (case c3 => exact rfl)
  (case c4 => exact rfl)
  (case c5 => decide)
  intro g' L' h' KG' FG' F' N' B' X' T' l1
  clear B F N hf hke FG'
  (try dsimp only)
  (try dsimp only [sdict, tdict, sEnt] at N')
  (try k_lt l1)
  (have htk0 : 0 < s.toks + List.length ([(Str.ofString "self", .ref 236), (Str.ofString "prefix", .str x ux)] : List (Str × Value)) := pos_len)
  (generalize (s.toks + List.length _) = tk0 at htk0 ⊢)
  (try k_fold)
  all_goals (have hin9 : InP 4 := rfl)
  k_with "pyIter ref" => ((with_reducible (rename InP 4 => hin9)); ((rename Fr _ _ _ _ => lF'); (rename News _ _ _ _ => lN'); (rename IsRange _ _ _ _ _ _ _ _ => rgX); (with_unfolding_all refine' kst_range (σ := Unit) (fun _ => []) (fun _ => []) (fun _ => True) [] (fun pre _ => lpF x.cps.toList x.length = lpF x.cps.toList (x.length - pre.length - 1)) () (by rfl) rgX (by first | exact small_one (by omega) (by omega) (by omega) (by omega) | decide) (by first | exact rangeSize_nat _ _ | rfl) lF' ?kn trivial ?kk ?kp ?ht ?hz); (case kn => (with_unfolding_all exact lN')); (case kk => exact List.forall_mem_nil _); (case kp => with_unfolding_all exact lp_first (by assumption)); (clear lF' lN' rgX); (case' ht => (intro c9 pre9 k9 t9 u9 h9 tk9 own9 hk9 hp9 hOff9 _ hP9 kF9 kN9; simp only [List.nil_append] at kN9; (try k_fold))); (case' hz => (intro c9 u9 h9 tk9 _ hP9 kF9 kN9; (exact (lp_not hP9 (by omega) (by assumption)).elim); (try k_fold)))))
  k_with "InvEndN" => ((with_reducible (rename InP 4 => hin9)); (refine Halt.out ?_))
  k_steps
  all_goals (try (with_reducible refine Halt.mk ?_))
  all_goals first
    | (refine' kst_end () ?yF ?yN ?yhn ?yho rfl trivial (List.forall_mem_nil _) ?yr ?yp; (case yF => k_asm); (case yN => k_asm); (case yhn => first | exact List.forall_mem_nil _ | exact fun _ h => List.mem_append_left _ h); (case yho => first | exact fun _ h => h | exact fun _ h => List.mem_append_right _ h); (case yr => (intro z h1 _ _; simp [h1, kstB])); (case yp => (rw [List.length_append]; exact lp_miss (by assumption) (by assumption) (by omega) (by assumption))))
    | (refine' post _ _ _ _ ?e ?f News.nil ?k; (case f => k_asm); (case k => exact keeps_end KG' (by k_asm)); (case e => first | exact lp_whole (by assumption) hy | exact lp_hit hP9 (by assumption) (by omega) (by assumption) hy))
theorem lp_none {prog : Program} {w : World} {p : Program} {loose : List Str} {mean : ExcName → Option Value} {mg mb : Str → Option Value}
    {A : Around} {env : Env} {outer : List Env} {A₀ : Around} {base h₀ : Heap} {L : Addr} {m : Str → Option Value} {s : Shared} {Q E : Value → Shared → Prop}
    {x : Str} {ux : Tok} {news : List (Addr × Obj)}
    (B : Below A₀ base outer h₀) (F : Fr h₀ L s.heap m) (X : (Mine.a.heap_1_39 w.params).In h₀) (T : Top p loose mean mg mb h₀) (hA : A.frames = some (env :: outer)) (hh : A.handled = none) (hf : env.frame = some L) (hke : env.scope.kind = .function)
    (hd : A.depth + 4 < recursionLimit) (hu : A.units + 30 < cLine) (N : News h₀ L s.heap news)
    (hx : x.length < 1000) (hy : lpF x.cps.toList x.length = none)
    (post : ∀ G h' tk (e : Addr), Fr h₀ L G m → RaisedSN base G (env :: outer) e (.type "KeyError") news h' → G.UpToSlots h' → E (.ref e) { s with heap := h', toks := tk }) : wpAny (model prog w) A (call (.ref 227) [.ref 236, .str x ux]) Q E s := by
  obtain ⟨hn, dp, fr, gd, un⟩ := A
  obtain rfl : fr = some (env :: outer) := hA
  obtain rfl : hn = none := hh
  dsimp only at hd hu
  refine' call_small (binds := [(Str.ofString "self", .ref 236), (Str.ofString "prefix", .str x ux)]) B F X N T rfl hf hke ?k6 ?k7 ?k8 ?k9 ?kB ?_ ?c2 ?c3 ?c4 ?c5
  (case k6 => k_is)
  (case k7 => k_is)
  (case k8 => k_room)
  (case k9 => first | exact BindsTo.of_eq rfl | exact binds_K (by k_in) rfl (by k_is) rfl rfl rfl)
  (case kB => exact locs rfl)
  (case c2 => exact rfl)
  (case c3 => exact rfl)
  (case c4 => exact rfl)
  (case c5 => decide)
  intro g' L' h' KG' FG' F' N' B' X' T' l1
  have FG9 : Hold (Fr h₀ L g' m) := FG'
  clear B F N hf hke FG'
  (try dsimp only)
  (try dsimp only [sdict, tdict, sEnt] at N')
  (try k_lt l1)
  (have htk0 : 0 < s.toks + List.length ([(Str.ofString "self", .ref 236), (Str.ofString "prefix", .str x ux)] : List (Str × Value)) := pos_len)
  (generalize (s.toks + List.length _) = tk0 at htk0 ⊢)
  (try k_fold)
  all_goals (have hin9 : InP 5 := rfl)
  k_with "pyIter ref" => ((with_reducible (rename InP 5 => hin9)); ((rename Fr _ _ _ _ => lF'); (rename News _ _ _ _ => lN'); (rename IsRange _ _ _ _ _ _ _ _ => rgX); (with_unfolding_all refine' kst_range (σ := Unit) (fun _ => news) (fun _ => []) (fun _ => True) [] (fun pre _ => lpF x.cps.toList x.length = lpF x.cps.toList (x.length - pre.length - 1)) () (by rfl) rgX (by first | exact small_one (by omega) (by omega) (by omega) (by omega) | decide) (by first | exact rangeSize_nat _ _ | rfl) lF' ?kn trivial ?kk ?kp ?ht ?hz); (case kn => (with_unfolding_all exact lN')); (case kk => exact List.forall_mem_nil _); (case kp => with_unfolding_all exact lp_first (by assumption)); (clear lF' lN' rgX); (case' ht => (intro c9 pre9 k9 t9 u9 h9 tk9 own9 hk9 hp9 hOff9 _ hP9 kF9 kN9; (try k_fold))); (case' hz => (intro c9 u9 h9 tk9 _ hP9 kF9 kN9; (try k_fold)))))
  have kd9 : KtsDicts [] g' := ktsDicts_nil
  k_with "InvEndN" => ((with_reducible (rename InP 5 => hin9)); (refine Halt.out ?_))
  k_steps
  all_goals (try (with_reducible refine Halt.mk ?_))
  all_goals first
    | (refine' kst_end () ?yF ?yN ?yhn ?yho rfl trivial (List.forall_mem_nil _) ?yr ?yp; (case yF => k_asm); (case yN => k_asm); (case yhn => first | exact List.forall_mem_nil _ | exact fun _ h => List.mem_append_left _ h); (case yho => first | exact fun _ h => h | exact fun _ h => List.mem_append_right _ h); (case yr => (intro z h1 _ _; simp [h1, kstB])); (case yp => (rw [List.length_append]; exact lp_miss (by assumption) (by assumption) (by omega) (by assumption))))
    | exact post _ _ _ _ FG9 (by assumption) (by assumption)
    | (exfalso; first | exact lp_no1 (by assumption) hy | exact lp_no2 (by assumption) (by omega) (by assumption) hy)
noncomputable def sg (c : Nat) : Str := ⟨#[c]⟩
noncomputable def spacesL : List Nat := [9, 10, 12, 32, 13]
noncomputable def lettersL : List Nat := [97, 98, 99, 100, 101, 102, 103, 104, 105, 106, 107, 108, 109, 110, 111, 112, 113, 114, 115, 116, 117, 118, 119, 120, 121, 122, 65, 66, 67, 68, 69, 70, 71, 72, 73, 74, 75, 76, 77, 78, 79, 80, 81, 82, 83, 84, 85, 86, 87, 88, 89, 90]
noncomputable def digitsL : List Nat := [48, 49, 50, 51, 52, 53, 54, 55, 56, 57]
noncomputable def hexL : List Nat := [48, 49, 50, 51, 52, 53, 54, 55, 56, 57, 97, 98, 99, 100, 101, 102, 65, 66, 67, 68, 69, 70]
/-- a tuple of single signs -/
noncomputable def TupOf (h : Heap) (a : Addr) (cs : List Nat) : Prop := ∃ l, IsTup h a (List.toArray l) ∧ StrsAre l (cs.map sg)
theorem tup22 {w : World} {h : Heap} (X : (Mine.a.heap_1_39 w.params).In h) : TupOf h 22 spacesL := ⟨_, tupK X (by k_is), KTD.strs_of_look (by decide +kernel)⟩
theorem tup27 {w : World} {h : Heap} (X : (Mine.a.heap_1_39 w.params).In h) : TupOf h 27 lettersL := ⟨_, tupK X (by k_is), KTD.strs_of_look (by decide +kernel)⟩
theorem tup32 {w : World} {h : Heap} (X : (Mine.a.heap_1_39 w.params).In h) : TupOf h 32 digitsL := ⟨_, tupK X (by k_is), KTD.strs_of_look (by decide +kernel)⟩
theorem tup37 {w : World} {h : Heap} (X : (Mine.a.heap_1_39 w.params).In h) : TupOf h 37 hexL := ⟨_, tupK X (by k_is), KTD.strs_of_look (by decide +kernel)⟩
theorem sg_any (ch : Nat) : ∀ cs : List Nat, (cs.map sg).any (· == (⟨#[ch]⟩ : Str)) = cs.contains ch
  | [] => rfl
  | c :: r => by
    have ih := sg_any ch r
    simp only [List.map_cons, List.any_cons, List.contains_cons, ih]
    congr 1
    by_cases h : c = ch
    · subst h; simp [sg]
    · have h1 : (sg c == (⟨#[ch]⟩ : Str)) = false := beq_eq_false_iff_ne.mpr (fun e => h (by unfold sg at e; injection e with e; injection e with e; injection e))
      have h2 : (ch == c) = false := beq_eq_false_iff_ne.mpr (fun e => h e.symm)
      rw [h1, h2]
section
variable {prog : Program} {w : World} {A : Around} {E : Value → Shared → Prop} {s : Shared} {a : Addr} {cs : List Nat} {u : Tok} {Q : Value → Shared → Prop}
theorem in_codes {ch : Nat} (ht : TupOf s.heap a cs) (h : Q (.bool (cs.contains ch)) s) : wpAny (model prog w) A (compareOp .In (.str ⟨#[ch]⟩ u) (.ref a)) Q E s := by
  obtain ⟨l, h1, h2⟩ := ht
  refine in_tuple_strs h1 h2 ?_
  rw [sg_any]; exact h
theorem in_codesS {x : Str} (ht : TupOf s.heap a cs) (h : Q (.bool ((cs.map sg).any (· == x))) s) : wpAny (model prog w) A (compareOp .In (.str x u) (.ref a)) Q E s := by
  obtain ⟨l, h1, h2⟩ := ht
  exact in_tuple_strs h1 h2 h
theorem in_codesN (ht : TupOf s.heap a cs) (h : Q (.bool false) s) : wpAny (model prog w) A (compareOp .In .none (.ref a)) Q E s := by
  obtain ⟨l, h1, h2⟩ := ht
  refine SeqAt.in_tupleAt (fun _ => false) h1 (fun y hy => ?_) ?_
  · obtain ⟨i, hi⟩ := List.getElem?_of_mem (by simpa using hy)
    obtain ⟨y', t', rfl, _⟩ := StrsAre.item h2 i y hi
    exact SeqAt.EqAt.str_none _ _
  · have e : (Array.any l.toArray fun _ => false) = false := by simp
    rw [e]; exact h
end
end
section
local macro_rules | `(tactic| omega) => `(tactic| lia)
/-- the tokenizer's own object -/
structure Kz where
  (z1 z2 z3 z4 z5 z6 z7 z8 : Tok)
  (lf st q : Nat)
noncomputable abbrev zdict (w : World) (Z : Kz) (x : Nat) (ct : Value) : Obj := dictOf [sEnt w (Str.ofString "stream") Z.z1 (.ref x), sEnt w (Str.ofString "parser") Z.z2 .none, sEnt w (Str.ofString "escapeFlag") Z.z3 (.bool false), sEnt w (Str.ofString "lastFourChars") Z.z4 (.ref Z.lf),
  sEnt w (Str.ofString "state") Z.z5 (.ref Z.st), sEnt w (Str.ofString "escape") Z.z6 (.bool false), sEnt w (Str.ofString "currentToken") Z.z7 ct, sEnt w (Str.ofString "tokenQueue") Z.z8 (.ref Z.q)] 8
/-- what the stream holds behind place i -/
noncomputable abbrev RR (tx : Str) (i : Nat) : List Nat := (MM tx).drop i
/-- how much the names take of a text, and the longest of them that it begins with (sealed, so that no tactic opens it) -/
structure MatchIs (r : List Nat) (T : Nat) (b : List Nat) : Prop where
  ht : T = takenN r
  hb : b = bestN r
theorem lp_cases {r : List Nat} {T : Nat} {b : List Nat} (h : MatchIs r T b) : (b = [] ∧ lpF (r.take T) (r.take T).length = none) ∨ (b ≠ [] ∧ lpF (r.take T) (r.take T).length = some b) := by
  obtain ⟨h1, h2⟩ := h
  have h3 := lp_is r
  rw [← h1, ← h2] at h3
  by_cases hb : b = []
  · rw [if_pos hb] at h3; exact .inl ⟨hb, h3⟩
  · rw [if_neg hb] at h3; exact .inr ⟨hb, h3⟩
theorem match_len {r : List Nat} {T : Nat} {b : List Nat} (h : MatchIs r T b) : (⟨b.toArray⟩ : Str).length = b.length ∧ b.length ≤ T := by
  obtain ⟨h1, h2⟩ := h
  have h3 := best_len r
  rw [← h1, ← h2] at h3
  exact ⟨by show (List.toArray b).size = _; rw [List.size_toArray], h3⟩
theorem lp_str {x b : List Nat} (h : lpF x x.length = some b) : lpF (⟨x.toArray⟩ : Str).cps.toList (⟨x.toArray⟩ : Str).length = some (⟨b.toArray⟩ : Str).cps.toList := h
theorem lp_strN {x : List Nat} (h : lpF x x.length = none) : lpF (⟨x.toArray⟩ : Str).cps.toList (⟨x.toArray⟩ : Str).length = none := h
/-- what char gave last -/
noncomputable def LastAt (tx : Str) (j : Nat) (last : Value) (v : Sv) (d : Int) : Prop := (∃ ch t, last = .str ⟨#[ch]⟩ t ∧ (MM tx)[j]? = some ch ∧ At tx v d (j + 1) ∧ 1 ≤ v.k) ∨ (last = .none ∧ j = (MM tx).length ∧ At tx v d j)
theorem LastAt.handed {tx : Str} {j : Nat} {last : Value} {v : Sv} {d : Int} (h : LastAt tx j last v d) : handedIn last = true := by
  rcases h with ⟨_, _, rfl, _⟩ | ⟨rfl, _⟩ <;> rfl
/-- the scan: vs taken, last the sign behind them -/
structure ScanAt (tx : Str) (i : Nat) (vs : List Value) (last : Value) (v : Sv) (d : Int) : Prop where
  signs : SignsAre vs ((RR tx i).take vs.length)
  le : vs.length ≤ (RR tx i).length
  pre : vs.length = 0 ∨ preN ((RR tx i).take vs.length) = true
  last : LastAt tx (i + vs.length) last v d
structure Cz where
  (vs : List Value) (last : Value) (its : Array Value) (n : Nat) (v : Sv) (d : Int) (ud : Tok)
section
variable {prog : Program} {w : World} {A : Around} {E : Value → Shared → Prop} {Q : Flow → Shared → Prop} {s : Shared} {env : Env} {h₀ : Heap} {L : Addr}
noncomputable abbrev ledC (w : World) (a x sd td : Nat) (K : Ks) (Kx : Kt) (tx : Str) (ux : Tok) (rest : List (Addr × Obj)) (c : Cz) : List (Addr × Obj) := (x, instObj 166 sd) :: (sd, sdict w K c.v) :: (K.ds, instObj 73 td) :: (td, tdict w Kx tx ux c.d c.ud) :: (K.mo, methodObj (.ref 148) (.ref x)) :: (a, listOf c.its c.n) :: rest
noncomputable def invC (tx : Str) (i : Nat) (c : Cz) : Prop := c.its = (c.vs ++ [c.last]).toArray ∧ ScanAt tx i c.vs c.last c.v c.d
noncomputable def exC (tx : Str) (i : Nat) (c : Cz) : Prop := invC tx i c ∧ ∃ b, MatchIs (RR tx i) c.vs.length b
theorem while_scan {test : Expr} {body : List Stmt} {pos : Pos} {m₀ : Str → Option Value} {a x sd td : Nat} {K : Ks} {Kx : Kt} {tx : Str} {ux ud₀ t₀ : Tok} {rest : List (Addr × Obj)} {v₀ : Sv} {d₀ : Int} {n₀ ch₀ i : Nat}
    (F : Fr h₀ L s.heap m₀) (N : News h₀ L s.heap ((a, listOf #[.str ⟨#[ch₀]⟩ t₀] n₀) :: (x, instObj 166 sd) :: (sd, sdict w K v₀) :: (K.ds, instObj 73 td) :: (td, tdict w Kx tx ux d₀ ud₀) :: (K.mo, methodObj (.ref 148) (.ref x)) :: rest))
    (hi : (MM tx)[i]? = some ch₀) (hat : At tx v₀ d₀ (i + 1)) (hk1 : 1 ≤ v₀.k) (hx : tx.length < 1000)
    (turnS : ∀ vs ch t n v d ud (u : Str → Option Value) h tk, vs.length + 1 < 1000 → SignsAre (vs ++ [Value.str ⟨#[ch]⟩ t]) ((RR tx i).take (vs.length + 1)) → ((RR tx i).take (vs.length + 1)).length = vs.length + 1 → At tx v d (i + vs.length + 1) → ScanAt tx i vs (.str ⟨#[ch]⟩ t) v d →
      Fr h₀ L h m₀ → News h₀ L h ((x, instObj 166 sd) :: (sd, sdict w K v) :: (K.ds, instObj 73 td) :: (td, tdict w Kx tx ux d ud) :: (K.mo, methodObj (.ref 148) (.ref x)) :: (a, listOf (vs ++ [Value.str ⟨#[ch]⟩ t]).toArray n) :: rest) →
      wpAny (model prog w) A (isTrue test env (eval test env)) (fun b s₂ =>
        if b = true then wpAny (model prog w) A (execs body env) (KswPost h₀ L s (ledC w a x sd td K Kx tx ux rest) (fun _ => []) (fun _ => True) [] m₀ (invC tx i) (fun c => 2000 - c.vs.length) (FlowW h₀ L s (ledC w a x sd td K Kx tx ux rest) (fun _ => []) [] m₀ (exC tx i) Q) ⟨vs, .str ⟨#[ch]⟩ t, (vs ++ [Value.str ⟨#[ch]⟩ t]).toArray, n, v, d, ud⟩) E s₂
        else OutW h₀ L s (ledC w a x sd td K Kx tx ux rest) (fun _ => []) [] m₀ (exC tx i) s₂) E { s with heap := h, toks := tk })
    (turnN : ∀ vs n v d ud (u : Str → Option Value) h tk, vs.length = (RR tx i).length → ScanAt tx i vs .none v d →
      Fr h₀ L h m₀ → News h₀ L h ((x, instObj 166 sd) :: (sd, sdict w K v) :: (K.ds, instObj 73 td) :: (td, tdict w Kx tx ux d ud) :: (K.mo, methodObj (.ref 148) (.ref x)) :: (a, listOf (vs ++ [Value.none]).toArray n) :: rest) →
      wpAny (model prog w) A (isTrue test env (eval test env)) (fun b s₂ =>
        if b = true then wpAny (model prog w) A (execs body env) (KswPost h₀ L s (ledC w a x sd td K Kx tx ux rest) (fun _ => []) (fun _ => True) [] m₀ (invC tx i) (fun c => 2000 - c.vs.length) (FlowW h₀ L s (ledC w a x sd td K Kx tx ux rest) (fun _ => []) [] m₀ (exC tx i) Q) ⟨vs, .none, (vs ++ [Value.none]).toArray, n, v, d, ud⟩) E s₂
        else OutW h₀ L s (ledC w a x sd td K Kx tx ux rest) (fun _ => []) [] m₀ (exC tx i) s₂) E { s with heap := h, toks := tk })
    (done : ∀ T b vs last n v d ud h tk, MatchIs (RR tx i) T b → vs.length = T → SignsAre vs ((RR tx i).take T) → LastAt tx (i + T) last v d → handedIn last = true → T < 1000 → T ≤ (RR tx i).length → ((RR tx i).take T).length = T →
      Fr h₀ L h m₀ → News h₀ L h ((x, instObj 166 sd) :: (sd, sdict w K v) :: (K.ds, instObj 73 td) :: (td, tdict w Kx tx ux d ud) :: (K.mo, methodObj (.ref 148) (.ref x)) :: (a, listOf (vs ++ [last]).toArray n) :: rest) → Q .next { s with heap := h, toks := tk })
    (hE : PassesOwn (model prog w) A env E := by passes_own) :
    wpAny (model prog w) A (exec (.While test body [] pos) env) Q E s := by
  have hml := mm_len tx
  have fre : ∀ {h : Heap} {u : Str → Option Value}, Fr h₀ L h (kstB (fun z => if ([] : List Str).contains z then u z else m₀ z) []) → Fr h₀ L h m₀ := fun F => by
    simpa [kstB] using F
  have hR0 : (RR tx i)[0]? = some ch₀ := by rw [List.getElem?_drop]; exact hi
  refine while_X (ledC w a x sd td K Kx tx ux rest) (fun _ => []) [] (invC tx i) (exC tx i) (fun c => 2000 - c.vs.length) ⟨[], .str ⟨#[ch₀]⟩ t₀, #[.str ⟨#[ch₀]⟩ t₀], n₀, v₀, d₀, ud₀⟩ F (fun p hp => N p ?_) (fun _ h => nomatch h) ⟨rfl, .nil, Nat.zero_le _, .inl rfl, .inl ⟨ch₀, t₀, rfl, hi, hat, hk1⟩⟩ ?_ ?_ hE
  · simp only [List.mem_cons] at hp ⊢
    rcases hp with hp | hp | hp | hp | hp | hp | hp
    · exact .inr (.inl hp)
    · exact .inr (.inr (.inl hp))
    · exact .inr (.inr (.inr (.inl hp)))
    · exact .inr (.inr (.inr (.inr (.inl hp))))
    · exact .inr (.inr (.inr (.inr (.inr (.inl hp)))))
    · exact .inl hp
    · exact .inr (.inr (.inr (.inr (.inr (.inr hp)))))
  · rintro ⟨vs, last, its, n, v, d, ud⟩ u h tk ⟨hits, hs⟩ F N
    dsimp only at hits hs N
    subst hits
    obtain ⟨h1, h2, h3, h4⟩ := id hs
    have hl : (RR tx i).length ≤ (MM tx).length := by rw [List.length_drop]; omega
    rcases h4 with ⟨ch, t, rfl, h5, h6, h7⟩ | ⟨rfl, h5, h6⟩
    · have hR : (RR tx i)[vs.length]? = some ch := by rw [List.getElem?_drop]; exact h5
      have hlt := (List.getElem?_eq_some_iff.mp hR).1
      have e : (RR tx i).take (vs.length + 1) = (RR tx i).take vs.length ++ [ch] := by rw [List.take_add_one, hR]; rfl
      exact turnS vs ch t n v d ud u h tk (by omega) (by rw [e]; exact h1.snoc) (by rw [List.length_take]; omega) h6 hs (fre F) N
    · have : vs.length = (RR tx i).length := by rw [List.length_drop] at h2 ⊢; omega
      exact turnN vs n v d ud u h tk this hs (fre F) N
  · rintro ⟨vs, last, its, n, v, d, ud⟩ u h tk ⟨⟨hits, h1, h2, h3, h4⟩, b, h5⟩ F N
    dsimp only at hits h1 h2 h3 h4 h5 N
    subst hits
    have hl : (RR tx i).length ≤ (MM tx).length := by rw [List.length_drop]; omega
    exact done vs.length b vs last n v d ud h tk h5 rfl h1 h4 h4.handed (by omega) h2 (by rw [List.length_take]; omega) (fre F) N
/-- a turn that takes one more sign -/
theorem scan_more {tx : Str} {i : Nat} {vs : List Value} {ch : Nat} {t : Tok} {v : Sv} {d : Int} {last : Value} {v' : Sv} {d' : Int} (hs : ScanAt tx i vs (.str ⟨#[ch]⟩ t) v d) (hp : hasK ⟨((RR tx i).take (vs.length + 1)).toArray⟩ = true) (h : LastAt tx (i + vs.length + 1) last v' d') :
    ScanAt tx i (vs ++ [Value.str ⟨#[ch]⟩ t]) last v' d' := by
  obtain ⟨h1, h2, h3, h4⟩ := hs
  rcases h4 with ⟨ch', t', e, h5, h6, h7⟩ | ⟨e, _⟩
  · cases e
    have hR : (RR tx i)[vs.length]? = some ch := by rw [List.getElem?_drop]; exact h5
    have hlt := (List.getElem?_eq_some_iff.mp hR).1
    have e : (RR tx i).take (vs.length + 1) = (RR tx i).take vs.length ++ [ch] := by rw [List.take_add_one, hR]; rfl
    rw [hasK_is] at hp
    refine ⟨?_, ?_, .inr ?_, ?_⟩
    · rw [List.length_append]; show SignsAre _ ((RR tx i).take (vs.length + 1)); rw [e]; exact h1.snoc
    · rw [List.length_append]; exact hlt
    · rw [List.length_append]; exact hp
    · rw [List.length_append]; exact h
  · cases e
theorem scan_stop {tx : Str} {i : Nat} {vs : List Value} {last : Value} {v : Sv} {d : Int} (hs : ScanAt tx i vs last v d) (hp : hasK ⟨((RR tx i).take (vs.length + 1)).toArray⟩ = false) : ∃ b, MatchIs (RR tx i) vs.length b := by
  rw [hasK_is] at hp
  exact ⟨_, scan_is hs.le hs.pre (.inr hp), rfl⟩
theorem scan_end {tx : Str} {i : Nat} {vs : List Value} {last : Value} {v : Sv} {d : Int} (hs : ScanAt tx i vs last v d) (hp : vs.length = (RR tx i).length) : ∃ b, MatchIs (RR tx i) vs.length b := ⟨_, scan_is hs.le hs.pre (.inl hp), rfl⟩
end
theorem un_last {prog : Program} {w : World} {p : Program} {loose : List Str} {mean : ExcName → Option Value} {mg mb : Str → Option Value}
    {A : Around} {env : Env} {outer : List Env} {A₀ : Around} {base h₀ : Heap} {L : Addr} {m : Str → Option Value} {s : Shared} {Q E : Value → Shared → Prop}
    {x sd : Nat} {K : Ks} {v : Sv} {tx : Str} {d : Int} {j : Nat} {last : Value}
    (B : Below A₀ base outer h₀) (F : Fr h₀ L s.heap m) (X : (Mine.a.heap_1_39 w.params).In h₀) (T : Top p loose mean mg mb h₀) (hA : A.frames = some (env :: outer)) (hh : A.handled = none) (hf : env.frame = some L) (hke : env.scope.kind = .function)
    (hd : A.depth + 1 < recursionLimit) (hu : A.units + 10 < cLine) (N : News h₀ L s.heap [(x, instObj 166 sd), (sd, sdict w K v)])
    (o1 : sd < x) (hx : tx.length < 1000) (hla : LastAt tx j last v d)
    (post : ∀ h' tk v', At tx v' d j → Fr h₀ L h' m → News h₀ L h' [(x, instObj 166 sd), (sd, sdict w K v')] → Keeps [x, sd] s.heap h' → Q .none { s with heap := h', toks := tk }) : wpAny (model prog w) A (call (.ref 163) [.ref x, last]) Q E s := by
  rcases hla with ⟨ch, t, rfl, hi, hat, hk1⟩ | ⟨rfl, _, hat⟩
  · exact un_at B F X T hA hh hf hke (by omega) (by omega) N o1 hx hat hk1 hi post
  · exact un_none B F X T hA hh hf hke (by omega) (by omega) (fun _ h => nomatch h) fun h' tk F' N' K' => post h' tk v hat F' (fun p hp => ⟨K' _ _ (fun z => nomatch z) (N p hp).1, (N p hp).2⟩) (fun b o _ e => K' b o (fun z => nomatch z) e)

section
variable {prog : Program} {w : World} {A : Around} {E : Value → Shared → Prop} {s : Shared} {D : Addr} {Q : Value → Shared → Prop}
/-- is a sign < or &? (the program's triple begins with None) -/
theorem in_stop {c : Nat} {u t1 t2 : Tok} (ht : IsTup s.heap D #[.none, .str (Str.ofString "<") t1, .str (Str.ofString "&") t2]) (h : Q (.bool (c == 60 || c == 38)) s) : wpAny (model prog w) A (compareOp .In (.str ⟨#[c]⟩ u) (.ref D)) Q E s := by
  rw [show (Str.ofString "<") = (⟨#[60]⟩ : Str) by decide +kernel, show (Str.ofString "&") = (⟨#[38]⟩ : Str) by decide +kernel] at ht
  refine SeqAt.in_tupleAt (fun y => match y with | .str z _ => z == ⟨#[c]⟩ | _ => false) ht (fun y hy => ?_) ?_
  · simp only [List.mem_toArray, List.mem_cons, List.not_mem_nil, or_false] at hy
    rcases hy with rfl | rfl | rfl
    · exact SeqAt.EqAt.none_str _ _
    · exact SeqAt.EqAt.str_str _ _ _ _
    · exact SeqAt.EqAt.str_str _ _ _ _
  · have e : ∀ d : Nat, ((⟨#[d]⟩ : Str) == ⟨#[c]⟩) = (c == d) := fun d => by
      by_cases q : c = d
      · subst q; simp
      · have h1 : ((⟨#[d]⟩ : Str) == ⟨#[c]⟩) = false := beq_eq_false_iff_ne.mpr (fun e => q (by injection e with e; injection e with e; injection e with e; exact e.symm))
        rw [h1, beq_eq_false_iff_ne.mpr q]
    have e2 : (Array.any #[Value.none, .str ⟨#[60]⟩ t1, .str ⟨#[38]⟩ t2] (fun y => match y with | .str z _ => z == ⟨#[c]⟩ | _ => false)) = (c == 60 || c == 38) := by
      rw [← e 60, ← e 38]; simp
    rw [e2]; exact h
theorem in_stopN {t1 t2 : Tok} {x1 x2 : Str} (ht : IsTup s.heap D #[.none, .str x1 t1, .str x2 t2]) (h : Q (.bool true) s) : wpAny (model prog w) A (compareOp .In .none (.ref D)) Q E s := by
  refine SeqAt.in_tupleAt (fun y => match y with | .none => true | _ => false) ht (fun y hy => ?_) ?_
  · simp only [List.mem_toArray, List.mem_cons, List.not_mem_nil, or_false] at hy
    rcases hy with rfl | rfl | rfl
    · exact SeqAt.EqAt.same _
    · exact SeqAt.EqAt.str_none _ _
    · exact SeqAt.EqAt.str_none _ _
  · have e2 : (Array.any #[Value.none, .str x1 t1, .str x2 t2] (fun y => match y with | .none => true | _ => false)) = true := by simp
    rw [e2]; exact h
end
/-- the table, name by name -/
noncomputable def entRows : List (Str × Str) := [(⟨#[65, 77, 80]⟩, ⟨#[38]⟩), (⟨#[65, 77, 80, 59]⟩, ⟨#[38]⟩), (⟨#[69, 97, 99, 117, 116, 101]⟩, ⟨#[201]⟩), (⟨#[69, 97, 99, 117, 116, 101, 59]⟩, ⟨#[201]⟩), (⟨#[77, 111, 112, 102, 59]⟩, ⟨#[120132]⟩), (⟨#[97, 99, 59]⟩, ⟨#[8766]⟩), (⟨#[97, 99, 69, 59]⟩, ⟨#[8766, 819]⟩), (⟨#[97, 99, 117, 116, 101]⟩, ⟨#[180]⟩), (⟨#[97, 99, 117, 116, 101, 59]⟩, ⟨#[180]⟩), (⟨#[97, 109, 112]⟩, ⟨#[38]⟩), (⟨#[97, 109, 112, 59]⟩, ⟨#[38]⟩), (⟨#[97, 110, 103, 59]⟩, ⟨#[8736]⟩), (⟨#[97, 110, 103, 108, 101, 59]⟩, ⟨#[8736]⟩), (⟨#[98, 110, 101, 59]⟩, ⟨#[61, 8421]⟩), (⟨#[99, 111, 112, 121]⟩, ⟨#[169]⟩), (⟨#[99, 111, 112, 121, 59]⟩, ⟨#[169]⟩), (⟨#[101, 97, 99, 117, 116, 101]⟩, ⟨#[233]⟩), (⟨#[101, 97, 99, 117, 116, 101, 59]⟩, ⟨#[233]⟩), (⟨#[102, 114, 97, 99, 49, 50]⟩, ⟨#[189]⟩), (⟨#[102, 114, 97, 99, 49, 50, 59]⟩, ⟨#[189]⟩), (⟨#[103, 116]⟩, ⟨#[62]⟩), (⟨#[103, 116, 59]⟩, ⟨#[62]⟩), (⟨#[108, 116]⟩, ⟨#[60]⟩), (⟨#[108, 116, 59]⟩, ⟨#[60]⟩), (⟨#[110, 98, 115, 112]⟩, ⟨#[160]⟩), (⟨#[110, 98, 115, 112, 59]⟩, ⟨#[160]⟩), (⟨#[110, 111, 116]⟩, ⟨#[172]⟩), (⟨#[110, 111, 116, 59]⟩, ⟨#[172]⟩), (⟨#[110, 111, 116, 105, 110, 59]⟩, ⟨#[8713]⟩), (⟨#[110, 111, 116, 110, 105, 59]⟩, ⟨#[8716]⟩), (⟨#[112, 97, 114, 97]⟩, ⟨#[182]⟩), (⟨#[112, 97, 114, 97, 59]⟩, ⟨#[182]⟩), (⟨#[112, 97, 114, 97, 108, 108, 101, 108, 59]⟩, ⟨#[8741]⟩), (⟨#[113, 117, 111, 116]⟩, ⟨#[34]⟩), (⟨#[113, 117, 111, 116, 59]⟩, ⟨#[34]⟩), (⟨#[115, 117, 112, 49]⟩, ⟨#[185]⟩), (⟨#[115, 117, 112, 49, 59]⟩, ⟨#[185]⟩), (⟨#[115, 117, 112, 50]⟩, ⟨#[178]⟩), (⟨#[115, 117, 112, 50, 59]⟩, ⟨#[178]⟩), (⟨#[115, 117, 112, 59]⟩, ⟨#[8835]⟩), (⟨#[116, 105, 109, 101, 115]⟩, ⟨#[215]⟩), (⟨#[116, 105, 109, 101, 115, 59]⟩, ⟨#[215]⟩), (⟨#[116, 105, 109, 101, 115, 98, 59]⟩, ⟨#[8864]⟩)]
noncomputable def entV (x : Str) : Str := ((entRows.find? fun p => decide (p.1 = x)).map (·.2)).getD Str.empty
theorem ent_case {K : Frag} {x v : Str} {u : Tok} (h : nsIn K 43 x = some (some (.str v u))) (e : v = entV x) : ∃ u, nsIn K 43 x = some (some (.str (entV x) u)) := ⟨u, e ▸ h⟩
theorem ent_mem {x : Str} (h : inE x = true) : x ∈ namesA := by
  obtain ⟨k, hk, e⟩ := List.any_eq_true.mp h
  exact of_decide_eq_true e ▸ hk
theorem ent_ns (P : Params) {x : Str} (h : inE x = true) : ∃ u, nsIn (Mine.a.heap_1_39 P) 43 x = some (some (.str (entV x) u)) := by
  have hm := ent_mem h
  unfold namesA at hm
  simp only [List.mem_cons, List.not_mem_nil, or_false] at hm
  rcases hm with rfl | rfl | rfl | rfl | rfl | rfl | rfl | rfl | rfl | rfl | rfl | rfl | rfl | rfl | rfl | rfl | rfl | rfl | rfl | rfl | rfl | rfl | rfl | rfl | rfl | rfl | rfl | rfl | rfl | rfl | rfl | rfl | rfl | rfl | rfl | rfl | rfl | rfl | rfl | rfl | rfl | rfl | rfl
  all_goals (refine' ent_case ?a ?b; (case a => k_is); (case b => decide +kernel))
theorem ent_facts : namesA.all (fun x => decide (1 ≤ (entV x).length ∧ (entV x).length ≤ 2 ∧ spacesL.contains ((entV x).cps.toList.headD 0) = false)) = true := by decide +kernel
theorem ent_len {x : Str} (h : inE x = true) : 1 ≤ (entV x).length ∧ (entV x).length ≤ 2 ∧ spacesL.contains ((entV x).cps.toList.headD 0) = false := of_decide_eq_true (List.all_eq_true.mp ent_facts x (ent_mem h))
theorem sp_cons {z : Str} {c : Nat} {r : List Nat} (hz : z.cps.toList = c :: r) (hc : spacesL.contains c = false) : (spacesL.map sg).any (· == z) = false := by
  rw [List.any_eq_false]
  intro y hy q
  obtain ⟨d, hd, rfl⟩ := List.mem_map.mp hy
  have e : sg d = z := by simpa using q
  rw [← e] at hz
  have e2 : [d] = c :: r := hz
  injection e2 with e3 e4
  subst e3
  have : spacesL.contains d = true := by simpa using hd
  rw [this] at hc; cases hc
theorem app_codes (a y : Str) : (a ++ y).cps.toList = a.cps.toList ++ y.cps.toList := by rw [Str.cps_append, Array.toList_append]
theorem sp_amp (y : Str) : (spacesL.map sg).any (· == (Str.ofString "&" ++ y)) = false := by
  refine sp_cons (c := 38) (r := y.cps.toList) ?_ (by decide)
  rw [app_codes, show (Str.ofString "&").cps.toList = [38] by decide +kernel]
  rfl
theorem sp_ent {x : Str} (h : inE x = true) (y : Str) : (spacesL.map sg).any (· == (entV x ++ y)) = false := by
  obtain ⟨h1, h2, h3⟩ := ent_len h
  have hl := len_list (entV x)
  cases q : (entV x).cps.toList with
  | nil => rw [q] at hl; simp only [List.length_nil] at hl; omega
  | cons c r =>
    rw [q] at h3
    exact sp_cons (c := c) (r := r ++ y.cps.toList) (by rw [app_codes, q]; rfl) h3
/-- a token: its kind, its text -/
noncomputable def TokIs (prog : Program) (w : World) (o : Obj) (k : Int) (x : Str) : Prop := ∃ t u, Obj.IsDictOf (PySem.strKind prog w) o [(Str.ofString "type", Value.int k t), (Str.ofString "data", Value.str x u)]
theorem match_in {r : List Nat} {T : Nat} {b : List Nat} (h : MatchIs r T b) (hb : b ≠ []) : inE ⟨b.toArray⟩ = true := by
  obtain ⟨h1, h2⟩ := h
  rcases best_is r with q | ⟨q, _⟩
  · exact absurd (h2.trans q) hb
  · rw [← h2] at q
    exact mem_nL.mpr q
section
variable {prog : Program} {w : World} {A : Around} {E : Value → Shared → Prop} {s : Shared} {a : Addr} {cs : List Nat} {u : Tok} {Q : Value → Shared → Prop}
theorem in_codesF {x : Str} (ht : TupOf s.heap a cs) (hn : (cs.map sg).any (· == x) = false) (h : Q (.bool false) s) : wpAny (model prog w) A (compareOp .In (.str x u) (.ref a)) Q E s := in_codesS ht (by rw [hn]; exact h)
end
section
variable {prog : Program} {w : World} {A : Around} {E : Value → Shared → Prop} {s : Shared} {h₀ : Heap} {L D : Addr} {m : Str → Option Value} {news news' : List (Addr × Obj)} {its : Array Value} {n : Nat} {x : Value}
theorem append_small {Q : Value → Shared → Prop} (F : Fr h₀ L s.heap m) (N : News h₀ L s.heap news) (U : Upd D (listOf its n) (listOf (its.push x) (n + 1)) news news') (hz : its.size ≤ 5000)
    (h : ∀ h', Fr h₀ L h' m → News h₀ L h' news' → Q .none { s with heap := h' }) : wpAny (model prog w) A (call (.builtin "list.append") [.ref D, x]) Q E s := append_K F N U h (by rw [sizeLine_eq]; omega)
end
/-- the first sign stops it -/
noncomputable def StopIs (r : List Nat) (al : Value) : Prop := r = [] ∨ ∃ c t, r = c :: t ∧ (spacesL.contains c = true ∨ (c == 60 || c == 38) = true ∨ alIs al c = true)
/-- does the sign at this place glue a name without ; in an attribute? -/
noncomputable def gluedAt (r : List Nat) (n : Nat) : Bool := match r[n]? with
  | some c => lettersL.contains c || (digitsL.contains c || ((⟨#[c]⟩ : Str) == Str.ofString "="))
  | none => false
/-- a text that begins a number sign, with no figure behind -/
structure NoNum (tx : Str) (i : Nat) : Prop where
  n1 : ∀ c, (MM tx)[i + 1]? = some c → digitsL.contains c = false
  n2 : ∀ c d, (MM tx)[i + 1]? = some c → [120, 88].contains c = true → (MM tx)[i + 1 + 1]? = some d → hexL.contains d = false
noncomputable def ampS (l : List Nat) : Str := Str.ofString "&" ++ ⟨l.toArray⟩
/-- what consumeEntity tells: T signs taken, b the name, f the fault, out the text -/
inductive CeIs (r : List Nat) (al : Value) (fa : Bool) : Nat → List Nat → Option Str → Str → Prop
  | stop : StopIs r al → CeIs r al fa 0 [] none (Str.ofString "&")
  | hash (T : Nat) : r[0]? = some 35 → (T = 1 ∨ T = 2) → (T = 2 ↔ ∃ c, r[1]? = some c ∧ [120, 88].contains c = true) → CeIs r al fa T [] (some (Str.ofString "expected-numeric-entity")) (ampS (r.take T))
  | no (c T : Nat) : r[0]? = some c → ¬ StopIs r al → c ≠ 35 → MatchIs r T [] → CeIs r al fa T [] (some (Str.ofString "expected-named-entity")) (ampS (r.take T))
  | semi (T : Nat) (b : List Nat) : MatchIs r T b → b ≠ [] → Txt.item ⟨b.toArray⟩ (-1) = Str.ofString ";" → CeIs r al fa T b none (entV ⟨b.toArray⟩ ++ ⟨((r.take T).drop b.length).toArray⟩)
  | bare (T : Nat) (b : List Nat) (out : Str) : MatchIs r T b → b ≠ [] → Txt.item ⟨b.toArray⟩ (-1) ≠ Str.ofString ";" → out = (if fa = true ∧ gluedAt r b.length = true then ampS (r.take T) else entV ⟨b.toArray⟩ ++ ⟨((r.take T).drop b.length).toArray⟩) → CeIs r al fa T b (some (Str.ofString "named-entity-without-semicolon")) out
theorem ce_split (c : Nat) (al : Value) : spacesL.contains c = true ∨ (spacesL.contains c = false ∧ (c == 60 || c == 38) = true) ∨ (spacesL.contains c = false ∧ (c == 60 || c == 38) = false ∧ alIs al c = true) ∨
    (c = 35 ∧ spacesL.contains c = false ∧ (c == 60 || c == 38) = false ∧ alIs al c = false ∧ ((⟨#[c]⟩ : Str) == Str.ofString "#") = true) ∨ (spacesL.contains c = false ∧ (c == 60 || c == 38) = false ∧ alIs al c = false ∧ ((⟨#[c]⟩ : Str) == Str.ofString "#") = false) := by
  cases h1 : spacesL.contains c with
  | true => exact .inl rfl
  | false =>
    cases h2 : (c == 60 || c == 38) with
    | true => exact .inr (.inl ⟨rfl, rfl⟩)
    | false =>
      cases h3 : alIs al c with
      | true => exact .inr (.inr (.inl ⟨rfl, rfl, rfl⟩))
      | false =>
        by_cases h4 : c = 35
        · subst h4
          exact .inr (.inr (.inr (.inl ⟨rfl, rfl, rfl, rfl, by decide +kernel⟩)))
        · refine .inr (.inr (.inr (.inr ⟨rfl, rfl, rfl, ?_⟩)))
          rw [show (Str.ofString "#") = (⟨#[35]⟩ : Str) by decide +kernel]
          exact beq_eq_false_iff_ne.mpr (fun e => h4 (by injection e with e; injection e with e; injection e))
theorem rr_at {tx : Str} {i j : Nat} {c : Nat} (h : (MM tx)[i + j]? = some c) : (RR tx i)[j]? = some c := by rw [List.getElem?_drop]; exact h
theorem rr_cons {tx : Str} {i : Nat} {c : Nat} (h : (MM tx)[i]? = some c) : RR tx i = c :: RR tx (i + 1) := by
  obtain ⟨hl, e⟩ := List.getElem?_eq_some_iff.mp h
  rw [RR, List.drop_eq_getElem_cons hl, e]
theorem stop_none {tx : Str} {i : Nat} {al : Value} (h : i = (MM tx).length) : StopIs (RR tx i) al := .inl (by rw [RR, h, List.drop_length])
theorem stop_some {tx : Str} {i c : Nat} {al : Value} (h : (MM tx)[i]? = some c) (q : spacesL.contains c = true ∨ (c == 60 || c == 38) = true ∨ alIs al c = true) : StopIs (RR tx i) al := .inr ⟨c, _, rr_cons h, q⟩
theorem not_stop {tx : Str} {i c : Nat} {al : Value} (h : (MM tx)[i]? = some c) (q1 : spacesL.contains c = false) (q2 : (c == 60 || c == 38) = false) (q3 : alIs al c = false) : ¬ StopIs (RR tx i) al := by
  rintro (e | ⟨d, t, e, q⟩)
  · rw [rr_cons h] at e; cases e
  · rw [rr_cons h] at e
    injection e with e1 e2
    subst e1
    rw [q1, q2, q3] at q
    rcases q with q | q | q <;> cases q
theorem ne_hash {c : Nat} (h : ((⟨#[c]⟩ : Str) == Str.ofString "#") = false) : c ≠ 35 := by
  rintro rfl
  rw [show (Str.ofString "#") = (⟨#[35]⟩ : Str) by decide +kernel] at h
  simp at h
structure Cj where
  (out : Str) (t : Tok) (f : Option Str) (T : Nat) (b : List Nat) (qi : Array Value) (qn : Nat) (v : Sv) (d : Int) (ud : Tok) (own : List (Addr × Obj))
/-- the fault's token, or none -/
noncomputable def TkIs (prog : Program) (w : World) (qs : Array Value) (lo : Nat) (ex : List (Addr × Obj)) (f : Option Str) (tks : List (Addr × Obj)) (qi : Array Value) : Prop := (f = none ∧ tks = [] ∧ qi = qs) ∨ ∃ (g : Str) (D : Nat) (o : Obj), f = some g ∧ tks = [(D, o)] ∧ qi = qs.push (.ref D) ∧ TokIs prog w o 7 g ∧ lo < D ∧ ∀ p ∈ ex, p.1 ≠ D
noncomputable def exJ (prog : Program) (w : World) (tx : Str) (i : Nat) (al : Value) (fa : Bool) (qs : Array Value) (lo : Nat) (ex : List (Addr × Obj)) (c : Cj) : Prop := CeIs (RR tx i) al fa c.T c.b c.f c.out ∧ At tx c.v c.d (i + c.T) ∧ ∃ tks, TkIs prog w qs lo ex c.f tks c.qi ∧ c.own = tks ++ ex
noncomputable abbrev cxJ (prog : Program) (w : World) (A : Around) (base : Heap) (outer : List Env) (p : Program) (loose : List Str) (mean : ExcName → Option Value) (mg mb : Str → Option Value) (h : Heap) : Prop := Below A base outer h ∧ (Mine.a.heap_1_39 w.params).In h ∧ Top p loose mean mg mb h ∧ KtsDicts (outer.filterMap (·.frame)) h
noncomputable abbrev ledJ (w : World) (z zd x sd td : Nat) (Z : Kz) (ct : Value) (K : Ks) (Kx : Kt) (tx : Str) (ux : Tok) (c : Cj) : List (Addr × Obj) := (Z.q, listOf c.qi c.qn) :: (z, instObj 762 zd) :: (zd, zdict w Z x ct) :: (x, instObj 166 sd) :: (sd, sdict w K c.v) :: (K.ds, instObj 73 td) :: (td, tdict w Kx tx ux c.d c.ud) :: (K.mo, methodObj (.ref 148) (.ref x)) :: c.own
theorem ex_stop {prog : Program} {w : World} {tx : Str} {i : Nat} {al : Value} {fa : Bool} {qs : Array Value} {lo : Nat} {ex : List (Addr × Obj)} {t : Tok} {qn : Nat} {v : Sv} {d : Int} {ud : Tok} (h : StopIs (RR tx i) al) (hat : At tx v d i) : exJ prog w tx i al fa qs lo ex ⟨Str.ofString "&", t, none, 0, [], qs, qn, v, d, ud, ex⟩ := ⟨.stop h, hat, [], .inl ⟨rfl, rfl, rfl⟩, rfl⟩
section
variable {prog : Program} {w : World} {tx : Str} {i : Nat} {al : Value} {fa : Bool} {qs : Array Value} {lo : Nat} {ex : List (Addr × Obj)} {t : Tok} {qn : Nat} {v : Sv} {d : Int} {ud : Tok} {D : Nat} {o : Obj} {T : Nat} {b : List Nat}
theorem ex_fault {g out : Str} (hc : CeIs (RR tx i) al fa T b (some g) out) (hat : At tx v d (i + T)) (ho : TokIs prog w o 7 g) (hl : lo < D) (hne : ∀ p ∈ ex, p.1 ≠ D) : exJ prog w tx i al fa qs lo ex ⟨out, t, some g, T, b, qs.push (.ref D), qn, v, d, ud, (D, o) :: ex⟩ := ⟨hc, hat, [(D, o)], .inr ⟨g, D, o, rfl, rfl, rfl, ho, hl, hne⟩, rfl⟩
theorem ex_plain {out : Str} (hc : CeIs (RR tx i) al fa T b none out) (hat : At tx v d (i + T)) : exJ prog w tx i al fa qs lo ex ⟨out, t, none, T, b, qs, qn, v, d, ud, ex⟩ := ⟨hc, hat, [], .inl ⟨rfl, rfl, rfl⟩, rfl⟩
end
theorem hash_0 {tx : Str} {i : Nat} {al : Value} {fa : Bool} (h : (MM tx)[i]? = some 35) (h1 : i + 1 = (MM tx).length) : CeIs (RR tx i) al fa 1 [] (some (Str.ofString "expected-numeric-entity")) (Str.ofString "&" ++ ⟨[35].toArray⟩) := by
  have z := CeIs.hash (r := RR tx i) (al := al) (fa := fa) 1 (rr_at h) (.inl rfl) ⟨fun q => by omega, fun ⟨c, q, _⟩ => by rw [List.getElem?_drop, List.getElem?_eq_none (by omega)] at q; cases q⟩
  rw [rr_cons h] at z ⊢
  exact z
theorem hash_1 {tx : Str} {i c : Nat} {al : Value} {fa : Bool} (h : (MM tx)[i]? = some 35) (h1 : (MM tx)[i + 1]? = some c) (h2 : [120, 88].contains c = false) : CeIs (RR tx i) al fa 1 [] (some (Str.ofString "expected-numeric-entity")) (Str.ofString "&" ++ ⟨[35].toArray⟩) := by
  have z := CeIs.hash (r := RR tx i) (al := al) (fa := fa) 1 (rr_at h) (.inl rfl) ⟨fun q => by omega, fun ⟨d, q, q2⟩ => by rw [rr_at h1] at q; cases q; rw [h2] at q2; cases q2⟩
  rw [rr_cons h] at z ⊢
  exact z
theorem hash_2 {tx : Str} {i c : Nat} {al : Value} {fa : Bool} (h : (MM tx)[i]? = some 35) (h1 : (MM tx)[i + 1]? = some c) (h2 : [120, 88].contains c = true) : CeIs (RR tx i) al fa 2 [] (some (Str.ofString "expected-numeric-entity")) (Str.ofString "&" ++ ⟨[35, c].toArray⟩) := by
  have z := CeIs.hash (r := RR tx i) (al := al) (fa := fa) 2 (rr_at h) (.inr rfl) ⟨fun _ => ⟨c, rr_at h1, h2⟩, fun _ => rfl⟩
  rw [rr_cons h, rr_cons h1] at z ⊢
  exact z
theorem no_is {tx : Str} {i c T : Nat} {b : List Nat} {al : Value} {fa : Bool} (h : (MM tx)[i]? = some c) (q1 : spacesL.contains c = false) (q2 : (c == 60 || c == 38) = false) (q3 : alIs al c = false) (q4 : ((⟨#[c]⟩ : Str) == Str.ofString "#") = false) (hm : MatchIs (RR tx i) T b) (hb : b = []) :
    CeIs (RR tx i) al fa T [] (some (Str.ofString "expected-named-entity")) (Str.ofString "&" ++ ⟨((RR tx i).take T).toArray⟩) := .no c T (rr_at h) (not_stop h q1 q2 q3) (ne_hash q4) (hb ▸ hm)
theorem bare_is {r : List Nat} {T : Nat} {b : List Nat} {al : Value} {fa : Bool} (hm : MatchIs r T b) (hb : b ≠ []) (hs : ¬ Txt.item ⟨b.toArray⟩ (-1) = Str.ofString ";") (hg : fa = false ∨ gluedAt r b.length = false) : CeIs r al fa T b (some (Str.ofString "named-entity-without-semicolon")) (entV ⟨b.toArray⟩ ++ ⟨((r.take T).drop b.length).toArray⟩) :=
  .bare T b _ hm hb hs (by rw [if_neg]; rintro ⟨a, c⟩; rcases hg with q | q <;> simp_all)
theorem glue_is {r : List Nat} {T : Nat} {b : List Nat} {al : Value} {fa : Bool} (hm : MatchIs r T b) (hb : b ≠ []) (hs : ¬ Txt.item ⟨b.toArray⟩ (-1) = Str.ofString ";") (hf : fa = true) (hg : gluedAt r b.length = true) : CeIs r al fa T b (some (Str.ofString "named-entity-without-semicolon")) (Str.ofString "&" ++ ⟨(r.take T).toArray⟩) :=
  .bare T b _ hm hb hs (by rw [if_pos ⟨hf, hg⟩]; rfl)
theorem ce_sp {r : List Nat} {al : Value} {fa : Bool} {T : Nat} {b : List Nat} {f : Option Str} {out : Str} (h : CeIs r al fa T b f out) : (spacesL.map sg).any (· == out) = false := by
  cases h with
  | stop _ => decide +kernel
  | hash T _ _ _ => exact sp_amp _
  | no c T _ _ _ _ => exact sp_amp _
  | semi T b hm hb _ => exact sp_ent (match_in hm hb) _
  | bare T b out hm hb _ e =>
    rw [e]
    split
    · exact sp_amp _
    · exact sp_ent (match_in hm hb) _
theorem str_len (l : List Nat) : (⟨l.toArray⟩ : Str).length = l.length := by show (List.toArray l).size = _; rw [List.size_toArray]
theorem ce_len {r : List Nat} {al : Value} {fa : Bool} {T : Nat} {b : List Nat} {f : Option Str} {out : Str} (h : CeIs r al fa T b f out) (hr : r.length < 1000) : out.length < 1100 ∧ T < 1000 := by
  have ha : ∀ T, (ampS (r.take T)).length < 1100 := fun T => by
    show (Str.ofString "&" ++ _).length < _
    rw [Str.length_append, str_len (r.take T), List.length_take, show (Str.ofString "&").length = 1 by decide +kernel]
    omega
  have ht : ∀ {T b}, MatchIs r T b → T < 1000 := fun hm => by
    have := taken_le r
    rw [← hm.ht] at this
    omega
  have he : ∀ {T : Nat} {b : List Nat}, MatchIs r T b → b ≠ [] → (entV ⟨b.toArray⟩ ++ (⟨((r.take T).drop b.length).toArray⟩ : Str)).length < 1100 := @fun T b hm hb => by
    have := ent_len (match_in hm hb)
    rw [Str.length_append, str_len ((r.take T).drop b.length), List.length_drop, List.length_take]
    omega
  cases h with
  | stop _ => exact ⟨by decide +kernel, by omega⟩
  | hash T h1 h2 _ => exact ⟨ha _, by rcases h2 with rfl | rfl <;> omega⟩
  | no c T _ _ _ hm => exact ⟨ha _, ht hm⟩
  | semi T b hm hb _ => exact ⟨he hm hb, ht hm⟩
  | bare T b out hm hb _ e =>
    rw [e]
    split
    · exact ⟨ha _, ht hm⟩
    · exact ⟨he hm hb, ht hm⟩
/-- the sign behind the name -/
theorem item_behind {tx : Str} {i T : Nat} {b : List Nat} {vs : List Value} {last : Value} {v : Sv} {d : Int} (hm : MatchIs (RR tx i) T b) (hz : vs.length = T) (hs : SignsAre vs ((RR tx i).take T)) (hl : LastAt tx (i + T) last v d) (hT : ((RR tx i).take T).length = T) :
    (∃ c t, (vs ++ [last])[b.length]? = some (.str ⟨#[c]⟩ t) ∧ (RR tx i)[b.length]? = some c) ∨ ((vs ++ [last])[b.length]? = some .none ∧ (RR tx i)[b.length]? = none) := by
  have hb := (match_len hm).2
  by_cases h : b.length < T
  · have h2 : b.length < ((RR tx i).take T).length := by omega
    obtain ⟨t, ht⟩ := hs.at (List.getElem?_eq_getElem h2)
    refine .inl ⟨((RR tx i).take T)[b.length], t, ?_, ?_⟩
    · rw [List.getElem?_append_left (by omega)]; exact ht
    · have h3 := List.getElem?_eq_getElem h2
      rw [List.getElem?_take, if_pos h] at h3
      exact h3
  · have e : b.length = vs.length := by omega
    rw [e, List.getElem?_append_right (Nat.le_refl _), Nat.sub_self]
    rcases hl with ⟨c, t, rfl, h1, _⟩ | ⟨rfl, h1, _⟩
    · exact .inl ⟨c, t, rfl, by rw [List.getElem?_drop, hz]; exact h1⟩
    · exact .inr ⟨rfl, by rw [List.getElem?_drop, hz]; exact List.getElem?_eq_none (by omega)⟩
section
variable {r : List Nat} {n c : Nat}
theorem glued_some (h : r[n]? = some c) : gluedAt r n = (lettersL.contains c || (digitsL.contains c || ((⟨#[c]⟩ : Str) == Str.ofString "="))) := by unfold gluedAt; rw [h]
theorem glued_1 (h : r[n]? = some c) (a : lettersL.contains c = true) : true = gluedAt r n := by rw [glued_some h, a]; rfl
theorem glued_2 (h : r[n]? = some c) (a : digitsL.contains c = true) : true = gluedAt r n := by rw [glued_some h, a, Bool.true_or, Bool.or_true]
theorem glued_3 (h : r[n]? = some c) (a : ((⟨#[c]⟩ : Str) == Str.ofString "=") = true) : true = gluedAt r n := by rw [glued_some h, a, Bool.or_true, Bool.or_true]
theorem glued_0 (h : r[n]? = some c) (a1 : lettersL.contains c = false) (a2 : digitsL.contains c = false) (a3 : ((⟨#[c]⟩ : Str) == Str.ofString "=") = false) : false = gluedAt r n := by rw [glued_some h, a1, a2, a3]; rfl
end
theorem glued_none {r : List Nat} {n : Nat} (h : r[n]? = none) : gluedAt r n = false := by unfold gluedAt; rw [h]
section
variable {prog : Program} {w : World} {A : Around} {E : Value → Shared → Prop} {s : Shared} {D : Addr} {c : Nat} {u t1 t2 : Tok} {Q : Value → Shared → Prop} {a : Addr} {cs : List Nat}
theorem xX_is {h : Heap} (ht : IsTup h D #[.str (Str.ofString "x") t1, .str (Str.ofString "X") t2]) : TupOf h D [120, 88] := by
  rw [show (Str.ofString "x") = sg 120 by decide +kernel, show (Str.ofString "X") = sg 88 by decide +kernel] at ht
  exact ⟨_, ht, .cons _ _ (.cons _ _ .nil)⟩
theorem in_codes0 {ch : Nat} (ht : TupOf s.heap a cs) (hn : cs.contains ch = false) (h : Q (.bool false) s) : wpAny (model prog w) A (compareOp .In (.str ⟨#[ch]⟩ u) (.ref a)) Q E s := in_codes ht (by rw [hn]; exact h)
end
theorem value_one {v : Value} (k : Str) : PySem.valueAt [(k, v)] k = some v := by simp [PySem.valueAt]
theorem made_item {prog : Program} {w : World} {A : Around} {E : Value → Shared → Prop} {s : Shared} {h₀ : Heap} {L d : Addr} {news : List (Addr × Obj)} {o : Obj} {kvs : List (Str × Value)} {x : Str} {t : Tok} {v : Value} {value slice : PySem.Expr} {Q : Value → Shared → Prop} (N : News h₀ L s.heap news) (hp : (d, o) ∈ news) (hd : o.IsDictOf (PySem.strKind prog w) kvs) (hl : PySem.valueAt kvs x = some v) (h : Q v { s with toks := s.toks + 1 })
    (hs : subscripted slice false (.ref d) (.str x t) = operate [.ref d, (.str x t)] (getItem (.ref d) (.str x t)) := by with_unfolding_all rfl) : wpAny (model prog w) A (subscriptTail value slice (.ref d) (.str x t)) Q E s :=
  kba_turn (value' := PySem.Expr.Name (PySem.Str.ofString "_") ⟨0, 0, 0, 0⟩) (fun _ => rfl) (kda_item N hp hd (strKind_is _ _ _ _) hl h hs (fun _ => rfl))
theorem made_get {prog : Program} {w : World} {A : Around} {E : Value → Shared → Prop} {s : Shared} {l : Addr} {vs : List Value} {k : Int} {u : Tok} {x : Value} {Q : Value → Shared → Prop} (hl : s.heap.IsList l vs.toArray) (h0 : 0 ≤ k) (hk : k < 100000) (hx : vs[k.toNat]? = some x) (h : Q x s) : wpAny (model prog w) A (getItem (.ref l) (.int k u)) Q E s := wpAny_getItem_list hl h0 (by omega) (by simpa using hx) h
theorem made_set {prog : Program} {w : World} {A : Around} {E : Value → Shared → Prop} {s : Shared} {h₀ : Heap} {L D : Addr} {m : Str → Option Value} {news news' : List (Addr × Obj)} {vs : List Value} {n : Nat} {k : Int} {x : Value} {t : Tok} {Q : Unit → Shared → Prop} (F : Fr h₀ L s.heap m) (N : News h₀ L s.heap news) (U : Upd D (listOf vs.toArray n) (listOf (vs.set k.toNat x).toArray n) news news') (h0 : 0 ≤ k) (h1 : k < vs.length) (hfit : k < 2 ^ 63)
    (h : ∀ h', Fr h₀ L h' m → News h₀ L h' news' → Q () { s with heap := h' }) : wpAny (model prog w) A (setItem (.ref D) (.int k t) x) Q E s := by
  obtain ⟨pre, post, rfl, rfl, a, b⟩ := U.split
  have z := N (D, listOf vs.toArray n) (List.mem_append.mpr (.inr (.head _)))
  refine ki_setAt z.1 h0 hfit (by simpa using h1) (h _ (F.change (Heap.SameBut.update ..) z.2.1 z.2.2) (ki_turn _ N a b ?_ ?_))
  · show vs.toArray.setIfInBounds k.toNat x = (vs.set k.toNat x).toArray
    apply Array.toList_inj.mp
    simp
  · simp
theorem outC_ {w : World} {h₀ h' : Heap} {L : Addr} {s : Shared} {a x sd td : Nat} {K : Ks} {Kx : Kt} {tx : Str} {ux ud : Tok} {rest : List (Addr × Obj)} {vs : List Value} {last : Value} {n i tk : Nat} {v : Sv} {d : Int} {m₀ : Str → Option Value} (F : Fr h₀ L h' m₀) (N : News h₀ L h' (ledC w a x sd td K Kx tx ux rest ⟨vs, last, (vs ++ [last]).toArray, n, v, d, ud⟩)) (hs : ScanAt tx i vs last v d) (hb : ∃ b, MatchIs (RR tx i) vs.length b) :
    OutW h₀ L s (ledC w a x sd td K Kx tx ux rest) (fun _ => []) [] m₀ (exC tx i) { s with heap := h', toks := tk } := outW_ ⟨vs, last, _, n, v, d, ud⟩ F N (fun _ h => h) (fun _ h => nomatch h) (fun _ _ _ => rfl) ⟨⟨rfl, hs⟩, hb⟩
noncomputable abbrev objOf {prog : Program} {w : World} {o : Obj} {l : List (Str × Value)} (_h : o.IsDictOf (PySem.strKind prog w) l) : Obj := o
noncomputable def HashMark : Prop := True
noncomputable def IfMark : Prop := True
theorem last_split {tx : Str} {i : Nat} {last : Value} {v : Sv} {d : Int} (al : Value) (hnum : (MM tx)[i]? = some 35 → NoNum tx i) (h : LastAt tx i last v d) : (last = .none ∧ i = (MM tx).length ∧ At tx v d i) ∨ (∃ t, last = .str ⟨#[35]⟩ t ∧ (MM tx)[i]? = some 35 ∧ At tx v d (i + 1) ∧ 1 ≤ v.k ∧ NoNum tx i ∧ spacesL.contains 35 = false ∧ (35 == 60 || 35 == 38) = false ∧ alIs al 35 = false ∧ ((⟨#[35]⟩ : Str) == Str.ofString "#") = true ∧ HashMark) ∨
    ∃ c t, last = .str ⟨#[c]⟩ t ∧ (MM tx)[i]? = some c ∧ At tx v d (i + 1) ∧ 1 ≤ v.k ∧ (spacesL.contains c = true ∨ (spacesL.contains c = false ∧ (c == 60 || c == 38) = true) ∨ (spacesL.contains c = false ∧ (c == 60 || c == 38) = false ∧ alIs al c = true) ∨ (spacesL.contains c = false ∧ (c == 60 || c == 38) = false ∧ alIs al c = false ∧ ((⟨#[c]⟩ : Str) == Str.ofString "#") = false)) := by
  rcases h with ⟨c, t, h1, h2, h3, h4⟩ | ⟨h1, h2, h3⟩
  · rcases ce_split c al with q | q | q | ⟨rfl, q1, q2, q3, q4⟩ | q
    · exact .inr (.inr ⟨c, t, h1, h2, h3, h4, .inl q⟩)
    · exact .inr (.inr ⟨c, t, h1, h2, h3, h4, .inr (.inl q)⟩)
    · exact .inr (.inr ⟨c, t, h1, h2, h3, h4, .inr (.inr (.inl q))⟩)
    · exact .inr (.inl ⟨t, h1, h2, h3, h4, hnum h2, q1, q2, q3, q4, trivial⟩)
    · exact .inr (.inr ⟨c, t, h1, h2, h3, h4, .inr (.inr (.inr q))⟩)
  · exact .inl ⟨h1, h2, h3⟩
theorem char_last {prog : Program} {w : World} {p : Program} {loose : List Str} {mean : ExcName → Option Value} {mg mb : Str → Option Value}
    {A : Around} {env : Env} {outer : List Env} {A₀ : Around} {base h₀ : Heap} {L : Addr} {m : Str → Option Value} {s : Shared} {Q E : Value → Shared → Prop}
    {x sd td : Nat} {K : Ks} {v : Sv} {Kx : Kt} {tx : Str} {ux ud : Tok} {d : Int} {i : Nat}
    (B : Below A₀ base outer h₀) (F : Fr h₀ L s.heap m) (X : (Mine.a.heap_1_39 w.params).In h₀) (T : Top p loose mean mg mb h₀) (hA : A.frames = some (env :: outer)) (hh : A.handled = none) (hf : env.frame = some L) (hke : env.scope.kind = .function)
    (hd : A.depth + 7 < recursionLimit) (hu : A.units + 60 < cLine) (N : News h₀ L s.heap [(x, instObj 166 sd), (sd, sdict w K v), (K.ds, instObj 73 td), (td, tdict w Kx tx ux d ud), (K.mo, methodObj (.ref 148) (.ref x))])
    (o1 : sd < x) (o2 : x < K.mo) (o3 : K.mo < td) (o4 : td < K.ds) (hx : tx.length < 1000) (hok : ∀ c ∈ tx.cps.toList, okc c) (hat : At tx v d i)
    (post : ∀ h' tk r v' d' ud', LastAt tx i r v' d' → Fr h₀ L h' m → News h₀ L h' [(x, instObj 166 sd), (sd, sdict w K v'), (K.ds, instObj 73 td), (td, tdict w Kx tx ux d' ud'), (K.mo, methodObj (.ref 148) (.ref x))] → Keeps [x, sd, K.ds, td, K.mo] s.heap h' → Q r { s with heap := h', toks := tk }) : wpAny (model prog w) A (call (.ref 133) [.ref x]) Q E s := by
  by_cases hl : i < (MM tx).length
  · exact char_some B F X T hA hh hf hke (by omega) (by omega) N o1 o2 o3 o4 hx hok hat (List.getElem?_eq_getElem hl) fun h' tk t v' d' ud' h1 h2 F' N' K' => post h' tk _ v' d' ud' (.inl ⟨_, t, rfl, List.getElem?_eq_getElem hl, h1, h2⟩) F' N' K'
  · have e : i = (MM tx).length := by have := hat.le; omega
    exact char_none B F X T hA hh hf hke (by omega) (by omega) N o1 o2 o3 o4 hx hat e fun h' tk v' d' ud' h1 F' N' K' => post h' tk _ v' d' ud' (.inr ⟨rfl, e, h1⟩) F' N' K'
end
section
local macro_rules | `(tactic| k_all) => `(tactic| with_reducible assumption)
theorem lines_E6_1 : True := by
  (k_with "call ref" => safely ((k_here; (with_reducible show wpAny _ _ (call (Value.ref 133) _ _) _ _ _); (refine with_toks ?_); k_dflt (refine' char_any  ?quBQ ?quFQ ?quXQ ?quTQ ?quAQ ?quhQ ?qufQ ?qukQ ?qudQ ?quuQ ?quNQ ?qo1Q ?qo2Q ?qo3Q ?qo4Q ?qo5Q ?qo6Q ?qo7Q ?_; (case quAQ => exact rfl); (case quhQ => exact rfl); (case qufQ => exact rfl); (case qukQ => exact rfl); (case quBQ => k_asm); (case quFQ => k_asm); (case quXQ => k_asm); (case quTQ => k_asm); (case quNQ => exact news_sub (by k_asm) (by (repeat (first | exact List.forall_mem_nil _ | (refine' sub_cons ?qzA9Q ?_; (case qzA9Q => k_mem)))))); (case qudQ => k_room); (case quuQ => k_units); (case qo1Q => omega); (case qo2Q => omega); (case qo3Q => omega); (case qo4Q => omega); (case qo5Q => assumption); (case qo6Q => assumption); (case qo7Q => assumption); k_whole; intro h9Qq tk9Qq r9Qq i9Qq v9Qq d9Qq ud9Qq hr9Qq hat9Qq F9Qq N9Qq K9Qq; intro ht9Qq; (have N9pQq := news_nextc (by k_asm) K9Qq N9Qq (by (repeat (first | exact Rest.nil | exact Rest.none | (refine Rest.own (by assumption) ?_; (repeat (first | exact List.forall_mem_nil _ | (refine' sub_cons ?qzA9Q ?_; (case qzA9Q => k_mem))))) | (apply Rest.skip; (focus first | exact mem_0 | exact mem_1 | exact mem_2 | exact mem_3 | exact mem_4 | exact mem_5 | exact mem_6)) | (apply Rest.keep; (focus k_all))))) (by first | exact Cat.nil | exact (Cat.cons Cat.nil) | exact (Cat.cons (Cat.cons Cat.nil)) | exact (Cat.cons (Cat.cons (Cat.cons Cat.nil))) | exact (Cat.cons (Cat.cons (Cat.cons (Cat.cons Cat.nil)))) | exact (Cat.cons (Cat.cons (Cat.cons (Cat.cons (Cat.cons Cat.nil))))) | exact (Cat.cons (Cat.cons (Cat.cons (Cat.cons (Cat.cons (Cat.cons Cat.nil)))))) | exact (Cat.cons (Cat.cons (Cat.cons (Cat.cons (Cat.cons (Cat.cons (Cat.cons Cat.nil))))))) | exact (Cat.cons (Cat.cons (Cat.cons (Cat.cons (Cat.cons (Cat.cons (Cat.cons (Cat.cons Cat.nil)))))))))); clear N9Qq K9Qq; (try dsimp only at ht9Qq); (try k_sweep); (rcases hr9Qq with ⟨ch9Qq, t9Qq, hr9Qq, hi9Qq, hj9Qq, hk9Qq⟩ | ⟨hr9Qq, hi9Qq, hj9Qq⟩ <;> (subst hr9Qq) <;> (subst hj9Qq))))))
  (k_with "call ref" => safely ((k_here; (with_reducible show wpAny _ _ (call (Value.ref 163) _ _) _ _ _); (refine with_toks ?_); k_dflt (refine' un_none  ?quBQ ?quFQ ?quXQ ?quTQ ?quAQ ?quhQ ?qufQ ?qukQ ?qudQ ?quuQ ?quNQ  ?_; (case quAQ => exact rfl); (case quhQ => exact rfl); (case qufQ => exact rfl); (case qukQ => exact rfl); (case quBQ => k_asm); (case quFQ => k_asm); (case quXQ => k_asm); (case quTQ => k_asm); (case quNQ => exact news_sub (by k_asm) (by (repeat (first | exact List.forall_mem_nil _ | (refine' sub_cons ?qzA9Q ?_; (case qzA9Q => k_mem)))))); (case qudQ => k_room); (case quuQ => k_units);  k_whole; intro h9Qq tk9Qq F9Qq N9Qq K9Qq; intro ht9Qq; (have N9pQq := news_nextc (by k_asm) K9Qq N9Qq (by (repeat (first | exact Rest.nil | exact Rest.none | (refine Rest.own (by assumption) ?_; (repeat (first | exact List.forall_mem_nil _ | (refine' sub_cons ?qzA9Q ?_; (case qzA9Q => k_mem))))) | (apply Rest.skip; (focus first | exact mem_0 | exact mem_1 | exact mem_2 | exact mem_3 | exact mem_4 | exact mem_5 | exact mem_6)) | (apply Rest.keep; (focus k_all))))) (by first | exact Cat.nil | exact (Cat.cons Cat.nil) | exact (Cat.cons (Cat.cons Cat.nil)) | exact (Cat.cons (Cat.cons (Cat.cons Cat.nil))) | exact (Cat.cons (Cat.cons (Cat.cons (Cat.cons Cat.nil)))) | exact (Cat.cons (Cat.cons (Cat.cons (Cat.cons (Cat.cons Cat.nil))))) | exact (Cat.cons (Cat.cons (Cat.cons (Cat.cons (Cat.cons (Cat.cons Cat.nil)))))) | exact (Cat.cons (Cat.cons (Cat.cons (Cat.cons (Cat.cons (Cat.cons (Cat.cons Cat.nil))))))) | exact (Cat.cons (Cat.cons (Cat.cons (Cat.cons (Cat.cons (Cat.cons (Cat.cons (Cat.cons Cat.nil)))))))))); clear N9Qq K9Qq; (try dsimp only at ht9Qq); (try k_sweep)))))
  (k_with "call ref" => safely ((k_here; (with_reducible show wpAny _ _ (call (Value.ref 163) _ _) _ _ _); (refine with_toks ?_); k_dflt (refine' un_at  ?quBQ ?quFQ ?quXQ ?quTQ ?quAQ ?quhQ ?qufQ ?qukQ ?qudQ ?quuQ ?quNQ ?qo1Q ?qo2Q ?qo3Q ?qo4Q ?qo5Q ?_; (case quAQ => exact rfl); (case quhQ => exact rfl); (case qufQ => exact rfl); (case qukQ => exact rfl); (case quBQ => k_asm); (case quFQ => k_asm); (case quXQ => k_asm); (case quTQ => k_asm); (case quNQ => exact news_sub (by k_asm) (by (repeat (first | exact List.forall_mem_nil _ | (refine' sub_cons ?qzA9Q ?_; (case qzA9Q => k_mem)))))); (case qudQ => k_room); (case quuQ => k_units); (case qo1Q => omega); (case qo2Q => assumption); (case qo3Q => assumption); (case qo4Q => assumption); (case qo5Q => assumption); k_whole; intro h9Qq tk9Qq v9Qq hat9Qq F9Qq N9Qq K9Qq; intro ht9Qq; (have N9pQq := news_nextc (by k_asm) K9Qq N9Qq (by (repeat (first | exact Rest.nil | exact Rest.none | (refine Rest.own (by assumption) ?_; (repeat (first | exact List.forall_mem_nil _ | (refine' sub_cons ?qzA9Q ?_; (case qzA9Q => k_mem))))) | (apply Rest.skip; (focus first | exact mem_0 | exact mem_1 | exact mem_2 | exact mem_3 | exact mem_4 | exact mem_5 | exact mem_6)) | (apply Rest.keep; (focus k_all))))) (by first | exact Cat.nil | exact (Cat.cons Cat.nil) | exact (Cat.cons (Cat.cons Cat.nil)) | exact (Cat.cons (Cat.cons (Cat.cons Cat.nil))) | exact (Cat.cons (Cat.cons (Cat.cons (Cat.cons Cat.nil)))) | exact (Cat.cons (Cat.cons (Cat.cons (Cat.cons (Cat.cons Cat.nil))))) | exact (Cat.cons (Cat.cons (Cat.cons (Cat.cons (Cat.cons (Cat.cons Cat.nil)))))) | exact (Cat.cons (Cat.cons (Cat.cons (Cat.cons (Cat.cons (Cat.cons (Cat.cons Cat.nil))))))) | exact (Cat.cons (Cat.cons (Cat.cons (Cat.cons (Cat.cons (Cat.cons (Cat.cons (Cat.cons Cat.nil)))))))))); clear N9Qq K9Qq; (try dsimp only at ht9Qq); (try k_sweep)))))
  (k_with "compareOp In str ref" => safely ((k_here; (with_reducible show wpAny _ _ (compareOp CmpOp.In _ (Value.ref 22)) _ _ _); first | with_reducible refine in_codes (tup22 (by k_in)) ?_ | with_reducible refine in_codesS (tup22 (by k_in)) ?_)))
  (k_with "compareOp In none ref" => safely ((k_here; (with_reducible show wpAny _ _ (compareOp CmpOp.In _ (Value.ref 22)) _ _ _); with_reducible refine in_codesN (tup22 (by k_in)) ?_)))
  (k_with "compareOp In str ref" => safely ((k_here; (with_reducible show wpAny _ _ (compareOp CmpOp.In _ (Value.ref 27)) _ _ _); first | with_reducible refine in_codes (tup27 (by k_in)) ?_ | with_reducible refine in_codesS (tup27 (by k_in)) ?_)))
  (k_with "compareOp In none ref" => safely ((k_here; (with_reducible show wpAny _ _ (compareOp CmpOp.In _ (Value.ref 27)) _ _ _); with_reducible refine in_codesN (tup27 (by k_in)) ?_)))
  (k_with "compareOp In str ref" => safely ((k_here; (with_reducible show wpAny _ _ (compareOp CmpOp.In _ (Value.ref 32)) _ _ _); first | with_reducible refine in_codes (tup32 (by k_in)) ?_ | with_reducible refine in_codesS (tup32 (by k_in)) ?_)))
  (k_with "compareOp In none ref" => safely ((k_here; (with_reducible show wpAny _ _ (compareOp CmpOp.In _ (Value.ref 32)) _ _ _); with_reducible refine in_codesN (tup32 (by k_in)) ?_)))
  (k_with "compareOp In str ref" => safely ((k_here; (with_reducible show wpAny _ _ (compareOp CmpOp.In _ (Value.ref 37)) _ _ _); first | with_reducible refine in_codes (tup37 (by k_in)) ?_ | with_reducible refine in_codesS (tup37 (by k_in)) ?_)))
  (k_with "compareOp In none ref" => safely ((k_here; (with_reducible show wpAny _ _ (compareOp CmpOp.In _ (Value.ref 37)) _ _ _); with_reducible refine in_codesN (tup37 (by k_in)) ?_)))
  (k_with "subscriptTail Subscript" => safely ((k_here; (with_reducible show wpAny _ _ (subscriptTail _ _ (Value.ref _) (Value.int _ _)) _ _ _); k_dflt (refine' kde_neg ?qlQ ?qaQ ?qbQ ?qcQ ?qdQ ?_ ?qsQ; (case qlQ => exact News.isList (by k_asm) (by k_mem)); (case qaQ => decide); (case qbQ => decide); (case qcQ => exact rfl); (case qdQ => exact rfl); (case qsQ => with_unfolding_all rfl); k_whole))))
  (k_with "setItem ref int" => safely ((k_here; k_dflt (refine' made_set ?qFQ ?qNQ ?qUQ ?qaQ ?qbQ ?qcQ ?_; (case qFQ => k_asm); (case qNQ => k_asm); (case qUQ => k_upd); (case qaQ => decide); (case qbQ => (simp only [List.length_cons, List.length_nil]; decide)); (case qcQ => decide); k_whole); intro hpQq FpQq NpQq)))
  (k_with "getItem ref int" => safely ((k_here; k_dflt (refine' made_get ?qlQ ?qaQ ?qbQ ?qcQ ?_; (case qlQ => exact News.isList (by k_asm) (by k_mem)); (case qaQ => decide); (case qbQ => decide); (case qcQ => rfl); k_whole))))
  (k_with "subscriptTail Attribute" => safely ((k_here; (with_reducible show wpAny _ _ (subscriptTail _ _ (Value.ref _) (Value.str _ _)) _ _ _); k_dflt (refine' made_item ?qNQ ?qpQ ?qdQ ?qlQ ?_ ?qsQ; (case qNQ => k_asm); (case qpQ => k_mem); (case qdQ => with_reducible assumption); (case qlQ => exact value_one _); (case qsQ => with_unfolding_all rfl); k_whole))))
  (k_with "call builtin:list.append" => safely ((k_here; (with_reducible show wpAny _ _ (call (Value.builtin _) [Value.ref _, _]) _ _ _); k_dflt (refine' append_small ?qFQ ?qNQ ?qUQ ?qzQ ?_; (case qFQ => k_asm); (case qNQ => k_asm); (case qUQ => k_upd); (case qzQ => first | omega | (simp only [Array.size_push, List.size_toArray, List.length_append, List.length_cons, List.length_nil]; omega)); k_whole); intro hpQq FpQq NpQq; (try dsimp only [List.nil_append, List.cons_append] at NpQq))))
  (k_with "subscriptTail" => safely ((k_here; (with_reducible show wpAny _ _ (subscriptTail _ _ (Value.ref 43) (Value.str _ _)) _ _ _); k_dflt (refine' topItem_K ?qFQ ?qXQ ?qlQ ?qkQ ?qeQ ?_ ?qsQ; (case qFQ => k_asm); (case qXQ => k_asm); (case qlQ => k_is); (case qkQ => k_keys); (case qeQ => with_reducible assumption); (case qsQ => with_unfolding_all rfl); k_whole))))
  (k_with "subscriptTail" => safely ((k_here; (with_reducible show wpAny _ _ (subscriptTail _ _ (Value.ref 48) (Value.str _ _)) _ _ _); k_dflt (refine' topItem_K ?qFQ ?qXQ ?qlQ ?qkQ ?qeQ ?_ ?qsQ; (case qFQ => k_asm); (case qXQ => k_asm); (case qlQ => k_is); (case qkQ => k_keys); (case qeQ => k_is); (case qsQ => with_unfolding_all rfl); k_whole))))
  (k_with "compareOp In str ref" => safely ((k_here; (with_reducible show wpAny _ _ (compareOp CmpOp.In (Value.str _ _) (Value.ref 22)) _ _ _); refine in_codesF (tup22 (by k_in)) (by first | with_reducible exact sp_amp _ | with_reducible exact sp_ent (by assumption) _ | decide +kernel) ?_)))
  (k_with "subscriptTail" => safely ((k_here; (with_reducible show wpAny _ _ (subscriptTail _ _ (Value.ref _) (Value.int 0 _)) _ _ _); k_dflt (refine' nth_list ?qlQ ?qh0Q ?qxQ ?qnQ ?_ ?qsQ ?qgQ; (case qlQ => exact News.isList (by k_asm) (by k_mem)); (case qh0Q => exact Int.le_refl _); (case qxQ => rfl); (case qnQ => (simp only [List.length_cons, List.length_nil]; omega)); (case qsQ => with_unfolding_all rfl); (case qgQ => (intro _; with_unfolding_all rfl)); k_whole))))
  (k_with "compareOp In str ref" => safely ((k_here; (with_reducible show wpAny _ _ (compareOp CmpOp.In (Value.str _ _) (Value.ref _)) _ _ _); (with_reducible refine in_stop (News.isTup (by k_asm) (List.Mem.head _)) ?_); (rename News _ _ _ _ => lN9Qq); (have lN8Qq := news_tail lN9Qq); (try clear lN9Qq))))
  (k_with "compareOp In none ref" => safely ((k_here; (with_reducible show wpAny _ _ (compareOp CmpOp.In Value.none (Value.ref _)) _ _ _); (with_reducible refine in_stopN (News.isTup (by k_asm) (List.Mem.head _)) ?_); (rename News _ _ _ _ => lN9Qq); (have lN8Qq := news_tail lN9Qq); (try clear lN9Qq))))
  (k_with "isTrue BoolOp" => safely ((k_here; (with_reducible show wpAny _ _ (isTrue (Expr.BoolOp BoolOp.And [Expr.Compare _ [CmpOp.IsNot] _ _, _] _) _ _) _ _ _); k_dflt (refine' join_al ?qfQ ?qnQ ?qmQ ?qoQ ?qaQ ?qbQ ?qcQ ?qdQ ?qeQ ?_; (case qfQ => k_asm); (case qnQ => k_asm); (case qmQ => k_mem); (case qoQ => with_reducible assumption); (case qaQ => rfl); (case qbQ => rfl); (case qcQ => rfl); (case qdQ => rfl); (case qeQ => rfl); k_whole); intro tk9Qq)))
  (k_with "subscriptTail" => safely ((k_here; (with_reducible show wpAny _ _ (subscriptTail _ _ (Value.ref _) (Value.int (-1) _)) _ _ _); k_dflt (refine' PyProof.Rows.item_last ?qlQ ?_ ?qsQ ?qgQ; (case qlQ => exact News.isList (by k_asm) (by k_mem)); (case qsQ => with_unfolding_all rfl); (case qgQ => (intro _; with_unfolding_all rfl)); k_whole))))
  (k_with "call builtin:str.join" => safely ((k_here; (with_reducible show wpAny _ _ (call (Value.builtin "str.join") [Value.str _ _, Value.ref _]) _ _ _); k_dflt (refine' join_signs ?qlQ ?qsQ ?qnQ ?_; (case qlQ => exact News.isList (by k_asm) (by k_mem)); (case qsQ => first | with_reducible assumption | exact SignsAre.drop _ (by with_reducible assumption)); (case qnQ => (first | omega | (simp only [List.length_drop, List.length_take]; omega))); k_whole); intro t9Qq k9Qq hl9Qq; (try rw [List.length_drop] at hl9Qq))))
  (k_with "call builtin:str.join" => safely ((k_here; (with_reducible show wpAny _ _ (call (Value.builtin "str.join") [Value.str _ _, Value.ref _]) _ _ _); k_dflt (refine' join_signs ?qlQ ?qsQ ?qnQ ?_; (case qlQ => exact News.isList (by k_asm) (List.Mem.head _)); (case qsQ => first | with_reducible assumption | exact SignsAre.drop _ (by with_reducible assumption)); (case qnQ => (first | omega | (simp only [List.length_drop, List.length_take]; omega))); k_whole); intro t9Qq k9Qq hl9Qq; (try rw [List.length_drop] at hl9Qq); (rename News _ _ _ _ => lN9Qq); (have lN8Qq := news_tail lN9Qq); (try clear lN9Qq))))
  (k_with "call builtin:list.pop" => safely ((k_here; (with_reducible show wpAny _ _ (call (Value.builtin _) [Value.ref _]) _ _ _); k_dflt (refine' pop_last ?qFQ ?qNQ ?qUQ ?qzQ ?_; (case qFQ => k_asm); (case qNQ => k_asm); (case qUQ => k_upd); (case qzQ => omega); k_whole); intro hpQq FpQq NpQq; (try dsimp only [List.nil_append, List.cons_append] at NpQq))))
  (k_with "subscriptTail Name Slice ref ref" => safely ((k_here; (with_reducible show wpAny _ _ (subscriptTail _ (PySem.Expr.Slice _ _ none _) (Value.ref _) (Value.ref _)) _ _ _); k_dflt (refine' kms_slice_lit ?qFQ ?qNQ ?qlQ ?qpQ ?qqQ ?qeQ ?_ ?qsQ ?qtQ ?qzQ; (case qFQ => k_asm); (case qNQ => k_asm); (case qlQ => exact News.isList (by k_asm) (by k_mem)); (case qpQ => kmk_part); (case qqQ => kmk_part); (case qeQ => first | exact pick_front rfl | exact pick_back (by omega) (by omega)); (case qsQ => with_unfolding_all rfl); (case qtQ => kmk_pure); (case qzQ => (rw [sizeLine_eq]; simp; omega)); k_whole); intro DpQq hpQq FpQq NpQq l1Qq; clear l1Qq)))
  (k_with "call ref" => safely ((k_here; (with_reducible show wpAny _ _ (call (Value.ref 163) _ _) _ _ _); (refine with_toks ?_); k_dflt (refine' un_last  ?quBQ ?quFQ ?quXQ ?quTQ ?quAQ ?quhQ ?qufQ ?qukQ ?qudQ ?quuQ ?quNQ ?qo1Q ?qo2Q ?qo3Q ?_; (case quAQ => exact rfl); (case quhQ => exact rfl); (case qufQ => exact rfl); (case qukQ => exact rfl); (case quBQ => k_asm); (case quFQ => k_asm); (case quXQ => k_asm); (case quTQ => k_asm); (case quNQ => exact news_sub (by k_asm) (by (repeat (first | exact List.forall_mem_nil _ | (refine' sub_cons ?qzA9Q ?_; (case qzA9Q => k_mem)))))); (case qudQ => k_room); (case quuQ => k_units); (case qo1Q => omega); (case qo2Q => assumption); (case qo3Q => with_reducible assumption); k_whole; intro h9Qq tk9Qq v9Qq hat9Qq F9Qq N9Qq K9Qq; intro ht9Qq; (have N9pQq := news_nextc (by k_asm) K9Qq N9Qq (by (repeat (first | exact Rest.nil | exact Rest.none | (refine Rest.own (by assumption) ?_; (repeat (first | exact List.forall_mem_nil _ | (refine' sub_cons ?qzA9Q ?_; (case qzA9Q => k_mem))))) | (apply Rest.skip; (focus first | exact mem_0 | exact mem_1 | exact mem_2 | exact mem_3 | exact mem_4 | exact mem_5 | exact mem_6)) | (apply Rest.keep; (focus k_all))))) (by first | exact Cat.nil | exact (Cat.cons Cat.nil) | exact (Cat.cons (Cat.cons Cat.nil)) | exact (Cat.cons (Cat.cons (Cat.cons Cat.nil))) | exact (Cat.cons (Cat.cons (Cat.cons (Cat.cons Cat.nil)))) | exact (Cat.cons (Cat.cons (Cat.cons (Cat.cons (Cat.cons Cat.nil))))) | exact (Cat.cons (Cat.cons (Cat.cons (Cat.cons (Cat.cons (Cat.cons Cat.nil)))))) | exact (Cat.cons (Cat.cons (Cat.cons (Cat.cons (Cat.cons (Cat.cons (Cat.cons Cat.nil))))))) | exact (Cat.cons (Cat.cons (Cat.cons (Cat.cons (Cat.cons (Cat.cons (Cat.cons (Cat.cons Cat.nil)))))))))); clear N9Qq K9Qq; (try dsimp only at ht9Qq); (try k_sweep)))))
  (k_with "call ref" => safely ((k_here; (with_reducible show wpAny _ _ (call (Value.ref 227) _ _) _ _ _); (refine with_toks ?_); k_dflt (refine' lp_some  ?quBQ ?quFQ ?quXQ ?quTQ ?quAQ ?quhQ ?qufQ ?qukQ ?qudQ ?quuQ ?quNQ ?qo1Q ?qo2Q ?_; (case quAQ => exact rfl); (case quhQ => exact rfl); (case qufQ => exact rfl); (case qukQ => exact rfl); (case quBQ => k_asm); (case quFQ => k_asm); (case quXQ => k_asm); (case quTQ => k_asm); (case quNQ => exact news_sub (by k_asm) (by (repeat (first | exact List.forall_mem_nil _ | (refine' sub_cons ?qzA9Q ?_; (case qzA9Q => k_mem)))))); (case qudQ => k_room); (case quuQ => k_units); (case qo1Q => omega); (case qo2Q => with_reducible assumption); k_whole; intro h9Qq tk9Qq y9Qq t9Qq hy9Qq F9Qq N9Qq K9Qq; intro ht9Qq; (have N9pQq := news_nextc (by k_asm) K9Qq N9Qq (by (repeat (first | exact Rest.nil | exact Rest.none | (refine Rest.own (by assumption) ?_; (repeat (first | exact List.forall_mem_nil _ | (refine' sub_cons ?qzA9Q ?_; (case qzA9Q => k_mem))))) | (apply Rest.skip; (focus first | exact mem_0 | exact mem_1 | exact mem_2 | exact mem_3 | exact mem_4 | exact mem_5 | exact mem_6)) | (apply Rest.keep; (focus k_all))))) (by first | exact Cat.nil | exact (Cat.cons Cat.nil) | exact (Cat.cons (Cat.cons Cat.nil)) | exact (Cat.cons (Cat.cons (Cat.cons Cat.nil))) | exact (Cat.cons (Cat.cons (Cat.cons (Cat.cons Cat.nil)))) | exact (Cat.cons (Cat.cons (Cat.cons (Cat.cons (Cat.cons Cat.nil))))) | exact (Cat.cons (Cat.cons (Cat.cons (Cat.cons (Cat.cons (Cat.cons Cat.nil)))))) | exact (Cat.cons (Cat.cons (Cat.cons (Cat.cons (Cat.cons (Cat.cons (Cat.cons Cat.nil))))))) | exact (Cat.cons (Cat.cons (Cat.cons (Cat.cons (Cat.cons (Cat.cons (Cat.cons (Cat.cons Cat.nil)))))))))); clear N9Qq K9Qq; (try dsimp only at ht9Qq); (try k_sweep); (subst hy9Qq)))))
  (k_with "call ref" => safely ((k_here; (with_reducible show wpAny _ _ (call (Value.ref 227) _ _) _ _ _); k_dflt (refine' lp_none ?quBQ ?quFQ ?quXQ ?quTQ ?quAQ ?quhQ ?qufQ ?qukQ ?qudQ ?quuQ ?quNQ ?qo1Q ?qo2Q ?_; (case quAQ => exact rfl); (case quhQ => exact rfl); (case qufQ => exact rfl); (case qukQ => exact rfl); (case quBQ => k_asm); (case quFQ => k_asm); (case quXQ => k_asm); (case quTQ => k_asm); (case quNQ => k_asm); (case qudQ => k_room); (case quuQ => k_units); (case qo1Q => omega); (case qo2Q => with_reducible assumption); k_whole; intro G9Qq h9Qq tk9Qq e9Qq F9Qq R9Qq U9Qq))))
  (k_with "call ref" => safely ((k_here; (fail_if_success (rename HashMark => hmk9Qq)); (with_reducible show wpAny _ _ (call (Value.ref 133) _ _) _ _ _); (refine with_toks ?_); k_dflt (refine' char_last  ?quBQ ?quFQ ?quXQ ?quTQ ?quAQ ?quhQ ?qufQ ?qukQ ?qudQ ?quuQ ?quNQ ?qo1Q ?qo2Q ?qo3Q ?qo4Q ?qo5Q ?qo6Q ?qo7Q ?_; (case quAQ => exact rfl); (case quhQ => exact rfl); (case qufQ => exact rfl); (case qukQ => exact rfl); (case quBQ => k_asm); (case quFQ => k_asm); (case quXQ => k_asm); (case quTQ => k_asm); (case quNQ => exact news_sub (by k_asm) (by (repeat (first | exact List.forall_mem_nil _ | (refine' sub_cons ?qzA9Q ?_; (case qzA9Q => k_mem)))))); (case qudQ => k_room); (case quuQ => k_units); (case qo1Q => omega); (case qo2Q => omega); (case qo3Q => omega); (case qo4Q => omega); (case qo5Q => assumption); (case qo6Q => assumption); (case qo7Q => assumption); k_whole; intro h9Qq tk9Qq r9Qq v9Qq d9Qq ud9Qq hla9Qq F9Qq N9Qq K9Qq; intro ht9Qq; (have N9pQq := news_nextc (by k_asm) K9Qq N9Qq (by (repeat (first | exact Rest.nil | exact Rest.none | (refine Rest.own (by assumption) ?_; (repeat (first | exact List.forall_mem_nil _ | (refine' sub_cons ?qzA9Q ?_; (case qzA9Q => k_mem))))) | (apply Rest.skip; (focus first | exact mem_0 | exact mem_1 | exact mem_2 | exact mem_3 | exact mem_4 | exact mem_5 | exact mem_6)) | (apply Rest.keep; (focus k_all))))) (by first | exact Cat.nil | exact (Cat.cons Cat.nil) | exact (Cat.cons (Cat.cons Cat.nil)) | exact (Cat.cons (Cat.cons (Cat.cons Cat.nil))) | exact (Cat.cons (Cat.cons (Cat.cons (Cat.cons Cat.nil)))) | exact (Cat.cons (Cat.cons (Cat.cons (Cat.cons (Cat.cons Cat.nil))))) | exact (Cat.cons (Cat.cons (Cat.cons (Cat.cons (Cat.cons (Cat.cons Cat.nil)))))) | exact (Cat.cons (Cat.cons (Cat.cons (Cat.cons (Cat.cons (Cat.cons (Cat.cons Cat.nil))))))) | exact (Cat.cons (Cat.cons (Cat.cons (Cat.cons (Cat.cons (Cat.cons (Cat.cons (Cat.cons Cat.nil)))))))))); clear N9Qq K9Qq; (try dsimp only at ht9Qq); (try k_sweep); (have hha9Qq := hla9Qq.handed)))))
  trivial
theorem lines_E6_2 : True := by
  (k_with "subscriptTail Name UnaryOp ref int" => safely ((k_here; (with_reducible show wpAny _ _ (subscriptTail _ _ (Value.ref _) (Value.int (-1) _)) _ _ _); k_dflt (refine' PyProof.Rows.item_last ?qlQ ?_ ?qsQ ?qgQ; (case qlQ => exact News.isList (by k_asm) (by k_mem)); (case qsQ => with_unfolding_all rfl); (case qgQ => (intro _; with_unfolding_all rfl)); k_whole))))
  (k_with "subscriptTail Name Constant ref int" => safely ((k_here; (with_reducible show wpAny _ _ (subscriptTail _ _ (Value.ref _) (Value.int 0 _)) _ _ _); k_dflt (refine' nth_list ?qlQ ?qh0Q ?qxQ ?qnQ ?_ ?qsQ ?qgQ; (case qlQ => exact News.isList (by k_asm) (by k_mem)); (case qh0Q => exact Int.le_refl _); (case qxQ => rfl); (case qnQ => (simp only [List.length_cons, List.length_nil]; omega)); (case qsQ => with_unfolding_all rfl); (case qgQ => (intro _; with_unfolding_all rfl)); k_whole))))
  (k_with "compareOp In str ref" => safely ((k_here; (with_reducible show wpAny _ _ (compareOp CmpOp.In (Value.str (Str.mk _) _) (Value.ref 32)) _ _ _); (rename HashMark => hmk9Qq); (rename NoNum _ _ => hnn9Qq); (with_reducible refine in_codes0 (tup32 (by k_in)) (hnn9Qq.n1 _ (by assumption)) ?_))))
  (k_with "compareOp In str ref" => safely ((k_here; (with_reducible show wpAny _ _ (compareOp CmpOp.In (Value.str (Str.mk _) _) (Value.ref 37)) _ _ _); (rename HashMark => hmk9Qq); (rename NoNum _ _ => hnn9Qq); (with_reducible refine in_codes0 (tup37 (by k_in)) (hnn9Qq.n2 _ _ (by assumption) (by assumption) (by assumption)) ?_))))
  (k_with "compareOp In str ref" => safely ((k_here; (with_reducible show wpAny _ _ (compareOp CmpOp.In (Value.str (Str.mk _) _) (Value.ref _)) _ _ _); (with_reducible refine in_codes (xX_is (News.isTup (by k_asm) (List.Mem.head _))) ?_); (rename News _ _ _ _ => lN9Qq); (have lN8Qq := news_tail lN9Qq); (try clear lN9Qq))))
  (k_with "compareOp In none ref" => safely ((k_here; (rename HashMark => hmk9Qq); (with_reducible show wpAny _ _ (compareOp CmpOp.In Value.none (Value.ref _)) _ _ _); (with_reducible refine in_codesN (xX_is (News.isTup (by k_asm) (List.Mem.head _))) ?_); (rename News _ _ _ _ => lN9Qq); (have lN8Qq := news_tail lN9Qq); (try clear lN9Qq))))
  (k_with "compareOp In str ref" => safely ((k_here; (with_reducible show wpAny _ _ (compareOp CmpOp.In (Value.str _ _) (Value.ref 22)) _ _ _); (with_reducible refine in_codesF (tup22 (by k_in)) (by first | with_reducible assumption | exact ce_sp (by assumption)) ?_))))
  (k_with "call builtin:str.join" => safely ((k_here; (rename HashMark => hmk9Qq); (with_reducible show wpAny _ _ (call (Value.builtin "str.join") [Value.str _ _, Value.ref _]) _ _ _); k_dflt (refine' join_signs ?qlQ ?qsQ ?qnQ ?_; (case qlQ => exact News.isList (by k_asm) (by k_mem)); (case qsQ => first | exact SignsAre.cons _ _ SignsAre.nil | exact SignsAre.cons _ _ (SignsAre.cons _ _ SignsAre.nil)); (case qnQ => (simp only [List.length_cons, List.length_nil]; omega)); k_whole); intro t9Qq k9Qq hl9Qq)))
  trivial
namespace ZtailT
noncomputable def P (prog : Program) (w : World) (p : Program) (loose : List Str) (mean : ExcName → Option Value) (mg : Str → Option Value) (mb : Str → Option Value) (dp : Nat) (gd : Option (List Code)) (un : Nat) (env : Env) (outer : List Env) (base : Heap) (s : Shared) (Qf : Flow → Shared → Prop) (E : Value → Shared → Prop) (g' : Heap) (L' : Addr) (h' : Heap) (tk0 : Nat) (u : Str → Option Value) (z : Nat) (zd : Nat) (x : Nat) (sd : Nat) (td : Nat) (qn : Nat) (Z : Kz) (K : Ks) (Kx : Kt) (v : Sv) (d : Int) (ud : Tok) (ux : Tok) (t : Tok) (tx : Str) (out : Str) (qi : Array Value) (ct : Value) (ex : List (Addr × Obj)) : Prop := ∀ {fname qual : Str} {params : Arguments} {body : List Stmt} {scope : Scope} {dV kV doc pm cdv fct foc : Value} {fan fod : Option Addr} {fosl : Array (Option Value)} (hl : (Mine.a.heap_1_39 w.params).lookup 283 = some ⟨foc, fod, .func (fnOf fname qual params body scope dV kV doc pm fan cdv fct), fosl⟩) (hd : dp + 3 < recursionLimit) (hu : un + 30 < cLine) (XB : (Mine.a.heap_1_39 w.params).In base) (TB : Top p loose mean mg mb base) (p1 : zd < z) (p2 : z < sd) (o1 : sd < x) (o2 : x < K.mo) (o3 : K.mo < td) (o4 : td < K.ds) (p3 : K.ds < Z.q) (hq : qi.size < 2000) (hct : handedIn ct = true) (hsz : out.length < 1100) (hsp : (spacesL.map sg).any (· == out) = false) (hoff : OwnOff ex [z, zd, Z.q, x, sd, K.ds, td, K.mo])
    (F' : Fr g' L' h' (kstB u [(Str.ofString "output", .str out t), (Str.ofString "self", .ref z), (Str.ofString "fromAttribute", .bool false)])) (N' : News g' L' h' ((Z.q, listOf qi qn) :: (z, instObj 762 zd) :: (zd, zdict w Z x ct) :: (x, instObj 166 sd) :: (sd, sdict w K v) :: (K.ds, instObj 73 td) :: (td, tdict w Kx tx ux d ud) :: (K.mo, methodObj (.ref 148) (.ref x)) :: ex)) (B' : Below ⟨none, dp, some (env :: outer), gd, un⟩ base (env :: outer) g') (X' : (Mine.a.heap_1_39 w.params).In g') (T' : Top p loose mean mg mb g') (D' : KtsDicts ((env :: outer).filterMap (·.frame)) g') 
    (post : ∀ hh tk (m' : Str → Option Value) (D2 : Nat) o2 n', TokIs prog w o2 1 out → ((D2 == sysModules) = false ∧ Z.q < D2) → Fr g' L' hh m' → News g' L' hh ((Z.q, listOf (qi.push (.ref D2)) n') :: (z, instObj 762 zd) :: (zd, zdict w Z x ct) :: (x, instObj 166 sd) :: (sd, sdict w K v) :: (K.ds, instObj 73 td) :: (td, tdict w Kx tx ux d ud) :: (K.mo, methodObj (.ref 148) (.ref x)) :: (D2, o2) :: ex) → Qf .next { s with heap := hh, toks := tk }), wpAny (model prog w) (Around.deeper ⟨none, dp, some (env :: outer), gd, un⟩ (envOf qual scope L' 283 cdv)) (execs (body.drop 3) (envOf qual scope L' 283 cdv)) Qf (leaveE prog w (Around.deeper ⟨none, dp, some (env :: outer), gd, un⟩ (envOf qual scope L' 283 cdv)) (envOf qual scope L' 283 cdv) E) { s with heap := h', toks := tk0 }
@[irreducible] noncomputable def c0 : Bd × Nat × Nat × Nat × Nat × Nat × Nat × Kz × Ks × Kt × Sv × Int × Tok × Tok × Tok × Str × Str × (Array Value) × Value × (List (Addr × Obj)) := @Classical.epsilon _ (Nonempty.elim Bd.ne fun b => ⟨(b, 0, 0, 0, 0, 0, 0, ⟨0,0,0,0,0,0,0,0,0,0,0⟩, ⟨0,0,0,0,0,0,0,0,0,0,0,0,0,0⟩, ⟨0,0⟩, ⟨default,0,0,0,0,.none,0,0,0,0,0⟩, 0, 0, 0, 0, default, default, #[], .none, [])⟩) fun c => ¬ P (c.1.prog) (c.1.w) (c.1.p) (c.1.loose) (c.1.mean) (c.1.mg) (c.1.mb) (c.1.dp) (c.1.gd) (c.1.un) (c.1.env) (c.1.outer) (c.1.base) (c.1.s) (c.1.Qf) (c.1.E) (c.1.g') (c.1.L') (c.1.h') (c.1.tk0) (c.1.u) (c.2.1) (c.2.2.1) (c.2.2.2.1) (c.2.2.2.2.1) (c.2.2.2.2.2.1) (c.2.2.2.2.2.2.1) (c.2.2.2.2.2.2.2.1) (c.2.2.2.2.2.2.2.2.1) (c.2.2.2.2.2.2.2.2.2.1) (c.2.2.2.2.2.2.2.2.2.2.1) (c.2.2.2.2.2.2.2.2.2.2.2.1) (c.2.2.2.2.2.2.2.2.2.2.2.2.1) (c.2.2.2.2.2.2.2.2.2.2.2.2.2.1) (c.2.2.2.2.2.2.2.2.2.2.2.2.2.2.1) (c.2.2.2.2.2.2.2.2.2.2.2.2.2.2.2.1) (c.2.2.2.2.2.2.2.2.2.2.2.2.2.2.2.2.1) (c.2.2.2.2.2.2.2.2.2.2.2.2.2.2.2.2.2.1) (c.2.2.2.2.2.2.2.2.2.2.2.2.2.2.2.2.2.2.1) (c.2.2.2.2.2.2.2.2.2.2.2.2.2.2.2.2.2.2.2)
@[irreducible] noncomputable def prog : Program := c0.1.prog
@[irreducible] noncomputable def w : World := c0.1.w
@[irreducible] noncomputable def p : Program := c0.1.p
@[irreducible] noncomputable def loose : List Str := c0.1.loose
@[irreducible] noncomputable def mean : ExcName → Option Value := c0.1.mean
@[irreducible] noncomputable def mg : Str → Option Value := c0.1.mg
@[irreducible] noncomputable def mb : Str → Option Value := c0.1.mb
@[irreducible] noncomputable def dp : Nat := c0.1.dp
@[irreducible] noncomputable def gd : Option (List Code) := c0.1.gd
@[irreducible] noncomputable def un : Nat := c0.1.un
@[irreducible] noncomputable def env : Env := c0.1.env
@[irreducible] noncomputable def outer : List Env := c0.1.outer
@[irreducible] noncomputable def base : Heap := c0.1.base
@[irreducible] noncomputable def s : Shared := c0.1.s
@[irreducible] noncomputable def Qf : Flow → Shared → Prop := c0.1.Qf
@[irreducible] noncomputable def E : Value → Shared → Prop := c0.1.E
@[irreducible] noncomputable def g' : Heap := c0.1.g'
@[irreducible] noncomputable def L' : Addr := c0.1.L'
@[irreducible] noncomputable def h' : Heap := c0.1.h'
@[irreducible] noncomputable def tk0 : Nat := c0.1.tk0
@[irreducible] noncomputable def u : Str → Option Value := c0.1.u
@[irreducible] noncomputable def z : Nat := c0.2.1
@[irreducible] noncomputable def zd : Nat := c0.2.2.1
@[irreducible] noncomputable def x : Nat := c0.2.2.2.1
@[irreducible] noncomputable def sd : Nat := c0.2.2.2.2.1
@[irreducible] noncomputable def td : Nat := c0.2.2.2.2.2.1
@[irreducible] noncomputable def qn : Nat := c0.2.2.2.2.2.2.1
@[irreducible] noncomputable def Z : Kz := c0.2.2.2.2.2.2.2.1
@[irreducible] noncomputable def K : Ks := c0.2.2.2.2.2.2.2.2.1
@[irreducible] noncomputable def Kx : Kt := c0.2.2.2.2.2.2.2.2.2.1
@[irreducible] noncomputable def v : Sv := c0.2.2.2.2.2.2.2.2.2.2.1
@[irreducible] noncomputable def d : Int := c0.2.2.2.2.2.2.2.2.2.2.2.1
@[irreducible] noncomputable def ud : Tok := c0.2.2.2.2.2.2.2.2.2.2.2.2.1
@[irreducible] noncomputable def ux : Tok := c0.2.2.2.2.2.2.2.2.2.2.2.2.2.1
@[irreducible] noncomputable def t : Tok := c0.2.2.2.2.2.2.2.2.2.2.2.2.2.2.1
@[irreducible] noncomputable def tx : Str := c0.2.2.2.2.2.2.2.2.2.2.2.2.2.2.2.1
@[irreducible] noncomputable def out : Str := c0.2.2.2.2.2.2.2.2.2.2.2.2.2.2.2.2.1
@[irreducible] noncomputable def qi : Array Value := c0.2.2.2.2.2.2.2.2.2.2.2.2.2.2.2.2.2.1
@[irreducible] noncomputable def ct : Value := c0.2.2.2.2.2.2.2.2.2.2.2.2.2.2.2.2.2.2.1
@[irreducible] noncomputable def ex : List (Addr × Obj) := c0.2.2.2.2.2.2.2.2.2.2.2.2.2.2.2.2.2.2.2
theorem core {fname qual : Str} {params : Arguments} {body : List Stmt} {scope : Scope} {dV kV doc pm cdv fct foc : Value} {fan fod : Option Addr} {fosl : Array (Option Value)} (hl : (Mine.a.heap_1_39 w.params).lookup 283 = some ⟨foc, fod, .func (fnOf fname qual params body scope dV kV doc pm fan cdv fct), fosl⟩) (hd : dp + 3 < recursionLimit) (hu : un + 30 < cLine) (XB : (Mine.a.heap_1_39 w.params).In base) (TB : Top p loose mean mg mb base) (p1 : zd < z) (p2 : z < sd) (o1 : sd < x) (o2 : x < K.mo) (o3 : K.mo < td) (o4 : td < K.ds) (p3 : K.ds < Z.q) (hq : qi.size < 2000) (hct : handedIn ct = true) (hsz : out.length < 1100) (hsp : (spacesL.map sg).any (· == out) = false) (hoff : OwnOff ex [z, zd, Z.q, x, sd, K.ds, td, K.mo])
    (F' : Fr g' L' h' (kstB u [(Str.ofString "output", .str out t), (Str.ofString "self", .ref z), (Str.ofString "fromAttribute", .bool false)])) (N' : News g' L' h' ((Z.q, listOf qi qn) :: (z, instObj 762 zd) :: (zd, zdict w Z x ct) :: (x, instObj 166 sd) :: (sd, sdict w K v) :: (K.ds, instObj 73 td) :: (td, tdict w Kx tx ux d ud) :: (K.mo, methodObj (.ref 148) (.ref x)) :: ex)) (B' : Below ⟨none, dp, some (env :: outer), gd, un⟩ base (env :: outer) g') (X' : (Mine.a.heap_1_39 w.params).In g') (T' : Top p loose mean mg mb g') (D' : KtsDicts ((env :: outer).filterMap (·.frame)) g') 
    (post : ∀ hh tk (m' : Str → Option Value) (D2 : Nat) o2 n', TokIs prog w o2 1 out → ((D2 == sysModules) = false ∧ Z.q < D2) → Fr g' L' hh m' → News g' L' hh ((Z.q, listOf (qi.push (.ref D2)) n') :: (z, instObj 762 zd) :: (zd, zdict w Z x ct) :: (x, instObj 166 sd) :: (sd, sdict w K v) :: (K.ds, instObj 73 td) :: (td, tdict w Kx tx ux d ud) :: (K.mo, methodObj (.ref 148) (.ref x)) :: (D2, o2) :: ex) → Qf .next { s with heap := hh, toks := tk }) : wpAny (model prog w) (Around.deeper ⟨none, dp, some (env :: outer), gd, un⟩ (envOf qual scope L' 283 cdv)) (execs (body.drop 3) (envOf qual scope L' 283 cdv)) Qf (leaveE prog w (Around.deeper ⟨none, dp, some (env :: outer), gd, un⟩ (envOf qual scope L' 283 cdv)) (envOf qual scope L' 283 cdv) E) { s with heap := h', toks := tk0 } := by
  delta leaveE
  refine' seg_inc hl ?hk ?_
  (case hk => k_is)
  rintro rfl rfl rfl rfl
  clear hl
  have q_0_2 : @LT.lt Nat _ zd sd := Nat.lt_trans p1 p2
  have q_0_3 : @LT.lt Nat _ zd x := Nat.lt_trans q_0_2 o1
  have q_0_4 : @LT.lt Nat _ zd K.mo := Nat.lt_trans q_0_3 o2
  have q_0_5 : @LT.lt Nat _ zd td := Nat.lt_trans q_0_4 o3
  have q_0_6 : @LT.lt Nat _ zd K.ds := Nat.lt_trans q_0_5 o4
  have q_0_7 : @LT.lt Nat _ zd Z.q := Nat.lt_trans q_0_6 p3
  have q_1_3 : @LT.lt Nat _ z x := Nat.lt_trans p2 o1
  have q_1_4 : @LT.lt Nat _ z K.mo := Nat.lt_trans q_1_3 o2
  have q_1_5 : @LT.lt Nat _ z td := Nat.lt_trans q_1_4 o3
  have q_1_6 : @LT.lt Nat _ z K.ds := Nat.lt_trans q_1_5 o4
  have q_1_7 : @LT.lt Nat _ z Z.q := Nat.lt_trans q_1_6 p3
  have q_2_4 : @LT.lt Nat _ sd K.mo := Nat.lt_trans o1 o2
  have q_2_5 : @LT.lt Nat _ sd td := Nat.lt_trans q_2_4 o3
  have q_2_6 : @LT.lt Nat _ sd K.ds := Nat.lt_trans q_2_5 o4
  have q_2_7 : @LT.lt Nat _ sd Z.q := Nat.lt_trans q_2_6 p3
  have q_3_5 : @LT.lt Nat _ x td := Nat.lt_trans o2 o3
  have q_3_6 : @LT.lt Nat _ x K.ds := Nat.lt_trans q_3_5 o4
  have q_3_7 : @LT.lt Nat _ x Z.q := Nat.lt_trans q_3_6 p3
  have q_4_6 : @LT.lt Nat _ K.mo K.ds := Nat.lt_trans o3 o4
  have q_4_7 : @LT.lt Nat _ K.mo Z.q := Nat.lt_trans q_4_6 p3
  have q_5_7 : @LT.lt Nat _ td Z.q := Nat.lt_trans o4 p3
  (try dsimp only [List.drop])
  (try dsimp only [kstB] at F')
  (try dsimp only [List.nil_append] at N')
  k_steps
  all_goals first
    | (refine' post _ _ _ _ _ _ ?c5 ?c6 ?yF ?yN; (case yF => k_asm); (case yN => exact news_sub (by k_asm) (by (repeat (first | exact List.forall_mem_nil _ | (refine' sub_cons ?zA9 ?_; (case zA9 => k_mem)) | exact (fun p hp => by (repeat (first | exact hp | refine List.mem_cons_of_mem _ ?_))))))); (case c5 => exact ⟨_, _, by assumption⟩); (case c6 => exact ⟨by with_reducible assumption, adr_lt (by with_reducible assumption) (by k_mem)⟩))
theorem all : ∀ c : Bd × Nat × Nat × Nat × Nat × Nat × Nat × Kz × Ks × Kt × Sv × Int × Tok × Tok × Tok × Str × Str × (Array Value) × Value × (List (Addr × Obj)), P (c.1.prog) (c.1.w) (c.1.p) (c.1.loose) (c.1.mean) (c.1.mg) (c.1.mb) (c.1.dp) (c.1.gd) (c.1.un) (c.1.env) (c.1.outer) (c.1.base) (c.1.s) (c.1.Qf) (c.1.E) (c.1.g') (c.1.L') (c.1.h') (c.1.tk0) (c.1.u) (c.2.1) (c.2.2.1) (c.2.2.2.1) (c.2.2.2.2.1) (c.2.2.2.2.2.1) (c.2.2.2.2.2.2.1) (c.2.2.2.2.2.2.2.1) (c.2.2.2.2.2.2.2.2.1) (c.2.2.2.2.2.2.2.2.2.1) (c.2.2.2.2.2.2.2.2.2.2.1) (c.2.2.2.2.2.2.2.2.2.2.2.1) (c.2.2.2.2.2.2.2.2.2.2.2.2.1) (c.2.2.2.2.2.2.2.2.2.2.2.2.2.1) (c.2.2.2.2.2.2.2.2.2.2.2.2.2.2.1) (c.2.2.2.2.2.2.2.2.2.2.2.2.2.2.2.1) (c.2.2.2.2.2.2.2.2.2.2.2.2.2.2.2.2.1) (c.2.2.2.2.2.2.2.2.2.2.2.2.2.2.2.2.2.1) (c.2.2.2.2.2.2.2.2.2.2.2.2.2.2.2.2.2.2.1) (c.2.2.2.2.2.2.2.2.2.2.2.2.2.2.2.2.2.2.2) := by with_unfolding_all exact eps_all (Nonempty.elim Bd.ne fun b => ⟨(b, 0, 0, 0, 0, 0, 0, ⟨0,0,0,0,0,0,0,0,0,0,0⟩, ⟨0,0,0,0,0,0,0,0,0,0,0,0,0,0⟩, ⟨0,0⟩, ⟨default,0,0,0,0,.none,0,0,0,0,0⟩, 0, 0, 0, 0, default, default, #[], .none, [])⟩) (P := fun c : Bd × Nat × Nat × Nat × Nat × Nat × Nat × Kz × Ks × Kt × Sv × Int × Tok × Tok × Tok × Str × Str × (Array Value) × Value × (List (Addr × Obj)) => P (c.1.prog) (c.1.w) (c.1.p) (c.1.loose) (c.1.mean) (c.1.mg) (c.1.mb) (c.1.dp) (c.1.gd) (c.1.un) (c.1.env) (c.1.outer) (c.1.base) (c.1.s) (c.1.Qf) (c.1.E) (c.1.g') (c.1.L') (c.1.h') (c.1.tk0) (c.1.u) (c.2.1) (c.2.2.1) (c.2.2.2.1) (c.2.2.2.2.1) (c.2.2.2.2.2.1) (c.2.2.2.2.2.2.1) (c.2.2.2.2.2.2.2.1) (c.2.2.2.2.2.2.2.2.1) (c.2.2.2.2.2.2.2.2.2.1) (c.2.2.2.2.2.2.2.2.2.2.1) (c.2.2.2.2.2.2.2.2.2.2.2.1) (c.2.2.2.2.2.2.2.2.2.2.2.2.1) (c.2.2.2.2.2.2.2.2.2.2.2.2.2.1) (c.2.2.2.2.2.2.2.2.2.2.2.2.2.2.1) (c.2.2.2.2.2.2.2.2.2.2.2.2.2.2.2.1) (c.2.2.2.2.2.2.2.2.2.2.2.2.2.2.2.2.1) (c.2.2.2.2.2.2.2.2.2.2.2.2.2.2.2.2.2.1) (c.2.2.2.2.2.2.2.2.2.2.2.2.2.2.2.2.2.2.1) (c.2.2.2.2.2.2.2.2.2.2.2.2.2.2.2.2.2.2.2)) @core
end ZtailT
theorem tailT {prog : Program} {w : World} {p : Program} {loose : List Str} {mean : ExcName → Option Value} {mg : Str → Option Value} {mb : Str → Option Value} {dp : Nat} {gd : Option (List Code)} {un : Nat} {env : Env} {outer : List Env} {base : Heap} {s : Shared} {Qf : Flow → Shared → Prop} {E : Value → Shared → Prop} {g' : Heap} {L' : Addr} {h' : Heap} {tk0 : Nat} {u : Str → Option Value} {z : Nat} {zd : Nat} {x : Nat} {sd : Nat} {td : Nat} {qn : Nat} {Z : Kz} {K : Ks} {Kx : Kt} {v : Sv} {d : Int} {ud : Tok} {ux : Tok} {t : Tok} {tx : Str} {out : Str} {qi : Array Value} {ct : Value} {ex : List (Addr × Obj)} : ∀ {fname qual : Str} {params : Arguments} {body : List Stmt} {scope : Scope} {dV kV doc pm cdv fct foc : Value} {fan fod : Option Addr} {fosl : Array (Option Value)} (hl : (Mine.a.heap_1_39 w.params).lookup 283 = some ⟨foc, fod, .func (fnOf fname qual params body scope dV kV doc pm fan cdv fct), fosl⟩) (hd : dp + 3 < recursionLimit) (hu : un + 30 < cLine) (XB : (Mine.a.heap_1_39 w.params).In base) (TB : Top p loose mean mg mb base) (p1 : zd < z) (p2 : z < sd) (o1 : sd < x) (o2 : x < K.mo) (o3 : K.mo < td) (o4 : td < K.ds) (p3 : K.ds < Z.q) (hq : qi.size < 2000) (hct : handedIn ct = true) (hsz : out.length < 1100) (hsp : (spacesL.map sg).any (· == out) = false) (hoff : OwnOff ex [z, zd, Z.q, x, sd, K.ds, td, K.mo])
    (F' : Fr g' L' h' (kstB u [(Str.ofString "output", .str out t), (Str.ofString "self", .ref z), (Str.ofString "fromAttribute", .bool false)])) (N' : News g' L' h' ((Z.q, listOf qi qn) :: (z, instObj 762 zd) :: (zd, zdict w Z x ct) :: (x, instObj 166 sd) :: (sd, sdict w K v) :: (K.ds, instObj 73 td) :: (td, tdict w Kx tx ux d ud) :: (K.mo, methodObj (.ref 148) (.ref x)) :: ex)) (B' : Below ⟨none, dp, some (env :: outer), gd, un⟩ base (env :: outer) g') (X' : (Mine.a.heap_1_39 w.params).In g') (T' : Top p loose mean mg mb g') (D' : KtsDicts ((env :: outer).filterMap (·.frame)) g') 
    (post : ∀ hh tk (m' : Str → Option Value) (D2 : Nat) o2 n', TokIs prog w o2 1 out → ((D2 == sysModules) = false ∧ Z.q < D2) → Fr g' L' hh m' → News g' L' hh ((Z.q, listOf (qi.push (.ref D2)) n') :: (z, instObj 762 zd) :: (zd, zdict w Z x ct) :: (x, instObj 166 sd) :: (sd, sdict w K v) :: (K.ds, instObj 73 td) :: (td, tdict w Kx tx ux d ud) :: (K.mo, methodObj (.ref 148) (.ref x)) :: (D2, o2) :: ex) → Qf .next { s with heap := hh, toks := tk }), wpAny (model prog w) (Around.deeper ⟨none, dp, some (env :: outer), gd, un⟩ (envOf qual scope L' 283 cdv)) (execs (body.drop 3) (envOf qual scope L' 283 cdv)) Qf (leaveE prog w (Around.deeper ⟨none, dp, some (env :: outer), gd, un⟩ (envOf qual scope L' 283 cdv)) (envOf qual scope L' 283 cdv) E) { s with heap := h', toks := tk0 } := ZtailT.all ⟨⟨prog, w, p, loose, mean, mg, mb, dp, gd, un, env, outer, base, s, Qf, E, g', L', h', tk0, u⟩, z, zd, x, sd, td, qn, Z, K, Kx, v, d, ud, ux, t, tx, out, qi, ct, ex⟩
namespace ZtailA
noncomputable def P (prog : Program) (w : World) (p : Program) (loose : List Str) (mean : ExcName → Option Value) (mg : Str → Option Value) (mb : Str → Option Value) (dp : Nat) (gd : Option (List Code)) (un : Nat) (env : Env) (outer : List Env) (base : Heap) (s : Shared) (Qf : Flow → Shared → Prop) (E : Value → Shared → Prop) (g' : Heap) (L' : Addr) (h' : Heap) (tk0 : Nat) (u : Str → Option Value) (z : Nat) (zd : Nat) (x : Nat) (sd : Nat) (td : Nat) (qn : Nat) (Z : Kz) (K : Ks) (Kx : Kt) (v : Sv) (d : Int) (ud : Tok) (ux : Tok) (t : Tok) (tx : Str) (out : Str) (qi : Array Value) (ct : Value) (ex : List (Addr × Obj)) (e0 : Nat) (e1 : Nat) (e2 : Nat) (e3 : Nat) (ne : Nat) (nf : Nat) (tn : Tok) (uv : Tok) (oc : Obj) (nm : Str) (vl : Str) : Prop := ∀ {fname qual : Str} {params : Arguments} {body : List Stmt} {scope : Scope} {dV kV doc pm cdv fct foc : Value} {fan fod : Option Addr} {fosl : Array (Option Value)} (hl : (Mine.a.heap_1_39 w.params).lookup 283 = some ⟨foc, fod, .func (fnOf fname qual params body scope dV kV doc pm fan cdv fct), fosl⟩) (hd : dp + 3 < recursionLimit) (hu : un + 30 < cLine) (XB : (Mine.a.heap_1_39 w.params).In base) (TB : Top p loose mean mg mb base) (p1 : zd < z) (p2 : z < sd) (o1 : sd < x) (o2 : x < K.mo) (o3 : K.mo < td) (o4 : td < K.ds) (p3 : K.ds < Z.q) (hq : qi.size < 2000) (hct : handedIn ct = true) (hsz : out.length < 1100) (hte : ct = .ref e1) (r1 : Z.q < e1) (r2 : e1 < e3) (r3 : e3 < e2) (r4 : vl.length < 1000) (r5 : Obj.IsDictOf (PySem.strKind prog w) oc [(Str.ofString "data", .ref e2)]) (ht1 : ∀ p ∈ ex, p.1 ≠ e1) (ht2 : ∀ p ∈ ex, p.1 ≠ e2) (ht3 : ∀ p ∈ ex, p.1 ≠ e3)
    (F' : Fr g' L' h' (kstB u [(Str.ofString "output", .str out t), (Str.ofString "self", .ref z), (Str.ofString "fromAttribute", .bool true)])) (N' : News g' L' h' ((Z.q, listOf qi qn) :: (z, instObj 762 zd) :: (zd, zdict w Z x (.ref e1)) :: (x, instObj 166 sd) :: (sd, sdict w K v) :: (K.ds, instObj 73 td) :: (td, tdict w Kx tx ux d ud) :: (K.mo, methodObj (.ref 148) (.ref x)) :: (e1, oc) :: (e2, listOf #[.ref e0, .ref e3] ne) :: (e3, listOf #[.str nm tn, .str vl uv] nf) :: ex)) (B' : Below ⟨none, dp, some (env :: outer), gd, un⟩ base (env :: outer) g') (X' : (Mine.a.heap_1_39 w.params).In g') (T' : Top p loose mean mg mb g') (D' : KtsDicts ((env :: outer).filterMap (·.frame)) g') 
    (post : ∀ hh tk (m' : Str → Option Value) nf' uv', Fr g' L' hh m' → News g' L' hh ((Z.q, listOf qi qn) :: (z, instObj 762 zd) :: (zd, zdict w Z x (.ref e1)) :: (x, instObj 166 sd) :: (sd, sdict w K v) :: (K.ds, instObj 73 td) :: (td, tdict w Kx tx ux d ud) :: (K.mo, methodObj (.ref 148) (.ref x)) :: (e1, oc) :: (e2, listOf #[.ref e0, .ref e3] ne) :: (e3, listOf #[.str nm tn, .str (vl ++ out) uv'] nf') :: ex) → Qf .next { s with heap := hh, toks := tk }), wpAny (model prog w) (Around.deeper ⟨none, dp, some (env :: outer), gd, un⟩ (envOf qual scope L' 283 cdv)) (execs (body.drop 3) (envOf qual scope L' 283 cdv)) Qf (leaveE prog w (Around.deeper ⟨none, dp, some (env :: outer), gd, un⟩ (envOf qual scope L' 283 cdv)) (envOf qual scope L' 283 cdv) E) { s with heap := h', toks := tk0 }
@[irreducible] noncomputable def c0 : Bd × Nat × Nat × Nat × Nat × Nat × Nat × Kz × Ks × Kt × Sv × Int × Tok × Tok × Tok × Str × Str × (Array Value) × Value × (List (Addr × Obj)) × Nat × Nat × Nat × Nat × Nat × Nat × Tok × Tok × Obj × Str × Str := @Classical.epsilon _ (Nonempty.elim Bd.ne fun b => ⟨(b, 0, 0, 0, 0, 0, 0, ⟨0,0,0,0,0,0,0,0,0,0,0⟩, ⟨0,0,0,0,0,0,0,0,0,0,0,0,0,0⟩, ⟨0,0⟩, ⟨default,0,0,0,0,.none,0,0,0,0,0⟩, 0, 0, 0, 0, default, default, #[], .none, [], 0, 0, 0, 0, 0, 0, 0, 0, ⟨.none, none, .func default, #[]⟩, default, default)⟩) fun c => ¬ P (c.1.prog) (c.1.w) (c.1.p) (c.1.loose) (c.1.mean) (c.1.mg) (c.1.mb) (c.1.dp) (c.1.gd) (c.1.un) (c.1.env) (c.1.outer) (c.1.base) (c.1.s) (c.1.Qf) (c.1.E) (c.1.g') (c.1.L') (c.1.h') (c.1.tk0) (c.1.u) (c.2.1) (c.2.2.1) (c.2.2.2.1) (c.2.2.2.2.1) (c.2.2.2.2.2.1) (c.2.2.2.2.2.2.1) (c.2.2.2.2.2.2.2.1) (c.2.2.2.2.2.2.2.2.1) (c.2.2.2.2.2.2.2.2.2.1) (c.2.2.2.2.2.2.2.2.2.2.1) (c.2.2.2.2.2.2.2.2.2.2.2.1) (c.2.2.2.2.2.2.2.2.2.2.2.2.1) (c.2.2.2.2.2.2.2.2.2.2.2.2.2.1) (c.2.2.2.2.2.2.2.2.2.2.2.2.2.2.1) (c.2.2.2.2.2.2.2.2.2.2.2.2.2.2.2.1) (c.2.2.2.2.2.2.2.2.2.2.2.2.2.2.2.2.1) (c.2.2.2.2.2.2.2.2.2.2.2.2.2.2.2.2.2.1) (c.2.2.2.2.2.2.2.2.2.2.2.2.2.2.2.2.2.2.1) (c.2.2.2.2.2.2.2.2.2.2.2.2.2.2.2.2.2.2.2.1) (c.2.2.2.2.2.2.2.2.2.2.2.2.2.2.2.2.2.2.2.2.1) (c.2.2.2.2.2.2.2.2.2.2.2.2.2.2.2.2.2.2.2.2.2.1) (c.2.2.2.2.2.2.2.2.2.2.2.2.2.2.2.2.2.2.2.2.2.2.1) (c.2.2.2.2.2.2.2.2.2.2.2.2.2.2.2.2.2.2.2.2.2.2.2.1) (c.2.2.2.2.2.2.2.2.2.2.2.2.2.2.2.2.2.2.2.2.2.2.2.2.1) (c.2.2.2.2.2.2.2.2.2.2.2.2.2.2.2.2.2.2.2.2.2.2.2.2.2.1) (c.2.2.2.2.2.2.2.2.2.2.2.2.2.2.2.2.2.2.2.2.2.2.2.2.2.2.1) (c.2.2.2.2.2.2.2.2.2.2.2.2.2.2.2.2.2.2.2.2.2.2.2.2.2.2.2.1) (c.2.2.2.2.2.2.2.2.2.2.2.2.2.2.2.2.2.2.2.2.2.2.2.2.2.2.2.2.1) (c.2.2.2.2.2.2.2.2.2.2.2.2.2.2.2.2.2.2.2.2.2.2.2.2.2.2.2.2.2.1) (c.2.2.2.2.2.2.2.2.2.2.2.2.2.2.2.2.2.2.2.2.2.2.2.2.2.2.2.2.2.2)
@[irreducible] noncomputable def prog : Program := c0.1.prog
@[irreducible] noncomputable def w : World := c0.1.w
@[irreducible] noncomputable def p : Program := c0.1.p
@[irreducible] noncomputable def loose : List Str := c0.1.loose
@[irreducible] noncomputable def mean : ExcName → Option Value := c0.1.mean
@[irreducible] noncomputable def mg : Str → Option Value := c0.1.mg
@[irreducible] noncomputable def mb : Str → Option Value := c0.1.mb
@[irreducible] noncomputable def dp : Nat := c0.1.dp
@[irreducible] noncomputable def gd : Option (List Code) := c0.1.gd
@[irreducible] noncomputable def un : Nat := c0.1.un
@[irreducible] noncomputable def env : Env := c0.1.env
@[irreducible] noncomputable def outer : List Env := c0.1.outer
@[irreducible] noncomputable def base : Heap := c0.1.base
@[irreducible] noncomputable def s : Shared := c0.1.s
@[irreducible] noncomputable def Qf : Flow → Shared → Prop := c0.1.Qf
@[irreducible] noncomputable def E : Value → Shared → Prop := c0.1.E
@[irreducible] noncomputable def g' : Heap := c0.1.g'
@[irreducible] noncomputable def L' : Addr := c0.1.L'
@[irreducible] noncomputable def h' : Heap := c0.1.h'
@[irreducible] noncomputable def tk0 : Nat := c0.1.tk0
@[irreducible] noncomputable def u : Str → Option Value := c0.1.u
@[irreducible] noncomputable def z : Nat := c0.2.1
@[irreducible] noncomputable def zd : Nat := c0.2.2.1
@[irreducible] noncomputable def x : Nat := c0.2.2.2.1
@[irreducible] noncomputable def sd : Nat := c0.2.2.2.2.1
@[irreducible] noncomputable def td : Nat := c0.2.2.2.2.2.1
@[irreducible] noncomputable def qn : Nat := c0.2.2.2.2.2.2.1
@[irreducible] noncomputable def Z : Kz := c0.2.2.2.2.2.2.2.1
@[irreducible] noncomputable def K : Ks := c0.2.2.2.2.2.2.2.2.1
@[irreducible] noncomputable def Kx : Kt := c0.2.2.2.2.2.2.2.2.2.1
@[irreducible] noncomputable def v : Sv := c0.2.2.2.2.2.2.2.2.2.2.1
@[irreducible] noncomputable def d : Int := c0.2.2.2.2.2.2.2.2.2.2.2.1
@[irreducible] noncomputable def ud : Tok := c0.2.2.2.2.2.2.2.2.2.2.2.2.1
@[irreducible] noncomputable def ux : Tok := c0.2.2.2.2.2.2.2.2.2.2.2.2.2.1
@[irreducible] noncomputable def t : Tok := c0.2.2.2.2.2.2.2.2.2.2.2.2.2.2.1
@[irreducible] noncomputable def tx : Str := c0.2.2.2.2.2.2.2.2.2.2.2.2.2.2.2.1
@[irreducible] noncomputable def out : Str := c0.2.2.2.2.2.2.2.2.2.2.2.2.2.2.2.2.1
@[irreducible] noncomputable def qi : Array Value := c0.2.2.2.2.2.2.2.2.2.2.2.2.2.2.2.2.2.1
@[irreducible] noncomputable def ct : Value := c0.2.2.2.2.2.2.2.2.2.2.2.2.2.2.2.2.2.2.1
@[irreducible] noncomputable def ex : List (Addr × Obj) := c0.2.2.2.2.2.2.2.2.2.2.2.2.2.2.2.2.2.2.2.1
@[irreducible] noncomputable def e0 : Nat := c0.2.2.2.2.2.2.2.2.2.2.2.2.2.2.2.2.2.2.2.2.1
@[irreducible] noncomputable def e1 : Nat := c0.2.2.2.2.2.2.2.2.2.2.2.2.2.2.2.2.2.2.2.2.2.1
@[irreducible] noncomputable def e2 : Nat := c0.2.2.2.2.2.2.2.2.2.2.2.2.2.2.2.2.2.2.2.2.2.2.1
@[irreducible] noncomputable def e3 : Nat := c0.2.2.2.2.2.2.2.2.2.2.2.2.2.2.2.2.2.2.2.2.2.2.2.1
@[irreducible] noncomputable def ne : Nat := c0.2.2.2.2.2.2.2.2.2.2.2.2.2.2.2.2.2.2.2.2.2.2.2.2.1
@[irreducible] noncomputable def nf : Nat := c0.2.2.2.2.2.2.2.2.2.2.2.2.2.2.2.2.2.2.2.2.2.2.2.2.2.1
@[irreducible] noncomputable def tn : Tok := c0.2.2.2.2.2.2.2.2.2.2.2.2.2.2.2.2.2.2.2.2.2.2.2.2.2.2.1
@[irreducible] noncomputable def uv : Tok := c0.2.2.2.2.2.2.2.2.2.2.2.2.2.2.2.2.2.2.2.2.2.2.2.2.2.2.2.1
@[irreducible] noncomputable def oc : Obj := c0.2.2.2.2.2.2.2.2.2.2.2.2.2.2.2.2.2.2.2.2.2.2.2.2.2.2.2.2.1
@[irreducible] noncomputable def nm : Str := c0.2.2.2.2.2.2.2.2.2.2.2.2.2.2.2.2.2.2.2.2.2.2.2.2.2.2.2.2.2.1
@[irreducible] noncomputable def vl : Str := c0.2.2.2.2.2.2.2.2.2.2.2.2.2.2.2.2.2.2.2.2.2.2.2.2.2.2.2.2.2.2
theorem core {fname qual : Str} {params : Arguments} {body : List Stmt} {scope : Scope} {dV kV doc pm cdv fct foc : Value} {fan fod : Option Addr} {fosl : Array (Option Value)} (hl : (Mine.a.heap_1_39 w.params).lookup 283 = some ⟨foc, fod, .func (fnOf fname qual params body scope dV kV doc pm fan cdv fct), fosl⟩) (hd : dp + 3 < recursionLimit) (hu : un + 30 < cLine) (XB : (Mine.a.heap_1_39 w.params).In base) (TB : Top p loose mean mg mb base) (p1 : zd < z) (p2 : z < sd) (o1 : sd < x) (o2 : x < K.mo) (o3 : K.mo < td) (o4 : td < K.ds) (p3 : K.ds < Z.q) (hq : qi.size < 2000) (hct : handedIn ct = true) (hsz : out.length < 1100) (hte : ct = .ref e1) (r1 : Z.q < e1) (r2 : e1 < e3) (r3 : e3 < e2) (r4 : vl.length < 1000) (r5 : Obj.IsDictOf (PySem.strKind prog w) oc [(Str.ofString "data", .ref e2)]) (ht1 : ∀ p ∈ ex, p.1 ≠ e1) (ht2 : ∀ p ∈ ex, p.1 ≠ e2) (ht3 : ∀ p ∈ ex, p.1 ≠ e3)
    (F' : Fr g' L' h' (kstB u [(Str.ofString "output", .str out t), (Str.ofString "self", .ref z), (Str.ofString "fromAttribute", .bool true)])) (N' : News g' L' h' ((Z.q, listOf qi qn) :: (z, instObj 762 zd) :: (zd, zdict w Z x (.ref e1)) :: (x, instObj 166 sd) :: (sd, sdict w K v) :: (K.ds, instObj 73 td) :: (td, tdict w Kx tx ux d ud) :: (K.mo, methodObj (.ref 148) (.ref x)) :: (e1, oc) :: (e2, listOf #[.ref e0, .ref e3] ne) :: (e3, listOf #[.str nm tn, .str vl uv] nf) :: ex)) (B' : Below ⟨none, dp, some (env :: outer), gd, un⟩ base (env :: outer) g') (X' : (Mine.a.heap_1_39 w.params).In g') (T' : Top p loose mean mg mb g') (D' : KtsDicts ((env :: outer).filterMap (·.frame)) g') 
    (post : ∀ hh tk (m' : Str → Option Value) nf' uv', Fr g' L' hh m' → News g' L' hh ((Z.q, listOf qi qn) :: (z, instObj 762 zd) :: (zd, zdict w Z x (.ref e1)) :: (x, instObj 166 sd) :: (sd, sdict w K v) :: (K.ds, instObj 73 td) :: (td, tdict w Kx tx ux d ud) :: (K.mo, methodObj (.ref 148) (.ref x)) :: (e1, oc) :: (e2, listOf #[.ref e0, .ref e3] ne) :: (e3, listOf #[.str nm tn, .str (vl ++ out) uv'] nf') :: ex) → Qf .next { s with heap := hh, toks := tk }) : wpAny (model prog w) (Around.deeper ⟨none, dp, some (env :: outer), gd, un⟩ (envOf qual scope L' 283 cdv)) (execs (body.drop 3) (envOf qual scope L' 283 cdv)) Qf (leaveE prog w (Around.deeper ⟨none, dp, some (env :: outer), gd, un⟩ (envOf qual scope L' 283 cdv)) (envOf qual scope L' 283 cdv) E) { s with heap := h', toks := tk0 } := by
  delta leaveE
  refine' seg_inc hl ?hk ?_
  (case hk => k_is)
  rintro rfl rfl rfl rfl
  clear hl
  have q_0_2 : @LT.lt Nat _ zd sd := Nat.lt_trans p1 p2
  have q_0_3 : @LT.lt Nat _ zd x := Nat.lt_trans q_0_2 o1
  have q_0_4 : @LT.lt Nat _ zd K.mo := Nat.lt_trans q_0_3 o2
  have q_0_5 : @LT.lt Nat _ zd td := Nat.lt_trans q_0_4 o3
  have q_0_6 : @LT.lt Nat _ zd K.ds := Nat.lt_trans q_0_5 o4
  have q_0_7 : @LT.lt Nat _ zd Z.q := Nat.lt_trans q_0_6 p3
  have q_1_3 : @LT.lt Nat _ z x := Nat.lt_trans p2 o1
  have q_1_4 : @LT.lt Nat _ z K.mo := Nat.lt_trans q_1_3 o2
  have q_1_5 : @LT.lt Nat _ z td := Nat.lt_trans q_1_4 o3
  have q_1_6 : @LT.lt Nat _ z K.ds := Nat.lt_trans q_1_5 o4
  have q_1_7 : @LT.lt Nat _ z Z.q := Nat.lt_trans q_1_6 p3
  have q_2_4 : @LT.lt Nat _ sd K.mo := Nat.lt_trans o1 o2
  have q_2_5 : @LT.lt Nat _ sd td := Nat.lt_trans q_2_4 o3
  have q_2_6 : @LT.lt Nat _ sd K.ds := Nat.lt_trans q_2_5 o4
  have q_2_7 : @LT.lt Nat _ sd Z.q := Nat.lt_trans q_2_6 p3
  have q_3_5 : @LT.lt Nat _ x td := Nat.lt_trans o2 o3
  have q_3_6 : @LT.lt Nat _ x K.ds := Nat.lt_trans q_3_5 o4
  have q_3_7 : @LT.lt Nat _ x Z.q := Nat.lt_trans q_3_6 p3
  have q_4_6 : @LT.lt Nat _ K.mo K.ds := Nat.lt_trans o3 o4
  have q_4_7 : @LT.lt Nat _ K.mo Z.q := Nat.lt_trans q_4_6 p3
  have q_5_7 : @LT.lt Nat _ td Z.q := Nat.lt_trans o4 p3
  (try dsimp only [List.drop])
  (try dsimp only [kstB] at F')
  (try dsimp only [List.nil_append] at N')
  have ae1 := adr_up (adr_up (adr_up (adr_up (adr_up (adr_up (adr_up (adr_up adr_nil p1) p2) o1) o2) o3) o4) p3) r1
  have ae3 := adr_up ae1 r2
  have ae2 := adr_up ae3 r3
  k_steps
  all_goals first
    | (refine' post _ _ _ _ _ ?yF ?yN; (case yF => k_asm); (case yN => exact news_sub (by k_asm) (by (repeat (first | exact List.forall_mem_nil _ | (refine' sub_cons ?zA9 ?_; (case zA9 => k_mem)) | exact (fun p hp => by (repeat (first | exact hp | refine List.mem_cons_of_mem _ ?_))))))))
theorem all : ∀ c : Bd × Nat × Nat × Nat × Nat × Nat × Nat × Kz × Ks × Kt × Sv × Int × Tok × Tok × Tok × Str × Str × (Array Value) × Value × (List (Addr × Obj)) × Nat × Nat × Nat × Nat × Nat × Nat × Tok × Tok × Obj × Str × Str, P (c.1.prog) (c.1.w) (c.1.p) (c.1.loose) (c.1.mean) (c.1.mg) (c.1.mb) (c.1.dp) (c.1.gd) (c.1.un) (c.1.env) (c.1.outer) (c.1.base) (c.1.s) (c.1.Qf) (c.1.E) (c.1.g') (c.1.L') (c.1.h') (c.1.tk0) (c.1.u) (c.2.1) (c.2.2.1) (c.2.2.2.1) (c.2.2.2.2.1) (c.2.2.2.2.2.1) (c.2.2.2.2.2.2.1) (c.2.2.2.2.2.2.2.1) (c.2.2.2.2.2.2.2.2.1) (c.2.2.2.2.2.2.2.2.2.1) (c.2.2.2.2.2.2.2.2.2.2.1) (c.2.2.2.2.2.2.2.2.2.2.2.1) (c.2.2.2.2.2.2.2.2.2.2.2.2.1) (c.2.2.2.2.2.2.2.2.2.2.2.2.2.1) (c.2.2.2.2.2.2.2.2.2.2.2.2.2.2.1) (c.2.2.2.2.2.2.2.2.2.2.2.2.2.2.2.1) (c.2.2.2.2.2.2.2.2.2.2.2.2.2.2.2.2.1) (c.2.2.2.2.2.2.2.2.2.2.2.2.2.2.2.2.2.1) (c.2.2.2.2.2.2.2.2.2.2.2.2.2.2.2.2.2.2.1) (c.2.2.2.2.2.2.2.2.2.2.2.2.2.2.2.2.2.2.2.1) (c.2.2.2.2.2.2.2.2.2.2.2.2.2.2.2.2.2.2.2.2.1) (c.2.2.2.2.2.2.2.2.2.2.2.2.2.2.2.2.2.2.2.2.2.1) (c.2.2.2.2.2.2.2.2.2.2.2.2.2.2.2.2.2.2.2.2.2.2.1) (c.2.2.2.2.2.2.2.2.2.2.2.2.2.2.2.2.2.2.2.2.2.2.2.1) (c.2.2.2.2.2.2.2.2.2.2.2.2.2.2.2.2.2.2.2.2.2.2.2.2.1) (c.2.2.2.2.2.2.2.2.2.2.2.2.2.2.2.2.2.2.2.2.2.2.2.2.2.1) (c.2.2.2.2.2.2.2.2.2.2.2.2.2.2.2.2.2.2.2.2.2.2.2.2.2.2.1) (c.2.2.2.2.2.2.2.2.2.2.2.2.2.2.2.2.2.2.2.2.2.2.2.2.2.2.2.1) (c.2.2.2.2.2.2.2.2.2.2.2.2.2.2.2.2.2.2.2.2.2.2.2.2.2.2.2.2.1) (c.2.2.2.2.2.2.2.2.2.2.2.2.2.2.2.2.2.2.2.2.2.2.2.2.2.2.2.2.2.1) (c.2.2.2.2.2.2.2.2.2.2.2.2.2.2.2.2.2.2.2.2.2.2.2.2.2.2.2.2.2.2) := by with_unfolding_all exact eps_all (Nonempty.elim Bd.ne fun b => ⟨(b, 0, 0, 0, 0, 0, 0, ⟨0,0,0,0,0,0,0,0,0,0,0⟩, ⟨0,0,0,0,0,0,0,0,0,0,0,0,0,0⟩, ⟨0,0⟩, ⟨default,0,0,0,0,.none,0,0,0,0,0⟩, 0, 0, 0, 0, default, default, #[], .none, [], 0, 0, 0, 0, 0, 0, 0, 0, ⟨.none, none, .func default, #[]⟩, default, default)⟩) (P := fun c : Bd × Nat × Nat × Nat × Nat × Nat × Nat × Kz × Ks × Kt × Sv × Int × Tok × Tok × Tok × Str × Str × (Array Value) × Value × (List (Addr × Obj)) × Nat × Nat × Nat × Nat × Nat × Nat × Tok × Tok × Obj × Str × Str => P (c.1.prog) (c.1.w) (c.1.p) (c.1.loose) (c.1.mean) (c.1.mg) (c.1.mb) (c.1.dp) (c.1.gd) (c.1.un) (c.1.env) (c.1.outer) (c.1.base) (c.1.s) (c.1.Qf) (c.1.E) (c.1.g') (c.1.L') (c.1.h') (c.1.tk0) (c.1.u) (c.2.1) (c.2.2.1) (c.2.2.2.1) (c.2.2.2.2.1) (c.2.2.2.2.2.1) (c.2.2.2.2.2.2.1) (c.2.2.2.2.2.2.2.1) (c.2.2.2.2.2.2.2.2.1) (c.2.2.2.2.2.2.2.2.2.1) (c.2.2.2.2.2.2.2.2.2.2.1) (c.2.2.2.2.2.2.2.2.2.2.2.1) (c.2.2.2.2.2.2.2.2.2.2.2.2.1) (c.2.2.2.2.2.2.2.2.2.2.2.2.2.1) (c.2.2.2.2.2.2.2.2.2.2.2.2.2.2.1) (c.2.2.2.2.2.2.2.2.2.2.2.2.2.2.2.1) (c.2.2.2.2.2.2.2.2.2.2.2.2.2.2.2.2.1) (c.2.2.2.2.2.2.2.2.2.2.2.2.2.2.2.2.2.1) (c.2.2.2.2.2.2.2.2.2.2.2.2.2.2.2.2.2.2.1) (c.2.2.2.2.2.2.2.2.2.2.2.2.2.2.2.2.2.2.2.1) (c.2.2.2.2.2.2.2.2.2.2.2.2.2.2.2.2.2.2.2.2.1) (c.2.2.2.2.2.2.2.2.2.2.2.2.2.2.2.2.2.2.2.2.2.1) (c.2.2.2.2.2.2.2.2.2.2.2.2.2.2.2.2.2.2.2.2.2.2.1) (c.2.2.2.2.2.2.2.2.2.2.2.2.2.2.2.2.2.2.2.2.2.2.2.1) (c.2.2.2.2.2.2.2.2.2.2.2.2.2.2.2.2.2.2.2.2.2.2.2.2.1) (c.2.2.2.2.2.2.2.2.2.2.2.2.2.2.2.2.2.2.2.2.2.2.2.2.2.1) (c.2.2.2.2.2.2.2.2.2.2.2.2.2.2.2.2.2.2.2.2.2.2.2.2.2.2.1) (c.2.2.2.2.2.2.2.2.2.2.2.2.2.2.2.2.2.2.2.2.2.2.2.2.2.2.2.1) (c.2.2.2.2.2.2.2.2.2.2.2.2.2.2.2.2.2.2.2.2.2.2.2.2.2.2.2.2.1) (c.2.2.2.2.2.2.2.2.2.2.2.2.2.2.2.2.2.2.2.2.2.2.2.2.2.2.2.2.2.1) (c.2.2.2.2.2.2.2.2.2.2.2.2.2.2.2.2.2.2.2.2.2.2.2.2.2.2.2.2.2.2)) @core
end ZtailA
theorem tailA {prog : Program} {w : World} {p : Program} {loose : List Str} {mean : ExcName → Option Value} {mg : Str → Option Value} {mb : Str → Option Value} {dp : Nat} {gd : Option (List Code)} {un : Nat} {env : Env} {outer : List Env} {base : Heap} {s : Shared} {Qf : Flow → Shared → Prop} {E : Value → Shared → Prop} {g' : Heap} {L' : Addr} {h' : Heap} {tk0 : Nat} {u : Str → Option Value} {z : Nat} {zd : Nat} {x : Nat} {sd : Nat} {td : Nat} {qn : Nat} {Z : Kz} {K : Ks} {Kx : Kt} {v : Sv} {d : Int} {ud : Tok} {ux : Tok} {t : Tok} {tx : Str} {out : Str} {qi : Array Value} {ct : Value} {ex : List (Addr × Obj)} {e0 : Nat} {e1 : Nat} {e2 : Nat} {e3 : Nat} {ne : Nat} {nf : Nat} {tn : Tok} {uv : Tok} {oc : Obj} {nm : Str} {vl : Str} : ∀ {fname qual : Str} {params : Arguments} {body : List Stmt} {scope : Scope} {dV kV doc pm cdv fct foc : Value} {fan fod : Option Addr} {fosl : Array (Option Value)} (hl : (Mine.a.heap_1_39 w.params).lookup 283 = some ⟨foc, fod, .func (fnOf fname qual params body scope dV kV doc pm fan cdv fct), fosl⟩) (hd : dp + 3 < recursionLimit) (hu : un + 30 < cLine) (XB : (Mine.a.heap_1_39 w.params).In base) (TB : Top p loose mean mg mb base) (p1 : zd < z) (p2 : z < sd) (o1 : sd < x) (o2 : x < K.mo) (o3 : K.mo < td) (o4 : td < K.ds) (p3 : K.ds < Z.q) (hq : qi.size < 2000) (hct : handedIn ct = true) (hsz : out.length < 1100) (hte : ct = .ref e1) (r1 : Z.q < e1) (r2 : e1 < e3) (r3 : e3 < e2) (r4 : vl.length < 1000) (r5 : Obj.IsDictOf (PySem.strKind prog w) oc [(Str.ofString "data", .ref e2)]) (ht1 : ∀ p ∈ ex, p.1 ≠ e1) (ht2 : ∀ p ∈ ex, p.1 ≠ e2) (ht3 : ∀ p ∈ ex, p.1 ≠ e3)
    (F' : Fr g' L' h' (kstB u [(Str.ofString "output", .str out t), (Str.ofString "self", .ref z), (Str.ofString "fromAttribute", .bool true)])) (N' : News g' L' h' ((Z.q, listOf qi qn) :: (z, instObj 762 zd) :: (zd, zdict w Z x (.ref e1)) :: (x, instObj 166 sd) :: (sd, sdict w K v) :: (K.ds, instObj 73 td) :: (td, tdict w Kx tx ux d ud) :: (K.mo, methodObj (.ref 148) (.ref x)) :: (e1, oc) :: (e2, listOf #[.ref e0, .ref e3] ne) :: (e3, listOf #[.str nm tn, .str vl uv] nf) :: ex)) (B' : Below ⟨none, dp, some (env :: outer), gd, un⟩ base (env :: outer) g') (X' : (Mine.a.heap_1_39 w.params).In g') (T' : Top p loose mean mg mb g') (D' : KtsDicts ((env :: outer).filterMap (·.frame)) g') 
    (post : ∀ hh tk (m' : Str → Option Value) nf' uv', Fr g' L' hh m' → News g' L' hh ((Z.q, listOf qi qn) :: (z, instObj 762 zd) :: (zd, zdict w Z x (.ref e1)) :: (x, instObj 166 sd) :: (sd, sdict w K v) :: (K.ds, instObj 73 td) :: (td, tdict w Kx tx ux d ud) :: (K.mo, methodObj (.ref 148) (.ref x)) :: (e1, oc) :: (e2, listOf #[.ref e0, .ref e3] ne) :: (e3, listOf #[.str nm tn, .str (vl ++ out) uv'] nf') :: ex) → Qf .next { s with heap := hh, toks := tk }), wpAny (model prog w) (Around.deeper ⟨none, dp, some (env :: outer), gd, un⟩ (envOf qual scope L' 283 cdv)) (execs (body.drop 3) (envOf qual scope L' 283 cdv)) Qf (leaveE prog w (Around.deeper ⟨none, dp, some (env :: outer), gd, un⟩ (envOf qual scope L' 283 cdv)) (envOf qual scope L' 283 cdv) E) { s with heap := h', toks := tk0 } := ZtailA.all ⟨⟨prog, w, p, loose, mean, mg, mb, dp, gd, un, env, outer, base, s, Qf, E, g', L', h', tk0, u⟩, z, zd, x, sd, td, qn, Z, K, Kx, v, d, ud, ux, t, tx, out, qi, ct, ex, e0, e1, e2, e3, ne, nf, tn, uv, oc, nm, vl⟩
theorem lines_E8_2 : True := by
  (k_with "subscriptTail Name Name ref int" => safely ((k_here; k_dflt (refine' nth_list ?qlQ ?qh0Q ?qxQ ?qnQ ?_ ?qsQ ?qgQ; (case qlQ => exact News.isList (by k_asm) (by k_mem)); (case qh0Q => omega); (case qxQ => (first | (rename (_ = some (Value.str _ _)) => hx9Qq; exact hx9Qq) | assumption)); (case qnQ => (simp only [List.length_append, List.length_cons, List.length_nil]; omega)); (case qsQ => with_unfolding_all rfl); (case qgQ => (intro _; with_unfolding_all rfl)); k_whole))))
  trivial
theorem sz_meas {n : Nat} (h : n + 1 < 1000) : 2000 - (n + (0 + 1)) < 2000 - n := by omega
theorem sz_cut {T x k : Nat} (h : T < 1000) : min T x - k ≤ 10000 := Nat.le_trans (Nat.sub_le _ _) (Nat.le_trans (Nat.min_le_left _ _) (Nat.le_trans (Nat.le_of_lt h) (by decide)))
theorem sz_ent {a x y k T : Nat} (ha : a ≤ 2) (h : x = y - k) (hy : y = T) (hT : T < 1000) : a + x ≤ 16777216 := by omega
theorem sz_one {a x y T : Nat} (ha : a = 1) (h : x = y) (hy : y = T) (hT : T < 1000) : a + x ≤ 16777216 := by omega
theorem lines_E8_3 : True := by
  (k_with "om" => safely ((first | with_reducible exact sz_meas (by with_reducible assumption) | with_reducible exact sz_cut (by with_reducible assumption) | with_reducible exact sz_ent (by with_reducible assumption) (by with_reducible assumption) (by with_reducible assumption) (by with_reducible assumption) | with_reducible exact sz_one (by with_reducible assumption) (by with_reducible assumption) (by with_reducible assumption) (by with_reducible assumption) | fail "sz")))
  (k_with "callWith ref" => safely ((k_here; first | ((with_reducible show wpAny _ _ (callWith _ _ _ (backTo _ (starEach [] _)) []) _ _ _); k_dflt (refine' callWith_K0 (Frag.In.keeps ?qk1Q (Fr.keep ?qk0Q)) ?qk2Q ?_; (case qk0Q => k_asm); (case qk1Q => k_asm); (case qk2Q => k_is); k_whole)) | ((with_reducible show wpAny _ _ (callWith _ _ _ (backTo _ (starEach (_ :: _) _)) []) _ _ _); k_dflt (refine' callWith_K ?qk1Q ?qk2Q ?_; (case qk1Q => k_asm); (case qk2Q => k_is); k_whole)) | fail "callWith_K")))
  trivial
namespace ZceHead
noncomputable def P (prog : Program) (w : World) (p : Program) (loose : List Str) (mean : ExcName → Option Value) (mg : Str → Option Value) (mb : Str → Option Value) (dp : Nat) (gd : Option (List Code)) (un : Nat) (env : Env) (outer : List Env) (base : Heap) (s : Shared) (Qf : Flow → Shared → Prop) (E : Value → Shared → Prop) (g' : Heap) (L' : Addr) (h' : Heap) (tk0 : Nat) (u : Str → Option Value) (z : Nat) (zd : Nat) (x : Nat) (sd : Nat) (td : Nat) (qn : Nat) (i : Nat) (Z : Kz) (K : Ks) (Kx : Kt) (v : Sv) (d : Int) (ud : Tok) (ux : Tok) (tx : Str) (qs : Array Value) (al : Value) (ct : Value) (fa : Bool) (ex : List (Addr × Obj)) : Prop := ∀ {fname qual : Str} {params : Arguments} {body : List Stmt} {scope : Scope} {dV kV doc pm cdv fct foc : Value} {fan fod : Option Addr} {fosl : Array (Option Value)} (hl : (Mine.a.heap_1_39 w.params).lookup 283 = some ⟨foc, fod, .func (fnOf fname qual params body scope dV kV doc pm fan cdv fct), fosl⟩) (hd : dp + 12 < recursionLimit) (hu : un + 90 < cLine) (XB : (Mine.a.heap_1_39 w.params).In base) (TB : Top p loose mean mg mb base) (p1 : zd < z) (p2 : z < sd) (o1 : sd < x) (o2 : x < K.mo) (o3 : K.mo < td) (o4 : td < K.ds) (p3 : K.ds < Z.q) (hq : qs.size < 1000) (hal : AlOk al) (hct : handedIn ct = true) (hoff : OwnOff ex [z, zd, Z.q, x, sd, K.ds, td, K.mo]) (hnum : (MM tx)[i]? = some 35 → NoNum tx i)  (hx : tx.length < 1000) (hok : ∀ c ∈ tx.cps.toList, okc c) (hat : At tx v d i)
    (F' : Fr g' L' h' (kstB u [(Str.ofString "self", .ref z), (Str.ofString "allowedChar", al), (Str.ofString "fromAttribute", .bool fa)])) (N' : News g' L' h' ((z, instObj 762 zd) :: (zd, zdict w Z x ct) :: (Z.q, listOf qs qn) :: (x, instObj 166 sd) :: (sd, sdict w K v) :: (K.ds, instObj 73 td) :: (td, tdict w Kx tx ux d ud) :: (K.mo, methodObj (.ref 148) (.ref x)) :: ex)) (B' : Below ⟨none, dp, some (env :: outer), gd, un⟩ base (env :: outer) g') (X' : (Mine.a.heap_1_39 w.params).In g') (T' : Top p loose mean mg mb g') (D' : KtsDicts ((env :: outer).filterMap (·.frame)) g') (htk0 : 0 < tk0)
    (post : ∀ (c : Cj) (u2 : Str → Option Value) h1 hh tk, KtsTurn ((env :: outer).filterMap (·.frame)) g' h1 → cxJ prog w ⟨none, dp, some (env :: outer), gd, un⟩ base (env :: outer) p loose mean mg mb h1 → exJ prog w tx i al fa qs Z.q ex c → Fr h1 L' hh (kstB u2 [(Str.ofString "output", .str c.out c.t), (Str.ofString "self", .ref z), (Str.ofString "fromAttribute", .bool fa)]) → News h1 L' hh (ledJ w z zd x sd td Z ct K Kx tx ux c) → wpAny (model prog w) (Around.deeper ⟨none, dp, some (env :: outer), gd, un⟩ (envOf qual scope L' 283 cdv)) (execs (body.drop 3) (envOf qual scope L' 283 cdv)) Qf (leaveE prog w (Around.deeper ⟨none, dp, some (env :: outer), gd, un⟩ (envOf qual scope L' 283 cdv)) (envOf qual scope L' 283 cdv) E) { s with heap := hh, toks := tk }), wpAny (model prog w) (Around.deeper ⟨none, dp, some (env :: outer), gd, un⟩ (envOf qual scope L' 283 cdv)) (execs (body.drop 0) (envOf qual scope L' 283 cdv)) Qf (leaveE prog w (Around.deeper ⟨none, dp, some (env :: outer), gd, un⟩ (envOf qual scope L' 283 cdv)) (envOf qual scope L' 283 cdv) E) { s with heap := h', toks := tk0 }
@[irreducible] noncomputable def c0 : Bd × Nat × Nat × Nat × Nat × Nat × Nat × Nat × Kz × Ks × Kt × Sv × Int × Tok × Tok × Str × (Array Value) × Value × Value × Bool × (List (Addr × Obj)) := @Classical.epsilon _ (Nonempty.elim Bd.ne fun b => ⟨(b, 0, 0, 0, 0, 0, 0, 0, ⟨0,0,0,0,0,0,0,0,0,0,0⟩, ⟨0,0,0,0,0,0,0,0,0,0,0,0,0,0⟩, ⟨0,0⟩, ⟨default,0,0,0,0,.none,0,0,0,0,0⟩, 0, 0, 0, default, #[], .none, .none, false, [])⟩) fun c => ¬ P (c.1.prog) (c.1.w) (c.1.p) (c.1.loose) (c.1.mean) (c.1.mg) (c.1.mb) (c.1.dp) (c.1.gd) (c.1.un) (c.1.env) (c.1.outer) (c.1.base) (c.1.s) (c.1.Qf) (c.1.E) (c.1.g') (c.1.L') (c.1.h') (c.1.tk0) (c.1.u) (c.2.1) (c.2.2.1) (c.2.2.2.1) (c.2.2.2.2.1) (c.2.2.2.2.2.1) (c.2.2.2.2.2.2.1) (c.2.2.2.2.2.2.2.1) (c.2.2.2.2.2.2.2.2.1) (c.2.2.2.2.2.2.2.2.2.1) (c.2.2.2.2.2.2.2.2.2.2.1) (c.2.2.2.2.2.2.2.2.2.2.2.1) (c.2.2.2.2.2.2.2.2.2.2.2.2.1) (c.2.2.2.2.2.2.2.2.2.2.2.2.2.1) (c.2.2.2.2.2.2.2.2.2.2.2.2.2.2.1) (c.2.2.2.2.2.2.2.2.2.2.2.2.2.2.2.1) (c.2.2.2.2.2.2.2.2.2.2.2.2.2.2.2.2.1) (c.2.2.2.2.2.2.2.2.2.2.2.2.2.2.2.2.2.1) (c.2.2.2.2.2.2.2.2.2.2.2.2.2.2.2.2.2.2.1) (c.2.2.2.2.2.2.2.2.2.2.2.2.2.2.2.2.2.2.2.1) (c.2.2.2.2.2.2.2.2.2.2.2.2.2.2.2.2.2.2.2.2)
@[irreducible] noncomputable def prog : Program := c0.1.prog
@[irreducible] noncomputable def w : World := c0.1.w
@[irreducible] noncomputable def p : Program := c0.1.p
@[irreducible] noncomputable def loose : List Str := c0.1.loose
@[irreducible] noncomputable def mean : ExcName → Option Value := c0.1.mean
@[irreducible] noncomputable def mg : Str → Option Value := c0.1.mg
@[irreducible] noncomputable def mb : Str → Option Value := c0.1.mb
@[irreducible] noncomputable def dp : Nat := c0.1.dp
@[irreducible] noncomputable def gd : Option (List Code) := c0.1.gd
@[irreducible] noncomputable def un : Nat := c0.1.un
@[irreducible] noncomputable def env : Env := c0.1.env
@[irreducible] noncomputable def outer : List Env := c0.1.outer
@[irreducible] noncomputable def base : Heap := c0.1.base
@[irreducible] noncomputable def s : Shared := c0.1.s
@[irreducible] noncomputable def Qf : Flow → Shared → Prop := c0.1.Qf
@[irreducible] noncomputable def E : Value → Shared → Prop := c0.1.E
@[irreducible] noncomputable def g' : Heap := c0.1.g'
@[irreducible] noncomputable def L' : Addr := c0.1.L'
@[irreducible] noncomputable def h' : Heap := c0.1.h'
@[irreducible] noncomputable def tk0 : Nat := c0.1.tk0
@[irreducible] noncomputable def u : Str → Option Value := c0.1.u
@[irreducible] noncomputable def z : Nat := c0.2.1
@[irreducible] noncomputable def zd : Nat := c0.2.2.1
@[irreducible] noncomputable def x : Nat := c0.2.2.2.1
@[irreducible] noncomputable def sd : Nat := c0.2.2.2.2.1
@[irreducible] noncomputable def td : Nat := c0.2.2.2.2.2.1
@[irreducible] noncomputable def qn : Nat := c0.2.2.2.2.2.2.1
@[irreducible] noncomputable def i : Nat := c0.2.2.2.2.2.2.2.1
@[irreducible] noncomputable def Z : Kz := c0.2.2.2.2.2.2.2.2.1
@[irreducible] noncomputable def K : Ks := c0.2.2.2.2.2.2.2.2.2.1
@[irreducible] noncomputable def Kx : Kt := c0.2.2.2.2.2.2.2.2.2.2.1
@[irreducible] noncomputable def v : Sv := c0.2.2.2.2.2.2.2.2.2.2.2.1
@[irreducible] noncomputable def d : Int := c0.2.2.2.2.2.2.2.2.2.2.2.2.1
@[irreducible] noncomputable def ud : Tok := c0.2.2.2.2.2.2.2.2.2.2.2.2.2.1
@[irreducible] noncomputable def ux : Tok := c0.2.2.2.2.2.2.2.2.2.2.2.2.2.2.1
@[irreducible] noncomputable def tx : Str := c0.2.2.2.2.2.2.2.2.2.2.2.2.2.2.2.1
@[irreducible] noncomputable def qs : Array Value := c0.2.2.2.2.2.2.2.2.2.2.2.2.2.2.2.2.1
@[irreducible] noncomputable def al : Value := c0.2.2.2.2.2.2.2.2.2.2.2.2.2.2.2.2.2.1
@[irreducible] noncomputable def ct : Value := c0.2.2.2.2.2.2.2.2.2.2.2.2.2.2.2.2.2.2.1
@[irreducible] noncomputable def fa : Bool := c0.2.2.2.2.2.2.2.2.2.2.2.2.2.2.2.2.2.2.2.1
@[irreducible] noncomputable def ex : List (Addr × Obj) := c0.2.2.2.2.2.2.2.2.2.2.2.2.2.2.2.2.2.2.2.2
theorem core {fname qual : Str} {params : Arguments} {body : List Stmt} {scope : Scope} {dV kV doc pm cdv fct foc : Value} {fan fod : Option Addr} {fosl : Array (Option Value)} (hl : (Mine.a.heap_1_39 w.params).lookup 283 = some ⟨foc, fod, .func (fnOf fname qual params body scope dV kV doc pm fan cdv fct), fosl⟩) (hd : dp + 12 < recursionLimit) (hu : un + 90 < cLine) (XB : (Mine.a.heap_1_39 w.params).In base) (TB : Top p loose mean mg mb base) (p1 : zd < z) (p2 : z < sd) (o1 : sd < x) (o2 : x < K.mo) (o3 : K.mo < td) (o4 : td < K.ds) (p3 : K.ds < Z.q) (hq : qs.size < 1000) (hal : AlOk al) (hct : handedIn ct = true) (hoff : OwnOff ex [z, zd, Z.q, x, sd, K.ds, td, K.mo]) (hnum : (MM tx)[i]? = some 35 → NoNum tx i)  (hx : tx.length < 1000) (hok : ∀ c ∈ tx.cps.toList, okc c) (hat : At tx v d i)
    (F' : Fr g' L' h' (kstB u [(Str.ofString "self", .ref z), (Str.ofString "allowedChar", al), (Str.ofString "fromAttribute", .bool fa)])) (N' : News g' L' h' ((z, instObj 762 zd) :: (zd, zdict w Z x ct) :: (Z.q, listOf qs qn) :: (x, instObj 166 sd) :: (sd, sdict w K v) :: (K.ds, instObj 73 td) :: (td, tdict w Kx tx ux d ud) :: (K.mo, methodObj (.ref 148) (.ref x)) :: ex)) (B' : Below ⟨none, dp, some (env :: outer), gd, un⟩ base (env :: outer) g') (X' : (Mine.a.heap_1_39 w.params).In g') (T' : Top p loose mean mg mb g') (D' : KtsDicts ((env :: outer).filterMap (·.frame)) g') (htk0 : 0 < tk0)
    (post : ∀ (c : Cj) (u2 : Str → Option Value) h1 hh tk, KtsTurn ((env :: outer).filterMap (·.frame)) g' h1 → cxJ prog w ⟨none, dp, some (env :: outer), gd, un⟩ base (env :: outer) p loose mean mg mb h1 → exJ prog w tx i al fa qs Z.q ex c → Fr h1 L' hh (kstB u2 [(Str.ofString "output", .str c.out c.t), (Str.ofString "self", .ref z), (Str.ofString "fromAttribute", .bool fa)]) → News h1 L' hh (ledJ w z zd x sd td Z ct K Kx tx ux c) → wpAny (model prog w) (Around.deeper ⟨none, dp, some (env :: outer), gd, un⟩ (envOf qual scope L' 283 cdv)) (execs (body.drop 3) (envOf qual scope L' 283 cdv)) Qf (leaveE prog w (Around.deeper ⟨none, dp, some (env :: outer), gd, un⟩ (envOf qual scope L' 283 cdv)) (envOf qual scope L' 283 cdv) E) { s with heap := hh, toks := tk }) : wpAny (model prog w) (Around.deeper ⟨none, dp, some (env :: outer), gd, un⟩ (envOf qual scope L' 283 cdv)) (execs (body.drop 0) (envOf qual scope L' 283 cdv)) Qf (leaveE prog w (Around.deeper ⟨none, dp, some (env :: outer), gd, un⟩ (envOf qual scope L' 283 cdv)) (envOf qual scope L' 283 cdv) E) { s with heap := h', toks := tk0 } := by
  delta leaveE
  refine' seg_inc hl ?hk ?_
  (case hk => k_is)
  rintro rfl rfl rfl rfl
  clear hl
  have q_0_2 : @LT.lt Nat _ zd sd := Nat.lt_trans p1 p2
  have q_0_3 : @LT.lt Nat _ zd x := Nat.lt_trans q_0_2 o1
  have q_0_4 : @LT.lt Nat _ zd K.mo := Nat.lt_trans q_0_3 o2
  have q_0_5 : @LT.lt Nat _ zd td := Nat.lt_trans q_0_4 o3
  have q_0_6 : @LT.lt Nat _ zd K.ds := Nat.lt_trans q_0_5 o4
  have q_0_7 : @LT.lt Nat _ zd Z.q := Nat.lt_trans q_0_6 p3
  have q_1_3 : @LT.lt Nat _ z x := Nat.lt_trans p2 o1
  have q_1_4 : @LT.lt Nat _ z K.mo := Nat.lt_trans q_1_3 o2
  have q_1_5 : @LT.lt Nat _ z td := Nat.lt_trans q_1_4 o3
  have q_1_6 : @LT.lt Nat _ z K.ds := Nat.lt_trans q_1_5 o4
  have q_1_7 : @LT.lt Nat _ z Z.q := Nat.lt_trans q_1_6 p3
  have q_2_4 : @LT.lt Nat _ sd K.mo := Nat.lt_trans o1 o2
  have q_2_5 : @LT.lt Nat _ sd td := Nat.lt_trans q_2_4 o3
  have q_2_6 : @LT.lt Nat _ sd K.ds := Nat.lt_trans q_2_5 o4
  have q_2_7 : @LT.lt Nat _ sd Z.q := Nat.lt_trans q_2_6 p3
  have q_3_5 : @LT.lt Nat _ x td := Nat.lt_trans o2 o3
  have q_3_6 : @LT.lt Nat _ x K.ds := Nat.lt_trans q_3_5 o4
  have q_3_7 : @LT.lt Nat _ x Z.q := Nat.lt_trans q_3_6 p3
  have q_4_6 : @LT.lt Nat _ K.mo K.ds := Nat.lt_trans o3 o4
  have q_4_7 : @LT.lt Nat _ K.mo Z.q := Nat.lt_trans q_4_6 p3
  have q_5_7 : @LT.lt Nat _ td Z.q := Nat.lt_trans o4 p3
  (try dsimp only [List.drop])
  (try dsimp only [kstB] at F')
  (try dsimp only [zdict, sEnt] at N')
  all_goals (have hin9 : InP 6 := rfl)
  k_with "exec If" => ((with_reducible show wpAny _ _ (exec (Stmt.If (PySem.Expr.BoolOp BoolOp.Or [_, _, _] _) _ _ _) _) _ _ _); (with_reducible (rename InP 6 => hin9)); (with_reducible (rename IfMark => hfm9; rename Fr _ _ _ _ => lF'; rename LastAt _ _ _ _ _ => hla9; rename AdrLt _ _ => l9)); (have hx9 := adr_ex (ex := ex) l9 (fun a ha => by (repeat (first | exact ha | refine List.mem_cons_of_mem _ ?_)))); (with_unfolding_all refine' stmt_meet (σ := Cj) ((env :: outer).filterMap (·.frame)) (cxJ prog w ⟨none, dp, some (env :: outer), gd, un⟩ base (env :: outer) p loose mean mg mb) (ledJ w z zd x sd td Z ct K Kx tx ux) (fun c => [(Str.ofString "output", .str c.out c.t)]) [Str.ofString "charStack", Str.ofString "hex", Str.ofString "entityName", Str.ofString "entityLength"] (exJ prog w tx i al fa qs Z.q ex) lF' ?ja ?jb); (clear hfm9); (case' ja => (k_dflt (rcases last_split al hnum hla9 with ⟨hr9, hi9, hat9⟩ | ⟨t9, hr9, hi9, hat9, hk9, hnn9, hs1, hs2, hs3, hs4, hmk9⟩ | ⟨ch9, t9, hr9, hi9, hat9, hk9, hs1 | ⟨hs1, hs2⟩ | ⟨hs1, hs2, hs3⟩ | ⟨hs1, hs2, hs3, hs4⟩⟩) <;> (subst hr9) <;> (first | k_fold | skip))); (case' jb => (clear hx9 l9 hla9 lF'; k_dflt (intro c9 u9 h19 h9 tk9 kT9 kC9 kE9 kF9 kN9; (try dsimp only); exact post c9 _ h19 h9 tk9 kT9 kC9 kE9 (fr_ps kF9 (by (repeat (first | exact List.forall_mem_nil _ | (refine' all_cons ?zA9 ?_; (case zA9 => with_unfolding_all rfl)))))) kN9))))
  k_with "exec While Compare cons nil" => ((with_reducible (rename InP 6 => hin9)); ((rename Fr _ _ _ _ => lF'); (rename News _ _ _ _ => lN'); (with_unfolding_all refine' while_scan lF' lN' ?ki ?kat ?kk hx ?ts ?tn ?tz); (case ki => assumption); (case kat => assumption); (case kk => assumption); (clear lF' lN'); (case' ts => (intro vs9 ch9 t9 n9 v9 d9 ud9 u9 h9 tk9 hz9 hs9 hn9 hat9 hsc9 kF9 kN9)); (case' tn => (intro vs9 n9 v9 d9 ud9 u9 h9 tk9 hz9 hsc9 kF9 kN9)); (case' tz => (intro T9 b9 vs9 last9 n9 v9 d9 ud9 h9 tk9 hm9 hz9 hs9 hla9 hha9 hy9 hy8 hy7 kF9 kN9; (obtain ⟨hbl9, hbl8⟩ := match_len hm9); ((rcases lp_cases hm9 with ⟨hb9, hlp9⟩ | ⟨hb9, hlp9⟩) <;> ((try (have hbp9 := List.length_pos_iff.mpr hb9; have hin9 := match_in hm9 hb9; obtain ⟨ue9, hent9⟩ := ent_ns w.params hin9; obtain ⟨hel8, hel9, _⟩ := ent_len hin9)); (first | replace hlp9 := lp_str hlp9 | replace hlp9 := lp_strN hlp9)))))))
  k_with "isTrue BoolOp" => ((with_reducible show wpAny _ _ (isTrue (PySem.Expr.BoolOp BoolOp.Or [PySem.Expr.Compare _ [CmpOp.In] _ _, PySem.Expr.Compare _ [CmpOp.In] _ _, PySem.Expr.Compare _ [CmpOp.Eq] _ _] _) _ _) _ _ _); (with_reducible (rename InP 6 => hin9)); (with_reducible (rename Fr _ _ _ _ => lF'; rename News _ _ _ _ => lN')); (refine' test_meet (gluedAt (RR tx i) b9.length) lF' lN' ?ga ?gb); (case' ga => k_dflt (rcases item_behind hm9 hz9 hs9 hla9 hy7 with ⟨cg9, tg9, hg9, hg8⟩ | ⟨hg9, hg8⟩)); (case' gb => ((clear lF' lN'); (intro h9 tk9 kF9 kN9); (cases hgl9 : gluedAt (RR tx i) b9.length))))
  have hfm9 : IfMark := trivial
  have hah := hal.handed
  have hml9 := mm_len tx
  k_steps
  all_goals first
    | (refine' outS_ ⟨_, _, _, _, _, _, _, _, _, _, ex⟩ ?yt ?yc ?yF ?yN ?yhn ?yk ?yr ?yp; (case yF => k_asm); (case yN => k_asm); (case yt => first | assumption | exact KtsTurn.refl); (case yc => exact ⟨by k_asm, by k_asm, by k_asm, by k_asm⟩); (case yhn => (repeat (first | exact List.forall_mem_nil _ | (refine' sub_cons ?zA9 ?_; (case zA9 => k_mem)) | exact (fun p hp => by (repeat (first | exact hp | refine List.mem_cons_of_mem _ ?_)))))); (case yk => (repeat (first | exact List.forall_mem_nil _ | (refine' all_cons ?zA9 ?_; (case zA9 => with_unfolding_all rfl))))); (case yr => (intro z h2 h3; (simp only [List.forall_mem_cons, List.not_mem_nil, false_implies, implies_true, and_true, ne_eq] at h2); (simp only [List.contains_cons, List.contains_nil, Bool.or_false, Bool.or_eq_false_iff, beq_eq_false_iff_ne, ne_eq] at h3); (simp [h2, h3, kstB]))); (case yp => first | exact ex_stop (stop_none (by assumption)) (by assumption) | exact ex_stop (stop_some (by assumption) (by first | exact .inl (by assumption) | exact .inr (.inl (by assumption)) | exact .inr (.inr (by assumption)))) (by assumption)))
    | (refine' outC_ ?yF ?yN hsc9 ?yp; (case yF => k_asm); (case yN => k_asm); (case yp => first | exact scan_stop hsc9 (by assumption) | exact scan_end hsc9 hz9))
    | (refine' ksw_end ⟨_, _, _, _, _, _, _⟩ ?yF ?yN ?yhn trivial (fun _ h => nomatch h) ?yr ⟨?ye, scan_more hsc9 (by assumption) ?yl⟩ ?ym; (case yF => k_asm); (case yN => k_asm); (case yl => first | assumption | exact .inl ⟨_, _, rfl, by assumption, by assumption, by assumption⟩ | exact .inr ⟨rfl, by assumption, by assumption⟩); (case yhn => (repeat (first | exact List.forall_mem_nil _ | (refine' sub_cons ?zA9 ?_; (case zA9 => k_mem)) | exact (fun p hp => by (repeat (first | exact hp | refine List.mem_cons_of_mem _ ?_)))))); (case yr => exact fun _ _ _ => rfl); (case ye => simp); (case ym => (simp only [List.length_append, List.length_cons, List.length_nil]; omega)))
    | ((with_reducible (rename Obj.IsDictOf _ _ (strPairs _) => hd9)); refine' outS_ ⟨_, _, _, _, _, _, _, _, _, _, ((_, objOf hd9) :: ex)⟩ ?yt ?yc ?yF ?yN ?yhn ?yk ?yr ?yp; (case yF => k_asm); (case yN => k_asm); (case yt => first | assumption | exact KtsTurn.refl); (case yc => exact ⟨by k_asm, by k_asm, by k_asm, by k_asm⟩); (case yhn => (repeat (first | exact List.forall_mem_nil _ | (refine' sub_cons ?zA9 ?_; (case zA9 => k_mem)) | exact (fun p hp => by (repeat (first | exact hp | refine List.mem_cons_of_mem _ ?_)))))); (case yk => (repeat (first | exact List.forall_mem_nil _ | (refine' all_cons ?zA9 ?_; (case zA9 => with_unfolding_all rfl))))); (case yr => (intro z h2 h3; (simp only [List.forall_mem_cons, List.not_mem_nil, false_implies, implies_true, and_true, ne_eq] at h2); (simp only [List.contains_cons, List.contains_nil, Bool.or_false, Bool.or_eq_false_iff, beq_eq_false_iff_ne, ne_eq] at h3); (simp [h2, h3, kstB]))); (case yp => first | (refine' ex_fault (hash_0 hi9 (by assumption)) ?y1 ⟨_, _, hd9⟩ ?y2 ?y3; (case y1 => assumption); (case y2 => first | exact adr_lt (by with_reducible assumption) (by k_mem) | omega); (case y3 => ((with_reducible (rename AdrLt _ _ => l8)); exact adr_ex l8 (fun a ha => by (repeat (first | exact ha | refine List.mem_cons_of_mem _ ?_)))))) | (refine' ex_fault (hash_1 hi9 (by assumption) (by assumption)) ?y1 ⟨_, _, hd9⟩ ?y2 ?y3; (case y1 => assumption); (case y2 => first | exact adr_lt (by with_reducible assumption) (by k_mem) | omega); (case y3 => ((with_reducible (rename AdrLt _ _ => l8)); exact adr_ex l8 (fun a ha => by (repeat (first | exact ha | refine List.mem_cons_of_mem _ ?_)))))) | (refine' ex_fault (hash_2 hi9 (by assumption) (by assumption)) ?y1 ⟨_, _, hd9⟩ ?y2 ?y3; (case y1 => assumption); (case y2 => first | exact adr_lt (by with_reducible assumption) (by k_mem) | omega); (case y3 => ((with_reducible (rename AdrLt _ _ => l8)); exact adr_ex l8 (fun a ha => by (repeat (first | exact ha | refine List.mem_cons_of_mem _ ?_))))))))
    | ((with_reducible (rename Obj.IsDictOf _ _ (strPairs _) => hd9)); refine' outS_ ⟨_, _, _, _, _, _, _, _, _, _, ((_, objOf hd9) :: ex)⟩ ?yt ?yc ?yF ?yN ?yhn ?yk ?yr ?yp; (case yF => k_asm); (case yN => k_asm); (case yt => first | assumption | exact KtsTurn.refl); (case yc => exact ⟨by k_asm, by k_asm, by k_asm, by k_asm⟩); (case yhn => (repeat (first | exact List.forall_mem_nil _ | (refine' sub_cons ?zA9 ?_; (case zA9 => k_mem)) | exact (fun p hp => by (repeat (first | exact hp | refine List.mem_cons_of_mem _ ?_)))))); (case yk => (repeat (first | exact List.forall_mem_nil _ | (refine' all_cons ?zA9 ?_; (case zA9 => with_unfolding_all rfl))))); (case yr => (intro z h2 h3; (simp only [List.forall_mem_cons, List.not_mem_nil, false_implies, implies_true, and_true, ne_eq] at h2); (simp only [List.contains_cons, List.contains_nil, Bool.or_false, Bool.or_eq_false_iff, beq_eq_false_iff_ne, ne_eq] at h3); (simp [h2, h3, kstB]))); (case yp => (refine' ex_fault (no_is hi9 hs1 hs2 hs3 hs4 hm9 (by assumption)) ?y1 ⟨_, _, hd9⟩ ?y2 ?y3; (case y1 => assumption); (case y2 => first | exact adr_lt (by with_reducible assumption) (by k_mem) | omega); (case y3 => ((with_reducible (rename AdrLt _ _ => l8)); exact adr_ex l8 (fun a ha => by (repeat (first | exact ha | refine List.mem_cons_of_mem _ ?_))))))))
    | (refine' outS_ ⟨_, _, _, _, _, _, _, _, _, _, ex⟩ ?yt ?yc ?yF ?yN ?yhn ?yk ?yr ?yp; (case yF => k_asm); (case yN => k_asm); (case yt => first | assumption | exact KtsTurn.refl); (case yc => exact ⟨by k_asm, by k_asm, by k_asm, by k_asm⟩); (case yhn => (repeat (first | exact List.forall_mem_nil _ | (refine' sub_cons ?zA9 ?_; (case zA9 => k_mem)) | exact (fun p hp => by (repeat (first | exact hp | refine List.mem_cons_of_mem _ ?_)))))); (case yk => (repeat (first | exact List.forall_mem_nil _ | (refine' all_cons ?zA9 ?_; (case zA9 => with_unfolding_all rfl))))); (case yr => (intro z h2 h3; (simp only [List.forall_mem_cons, List.not_mem_nil, false_implies, implies_true, and_true, ne_eq] at h2); (simp only [List.contains_cons, List.contains_nil, Bool.or_false, Bool.or_eq_false_iff, beq_eq_false_iff_ne, ne_eq] at h3); (simp [h2, h3, kstB]))); (case yp => exact ex_plain (.semi _ _ hm9 (by assumption) (by first | assumption | (simp_all; done))) (by assumption)))
    | ((with_reducible (rename Obj.IsDictOf _ _ (strPairs _) => hd9)); refine' outS_ ⟨_, _, _, _, _, _, _, _, _, _, ((_, objOf hd9) :: ex)⟩ ?yt ?yc ?yF ?yN ?yhn ?yk ?yr ?yp; (case yF => k_asm); (case yN => k_asm); (case yt => first | assumption | exact KtsTurn.refl); (case yc => exact ⟨by k_asm, by k_asm, by k_asm, by k_asm⟩); (case yhn => (repeat (first | exact List.forall_mem_nil _ | (refine' sub_cons ?zA9 ?_; (case zA9 => k_mem)) | exact (fun p hp => by (repeat (first | exact hp | refine List.mem_cons_of_mem _ ?_)))))); (case yk => (repeat (first | exact List.forall_mem_nil _ | (refine' all_cons ?zA9 ?_; (case zA9 => with_unfolding_all rfl))))); (case yr => (intro z h2 h3; (simp only [List.forall_mem_cons, List.not_mem_nil, false_implies, implies_true, and_true, ne_eq] at h2); (simp only [List.contains_cons, List.contains_nil, Bool.or_false, Bool.or_eq_false_iff, beq_eq_false_iff_ne, ne_eq] at h3); (simp [h2, h3, kstB]))); (case yp => (refine' ex_fault (bare_is hm9 (by assumption) (by first | assumption | exact of_decide_eq_true (by assumption) | (intro q9; simp_all; done)) (by first | exact .inl rfl | exact .inl (by assumption) | exact .inr (by assumption))) ?y1 ⟨_, _, hd9⟩ ?y2 ?y3; (case y1 => assumption); (case y2 => first | exact adr_lt (by with_reducible assumption) (by k_mem) | omega); (case y3 => ((with_reducible (rename AdrLt _ _ => l8)); exact adr_ex l8 (fun a ha => by (repeat (first | exact ha | refine List.mem_cons_of_mem _ ?_))))))))
    | ((with_reducible (rename Obj.IsDictOf _ _ (strPairs _) => hd9)); refine' outS_ ⟨_, _, _, _, _, _, _, _, _, _, ((_, objOf hd9) :: ex)⟩ ?yt ?yc ?yF ?yN ?yhn ?yk ?yr ?yp; (case yF => k_asm); (case yN => k_asm); (case yt => first | assumption | exact KtsTurn.refl); (case yc => exact ⟨by k_asm, by k_asm, by k_asm, by k_asm⟩); (case yhn => (repeat (first | exact List.forall_mem_nil _ | (refine' sub_cons ?zA9 ?_; (case zA9 => k_mem)) | exact (fun p hp => by (repeat (first | exact hp | refine List.mem_cons_of_mem _ ?_)))))); (case yk => (repeat (first | exact List.forall_mem_nil _ | (refine' all_cons ?zA9 ?_; (case zA9 => with_unfolding_all rfl))))); (case yr => (intro z h2 h3; (simp only [List.forall_mem_cons, List.not_mem_nil, false_implies, implies_true, and_true, ne_eq] at h2); (simp only [List.contains_cons, List.contains_nil, Bool.or_false, Bool.or_eq_false_iff, beq_eq_false_iff_ne, ne_eq] at h3); (simp [h2, h3, kstB]))); (case yp => (refine' ex_fault (glue_is hm9 (by assumption) (by first | assumption | exact of_decide_eq_true (by assumption) | (intro q9; simp_all; done)) (by first | rfl | assumption) (by assumption)) ?y1 ⟨_, _, hd9⟩ ?y2 ?y3; (case y1 => assumption); (case y2 => first | exact adr_lt (by with_reducible assumption) (by k_mem) | omega); (case y3 => ((with_reducible (rename AdrLt _ _ => l8)); exact adr_ex l8 (fun a ha => by (repeat (first | exact ha | refine List.mem_cons_of_mem _ ?_))))))))
    | (refine' meetB_ ?yF ?yN ?yhn ?ye; (case yF => k_asm); (case yN => k_asm); (case yhn => exact fun _ h => h); (case ye => first | exact glued_1 hg8 (by assumption) | exact glued_2 hg8 (by assumption) | exact glued_3 hg8 (by assumption) | exact glued_0 hg8 (by assumption) (by assumption) (by assumption) | exact (glued_none hg8).symm))
theorem all : ∀ c : Bd × Nat × Nat × Nat × Nat × Nat × Nat × Nat × Kz × Ks × Kt × Sv × Int × Tok × Tok × Str × (Array Value) × Value × Value × Bool × (List (Addr × Obj)), P (c.1.prog) (c.1.w) (c.1.p) (c.1.loose) (c.1.mean) (c.1.mg) (c.1.mb) (c.1.dp) (c.1.gd) (c.1.un) (c.1.env) (c.1.outer) (c.1.base) (c.1.s) (c.1.Qf) (c.1.E) (c.1.g') (c.1.L') (c.1.h') (c.1.tk0) (c.1.u) (c.2.1) (c.2.2.1) (c.2.2.2.1) (c.2.2.2.2.1) (c.2.2.2.2.2.1) (c.2.2.2.2.2.2.1) (c.2.2.2.2.2.2.2.1) (c.2.2.2.2.2.2.2.2.1) (c.2.2.2.2.2.2.2.2.2.1) (c.2.2.2.2.2.2.2.2.2.2.1) (c.2.2.2.2.2.2.2.2.2.2.2.1) (c.2.2.2.2.2.2.2.2.2.2.2.2.1) (c.2.2.2.2.2.2.2.2.2.2.2.2.2.1) (c.2.2.2.2.2.2.2.2.2.2.2.2.2.2.1) (c.2.2.2.2.2.2.2.2.2.2.2.2.2.2.2.1) (c.2.2.2.2.2.2.2.2.2.2.2.2.2.2.2.2.1) (c.2.2.2.2.2.2.2.2.2.2.2.2.2.2.2.2.2.1) (c.2.2.2.2.2.2.2.2.2.2.2.2.2.2.2.2.2.2.1) (c.2.2.2.2.2.2.2.2.2.2.2.2.2.2.2.2.2.2.2.1) (c.2.2.2.2.2.2.2.2.2.2.2.2.2.2.2.2.2.2.2.2) := by with_unfolding_all exact eps_all (Nonempty.elim Bd.ne fun b => ⟨(b, 0, 0, 0, 0, 0, 0, 0, ⟨0,0,0,0,0,0,0,0,0,0,0⟩, ⟨0,0,0,0,0,0,0,0,0,0,0,0,0,0⟩, ⟨0,0⟩, ⟨default,0,0,0,0,.none,0,0,0,0,0⟩, 0, 0, 0, default, #[], .none, .none, false, [])⟩) (P := fun c : Bd × Nat × Nat × Nat × Nat × Nat × Nat × Nat × Kz × Ks × Kt × Sv × Int × Tok × Tok × Str × (Array Value) × Value × Value × Bool × (List (Addr × Obj)) => P (c.1.prog) (c.1.w) (c.1.p) (c.1.loose) (c.1.mean) (c.1.mg) (c.1.mb) (c.1.dp) (c.1.gd) (c.1.un) (c.1.env) (c.1.outer) (c.1.base) (c.1.s) (c.1.Qf) (c.1.E) (c.1.g') (c.1.L') (c.1.h') (c.1.tk0) (c.1.u) (c.2.1) (c.2.2.1) (c.2.2.2.1) (c.2.2.2.2.1) (c.2.2.2.2.2.1) (c.2.2.2.2.2.2.1) (c.2.2.2.2.2.2.2.1) (c.2.2.2.2.2.2.2.2.1) (c.2.2.2.2.2.2.2.2.2.1) (c.2.2.2.2.2.2.2.2.2.2.1) (c.2.2.2.2.2.2.2.2.2.2.2.1) (c.2.2.2.2.2.2.2.2.2.2.2.2.1) (c.2.2.2.2.2.2.2.2.2.2.2.2.2.1) (c.2.2.2.2.2.2.2.2.2.2.2.2.2.2.1) (c.2.2.2.2.2.2.2.2.2.2.2.2.2.2.2.1) (c.2.2.2.2.2.2.2.2.2.2.2.2.2.2.2.2.1) (c.2.2.2.2.2.2.2.2.2.2.2.2.2.2.2.2.2.1) (c.2.2.2.2.2.2.2.2.2.2.2.2.2.2.2.2.2.2.1) (c.2.2.2.2.2.2.2.2.2.2.2.2.2.2.2.2.2.2.2.1) (c.2.2.2.2.2.2.2.2.2.2.2.2.2.2.2.2.2.2.2.2)) @core
end ZceHead
theorem ceHead {prog : Program} {w : World} {p : Program} {loose : List Str} {mean : ExcName → Option Value} {mg : Str → Option Value} {mb : Str → Option Value} {dp : Nat} {gd : Option (List Code)} {un : Nat} {env : Env} {outer : List Env} {base : Heap} {s : Shared} {Qf : Flow → Shared → Prop} {E : Value → Shared → Prop} {g' : Heap} {L' : Addr} {h' : Heap} {tk0 : Nat} {u : Str → Option Value} {z : Nat} {zd : Nat} {x : Nat} {sd : Nat} {td : Nat} {qn : Nat} {i : Nat} {Z : Kz} {K : Ks} {Kx : Kt} {v : Sv} {d : Int} {ud : Tok} {ux : Tok} {tx : Str} {qs : Array Value} {al : Value} {ct : Value} {fa : Bool} {ex : List (Addr × Obj)} : ∀ {fname qual : Str} {params : Arguments} {body : List Stmt} {scope : Scope} {dV kV doc pm cdv fct foc : Value} {fan fod : Option Addr} {fosl : Array (Option Value)} (hl : (Mine.a.heap_1_39 w.params).lookup 283 = some ⟨foc, fod, .func (fnOf fname qual params body scope dV kV doc pm fan cdv fct), fosl⟩) (hd : dp + 12 < recursionLimit) (hu : un + 90 < cLine) (XB : (Mine.a.heap_1_39 w.params).In base) (TB : Top p loose mean mg mb base) (p1 : zd < z) (p2 : z < sd) (o1 : sd < x) (o2 : x < K.mo) (o3 : K.mo < td) (o4 : td < K.ds) (p3 : K.ds < Z.q) (hq : qs.size < 1000) (hal : AlOk al) (hct : handedIn ct = true) (hoff : OwnOff ex [z, zd, Z.q, x, sd, K.ds, td, K.mo]) (hnum : (MM tx)[i]? = some 35 → NoNum tx i)  (hx : tx.length < 1000) (hok : ∀ c ∈ tx.cps.toList, okc c) (hat : At tx v d i)
    (F' : Fr g' L' h' (kstB u [(Str.ofString "self", .ref z), (Str.ofString "allowedChar", al), (Str.ofString "fromAttribute", .bool fa)])) (N' : News g' L' h' ((z, instObj 762 zd) :: (zd, zdict w Z x ct) :: (Z.q, listOf qs qn) :: (x, instObj 166 sd) :: (sd, sdict w K v) :: (K.ds, instObj 73 td) :: (td, tdict w Kx tx ux d ud) :: (K.mo, methodObj (.ref 148) (.ref x)) :: ex)) (B' : Below ⟨none, dp, some (env :: outer), gd, un⟩ base (env :: outer) g') (X' : (Mine.a.heap_1_39 w.params).In g') (T' : Top p loose mean mg mb g') (D' : KtsDicts ((env :: outer).filterMap (·.frame)) g') (htk0 : 0 < tk0)
    (post : ∀ (c : Cj) (u2 : Str → Option Value) h1 hh tk, KtsTurn ((env :: outer).filterMap (·.frame)) g' h1 → cxJ prog w ⟨none, dp, some (env :: outer), gd, un⟩ base (env :: outer) p loose mean mg mb h1 → exJ prog w tx i al fa qs Z.q ex c → Fr h1 L' hh (kstB u2 [(Str.ofString "output", .str c.out c.t), (Str.ofString "self", .ref z), (Str.ofString "fromAttribute", .bool fa)]) → News h1 L' hh (ledJ w z zd x sd td Z ct K Kx tx ux c) → wpAny (model prog w) (Around.deeper ⟨none, dp, some (env :: outer), gd, un⟩ (envOf qual scope L' 283 cdv)) (execs (body.drop 3) (envOf qual scope L' 283 cdv)) Qf (leaveE prog w (Around.deeper ⟨none, dp, some (env :: outer), gd, un⟩ (envOf qual scope L' 283 cdv)) (envOf qual scope L' 283 cdv) E) { s with heap := hh, toks := tk }), wpAny (model prog w) (Around.deeper ⟨none, dp, some (env :: outer), gd, un⟩ (envOf qual scope L' 283 cdv)) (execs (body.drop 0) (envOf qual scope L' 283 cdv)) Qf (leaveE prog w (Around.deeper ⟨none, dp, some (env :: outer), gd, un⟩ (envOf qual scope L' 283 cdv)) (envOf qual scope L' 283 cdv) E) { s with heap := h', toks := tk0 } := ZceHead.all ⟨⟨prog, w, p, loose, mean, mg, mb, dp, gd, un, env, outer, base, s, Qf, E, g', L', h', tk0, u⟩, z, zd, x, sd, td, qn, i, Z, K, Kx, v, d, ud, ux, tx, qs, al, ct, fa, ex⟩
end
section
local macro_rules | `(tactic| omega) => `(tactic| lia)
theorem sub_tl {α : Type} {x : α} {b c : List α} (h : ∀ p ∈ b, p ∈ c) : ∀ p ∈ x :: b, p ∈ x :: c := fun p hp => by
  rcases List.mem_cons.mp hp with rfl | hp
  · exact .head _
  · exact .tail _ (h p hp)
theorem sub_swap {α : Type} {e t : List α} : ∀ p ∈ e ++ t, p ∈ t ++ e := fun p hp => (List.mem_append.mp hp).elim (fun h => List.mem_append_right _ h) (fun h => List.mem_append_left _ h)
section
variable {prog : Program} {w : World} {qs qi : Array Value} {lo : Nat} {ex tks : List (Addr × Obj)} {f : Option Str}
theorem tk_ne {a : Addr} {o : Obj} (h : TkIs prog w qs lo ex f tks qi) (ha : (a, o) ∈ ex) : ∀ p ∈ tks, p.1 ≠ a := by
  rcases h with ⟨_, rfl, _⟩ | ⟨g, D, o, _, rfl, _, _, _, hn⟩
  · exact fun _ hp => nomatch hp
  · intro p hp
    rw [List.mem_singleton.mp hp]
    exact fun e => hn _ ha e.symm
theorem tk_size (h : TkIs prog w qs lo ex f tks qi) (hq : qs.size < 1000) : qi.size < 2000 := by
  rcases h with ⟨_, _, rfl⟩ | ⟨g, D, o, _, _, rfl, _⟩
  · omega
  · rw [Array.size_push]; omega
theorem own_tks {as : List Nat} (h : TkIs prog w qs lo ex f tks qi) (ho : OwnOff ex as) (hl : ∀ a ∈ as, a ≤ lo) : OwnOff (tks ++ ex) as := by
  intro p hp
  rcases List.mem_append.mp hp with hp | hp
  · rcases h with ⟨_, rfl, _⟩ | ⟨g, D, o, _, rfl, _, _, hD, _⟩
    · cases hp
    · rw [List.mem_singleton.mp hp]
      exact fun b hb => Nat.ne_of_gt (Nat.lt_of_le_of_lt (hl b hb) hD)
  · exact ho p hp
end
theorem le_ex {z zd q x sd ds td mo : Nat} (p1 : zd < z) (p2 : z < sd) (o1 : sd < x) (o2 : x < mo) (o3 : mo < td) (o4 : td < ds) (p3 : ds < q) : ∀ a ∈ [z, zd, q, x, sd, ds, td, mo], a ≤ q := by
  have h5 := Nat.le_of_lt p3
  have h6 := Nat.le_trans (Nat.le_of_lt o4) h5
  have h7 := Nat.le_trans (Nat.le_of_lt o3) h6
  have h8 := Nat.le_trans (Nat.le_of_lt o2) h7
  have h9 := Nat.le_trans (Nat.le_of_lt o1) h8
  have h10 := Nat.le_trans (Nat.le_of_lt p2) h9
  exact all_cons h10 (all_cons (Nat.le_trans (Nat.le_of_lt p1) h10) (all_cons (Nat.le_refl _) (all_cons h8 (all_cons h9 (all_cons h5 (all_cons h6 (all_cons h7 (List.forall_mem_nil _))))))))
theorem ce_spec {prog : Program} {w : World} {p : Program} {loose : List Str} {mean : ExcName → Option Value} {mg mb : Str → Option Value}
    {A : Around} {env : Env} {outer : List Env} {A₀ : Around} {base h₀ : Heap} {L : Addr} {m : Str → Option Value} {s : Shared} {Q E : Value → Shared → Prop}
    {z zd : Nat} {Z : Kz} {qs : Array Value} {qn : Nat} {al : Value} {fa : Bool} {args : List Value} {ct : Value} {ex : List (Addr × Obj)} {e0 e1 e2 e3 ne nf : Nat} {tn uv : Tok} {oc : Obj} {nm vl : Str} {x sd td : Nat} {K : Ks} {v : Sv} {Kx : Kt} {tx : Str} {ux ud : Tok} {d : Int} {i : Nat}
    (B : Below A₀ base outer h₀) (F : Fr h₀ L s.heap m) (X : (Mine.a.heap_1_39 w.params).In h₀) (T : Top p loose mean mg mb h₀) (XB : (Mine.a.heap_1_39 w.params).In base) (TB : Top p loose mean mg mb base) (D : KtsDicts (outer.filterMap (·.frame)) h₀) (hA : A.frames = some (env :: outer)) (hh : A.handled = none) (hf : env.frame = some L) (hke : env.scope.kind = .function)
    (hd : A.depth + 12 < recursionLimit) (hu : A.units + 90 < cLine) (N : News h₀ L s.heap ((z, instObj 762 zd) :: (zd, zdict w Z x ct) :: (Z.q, listOf qs qn) :: (x, instObj 166 sd) :: (sd, sdict w K v) :: (K.ds, instObj 73 td) :: (td, tdict w Kx tx ux d ud) :: (K.mo, methodObj (.ref 148) (.ref x)) :: ex))
    (p1 : zd < z) (p2 : z < sd) (p3 : K.ds < Z.q) (hq : qs.size < 1000) (hal : AlOk al) (hct : handedIn ct = true) (hbi : ∀ oc od fd osl, (Mine.a.heap_1_39 w.params).lookup 283 = some ⟨oc, od, .func fd, osl⟩ → BindsTo s fd ⟨args, []⟩ [(Str.ofString "self", .ref z), (Str.ofString "allowedChar", al), (Str.ofString "fromAttribute", .bool fa)]) (hoff : OwnOff ex [z, zd, Z.q, x, sd, K.ds, td, K.mo]) (hexA : fa = true → ex = [(e1, oc), (e2, listOf #[.ref e0, .ref e3] ne), (e3, listOf #[.str nm tn, .str vl uv] nf)] ∧ ct = .ref e1 ∧ Z.q < e1 ∧ e1 < e3 ∧ e3 < e2 ∧ vl.length < 1000 ∧ Obj.IsDictOf (PySem.strKind prog w) oc [(Str.ofString "data", .ref e2)]) (hnum : (MM tx)[i]? = some 35 → NoNum tx i) (o1 : sd < x) (o2 : x < K.mo) (o3 : K.mo < td) (o4 : td < K.ds) (hx : tx.length < 1000) (hok : ∀ c ∈ tx.cps.toList, okc c) (hat : At tx v d i)
    (postT : ∀ h' tk T b f out tks qi D2 o2 n' v' d' ud', fa = false → CeIs (RR tx i) al fa T b f out → At tx v' d' (i + T) → TkIs prog w qs Z.q ex f tks qi → TokIs prog w o2 1 out → ((D2 == sysModules) = false ∧ Z.q < D2) → ∀ h₁, After A₀ base outer (Mine.a.heap_1_39 w.params) p loose mean mg mb h₀ h₁ L m ((((z, instObj 762 zd) :: (zd, zdict w Z x ct) :: (Z.q, listOf qs qn) :: (x, instObj 166 sd) :: (sd, sdict w K v) :: (K.ds, instObj 73 td) :: (td, tdict w Kx tx ux d ud) :: (K.mo, methodObj (.ref 148) (.ref x)) :: ex) : List (Addr × Obj)).map (·.1)) s.heap h' ((Z.q, listOf (qi.push (.ref D2)) n') :: (z, instObj 762 zd) :: (zd, zdict w Z x ct) :: (x, instObj 166 sd) :: (sd, sdict w K v') :: (K.ds, instObj 73 td) :: (td, tdict w Kx tx ux d' ud') :: (K.mo, methodObj (.ref 148) (.ref x)) :: (D2, o2) :: (tks ++ ex)) → Q .none { s with heap := h', toks := tk }) (postA : ∀ h' tk T b f out tks qi n' nf v' d' ud' uv, fa = true → CeIs (RR tx i) al fa T b f out → At tx v' d' (i + T) → TkIs prog w qs Z.q ex f tks qi → ∀ h₁, After A₀ base outer (Mine.a.heap_1_39 w.params) p loose mean mg mb h₀ h₁ L m ((((z, instObj 762 zd) :: (zd, zdict w Z x ct) :: (Z.q, listOf qs qn) :: (x, instObj 166 sd) :: (sd, sdict w K v) :: (K.ds, instObj 73 td) :: (td, tdict w Kx tx ux d ud) :: (K.mo, methodObj (.ref 148) (.ref x)) :: ex) : List (Addr × Obj)).map (·.1)) s.heap h' ((Z.q, listOf qi n') :: (z, instObj 762 zd) :: (zd, zdict w Z x ct) :: (x, instObj 166 sd) :: (sd, sdict w K v') :: (K.ds, instObj 73 td) :: (td, tdict w Kx tx ux d' ud') :: (K.mo, methodObj (.ref 148) (.ref x)) :: ((e1, oc) :: (e2, listOf #[.ref e0, .ref e3] ne) :: (e3, listOf #[.str nm tn, .str (vl ++ out) uv] nf) :: tks)) → Q .none { s with heap := h', toks := tk }) : wpAny (model prog w) A (call (.ref 283) args) Q E s := by
  obtain ⟨hn, dp, fr, gd, un⟩ := A
  obtain rfl : fr = some (env :: outer) := hA
  obtain rfl : hn = none := hh
  dsimp only at hd hu
  refine' callS_small (binds := [(Str.ofString "self", .ref z), (Str.ofString "allowedChar", al), (Str.ofString "fromAttribute", .bool fa)]) B F X N T XB TB D rfl hf hke ?k6 ?k7 ?k8 ?k9 ?kB ?_ ?c2 ?c3 ?c4 ?c5
  (case k6 => k_is)
  (case k7 => k_is)
  (case k8 => exact room0 hd)
  (case k9 => exact hbi _ _ _ _ (by k_is))
  (case kB => exact locs rfl)
  (case c2 => exact rfl)
  (case c3 => exact rfl)
  (case c4 => exact rfl)
  (case c5 => decide)
  intro g' L' h' KG' FG' F' N' B' X' T' D' l1
  refine' ceHead (Qf := backQ A₀ base outer (Mine.a.heap_1_39 w.params) p loose mean mg mb h₀ L m ((((z, instObj 762 zd) :: (zd, zdict w Z x ct) :: (Z.q, listOf qs qn) :: (x, instObj 166 sd) :: (sd, sdict w K v) :: (K.ds, instObj 73 td) :: (td, tdict w Kx tx ux d ud) :: (K.mo, methodObj (.ref 148) (.ref x)) :: ex) : List (Addr × Obj)).map (·.1)) s.heap ((env :: outer).filterMap (·.frame)) g' Q) (by k_is) hd hu XB TB p1 p2 o1 o2 o3 o4 p3 hq hal hct hoff hnum hx hok hat (fr_ps F' (by (repeat (first | exact List.forall_mem_nil _ | (refine' all_cons ?zA9 ?_; (case zA9 => with_unfolding_all rfl)))))) N' B' X' T' D' pos_len ?post
  (case post =>
    rintro ⟨out9, t9, f9, T9, b9, qi9, qn9, v9, d9, ud9, own9⟩ u2 h1 hh tk kT ⟨kB, kX, kZ, kD⟩ ⟨hce, hat, tks, htk, hown⟩ kF kN
    dsimp only [ledJ] at hce hat htk hown kN kF
    subst hown
    have hml9 := mm_len tx
    have hcl := ce_len hce (by simp only [RR, List.length_drop]; omega)
    cases fa
    · refine' tailT (by k_is) (room1 hd rfl) (room1 hu rfl) XB TB p1 p2 o1 o2 o3 o4 p3 (tk_size htk hq) hct hcl.1 (ce_sp hce) (own_tks htk hoff (le_ex p1 p2 o1 o2 o3 o4 p3)) kF kN kB kX kZ kD ?pT
      (case pT => exact fun h2 tk2 m2 D2 o2 n2 hto hne F2 N2 => backS2 F2 N2 kT fun g2 ha => postT _ _ _ _ _ _ _ _ _ _ _ _ _ _ rfl hce hat htk hto hne g2 ha)
    · obtain ⟨rfl, rfl, r1, r2, r3, r4, r5⟩ := hexA rfl
      refine' tailA (ct := .ref e1) (by k_is) (room1 hd rfl) (room1 hu rfl) XB TB p1 p2 o1 o2 o3 o4 p3 (tk_size htk hq) hct hcl.1 rfl r1 r2 r3 r4 r5 (tk_ne htk (.head _)) (tk_ne htk (.tail _ (.head _))) (tk_ne htk (.tail _ (.tail _ (.head _)))) kF (news_sub kN (sub_tl (sub_tl (sub_tl (sub_tl (sub_tl (sub_tl (sub_tl (sub_tl (sub_swap (e := [_, _, _]))))))))))) kB kX kZ kD ?pA
      (case pA => exact fun h2 tk2 m2 n2 uv2 F2 N2 => backS2 F2 N2 kT fun g2 ha => postA _ _ _ _ _ _ _ _ _ _ _ _ _ _ rfl hce hat htk g2 ha))
/-- how far the stream is, with its stage -/
noncomputable def AtG (tx : Str) (v : Sv) (d : Int) (i g : Nat) : Prop :=
  (g = 3 ∧ v.c = Str.ofString "" ∧ v.n = 0 ∧ v.k = 0 ∧ v.pl = 0 ∧ v.pc = 0 ∧ v.buf = .none ∧ d = 0 ∧ i = 0) ∨
  (g = 2 ∧ RC tx v.c v.buf ∧ v.n = v.c.length ∧ v.k = i ∧ i ≤ v.c.length ∧ v.pl = 0 ∧ v.pc = 0 ∧ d = tx.length ∧ 0 < tx.length) ∨
  (g = 1 ∧ ∃ c buf, RC tx c buf ∧ buf ≠ .none ∧ v.c = ⟨#[10]⟩ ∧ v.n = 1 ∧ (v.k = 0 ∨ v.k = 1) ∧ PL c.cps.toList v.pl v.pc ∧ v.buf = .none ∧ d = tx.length ∧ (i : Int) = c.length + v.k) ∨
  (g = 0 ∧ v.c = Str.ofString "" ∧ v.n = 0 ∧ v.k = 0 ∧ PL (MM tx) v.pl v.pc ∧ v.buf = .none ∧ d = tx.length ∧ i = (MM tx).length)
theorem at_g {tx : Str} {v : Sv} {d : Int} {i : Nat} (h : At tx v d i) : ∃ g, g ≤ 3 ∧ AtG tx v d i g := by
  rcases h with h | h | h | h
  · exact ⟨3, by omega, .inl ⟨rfl, h⟩⟩
  · exact ⟨2, by omega, .inr (.inl ⟨rfl, h⟩)⟩
  · exact ⟨1, by omega, .inr (.inr (.inl ⟨rfl, h⟩))⟩
  · exact ⟨0, by omega, .inr (.inr (.inr ⟨rfl, h⟩))⟩
theorem AtG.at {tx : Str} {v : Sv} {d : Int} {i g : Nat} (h : AtG tx v d i g) : At tx v d i := by
  rcases h with ⟨_, h⟩ | ⟨_, h⟩ | ⟨_, h⟩ | ⟨_, h⟩
  · exact .inl h
  · exact .inr (.inl h)
  · exact .inr (.inr (.inl h))
  · exact .inr (.inr (.inr h))
/-- the piece at hand -/
structure ChunkIs (tx : Str) (v : Sv) (i : Nat) : Prop where
  k0 : 0 ≤ v.k
  kn : v.k ≤ v.n
  nl : v.n = v.c.length
  sm : v.c.length < 1000
  codes : v.c.cps.toList.drop v.k.toNat = ((MM tx).drop i).take (v.n - v.k).toNat
  le : i + (v.n - v.k).toNat ≤ (MM tx).length
theorem chunk_is {tx : Str} {v : Sv} {d : Int} {i : Nat} (h : At tx v d i) (hx : tx.length < 1000) : ChunkIs tx v i := by
  have hle := h.le
  obtain ⟨c, n, k, pl, pc, buf, u1, u2, u3, u4, u5⟩ := v
  unfold At at h
  dsimp only at h
  rcases h with ⟨rfl, rfl, rfl, rfl, rfl, rfl, rfl, rfl⟩ | ⟨h, rfl, rfl, h2, rfl, rfl, rfl, h0⟩ | ⟨c1, buf1, h, hb, rfl, rfl, hk, hpl, rfl, rfl, hi1⟩ | ⟨rfl, rfl, rfl, hpl, rfl, rfl, rfl⟩
  · exact ⟨Int.le_refl _, Int.le_refl _, (show (0 : Int) = ((Str.ofString "").length : Int) from by decide +kernel), by show (Str.ofString "").length < _; decide +kernel, by show (Str.ofString "").cps.toList.drop 0 = List.take 0 _; rw [List.take_zero]; decide +kernel, by show 0 + 0 ≤ _; omega⟩
  · have hz := len_eq c
    have hs := rc_small h hx
    have e0 : ((c.length : Int) - (i : Int)).toNat = c.length - i := by omega
    refine ⟨by show (0 : Int) ≤ (i : Int); omega, by show (i : Int) ≤ (c.length : Int); omega, rfl, hs, ?_, ?_⟩
    · show c.cps.toList.drop ((i : Int)).toNat = List.take ((c.length : Int) - (i : Int)).toNat _
      rw [e0, show ((i : Int)).toNat = i by omega]
      rcases rc_cases h with ⟨_, e⟩ | ⟨_, e⟩
      · rw [e, List.take_of_length_le (by rw [List.length_drop]; omega)]
      · rw [e, List.drop_append_of_le_length (by omega), List.take_append_of_le_length (by rw [List.length_drop]; omega), List.take_of_length_le (by rw [List.length_drop]; omega)]
    · show i + ((c.length : Int) - (i : Int)).toNat ≤ _
      rcases rc_cases h with ⟨_, e⟩ | ⟨_, e⟩ <;> rw [e] <;> (try simp only [List.length_append, List.length_cons, List.length_nil]) <;> omega
  · have hz := len_eq c1
    have e := (rc_some h hb).1
    have hl : (MM tx).length = c1.length + 1 := by rw [e, List.length_append, hz]; rfl
    have hz13 : (⟨#[10]⟩ : Str).length = 1 := rfl
    rcases hk with rfl | rfl
    · have hi : i = c1.cps.toList.length := by omega
      refine ⟨Int.le_refl _, (show (0 : Int) ≤ 1 from by decide), rfl, (show 1 < 1000 from by decide), ?_, by show i + 1 ≤ _; omega⟩
      show [10] = ((MM tx).drop i).take 1
      rw [e, hi, List.drop_left]; rfl
    · refine ⟨(show (0 : Int) ≤ 1 from by decide), Int.le_refl _, rfl, (show 1 < 1000 from by decide), ?_, by show i + 0 ≤ _; omega⟩
      show [] = List.take 0 _
      rw [List.take_zero]
  · exact ⟨Int.le_refl _, Int.le_refl _, (show (0 : Int) = ((Str.ofString "").length : Int) from by decide +kernel), by show (Str.ofString "").length < _; decide +kernel, by show (Str.ofString "").cps.toList.drop 0 = List.take 0 _; rw [List.take_zero]; decide +kernel, by show _ + 0 ≤ _; omega⟩

/-- what readChunk gives wherever the stream is -/
noncomputable def RcIs (tx : Str) (v : Sv) (i g : Nat) (b : Bool) (v' : Sv) (d' : Int) : Prop := (b = true ∧ ∃ g', g' < g ∧ AtG tx v' d' (i + (v.n - v.k).toNat) g') ∨ (b = false ∧ i + (v.n - v.k).toNat = (MM tx).length ∧ At tx v' d' (MM tx).length)
theorem rc_any {prog : Program} {w : World} {p : Program} {loose : List Str} {mean : ExcName → Option Value} {mg mb : Str → Option Value}
    {A : Around} {env : Env} {outer : List Env} {A₀ : Around} {base h₀ : Heap} {L : Addr} {m : Str → Option Value} {s : Shared} {Q E : Value → Shared → Prop}
    {x sd td : Nat} {K : Ks} {v : Sv} {Kx : Kt} {tx : Str} {ux ud : Tok} {d : Int} {i : Nat} {g : Nat}
    (B : Below A₀ base outer h₀) (F : Fr h₀ L s.heap m) (X : (Mine.a.heap_1_39 w.params).In h₀) (T : Top p loose mean mg mb h₀) (hA : A.frames = some (env :: outer)) (hh : A.handled = none) (hf : env.frame = some L) (hke : env.scope.kind = .function)
    (hd : A.depth + 5 < recursionLimit) (hu : A.units + 40 < cLine) (N : News h₀ L s.heap [(x, instObj 166 sd), (sd, sdict w K v), (K.ds, instObj 73 td), (td, tdict w Kx tx ux d ud), (K.mo, methodObj (.ref 148) (.ref x))])
    (o1 : sd < x) (o2 : x < K.mo) (o3 : K.mo < td) (o4 : td < K.ds) (hx : tx.length < 1000) (hok : ∀ c ∈ tx.cps.toList, okc c) (hat : AtG tx v d i g)
    (post : ∀ h' tk g' v' d' ud', g' < g → AtG tx v' d' (i + (v.n - v.k).toNat) g' → Fr h₀ L h' m → News h₀ L h' [(x, instObj 166 sd), (sd, sdict w K v'), (K.ds, instObj 73 td), (td, tdict w Kx tx ux d' ud'), (K.mo, methodObj (.ref 148) (.ref x))] → Keeps [x, sd, K.ds, td, K.mo] s.heap h' → Q (.bool true) { s with heap := h', toks := tk }) (postN : ∀ h' tk v' d' ud', i + (v.n - v.k).toNat = (MM tx).length → At tx v' d' (MM tx).length → Fr h₀ L h' m → News h₀ L h' [(x, instObj 166 sd), (sd, sdict w K v'), (K.ds, instObj 73 td), (td, tdict w Kx tx ux d' ud'), (K.mo, methodObj (.ref 148) (.ref x))] → Keeps [x, sd, K.ds, td, K.mo] s.heap h' → Q (.bool false) { s with heap := h', toks := tk }) : wpAny (model prog w) A (call (.ref 141) [.ref x]) Q E s := by
  obtain ⟨c, n, k, pl, pc, buf, u1, u2, u3, u4, u5⟩ := v
  have hml := mm_len tx
  unfold AtG at hat
  dsimp only at hat post postN
  rcases hat with ⟨rfl, rfl, rfl, rfl, rfl, rfl, rfl, rfl, rfl⟩ | ⟨rfl, h, rfl, rfl, h2, rfl, rfl, rfl, h0⟩ | ⟨rfl, c1, buf1, h, hb, rfl, rfl, hk, hpl, rfl, rfl, hi1⟩ | ⟨rfl, rfl, rfl, rfl, hpl, rfl, rfl, h9⟩
  · by_cases h0 : 0 < tx.length
    · refine rc_new B F X T hA hh hf hke (by omega) (by omega) N o1 o2 o3 o4 hx h0 hok fun h' tk c' buf' v1 v2 v3 v4 v5 ud' hr F' N' K' => ?_
      exact post h' tk 2 _ _ ud' (by omega) (.inr (.inl ⟨rfl, hr, rfl, rfl, Nat.zero_le _, pl0, pc0, rfl, h0⟩)) F' N' K'
    · have hz : (tx.length : Int) = 0 := by omega
      have h9 : (MM tx).length = 0 := by omega
      rw [show tdict w Kx tx ux 0 ud = tdict w Kx tx ux (tx.length : Int) ud from by rw [hz]] at N
      refine rc_end B F X T hA hh hf hke (by omega) (by omega) N o1 o2 o3 o4 hx fun h' tk c' v1 v2 v3 v4 v5 ud' hc' F' N' K' => ?_
      subst hc'
      exact postN h' tk _ _ ud' h9.symm (.inr (.inr (.inr ⟨rfl, rfl, rfl, fun _ => ⟨pl0, by rw [h9]; exact pc0⟩, rfl, rfl, rfl⟩))) F' N' K'
  · have hz := len_eq c
    have e0 : i + ((c.length : Int) - (i : Int)).toNat = c.length := by omega
    rw [e0] at post postN
    rcases rc_cases h with ⟨hb, e⟩ | ⟨hb, e⟩
    · subst hb
      have he : (MM tx).length = c.length := by rw [e]; exact hz
      refine rc_end B F X T hA hh hf hke (by omega) (by omega) N o1 o2 o3 o4 hx fun h' tk c' v1 v2 v3 v4 v5 ud' hc' F' N' K' => ?_
      subst hc'
      exact postN h' tk _ _ ud' he.symm (.inr (.inr (.inr ⟨rfl, rfl, rfl, by rw [e]; exact pl_next, rfl, rfl, rfl⟩))) F' N' K'
    · obtain ⟨_, ub, hbu⟩ := rc_some h hb
      subst hbu
      refine rc_buf B F X T hA hh hf hke (by omega) (by omega) N o1 o2 o3 o4 hx fun h' tk c' n' v1 v2 v3 v4 v5 ud' hc' hn' F' N' K' => ?_
      subst hc'; subst hn'
      exact post h' tk 1 _ _ ud' (by omega) (.inr (.inr (.inl ⟨rfl, c, _, h, hb, rfl, rfl, .inl rfl, pl_next, rfl, rfl, by (try dsimp only); omega⟩))) F' N' K'
  · have hz := len_eq c1
    have e := (rc_some h hb).1
    have hle : (MM tx).length = c1.length + 1 := by rw [e, List.length_append, hz]; rfl
    refine rc_end B F X T hA hh hf hke (by omega) (by omega) N o1 o2 o3 o4 hx fun h' tk c' v1 v2 v3 v4 v5 ud' hc' F' N' K' => ?_
    subst hc'
    exact postN h' tk _ _ ud' (by omega) (.inr (.inr (.inr ⟨rfl, rfl, rfl, pl_fin2 e, rfl, rfl, rfl⟩))) F' N' K'
  · refine rc_end B F X T hA hh hf hke (by omega) (by omega) N o1 o2 o3 o4 hx fun h' tk c' v1 v2 v3 v4 v5 ud' hc' F' N' K' => ?_
    subst hc'
    exact postN h' tk _ _ ud' (by rw [h9]; rfl) (.inr (.inr (.inr ⟨rfl, rfl, rfl, pl_same hpl, rfl, rfl, rfl⟩))) F' N' K'

/-- does a sign belong to the run? -/
noncomputable def runP (cs : List Nat) (op : Bool) (c : Nat) : Bool := cs.contains c == op
noncomputable def chAt (c : Str) (e : Int) : Nat := c.cps.toList.getD e.toNat 0
theorem item_chAt {c : Str} {e : Int} (h0 : 0 ≤ e) (h1 : e < c.length) : Txt.item c e = ⟨#[chAt c e]⟩ := by
  have hz := len_eq c
  have h : c.cps.toList[e.toNat]? = some (chAt c e) := by
    unfold chAt
    rw [List.getD_eq_getElem?_getD, List.getElem?_eq_getElem (by omega)]; rfl
  have := item_at (x := c) (i := e.toNat) h
  rwa [show ((e.toNat : Nat) : Int) = e by omega] at this
/-- how far the inner reader is -/
structure RunAt (cs : List Nat) (op : Bool) (c : Str) (k e : Int) : Prop where
  ke : k ≤ e
  en : e ≤ c.length
  all : ∀ j : Int, k ≤ j → j < e → runP cs op (chAt c j) = true
theorem run_start {cs : List Nat} {op : Bool} {c : Str} {k : Int} (h : k ≤ c.length) : RunAt cs op c k k := ⟨Int.le_refl _, h, fun j h1 h2 => by omega⟩
theorem run_more {cs : List Nat} {op : Bool} {c : Str} {k e : Int} (h : RunAt cs op c k e) (h1 : e ≠ c.length) (h2 : runP cs op (chAt c e) = true) : RunAt cs op c k (e + 1) := by
  obtain ⟨a, b, d⟩ := h
  refine ⟨by omega, by omega, fun j h3 h4 => ?_⟩
  by_cases q : j = e
  · exact q ▸ h2
  · exact d j h3 (by omega)
/-- the signs taken so far, in a list of texts -/
structure TakeAt (tx : Str) (i : Nat) (cs : List Nat) (op : Bool) (acc : List Str) (j : Nat) : Prop where
  ij : i ≤ j
  jl : j ≤ (MM tx).length
  codes : (acc.map fun x => x.cps.toList).flatten = ((MM tx).drop i).take (j - i)
  all : ∀ c ∈ ((MM tx).drop i).take (j - i), runP cs op c = true
  few : acc.length ≤ 10
theorem take_start {tx : Str} {i : Nat} {cs : List Nat} {op : Bool} (h : i ≤ (MM tx).length) : TakeAt tx i cs op [] i := ⟨Nat.le_refl _, h, by rw [Nat.sub_self, List.take_zero]; rfl, fun c hc => (by rw [Nat.sub_self, List.take_zero] at hc; cases hc), Nat.zero_le _⟩
theorem take_split {l : List Nat} {i j n : Nat} (h : i ≤ j) : (l.drop i).take (j + n - i) = (l.drop i).take (j - i) ++ (l.drop j).take n := by
  rw [show j + n - i = (j - i) + n by omega, List.take_add, List.drop_drop, show i + (j - i) = j by omega]
theorem chunk_at {tx : Str} {v : Sv} {j : Nat} (hc : ChunkIs tx v j) {e : Int} (h1 : v.k ≤ e) (h2 : e < v.n) : (MM tx)[j + (e - v.k).toNat]? = some (chAt v.c e) := by
  obtain ⟨a, b, hn, d, f, g⟩ := hc
  have hz := len_eq v.c
  have q := congrArg (fun l => l[(e - v.k).toNat]?) f
  simp only [List.getElem?_drop, List.getElem?_take] at q
  rw [if_pos (by omega)] at q
  rw [← q, show v.k.toNat + (e - v.k).toNat = e.toNat by omega]
  unfold chAt
  rw [List.getD_eq_getElem?_getD, List.getElem?_eq_getElem (by omega)]; rfl
theorem min_sub {k e n : Int} (h0 : 0 ≤ k) (h1 : k ≤ e) (h2 : e ≤ n) : min (e.toNat - k.toNat) (n - k).toNat = (e - k).toNat := by
  obtain ⟨a, rfl⟩ := Int.eq_ofNat_of_zero_le h0
  obtain ⟨b, rfl⟩ := Int.eq_ofNat_of_zero_le (Int.le_trans h0 h1)
  obtain ⟨c, rfl⟩ := Int.eq_ofNat_of_zero_le (Int.le_trans (Int.le_trans h0 h1) h2)
  rw [Int.toNat_sub, Int.toNat_sub]
  exact Nat.min_eq_left (Nat.sub_le_sub_right (Int.ofNat_le.mp h2) a)
theorem chunk_part {tx : Str} {v : Sv} {j : Nat} (hc : ChunkIs tx v j) {e : Int} (h1 : v.k ≤ e) (h2 : e ≤ v.n) : (Txt.slice v.c (some v.k) (some e)).cps.toList = ((MM tx).drop j).take (e - v.k).toNat := by
  obtain ⟨a, b, hn, d, f, g⟩ := hc
  have q := slice_nat v.c v.k.toNat e.toNat
  rw [Int.toNat_of_nonneg a, Int.toNat_of_nonneg (Int.le_trans a h1)] at q
  rw [q]
  show (v.c.cps.toList.drop v.k.toNat).take (e.toNat - v.k.toNat) = _
  rw [f, List.take_take, min_sub a h1 h2]
theorem slice_from {x : Str} {a : Int} (h0 : 0 ≤ a) (h1 : a ≤ x.length) : Txt.slice x (some a) none = ⟨(x.cps.toList.drop a.toNat).toArray⟩ := by
  have q := slice_nat x a.toNat x.length
  have hz := len_eq x
  rw [List.take_of_length_le (by rw [List.length_drop]; omega)] at q
  rw [← q, show ((a.toNat : Nat) : Int) = a by omega]
  have e : PySem.Builtin.Str.strSliceIndices (some a) none 1 x.length = PySem.Builtin.Str.strSliceIndices (some a) (some (x.length : Int)) 1 x.length := by
    have h2 : ¬ ((x.length : Int) < 0) := by omega
    simp [PySem.Builtin.Str.strSliceIndices, h2]
  unfold Txt.slice
  rw [e]
theorem chunk_rest {tx : Str} {v : Sv} {j : Nat} (hc : ChunkIs tx v j) : (Txt.slice v.c (some v.k) none).cps.toList = ((MM tx).drop j).take (v.n - v.k).toNat := by
  obtain ⟨a, b, hn, d, f, g⟩ := hc
  rw [slice_from a (by omega)]
  exact f
theorem run_all {tx : Str} {v : Sv} {j : Nat} {cs : List Nat} {op : Bool} {e : Int} (hc : ChunkIs tx v j) (hr : RunAt cs op v.c v.k e) : ∀ c ∈ ((MM tx).drop j).take (e - v.k).toNat, runP cs op c = true := by
  intro c hm
  obtain ⟨n, hn⟩ := List.getElem?_of_mem hm
  rw [List.getElem?_take] at hn
  split at hn
  · rename_i h
    rw [List.getElem?_drop] at hn
    have h1 := hr.en
    have h2 := hc.nl
    have h3 := hc.k0
    have q := chunk_at hc (e := v.k + n) (by omega) (by omega)
    rw [show (v.k + (n : Int) - v.k).toNat = n by omega, hn] at q
    rw [Option.some.inj q]
    exact hr.all _ (by omega) (by omega)
  · cases hn
theorem take_more {tx : Str} {i j n : Nat} {cs : List Nat} {op : Bool} {acc : List Str} {x : Str} (h : TakeAt tx i cs op acc j) (hl : acc.length ≤ 9) (hx : x.cps.toList = ((MM tx).drop j).take n) (hn : j + n ≤ (MM tx).length) (ha : ∀ c ∈ ((MM tx).drop j).take n, runP cs op c = true) : TakeAt tx i cs op (acc ++ [x]) (j + n) := by
  obtain ⟨a, b, c, d, f⟩ := h
  refine ⟨by omega, hn, ?_, ?_, by rw [List.length_append]; simp only [List.length_cons, List.length_nil]; omega⟩
  · rw [take_split a, ← c, ← hx]; simp
  · rw [take_split a]
    intro e he
    rcases List.mem_append.mp he with he | he
    · exact d e he
    · exact ha e he
/-- the run, whole: what was taken is the longest run -/
structure RunIs (tx : Str) (i : Nat) (cs : List Nat) (op : Bool) (acc : List Str) (j : Nat) : Prop where
  tk : TakeAt tx i cs op acc j
  stop : j = (MM tx).length ∨ ∃ c, (MM tx)[j]? = some c ∧ runP cs op c = false
noncomputable def runL (tx : Str) (i : Nat) (cs : List Nat) (op : Bool) : List Nat := ((MM tx).drop i).takeWhile (runP cs op)
theorem takeWhile_is {α : Type} {p : α → Bool} : ∀ {l : List α} {n : Nat}, (∀ c ∈ l.take n, p c = true) → (l.length ≤ n ∨ ∃ c, l[n]? = some c ∧ p c = false) → l.takeWhile p = l.take n
  | [], n, _, _ => by rw [List.take_nil]; rfl
  | a :: l, 0, _, h => by
    rcases h with h | ⟨c, h1, h2⟩
    · simp at h
    · simp at h1; subst h1; rw [List.takeWhile_cons_of_neg (by rw [h2]; exact Bool.false_ne_true), List.take_zero]
  | a :: l, n + 1, h, h2 => by
    rw [List.take_succ_cons, List.takeWhile_cons_of_pos (h a (by rw [List.take_succ_cons]; exact .head _)), takeWhile_is (fun c hc => h c (by rw [List.take_succ_cons]; exact .tail _ hc))]
    rcases h2 with h2 | ⟨c, h2, h3⟩
    · exact .inl (by simpa using h2)
    · exact .inr ⟨c, by simpa using h2, h3⟩
theorem run_is {tx : Str} {i j : Nat} {cs : List Nat} {op : Bool} {acc : List Str} (h : RunIs tx i cs op acc j) : (acc.map fun x => x.cps.toList).flatten = runL tx i cs op ∧ j = i + (runL tx i cs op).length := by
  obtain ⟨⟨a, b, c, d, _⟩, s⟩ := h
  have e : runL tx i cs op = ((MM tx).drop i).take (j - i) := by
    refine takeWhile_is d ?_
    rcases s with s | ⟨x, s, s2⟩
    · exact .inl (by rw [List.length_drop]; omega)
    · exact .inr ⟨x, by rw [List.getElem?_drop, show i + (j - i) = j by omega]; exact s, s2⟩
  exact ⟨by rw [c, e], by rw [e, List.length_take, List.length_drop]; omega⟩
theorem stop_sign {tx : Str} {v : Sv} {j : Nat} {cs : List Nat} {op : Bool} {e : Int} (hc : ChunkIs tx v j) (h1 : v.k ≤ e) (h2 : e ≤ v.n) (h3 : e ≠ v.n) (h4 : runP cs op (chAt v.c e) = false) : ∃ c, (MM tx)[j + (e - v.k).toNat]? = some c ∧ runP cs op c = false := ⟨_, chunk_at hc h1 (by omega), h4⟩
theorem join_flat : ∀ l : List Str, (Str.join (⟨#[]⟩ : Str) l).cps.toList = (l.map fun x => x.cps.toList).flatten
  | [] => by decide +kernel
  | [x] => by
    show x.cps.toList = _
    simp
  | x :: y :: r => by
    have ih := join_flat (y :: r)
    show (x ++ (⟨#[]⟩ : Str) ++ Str.join (⟨#[]⟩ : Str) (y :: r)).cps.toList = _
    rw [Str.cps_append, Str.cps_append, Array.toList_append, Array.toList_append, ih]
    simp
theorem join_is (l : List Str) : Txt.join (Str.ofString "") l = ⟨((l.map fun x => x.cps.toList).flatten).toArray⟩ := by
  refine str_eq ?_
  show (Builtin.Str.glued (Str.ofString "") l).cps.toList = _
  rw [StrLaws.glued_eq_join, show (Str.ofString "") = (⟨#[]⟩ : Str) by decide +kernel, join_flat]
theorem strs_snoc {x : Str} {t : Tok} : ∀ {vs xs}, StrsAre vs xs → StrsAre (vs ++ [.str x t]) (xs ++ [x])
  | _, _, .nil => .cons x t .nil
  | _, _, .cons y u r => .cons y u (strs_snoc r)
section
variable {prog : Program} {w : World} {A : Around} {E : Value → Shared → Prop} {s : Shared} {t : Tok} {Q : Value → Shared → Prop} {D : Addr} {ys : List Value} {xs : List Str}
theorem flat_len : ∀ xs : List Str, ((xs.map fun x => x.cps.toList).flatten).length = (xs.map (·.length)).sum
  | [] => rfl
  | x :: r => by
    have ih := flat_len r
    simp only [List.map_cons, List.flatten_cons, List.length_append, List.sum_cons, ih]
    rw [len_eq]
theorem join_texts (hl : s.heap.IsList D ys.toArray) (hs : StrsAre ys xs) (hn : ((xs.map fun x => x.cps.toList).flatten).length ≤ 10000) (h : ∀ t' k, Q (.str ⟨((xs.map fun x => x.cps.toList).flatten).toArray⟩ t') { s with toks := k }) :
    wpAny (model prog w) A (call (.builtin "str.join") [.str (Str.ofString "") t, .ref D]) Q E s := by
  refine join_list (ys := xs) hl (by simpa using hs) ?_ fun t' k => ?_
  · rw [show (Str.ofString "").length = 0 by decide +kernel, ← flat_len]
    omega
  · rw [join_is xs]
    exact h t' k
end
theorem rc_is {prog : Program} {w : World} {p : Program} {loose : List Str} {mean : ExcName → Option Value} {mg mb : Str → Option Value}
    {A : Around} {env : Env} {outer : List Env} {A₀ : Around} {base h₀ : Heap} {L : Addr} {m : Str → Option Value} {s : Shared} {Q E : Value → Shared → Prop}
    {x sd td : Nat} {K : Ks} {v : Sv} {Kx : Kt} {tx : Str} {ux ud : Tok} {d : Int} {i : Nat} {g : Nat}
    (B : Below A₀ base outer h₀) (F : Fr h₀ L s.heap m) (X : (Mine.a.heap_1_39 w.params).In h₀) (T : Top p loose mean mg mb h₀) (hA : A.frames = some (env :: outer)) (hh : A.handled = none) (hf : env.frame = some L) (hke : env.scope.kind = .function)
    (hd : A.depth + 5 < recursionLimit) (hu : A.units + 40 < cLine) (N : News h₀ L s.heap [(x, instObj 166 sd), (sd, sdict w K v), (K.ds, instObj 73 td), (td, tdict w Kx tx ux d ud), (K.mo, methodObj (.ref 148) (.ref x))])
    (o1 : sd < x) (o2 : x < K.mo) (o3 : K.mo < td) (o4 : td < K.ds) (hx : tx.length < 1000) (hok : ∀ c ∈ tx.cps.toList, okc c) (hat : AtG tx v d i g)
    (post : ∀ h' tk b v' d' ud', RcIs tx v i g b v' d' → Fr h₀ L h' m → News h₀ L h' [(x, instObj 166 sd), (sd, sdict w K v'), (K.ds, instObj 73 td), (td, tdict w Kx tx ux d' ud'), (K.mo, methodObj (.ref 148) (.ref x))] → Keeps [x, sd, K.ds, td, K.mo] s.heap h' → Q (.bool b) { s with heap := h', toks := tk }) : wpAny (model prog w) A (call (.ref 141) [.ref x]) Q E s := by
  exact rc_any B F X T hA hh hf hke (by omega) (by omega) N o1 o2 o3 o4 hx hok hat (fun h' tk g' v' d' ud' a b F' N' K' => post h' tk true v' d' ud' (.inl ⟨rfl, g', a, b⟩) F' N' K') fun h' tk v' d' ud' a b F' N' K' => post h' tk false v' d' ud' (.inr ⟨rfl, a, b⟩) F' N' K'
theorem TupOf.keeps {h h' : Heap} {a : Addr} {cs : List Nat} (ht : TupOf h a cs) (k : h.StaysIn h') : TupOf h' a cs := by
  obtain ⟨l, h1, h2⟩ := ht
  exact ⟨l, IsTup.keeps h1 k, h2⟩
theorem TupOf.next {h h' : Heap} {a : Addr} {cs : List Nat} {as : List Addr} (ht : TupOf h a cs) (k : Keeps as h h') (n : a ∉ as) : TupOf h' a cs := by
  obtain ⟨l, ⟨o, h1, h2⟩, h3⟩ := ht
  exact ⟨l, ⟨o, k _ _ n h1, h2⟩, h3⟩
theorem at_moved {tx : Str} {c : Str} {n k pl pc : Int} {buf : Value} {u1 u2 u3 u4 u5 u6 : Tok} {d : Int} {j : Nat} {e : Int} (h : At tx ⟨c, n, k, pl, pc, buf, u1, u2, u3, u4, u5⟩ d j) (h1 : k ≤ e) (h2 : e ≤ n) : At tx ⟨c, n, e, pl, pc, buf, u1, u2, u6, u4, u5⟩ d (j + (e - k).toNat) := by
  unfold At at h ⊢
  dsimp only at h ⊢
  rcases h with ⟨rfl, rfl, rfl, rfl, rfl, rfl, rfl, rfl⟩ | ⟨h, rfl, rfl, h3, rfl, rfl, rfl, h0⟩ | ⟨c1, buf1, h, hb, rfl, rfl, hk, hpl, rfl, rfl, hi1⟩ | ⟨rfl, rfl, rfl, hpl, rfl, rfl, rfl⟩
  · exact .inl ⟨rfl, rfl, by omega, rfl, rfl, rfl, rfl, by omega⟩
  · exact .inr (.inl ⟨h, rfl, by omega, by omega, rfl, rfl, rfl, h0⟩)
  · exact .inr (.inr (.inl ⟨c1, buf1, h, hb, rfl, rfl, by omega, hpl, rfl, rfl, by omega⟩))
  · exact .inr (.inr (.inr ⟨rfl, rfl, by omega, hpl, rfl, rfl, by omega⟩))
theorem at_moved2 {tx : Str} {v : Sv} {d : Int} {j : Nat} {e : Int} {u : Tok} (h : At tx v d j) (h1 : v.k ≤ e) (h2 : e ≤ v.n) : At tx ⟨v.c, v.n, e, v.pl, v.pc, v.buf, v.u1, v.u2, u, v.u4, v.u5⟩ d (j + (e - v.k).toNat) := by
  obtain ⟨c, n, k, pl, pc, buf, u1, u2, u3, u4, u5⟩ := v
  exact at_moved h h1 h2
section
variable {prog : Program} {w : World} {A : Around} {E : Value → Shared → Prop} {s : Shared} {a : Addr} {cs : List Nat} {u : Tok} {Q : Value → Shared → Prop}
theorem in_item {c : Str} {e : Int} (ht : TupOf s.heap a cs) (h0 : 0 ≤ e) (h1 : e < c.length) (h : Q (.bool (cs.contains (chAt c e))) s) : wpAny (model prog w) A (compareOp .In (.str (Txt.item c e) u) (.ref a)) Q E s := by
  rw [item_chAt h0 h1]
  exact in_codes ht h
end
structure Cu where
  (its : Array Value) (vs : List Value) (n : Nat) (acc : List Str) (v : Sv) (d : Int) (ud : Tok) (j g : Nat)
noncomputable abbrev ledU (w : World) (a x sd td : Nat) (K : Ks) (Kx : Kt) (tx : Str) (ux : Tok) (c : Cu) : List (Addr × Obj) := [(x, instObj 166 sd), (sd, sdict w K c.v), (K.ds, instObj 73 td), (td, tdict w Kx tx ux c.d c.ud), (K.mo, methodObj (.ref 148) (.ref x)), (a, listOf c.its c.n)]
noncomputable def invU (tx : Str) (i : Nat) (cs : List Nat) (op : Bool) (c : Cu) : Prop := c.its = c.vs.toArray ∧ StrsAre c.vs c.acc ∧ TakeAt tx i cs op c.acc c.j ∧ AtG tx c.v c.d c.j c.g ∧ c.acc.length + c.g ≤ 3
noncomputable def exU (tx : Str) (i : Nat) (cs : List Nat) (op : Bool) (c : Cu) : Prop := c.its = c.vs.toArray ∧ StrsAre c.vs c.acc ∧ RunIs tx i cs op c.acc c.j ∧ At tx c.v c.d c.j
theorem push_is {vs : List Value} {y : Value} : (vs.toArray.push y) = (vs ++ [y]).toArray := by simp
theorem strs_len {vs : List Value} {xs : List Str} (h : StrsAre vs xs) : vs.length = xs.length := by
  induction h with
  | nil => rfl
  | cons _ _ _ ih => rw [List.length_cons, List.length_cons, ih]
theorem flat_small {tx : Str} {i j : Nat} {cs : List Nat} {op : Bool} {acc : List Str} (h : RunIs tx i cs op acc j) (hx : tx.length < 1000) : ((acc.map fun x => x.cps.toList).flatten).length ≤ 10000 := by
  have := mm_len tx
  rw [h.tk.codes, List.length_take, List.length_drop]
  omega
section
variable {its' : Array Value} {tx : Str} {i j g g' n n' : Nat} {cs : List Nat} {op : Bool} {acc : List Str} {vs : List Value} {v v' : Sv} {d d' : Int} {ud ud' t : Tok} {e : Int}
theorem u_start (h : At tx v d i) : ∃ g, invU tx i cs op ⟨#[], [], n, [], v, d, ud, i, g⟩ := by
  obtain ⟨g, h1, h2⟩ := at_g h
  exact ⟨g, rfl, .nil, take_start h.le, h2, by simpa using h1⟩
theorem u_more (h : invU tx i cs op ⟨vs.toArray, vs, n, acc, v, d, ud, j, g⟩) (hc : ChunkIs tx v j) (hr : RunAt cs op v.c v.k e) (he : e = v.n) (hg : g' < g) (hat : AtG tx v' d' (j + (v.n - v.k).toNat) g') (hi : its' = (vs ++ [Value.str (Txt.slice v.c (some v.k) none) t]).toArray) :
    invU tx i cs op ⟨its', vs ++ [Value.str (Txt.slice v.c (some v.k) none) t], n', acc ++ [Txt.slice v.c (some v.k) none], v', d', ud', j + (v.n - v.k).toNat, g'⟩ := by
  obtain ⟨_, h1, h2, h3, h4⟩ := h
  dsimp only at h1 h2 h3 h4
  have := run_all hc hr
  rw [he] at this
  exact ⟨hi, strs_snoc h1, take_more h2 (by omega) (chunk_rest hc) hc.le this, hat, by simp only [List.length_append, List.length_cons, List.length_nil]; omega⟩
theorem u_end (h : invU tx i cs op ⟨vs.toArray, vs, n, acc, v, d, ud, j, g⟩) (hc : ChunkIs tx v j) (hr : RunAt cs op v.c v.k e) (he : e = v.n) (hl : j + (v.n - v.k).toNat = (MM tx).length) (hat : At tx v' d' (MM tx).length) (hi : its' = (vs ++ [Value.str (Txt.slice v.c (some v.k) none) t]).toArray) :
    exU tx i cs op ⟨its', vs ++ [Value.str (Txt.slice v.c (some v.k) none) t], n', acc ++ [Txt.slice v.c (some v.k) none], v', d', ud', (MM tx).length, g'⟩ := by
  obtain ⟨_, h1, h2, h3, h4⟩ := h
  dsimp only at h1 h2 h3 h4
  have hra := run_all hc hr
  rw [he] at hra
  have := take_more h2 (by omega) (chunk_rest hc) hc.le hra
  rw [hl] at this
  exact ⟨hi, strs_snoc h1, ⟨this, .inl rfl⟩, hat⟩
theorem u_stop (h : invU tx i cs op ⟨vs.toArray, vs, n, acc, v, d, ud, j, g⟩) (hc : ChunkIs tx v j) (he : e = v.k) (hn : e ≠ v.n) (hs : e = v.n ∨ runP cs op (chAt v.c e) = false) : exU tx i cs op ⟨vs.toArray, vs, n, acc, v, d, ud, j, g⟩ := by
  obtain ⟨_, h1, h2, h3, h4⟩ := h
  dsimp only at h1 h2 h3 h4
  have hkn := hc.kn
  obtain ⟨c, q1, q2⟩ := stop_sign hc (Int.le_of_eq he.symm) (by omega) hn (hs.resolve_left hn)
  rw [show j + (e - v.k).toNat = j by omega] at q1
  exact ⟨rfl, h1, ⟨h2, .inr ⟨c, q1, q2⟩⟩, h3.at⟩
theorem u_cut (h : invU tx i cs op ⟨vs.toArray, vs, n, acc, v, d, ud, j, g⟩) (hc : ChunkIs tx v j) (hr : RunAt cs op v.c v.k e) (hn : e ≠ v.n) (hs : e = v.n ∨ runP cs op (chAt v.c e) = false) (hi : its' = (vs ++ [Value.str (Txt.slice v.c (some v.k) (some e)) t]).toArray) :
    exU tx i cs op ⟨its', vs ++ [Value.str (Txt.slice v.c (some v.k) (some e)) t], n', acc ++ [Txt.slice v.c (some v.k) (some e)], ⟨v.c, v.n, e, v.pl, v.pc, v.buf, v.u1, v.u2, ud', v.u4, v.u5⟩, d, ud, j + (e - v.k).toNat, g'⟩ := by
  obtain ⟨_, h1, h2, h3, h4⟩ := h
  dsimp only at h1 h2 h3 h4
  have h5 := hr.ke
  have h6 := hr.en
  have h7 := hc.nl
  have h8 := hc.le
  exact ⟨hi, strs_snoc h1, ⟨take_more h2 (by omega) (chunk_part hc h5 (by omega)) (by omega) (run_all hc hr), .inr (stop_sign hc h5 (by omega) hn (hs.resolve_left hn))⟩, at_moved2 h3.at h5 (by omega)⟩
end
end
section
local macro_rules | `(tactic| omega) => `(tactic| lia)
local macro_rules | `(tactic| omega) => `(tactic| k_extra "om")
theorem lines_C2_1 : True := by
  (k_with "call ref" => safely ((k_here; (with_reducible show wpAny _ _ (call (Value.ref 141) _ _) _ _ _); (refine with_toks ?_); k_dflt (refine' rc_is  ?quBQ ?quFQ ?quXQ ?quTQ ?quAQ ?quhQ ?qufQ ?qukQ ?qudQ ?quuQ ?quNQ ?qo1Q ?qo2Q ?qo3Q ?qo4Q ?qo5Q ?qo6Q ?qo7Q ?_; (case quAQ => exact rfl); (case quhQ => exact rfl); (case qufQ => exact rfl); (case qukQ => exact rfl); (case quBQ => k_asm); (case quFQ => k_asm); (case quXQ => k_asm); (case quTQ => k_asm); (case quNQ => exact news_sub (by k_asm) (by (repeat (first | exact List.forall_mem_nil _ | (refine' sub_cons ?qzA9Q ?_; (case qzA9Q => k_mem)))))); (case qudQ => k_room); (case quuQ => k_units); (case qo1Q => omega); (case qo2Q => omega); (case qo3Q => omega); (case qo4Q => omega); (case qo5Q => assumption); (case qo6Q => assumption); (case qo7Q => with_reducible assumption); k_whole; intro h9Qq tk9Qq b9Qq v9Qq d9Qq ud9Qq hrc9Qq F9Qq N9Qq K9Qq; intro ht9Qq; (have N9pQq := news_nextc (by k_asm) K9Qq N9Qq (by (repeat (first | exact Rest.nil | exact Rest.none | (refine Rest.own (by assumption) ?_; (repeat (first | exact List.forall_mem_nil _ | (refine' sub_cons ?qzA9Q ?_; (case qzA9Q => k_mem))))) | (apply Rest.skip; (focus first | exact mem_0 | exact mem_1 | exact mem_2 | exact mem_3 | exact mem_4 | exact mem_5 | exact mem_6)) | (apply Rest.keep; (focus k_all))))) (by first | exact Cat.nil | exact (Cat.cons Cat.nil) | exact (Cat.cons (Cat.cons Cat.nil)) | exact (Cat.cons (Cat.cons (Cat.cons Cat.nil))) | exact (Cat.cons (Cat.cons (Cat.cons (Cat.cons Cat.nil)))) | exact (Cat.cons (Cat.cons (Cat.cons (Cat.cons (Cat.cons Cat.nil))))) | exact (Cat.cons (Cat.cons (Cat.cons (Cat.cons (Cat.cons (Cat.cons Cat.nil)))))) | exact (Cat.cons (Cat.cons (Cat.cons (Cat.cons (Cat.cons (Cat.cons (Cat.cons Cat.nil))))))) | exact (Cat.cons (Cat.cons (Cat.cons (Cat.cons (Cat.cons (Cat.cons (Cat.cons (Cat.cons Cat.nil)))))))))); clear N9Qq K9Qq; (try dsimp only at ht9Qq); (try k_sweep); k_dflt (rcases hrc9Qq with ⟨hb9Qq, g9Qq, hg9Qq, hag9Qq⟩ | ⟨hb9Qq, hl9Qq, hat9Qq⟩ <;> (subst hb9Qq))))))
  (k_with "compareOp In str ref" => safely ((k_here; k_dflt (refine' in_item ?qtQ ?qaQ ?qbQ ?_; (case qtQ => exact TupOf.keeps (by with_reducible assumption) (Fr.keep (by k_asm))); (case qaQ => omega); (case qbQ => omega); k_whole))))
  (k_with "call builtin:str.join" => safely ((k_here; (with_reducible show wpAny _ _ (call (Value.builtin "str.join") [Value.str _ _, Value.ref _]) _ _ _); k_dflt (refine' join_texts ?qlQ ?qsQ ?qnQ ?_; (case qlQ => exact News.isList (by k_asm) (by k_mem)); (case qsQ => with_reducible assumption); (case qnQ => with_reducible assumption); k_whole); intro t9Qq k9Qq)))
  trivial
namespace Zcu_spec
noncomputable def P (prog : Program) (w : World) (p : Program) (loose : List Str) (mean : ExcName → Option Value) (mg : Str → Option Value) (mb : Str → Option Value) (dp : Nat) (gd : Option (List Code)) (un : Nat) (env : Env) (outer : List Env) (A₀ : Around) (base : Heap) (h₀ : Heap) (L : Addr) (m : Str → Option Value) (s : Shared) (Q : Value → Shared → Prop) (E : Value → Shared → Prop) (g' : Heap) (L' : Addr) (h' : Heap) (tk0 : Nat) (x : Nat) (sd : Nat) (td : Nat) (K : Ks) (v : Sv) (Kx : Kt) (tx : Str) (ux : Tok) (ud : Tok) (d : Int) (i : Nat) (ca : Nat) (cs : List Nat) (op : Bool) (args : List Value) : Prop := ∀ {fname qual : Str} {params : Arguments} {body : List Stmt} {scope : Scope} {dV kV doc pm cdv fct foc : Value} {fan fod : Option Addr} {fosl : Array (Option Value)} (hl : (Mine.a.heap_1_39 w.params).lookup 156 = some ⟨foc, fod, .func (fnOf fname qual params body scope dV kV doc pm fan cdv fct), fosl⟩) (hd : dp + 8 < recursionLimit) (hu : un + 60 < cLine) (X : (Mine.a.heap_1_39 w.params).In h₀) (T : Top p loose mean mg mb h₀) (hbi : ∀ oc od fd osl, (Mine.a.heap_1_39 w.params).lookup 156 = some ⟨oc, od, .func fd, osl⟩ → BindsTo s fd ⟨args, []⟩ [(Str.ofString "self", .ref x), (Str.ofString "characters", .ref ca), (Str.ofString "opposite", .bool op)]) (hcs : TupOf s.heap ca cs) (hca : ca ∉ [x, sd, K.ds, td, K.mo]) (o1 : sd < x) (o2 : x < K.mo) (o3 : K.mo < td) (o4 : td < K.ds) (hx : tx.length < 1000) (hok : ∀ c ∈ tx.cps.toList, okc c) (hat : At tx v d i)
    (KG' : Keeps (([(x, instObj 166 sd), (sd, sdict w K v), (K.ds, instObj 73 td), (td, tdict w Kx tx ux d ud), (K.mo, methodObj (.ref 148) (.ref x))] : List (Addr × Obj)).map (·.1)) s.heap g') (F' : Fr g' L' h' (fun y => (([(Str.ofString "self", .ref x), (Str.ofString "characters", .ref ca), (Str.ofString "opposite", .bool op)] : List (Str × Value)).reverse).lookup y)) (N' : News g' L' h' [(x, instObj 166 sd), (sd, sdict w K v), (K.ds, instObj 73 td), (td, tdict w Kx tx ux d ud), (K.mo, methodObj (.ref 148) (.ref x))]) (B' : Below ⟨none, dp, some (env :: outer), gd, un⟩ base (env :: outer) g') (X' : (Mine.a.heap_1_39 w.params).In g') (T' : Top p loose mean mg mb g') (l1 : ∀ q ∈ ([(x, instObj 166 sd), (sd, sdict w K v), (K.ds, instObj 73 td), (td, tdict w Kx tx ux d ud), (K.mo, methodObj (.ref 148) (.ref x))] : List (Addr × Obj)), q.1 < L') (htk0 : 0 < tk0)
    (post : ∀ h' tk t y v' d' ud', y = ⟨(runL tx i cs op).toArray⟩ → At tx v' d' (i + (runL tx i cs op).length) → Fr h₀ L h' m → News h₀ L h' [(x, instObj 166 sd), (sd, sdict w K v'), (K.ds, instObj 73 td), (td, tdict w Kx tx ux d' ud'), (K.mo, methodObj (.ref 148) (.ref x))] → Keeps [x, sd, K.ds, td, K.mo] s.heap h' → Q (.str y t) { s with heap := h', toks := tk }), wpAny (model prog w) (Around.deeper ⟨none, dp, some (env :: outer), gd, un⟩ (envOf qual scope L' 156 cdv)) (execs body (envOf qual scope L' 156 cdv)) (leaveQ h₀ L m g' Q E) (leaveE prog w (Around.deeper ⟨none, dp, some (env :: outer), gd, un⟩ (envOf qual scope L' 156 cdv)) (envOf qual scope L' 156 cdv) E) { s with heap := h', toks := tk0 }
@[irreducible] noncomputable def c0 : Gd × Nat × Nat × Nat × Ks × Sv × Kt × Str × Tok × Tok × Int × Nat × Nat × (List Nat) × Bool × (List Value) := @Classical.epsilon _ (Nonempty.elim Gd.ne fun b => ⟨(b, 0, 0, 0, ⟨0,0,0,0,0,0,0,0,0,0,0,0,0,0⟩, ⟨default,0,0,0,0,.none,0,0,0,0,0⟩, ⟨0,0⟩, default, 0, 0, 0, 0, 0, [], false, [])⟩) fun c => ¬ P (c.1.prog) (c.1.w) (c.1.p) (c.1.loose) (c.1.mean) (c.1.mg) (c.1.mb) (c.1.dp) (c.1.gd) (c.1.un) (c.1.env) (c.1.outer) (c.1.A₀) (c.1.base) (c.1.h₀) (c.1.L) (c.1.m) (c.1.s) (c.1.Q) (c.1.E) (c.1.g') (c.1.L') (c.1.h') (c.1.tk0) (c.2.1) (c.2.2.1) (c.2.2.2.1) (c.2.2.2.2.1) (c.2.2.2.2.2.1) (c.2.2.2.2.2.2.1) (c.2.2.2.2.2.2.2.1) (c.2.2.2.2.2.2.2.2.1) (c.2.2.2.2.2.2.2.2.2.1) (c.2.2.2.2.2.2.2.2.2.2.1) (c.2.2.2.2.2.2.2.2.2.2.2.1) (c.2.2.2.2.2.2.2.2.2.2.2.2.1) (c.2.2.2.2.2.2.2.2.2.2.2.2.2.1) (c.2.2.2.2.2.2.2.2.2.2.2.2.2.2.1) (c.2.2.2.2.2.2.2.2.2.2.2.2.2.2.2)
@[irreducible] noncomputable def prog : Program := c0.1.prog
@[irreducible] noncomputable def w : World := c0.1.w
@[irreducible] noncomputable def p : Program := c0.1.p
@[irreducible] noncomputable def loose : List Str := c0.1.loose
@[irreducible] noncomputable def mean : ExcName → Option Value := c0.1.mean
@[irreducible] noncomputable def mg : Str → Option Value := c0.1.mg
@[irreducible] noncomputable def mb : Str → Option Value := c0.1.mb
@[irreducible] noncomputable def dp : Nat := c0.1.dp
@[irreducible] noncomputable def gd : Option (List Code) := c0.1.gd
@[irreducible] noncomputable def un : Nat := c0.1.un
@[irreducible] noncomputable def env : Env := c0.1.env
@[irreducible] noncomputable def outer : List Env := c0.1.outer
@[irreducible] noncomputable def A₀ : Around := c0.1.A₀
@[irreducible] noncomputable def base : Heap := c0.1.base
@[irreducible] noncomputable def h₀ : Heap := c0.1.h₀
@[irreducible] noncomputable def L : Addr := c0.1.L
@[irreducible] noncomputable def m : Str → Option Value := c0.1.m
@[irreducible] noncomputable def s : Shared := c0.1.s
@[irreducible] noncomputable def Q : Value → Shared → Prop := c0.1.Q
@[irreducible] noncomputable def E : Value → Shared → Prop := c0.1.E
@[irreducible] noncomputable def g' : Heap := c0.1.g'
@[irreducible] noncomputable def L' : Addr := c0.1.L'
@[irreducible] noncomputable def h' : Heap := c0.1.h'
@[irreducible] noncomputable def tk0 : Nat := c0.1.tk0
@[irreducible] noncomputable def x : Nat := c0.2.1
@[irreducible] noncomputable def sd : Nat := c0.2.2.1
@[irreducible] noncomputable def td : Nat := c0.2.2.2.1
@[irreducible] noncomputable def K : Ks := c0.2.2.2.2.1
@[irreducible] noncomputable def v : Sv := c0.2.2.2.2.2.1
@[irreducible] noncomputable def Kx : Kt := c0.2.2.2.2.2.2.1
@[irreducible] noncomputable def tx : Str := c0.2.2.2.2.2.2.2.1
@[irreducible] noncomputable def ux : Tok := c0.2.2.2.2.2.2.2.2.1
@[irreducible] noncomputable def ud : Tok := c0.2.2.2.2.2.2.2.2.2.1
@[irreducible] noncomputable def d : Int := c0.2.2.2.2.2.2.2.2.2.2.1
@[irreducible] noncomputable def i : Nat := c0.2.2.2.2.2.2.2.2.2.2.2.1
@[irreducible] noncomputable def ca : Nat := c0.2.2.2.2.2.2.2.2.2.2.2.2.1
@[irreducible] noncomputable def cs : List Nat := c0.2.2.2.2.2.2.2.2.2.2.2.2.2.1
@[irreducible] noncomputable def op : Bool := c0.2.2.2.2.2.2.2.2.2.2.2.2.2.2.1
@[irreducible] noncomputable def args : List Value := c0.2.2.2.2.2.2.2.2.2.2.2.2.2.2.2
theorem core {fname qual : Str} {params : Arguments} {body : List Stmt} {scope : Scope} {dV kV doc pm cdv fct foc : Value} {fan fod : Option Addr} {fosl : Array (Option Value)} (hl : (Mine.a.heap_1_39 w.params).lookup 156 = some ⟨foc, fod, .func (fnOf fname qual params body scope dV kV doc pm fan cdv fct), fosl⟩) (hd : dp + 8 < recursionLimit) (hu : un + 60 < cLine) (X : (Mine.a.heap_1_39 w.params).In h₀) (T : Top p loose mean mg mb h₀) (hbi : ∀ oc od fd osl, (Mine.a.heap_1_39 w.params).lookup 156 = some ⟨oc, od, .func fd, osl⟩ → BindsTo s fd ⟨args, []⟩ [(Str.ofString "self", .ref x), (Str.ofString "characters", .ref ca), (Str.ofString "opposite", .bool op)]) (hcs : TupOf s.heap ca cs) (hca : ca ∉ [x, sd, K.ds, td, K.mo]) (o1 : sd < x) (o2 : x < K.mo) (o3 : K.mo < td) (o4 : td < K.ds) (hx : tx.length < 1000) (hok : ∀ c ∈ tx.cps.toList, okc c) (hat : At tx v d i)
    (KG' : Keeps (([(x, instObj 166 sd), (sd, sdict w K v), (K.ds, instObj 73 td), (td, tdict w Kx tx ux d ud), (K.mo, methodObj (.ref 148) (.ref x))] : List (Addr × Obj)).map (·.1)) s.heap g') (F' : Fr g' L' h' (fun y => (([(Str.ofString "self", .ref x), (Str.ofString "characters", .ref ca), (Str.ofString "opposite", .bool op)] : List (Str × Value)).reverse).lookup y)) (N' : News g' L' h' [(x, instObj 166 sd), (sd, sdict w K v), (K.ds, instObj 73 td), (td, tdict w Kx tx ux d ud), (K.mo, methodObj (.ref 148) (.ref x))]) (B' : Below ⟨none, dp, some (env :: outer), gd, un⟩ base (env :: outer) g') (X' : (Mine.a.heap_1_39 w.params).In g') (T' : Top p loose mean mg mb g') (l1 : ∀ q ∈ ([(x, instObj 166 sd), (sd, sdict w K v), (K.ds, instObj 73 td), (td, tdict w Kx tx ux d ud), (K.mo, methodObj (.ref 148) (.ref x))] : List (Addr × Obj)), q.1 < L') (htk0 : 0 < tk0)
    (post : ∀ h' tk t y v' d' ud', y = ⟨(runL tx i cs op).toArray⟩ → At tx v' d' (i + (runL tx i cs op).length) → Fr h₀ L h' m → News h₀ L h' [(x, instObj 166 sd), (sd, sdict w K v'), (K.ds, instObj 73 td), (td, tdict w Kx tx ux d' ud'), (K.mo, methodObj (.ref 148) (.ref x))] → Keeps [x, sd, K.ds, td, K.mo] s.heap h' → Q (.str y t) { s with heap := h', toks := tk }) : wpAny (model prog w) (Around.deeper ⟨none, dp, some (env :: outer), gd, un⟩ (envOf qual scope L' 156 cdv)) (execs body (envOf qual scope L' 156 cdv)) (leaveQ h₀ L m g' Q E) (leaveE prog w (Around.deeper ⟨none, dp, some (env :: outer), gd, un⟩ (envOf qual scope L' 156 cdv)) (envOf qual scope L' 156 cdv) E) { s with heap := h', toks := tk0 } := by
  delta leaveQ leaveE
  refine' seg_inc hl ?hk ?_
  (case hk => k_is)
  rintro rfl rfl rfl rfl
  clear hl
  have q_0_2 : @LT.lt Nat _ sd K.mo := Nat.lt_trans o1 o2
  have q_0_3 : @LT.lt Nat _ sd td := Nat.lt_trans q_0_2 o3
  have q_0_4 : @LT.lt Nat _ sd K.ds := Nat.lt_trans q_0_3 o4
  have q_1_3 : @LT.lt Nat _ x td := Nat.lt_trans o2 o3
  have q_1_4 : @LT.lt Nat _ x K.ds := Nat.lt_trans q_1_3 o4
  have q_2_4 : @LT.lt Nat _ K.mo K.ds := Nat.lt_trans o3 o4
  (try dsimp only)
  (try dsimp only [sdict, tdict, sEnt] at N')
  (try k_lt l1)
  have hcs9 := TupOf.next hcs KG' hca
  clear hcs
  all_goals (have hin9 : InP 7 := rfl)
  k_with "exec While Constant cons nil" => ((with_reducible (rename InP 7 => hin9)); ((with_reducible (rename Fr _ _ _ _ => lF'; rename News _ _ _ _ => lN')); (obtain ⟨g9, hiv9⟩ := u_start (cs := cs) (op := op) (n := 0) (ud := ud) hat); (with_unfolding_all refine' while_X (σ := Cu) (ledU w _ x sd td K Kx tx ux) (fun _ => []) [Str.ofString "end"] (invU tx i cs op) (exU tx i cs op) (fun c => c.g) ⟨#[], [], 0, [], v, d, ud, i, g9⟩ lF' ?kn (List.forall_mem_nil _) hiv9 ?ht ?hz); (case kn => exact news_sub lN' (by (repeat (first | exact List.forall_mem_nil _ | (refine' sub_cons ?zA9 ?_; (case zA9 => k_mem)))))); (clear lF' lN' hiv9); (case' ht => ((rintro ⟨its9, vs9, n9, acc9, v9, d9, ud9, j9, g9⟩ u9 h9 tk9 hv9 kF9 kN9); k_dflt (have hi9 := hv9.1); (try dsimp only at hi9); (subst hi9); (try dsimp only [ledU] at kN9); (try dsimp only at kF9); k_dflt (have hag9 := hv9.2.2.2.1; have hat9 := (AtG.at hag9)); (try dsimp only at hag9); (try dsimp only at hat9); (try dsimp only); (have hck9 := chunk_is hat9 hx); (have hc1 := hck9.k0); (have hc2 := hck9.kn); (have hc3 := hck9.nl); (have hc4 := hck9.sm); (have hc5 := hat9.handed); k_dflt (have hc6 := strs_len hv9.2.1; have hc7 := hv9.2.2.2.2); (try dsimp only at hc6); (try dsimp only at hc7))); (case' hz => (k_dflt (rintro ⟨its9, vs9, n9, acc9, v9, d9, ud9, j9, g9⟩ u9 h9 tk9 ⟨hi9, hs9, hr9, hat9⟩ kF9 kN9); (try dsimp only at hi9); (subst hi9); (try dsimp only at hs9); (try dsimp only at hr9); (try dsimp only at hat9); (try dsimp only [ledU] at kN9); (try dsimp only at kF9); (have hfl9 := flat_small hr9 hx); (obtain ⟨hf9, hj9⟩ := run_is hr9); (try dsimp only)))))
  k_with "exec While BoolOp cons nil" => ((with_reducible (rename InP 7 => hin9)); ((with_reducible (rename Fr _ _ _ _ => lF'; rename News _ _ _ _ => lN'; rename ChunkIs _ _ _ => hck9; rename invU _ _ _ _ _ => hv9)); (have hrs9 := run_start (cs := cs) (op := op) (c := v9.c) (k := v9.k) (Int.le_trans hck9.kn (Int.le_of_eq hck9.nl))); (with_unfolding_all refine' while_X (σ := Int × Tok) (fun _ => _) (fun c => [(Str.ofString "end", .int c.1 c.2)]) [] (fun c => RunAt cs op v9.c v9.k c.1) (fun c => RunAt cs op v9.c v9.k c.1 ∧ (c.1 = v9.n ∨ runP cs op (chAt v9.c c.1) = false)) (fun c => (v9.n - c.1).toNat) (v9.k, _) lF' lN' ?kk hrs9 ?hti ?hzi); (case kk => k_dflt (repeat (first | exact List.forall_mem_nil _ | (refine' all_cons ?zA9 ?_; (case zA9 => with_unfolding_all rfl))))); (clear lF' lN' hrs9); (case' hti => ((rintro ⟨e9, t9⟩ u9 h9 tk9 hrn9 kF9 kN9); (try dsimp only at hrn9); (try dsimp only at kN9); (try dsimp only at kF9); (have hr1 := hrn9.ke); (have hr2 := hrn9.en))); (case' hzi => ((rintro ⟨e9, t9⟩ u9 h9 tk9 ⟨hrn9, hse9⟩ kF9 kN9); (try dsimp only at hrn9); (try dsimp only at hse9); (try dsimp only at kN9); (try dsimp only at kF9); (have hr1 := hrn9.ke); (have hr2 := hrn9.en)))))
  k_with "KswEnd" => ((with_reducible (rename InP 7 => hin9)); (refine Halt.out ?_))
  k_steps
  all_goals (try (with_reducible refine Halt.mk ?_))
  all_goals first
    | (refine' outW_ (_, _) ?yF ?yN ?yhn ?yk ?yr ⟨hrn9, ?yp⟩; (case yF => k_asm); (case yN => k_asm); (case yhn => exact fun _ h => h); (case yk => (repeat (first | exact List.forall_mem_nil _ | (refine' all_cons ?zA9 ?_; (case zA9 => with_unfolding_all rfl))))); (case yr => (intro z h2 h3; (simp only [List.forall_mem_cons, List.not_mem_nil, false_implies, implies_true, and_true, ne_eq] at h2); (simp only [List.contains_cons, List.contains_nil, Bool.or_false, Bool.or_eq_false_iff, beq_eq_false_iff_ne, ne_eq] at h3); (simp [h2, h3, kstB]))); (case yp => first | exact .inl (by omega) | exact .inr (by assumption)))
    | (refine' ksw_end (_, _) ?yF ?yN ?yhn trivial ?yk ?yr ?yp ?ym; (case yF => k_asm); (case yN => k_asm); (case yhn => exact fun _ h => h); (case yk => (repeat (first | exact List.forall_mem_nil _ | (refine' all_cons ?zA9 ?_; (case zA9 => with_unfolding_all rfl))))); (case yr => (intro z h2 h3; (simp only [List.forall_mem_cons, List.not_mem_nil, false_implies, implies_true, and_true, ne_eq] at h2); (simp only [List.contains_cons, List.contains_nil, Bool.or_false, Bool.or_eq_false_iff, beq_eq_false_iff_ne, ne_eq] at h3); (simp [h2, h3, kstB]))); (case yp => exact run_more hrn9 (by omega) (by assumption)); (case ym => omega))
    | (refine' ksw_end ⟨_, _, _, _, _, _, _, _, _⟩ ?yF ?yN ?yhn trivial (fun _ h => nomatch h) ?yr ?yp ?ym; (case yF => k_asm); (case yN => k_asm); (case yhn => (repeat (first | exact List.forall_mem_nil _ | (refine' sub_cons ?zA9 ?_; (case zA9 => k_mem))))); (case yr => (intro z h2 h3; (simp only [List.forall_mem_cons, List.not_mem_nil, false_implies, implies_true, and_true, ne_eq] at h2); (simp only [List.contains_cons, List.contains_nil, Bool.or_false, Bool.or_eq_false_iff, beq_eq_false_iff_ne, ne_eq] at h3); (simp [h2, h3, kstB]))); (case yp => exact u_more (by assumption) (by assumption) hrn9 (by omega) (by assumption) (by assumption) (by first | exact push_is | simp)); (case ym => assumption))
    | (refine' outW_ ⟨_, _, _, _, _, _, _, _, 0⟩ ?yF ?yN ?yhn (fun _ h => nomatch h) ?yr ?yp; (case yF => k_asm); (case yN => k_asm); (case yhn => (repeat (first | exact List.forall_mem_nil _ | (refine' sub_cons ?zA9 ?_; (case zA9 => k_mem))))); (case yr => (intro z h2 h3; (simp only [List.forall_mem_cons, List.not_mem_nil, false_implies, implies_true, and_true, ne_eq] at h2); (simp only [List.contains_cons, List.contains_nil, Bool.or_false, Bool.or_eq_false_iff, beq_eq_false_iff_ne, ne_eq] at h3); (simp [h2, h3, kstB]))); (case yp => exact u_end (by assumption) (by assumption) hrn9 (by omega) (by assumption) (by assumption) (by first | exact push_is | simp)))
    | (refine' outW_ ⟨_, _, _, _, ⟨v9.c, v9.n, e9, v9.pl, v9.pc, v9.buf, v9.u1, v9.u2, _, v9.u4, v9.u5⟩, _, _, _, 0⟩ ?yF ?yN ?yhn (fun _ h => nomatch h) ?yr ?yp; (case yF => k_asm); (case yN => k_asm); (case yhn => (repeat (first | exact List.forall_mem_nil _ | (refine' sub_cons ?zA9 ?_; (case zA9 => k_mem))))); (case yr => (intro z h2 h3; (simp only [List.forall_mem_cons, List.not_mem_nil, false_implies, implies_true, and_true, ne_eq] at h2); (simp only [List.contains_cons, List.contains_nil, Bool.or_false, Bool.or_eq_false_iff, beq_eq_false_iff_ne, ne_eq] at h3); (simp [h2, h3, kstB]))); (case yp => exact u_cut (by assumption) (by assumption) hrn9 (by omega) hse9 (by first | exact push_is | simp)))
    | (refine' outW_ ⟨_, _, _, _, _, _, _, _, _⟩ ?yF ?yN ?yhn (fun _ h => nomatch h) ?yr ?yp; (case yF => k_asm); (case yN => k_asm); (case yhn => (repeat (first | exact List.forall_mem_nil _ | (refine' sub_cons ?zA9 ?_; (case zA9 => k_mem))))); (case yr => (intro z h2 h3; (simp only [List.forall_mem_cons, List.not_mem_nil, false_implies, implies_true, and_true, ne_eq] at h2); (simp only [List.contains_cons, List.contains_nil, Bool.or_false, Bool.or_eq_false_iff, beq_eq_false_iff_ne, ne_eq] at h3); (simp [h2, h3, kstB]))); (case yp => exact u_stop (by assumption) (by assumption) (by assumption) (by omega) hse9))
    | (refine' outW_ ⟨_, _, _, _, _, _, _, _, _⟩ ?yF ?yN ?yhn (fun _ h => nomatch h) ?yr ?yp; (case yF => k_asm); (case yN => k_asm); (case yhn => (repeat (first | exact List.forall_mem_nil _ | (refine' sub_cons ?zA9 ?_; (case zA9 => k_mem))))); (case yr => (intro z h2 h3; (simp only [List.forall_mem_cons, List.not_mem_nil, false_implies, implies_true, and_true, ne_eq] at h2); (simp only [List.contains_cons, List.contains_nil, Bool.or_false, Bool.or_eq_false_iff, beq_eq_false_iff_ne, ne_eq] at h3); (simp [h2, h3, kstB]))); (case yp => exact u_stop (by assumption) (by assumption) (by omega) (by omega) hse9))
    | (refine' post _ _ _ _ _ _ _ ?ye ?ya ?f ?N ?k; (case f => k_asm); (case N => exact news_sub (by k_asm) (by (repeat (first | exact List.forall_mem_nil _ | (refine' sub_cons ?zA9 ?_; (case zA9 => k_mem)))))); (case k => exact keeps_end KG' (by k_asm)); (case ye => rw [hf9]); (case ya => (rw [← hj9]; exact hat9)))
    | (exfalso; omega)
theorem all : ∀ c : Gd × Nat × Nat × Nat × Ks × Sv × Kt × Str × Tok × Tok × Int × Nat × Nat × (List Nat) × Bool × (List Value), P (c.1.prog) (c.1.w) (c.1.p) (c.1.loose) (c.1.mean) (c.1.mg) (c.1.mb) (c.1.dp) (c.1.gd) (c.1.un) (c.1.env) (c.1.outer) (c.1.A₀) (c.1.base) (c.1.h₀) (c.1.L) (c.1.m) (c.1.s) (c.1.Q) (c.1.E) (c.1.g') (c.1.L') (c.1.h') (c.1.tk0) (c.2.1) (c.2.2.1) (c.2.2.2.1) (c.2.2.2.2.1) (c.2.2.2.2.2.1) (c.2.2.2.2.2.2.1) (c.2.2.2.2.2.2.2.1) (c.2.2.2.2.2.2.2.2.1) (c.2.2.2.2.2.2.2.2.2.1) (c.2.2.2.2.2.2.2.2.2.2.1) (c.2.2.2.2.2.2.2.2.2.2.2.1) (c.2.2.2.2.2.2.2.2.2.2.2.2.1) (c.2.2.2.2.2.2.2.2.2.2.2.2.2.1) (c.2.2.2.2.2.2.2.2.2.2.2.2.2.2.1) (c.2.2.2.2.2.2.2.2.2.2.2.2.2.2.2) := by with_unfolding_all exact eps_all (Nonempty.elim Gd.ne fun b => ⟨(b, 0, 0, 0, ⟨0,0,0,0,0,0,0,0,0,0,0,0,0,0⟩, ⟨default,0,0,0,0,.none,0,0,0,0,0⟩, ⟨0,0⟩, default, 0, 0, 0, 0, 0, [], false, [])⟩) (P := fun c : Gd × Nat × Nat × Nat × Ks × Sv × Kt × Str × Tok × Tok × Int × Nat × Nat × (List Nat) × Bool × (List Value) => P (c.1.prog) (c.1.w) (c.1.p) (c.1.loose) (c.1.mean) (c.1.mg) (c.1.mb) (c.1.dp) (c.1.gd) (c.1.un) (c.1.env) (c.1.outer) (c.1.A₀) (c.1.base) (c.1.h₀) (c.1.L) (c.1.m) (c.1.s) (c.1.Q) (c.1.E) (c.1.g') (c.1.L') (c.1.h') (c.1.tk0) (c.2.1) (c.2.2.1) (c.2.2.2.1) (c.2.2.2.2.1) (c.2.2.2.2.2.1) (c.2.2.2.2.2.2.1) (c.2.2.2.2.2.2.2.1) (c.2.2.2.2.2.2.2.2.1) (c.2.2.2.2.2.2.2.2.2.1) (c.2.2.2.2.2.2.2.2.2.2.1) (c.2.2.2.2.2.2.2.2.2.2.2.1) (c.2.2.2.2.2.2.2.2.2.2.2.2.1) (c.2.2.2.2.2.2.2.2.2.2.2.2.2.1) (c.2.2.2.2.2.2.2.2.2.2.2.2.2.2.1) (c.2.2.2.2.2.2.2.2.2.2.2.2.2.2.2)) @core
end Zcu_spec
theorem cu_spec {prog : Program} {w : World} {p : Program} {loose : List Str} {mean : ExcName → Option Value} {mg mb : Str → Option Value}
    {A : Around} {env : Env} {outer : List Env} {A₀ : Around} {base h₀ : Heap} {L : Addr} {m : Str → Option Value} {s : Shared} {Q E : Value → Shared → Prop}
    {x sd td : Nat} {K : Ks} {v : Sv} {Kx : Kt} {tx : Str} {ux ud : Tok} {d : Int} {i : Nat} {ca : Nat} {cs : List Nat} {op : Bool} {args : List Value}
    (B : Below A₀ base outer h₀) (F : Fr h₀ L s.heap m) (X : (Mine.a.heap_1_39 w.params).In h₀) (T : Top p loose mean mg mb h₀) (hA : A.frames = some (env :: outer)) (hh : A.handled = none) (hf : env.frame = some L) (hke : env.scope.kind = .function)
    (hd : A.depth + 8 < recursionLimit) (hu : A.units + 60 < cLine) (N : News h₀ L s.heap [(x, instObj 166 sd), (sd, sdict w K v), (K.ds, instObj 73 td), (td, tdict w Kx tx ux d ud), (K.mo, methodObj (.ref 148) (.ref x))])
    (hbi : ∀ oc od fd osl, (Mine.a.heap_1_39 w.params).lookup 156 = some ⟨oc, od, .func fd, osl⟩ → BindsTo s fd ⟨args, []⟩ [(Str.ofString "self", .ref x), (Str.ofString "characters", .ref ca), (Str.ofString "opposite", .bool op)]) (hcs : TupOf s.heap ca cs) (hca : ca ∉ [x, sd, K.ds, td, K.mo]) (o1 : sd < x) (o2 : x < K.mo) (o3 : K.mo < td) (o4 : td < K.ds) (hx : tx.length < 1000) (hok : ∀ c ∈ tx.cps.toList, okc c) (hat : At tx v d i)
    (post : ∀ h' tk t y v' d' ud', y = ⟨(runL tx i cs op).toArray⟩ → At tx v' d' (i + (runL tx i cs op).length) → Fr h₀ L h' m → News h₀ L h' [(x, instObj 166 sd), (sd, sdict w K v'), (K.ds, instObj 73 td), (td, tdict w Kx tx ux d' ud'), (K.mo, methodObj (.ref 148) (.ref x))] → Keeps [x, sd, K.ds, td, K.mo] s.heap h' → Q (.str y t) { s with heap := h', toks := tk }) : wpAny (model prog w) A (call (.ref 156) args) Q E s := by
  obtain ⟨hn, dp, fr, gd, un⟩ := A
  obtain rfl : fr = some (env :: outer) := hA
  obtain rfl : hn = none := hh
  dsimp only at hd hu
  refine' call_small (binds := [(Str.ofString "self", .ref x), (Str.ofString "characters", .ref ca), (Str.ofString "opposite", .bool op)]) B F X N T rfl hf hke ?k6 ?k7 ?k8 ?k9 ?kB ?_ ?c2 ?c3 ?c4 ?c5
  (case k6 => k_is)
  (case k7 => k_is)
  (case k8 => k_room)
  (case k9 => exact hbi _ _ _ _ (by k_is))
  (case kB => exact locs rfl)
  (case c2 => exact rfl)
  (case c3 => exact rfl)
  (case c4 => exact rfl)
  (case c5 => decide)
  intro g' L' h' KG' FG' F' N' B' X' T' l1
  exact Zcu_spec.all ⟨⟨prog, w, p, loose, mean, mg, mb, dp, gd, un, env, outer, A₀, base, h₀, L, m, s, Q, E, g', L', h', s.toks + List.length ([(Str.ofString "self", .ref x), (Str.ofString "characters", .ref ca), (Str.ofString "opposite", .bool op)] : List (Str × Value))⟩, x, sd, td, K, v, Kx, tx, ux, ud, d, i, ca, cs, op, args⟩ (by k_is) hd hu X T hbi hcs hca o1 o2 o3 o4 hx hok hat KG' F' N' B' X' T' l1 pos_len post
noncomputable def keyName (e : DictEntry) : Str := match e.key with | .str x _ => x | _ => Str.empty
theorem lit_pairs {prog : Program} {w : World} : ∀ {l : List DictEntry}, KeysLit w.params l → ∃ kvs : List (Str × Value), Pairs (PySem.strKind prog w) l kvs ∧ kvs.map (·.1) = l.map keyName
  | [], _ => ⟨[], .nil, rfl⟩
  | e :: r, ⟨⟨x, t, e1, _⟩, h⟩ => by
    obtain ⟨kvs, h1, h2⟩ := lit_pairs (prog := prog) h
    refine ⟨(x, e.val) :: kvs, .cons (by rw [e1]; exact strKind_is prog w x t) rfl h1, ?_⟩
    show x :: kvs.map (·.1) = keyName e :: r.map keyName
    rw [h2]
    unfold keyName
    rw [e1]
theorem lit_dict {prog : Program} {w : World} {K : Frag} {h : Heap} {a : Addr} {es : Array DictEntry} {n : Nat} {ks : List Str} (X : K.In h) (hl : K.lookup a = some ⟨.type "dict", none, .dict es n, #[]⟩) (hk : KeysLit w.params es.toList) (e : es.toList.map keyName = ks) (hn : ks.Nodup) :
    ∃ kvs, h.DictAt (PySem.strKind prog w) a kvs n ∧ kvs.map (·.1) = ks := by
  obtain ⟨kvs, h1, h2⟩ := lit_pairs (prog := prog) hk
  refine ⟨kvs, ⟨_, es, X _ _ hl, ⟨rfl, rfl, rfl⟩, rfl, fun e he => ?_, h1, by rw [h2, e]; exact hn⟩, h2.trans e⟩
  obtain ⟨x, t, e1, e2⟩ := hk.all e (Array.mem_toList_iff.mpr he)
  exact ⟨x, by rw [e1]; exact strKind_is prog w x t, e2⟩
theorem nodup_keys : keysL.Nodup := by decide +kernel
theorem dict43 {prog : Program} {w : World} {h : Heap} (X : (Mine.a.heap_1_39 w.params).In h) : ∃ kvs ep, h.DictAt (PySem.strKind prog w) 43 kvs ep ∧ kvs.map (·.1) = namesA := by
  have z : ∃ n kvs, h.DictAt (PySem.strKind prog w) 43 kvs n ∧ kvs.map (·.1) = keysL := by
    refine' ⟨_, lit_dict X ?a ?b ?c nodup_keys⟩
    (case a => k_is)
    (case b => k_keys)
    (case c => rfl)
  obtain ⟨n, kvs, h1, h2⟩ := z
  exact ⟨kvs, n, h1, h2.trans keys_names⟩
theorem has43 {prog : Program} {w : World} {h : Heap} (X : (Mine.a.heap_1_39 w.params).In h) : ∃ o, h.get? 43 = some o := by
  obtain ⟨_, _, ⟨o, _, ho, _⟩, _⟩ := dict43 (prog := prog) X
  exact ⟨o, ho⟩
end
section
local macro_rules | `(tactic| omega) => `(tactic| lia)
theorem lcp_next : ∀ {k r : List Nat} {n : Nat}, n ≤ lcp k r → n < k.length → (n + 1 ≤ lcp k r ↔ r[n]? = k[n]?)
  | [], _, n, _, h => absurd h (Nat.not_lt_zero _)
  | c :: k, [], n, h, _ => by
    have h0 : lcp (c :: k) [] = 0 := rfl
    have e : n = 0 := by omega
    subst e
    rw [h0]; simp
  | c :: k, d :: r, n, h, hl => by
    rw [lcp] at h ⊢
    by_cases e : d = c
    · subst e
      rw [if_pos rfl] at h ⊢
      cases n with
      | zero => simp
      | succ n =>
        have := lcp_next (k := k) (r := r) (n := n) (by omega) (by simpa using hl)
        simp only [List.getElem?_cons_succ]
        rw [← this]; omega
    · rw [if_neg e] at h ⊢
      have e0 : n = 0 := by omega
      subst e0
      simp [e]
/-- how far the inner reader is -/
structure LcpAt (k r : List Nat) (n : Int) : Prop where
  nn : 0 ≤ n
  le : n.toNat ≤ lcp k r
  lk : n ≤ k.length
structure LcpIs (k r : List Nat) (n : Int) : Prop where
  nn : 0 ≤ n
  eq : n.toNat = lcp k r
  lk : n ≤ k.length
theorem lcp_start (k r : List Nat) : LcpAt k r 0 := ⟨Int.le_refl _, Nat.zero_le _, by omega⟩
theorem lcp_same {x k : Str} {n : Int} (h : LcpAt k.cps.toList x.cps.toList n) (hl : n < k.length) : (Txt.slice x (some n) (some (n + 1)) == Txt.item k n) = decide (n.toNat + 1 ≤ lcp k.cps.toList x.cps.toList) := by
  have hk := len_list k
  have hn := h.nn
  have e1 := slice_nat x n.toNat (n.toNat + 1)
  rw [show ((n.toNat : Nat) : Int) = n by omega, show ((n.toNat + 1 : Nat) : Int) = n + 1 by omega, show n.toNat + 1 - n.toNat = 1 by omega] at e1
  have hlt : n.toNat < k.cps.toList.length := by omega
  have e2 := item_at (x := k) (i := n.toNat) (c := k.cps.toList[n.toNat]) (List.getElem?_eq_getElem hlt)
  rw [show ((n.toNat : Nat) : Int) = n by omega] at e2
  rw [e1, e2, Bool.eq_iff_iff, beq_iff_eq, decide_eq_true_iff, lcp_next h.le hlt, List.getElem?_eq_getElem hlt]
  constructor
  · intro q
    injection q with q
    have q2 : (x.cps.toList.drop n.toNat).take 1 = [k.cps.toList[n.toNat]] := by simpa using congrArg Array.toList q
    have q3 := congrArg (fun l => l[0]?) q2
    simpa [List.getElem?_take, List.getElem?_drop] using q3
  · intro q
    obtain ⟨hx, q2⟩ := List.getElem?_eq_some_iff.mp q
    rw [List.drop_eq_getElem_cons hx, List.take_succ_cons, List.take_zero, q2]
theorem lcp_more {x k : Str} {n : Int} (h : LcpAt k.cps.toList x.cps.toList n) (hl : n < k.length) (he : (Txt.slice x (some n) (some (n + 1)) == Txt.item k n) = true) : LcpAt k.cps.toList x.cps.toList (n + 1) := by
  rw [lcp_same h hl] at he
  have := of_decide_eq_true he
  have hk := len_list k
  have hn := h.nn
  exact ⟨by omega, by omega, by omega⟩
theorem lcp_stop {x k : Str} {n : Int} (h : LcpAt k.cps.toList x.cps.toList n) (hl : n < k.length) (he : (Txt.slice x (some n) (some (n + 1)) == Txt.item k n) = false) : LcpIs k.cps.toList x.cps.toList n := by
  rw [lcp_same h hl] at he
  have := of_decide_eq_false he
  have := h.le
  exact ⟨h.nn, by omega, h.lk⟩
theorem lcp_end {x k : Str} {n : Int} (h : LcpAt k.cps.toList x.cps.toList n) (hl : ¬ n < k.length) : LcpIs k.cps.toList x.cps.toList n := by
  have hk := len_list k
  have h1 := h.le
  have h2 := h.lk
  have h3 := lcp_le_l k.cps.toList x.cps.toList
  exact ⟨h.nn, by omega, h2⟩
/-- the reader's fold so far -/
structure FoldAt (r : List Nat) (pre : List Str) (b : Str) (t : Int) : Prop where
  t0 : 0 ≤ t
  le : t ≤ r.length
  is : (pre.map fun k => k.cps.toList).foldl (stepM r) ([], 0) = (b.cps.toList, t.toNat)
  sm : b.length ≤ 1000
theorem fold_start (r : List Nat) : FoldAt r [] (Str.ofString "") 0 := ⟨Int.le_refl _, by omega, by rw [show (Str.ofString "").cps.toList = [] by decide +kernel]; rfl, by decide +kernel⟩
theorem max_nat {t n : Int} (h : 0 ≤ t) (k : 0 ≤ n) : max t.toNat n.toNat = (max t n).toNat := by
  obtain ⟨a, rfl⟩ := Int.eq_ofNat_of_zero_le h
  obtain ⟨b, rfl⟩ := Int.eq_ofNat_of_zero_le k
  rcases Nat.le_total a b with q | q
  · rw [Int.max_eq_right (Int.ofNat_le.mpr q)]
    exact Nat.max_eq_right q
  · rw [Int.max_eq_left (Int.ofNat_le.mpr q)]
    exact Nat.max_eq_left q
theorem nat_le {n : Int} {m : Nat} (h : n.toNat = m) (k : 0 ≤ n) {b : Nat} (l : m ≤ b) : n ≤ (b : Int) := by omega
theorem fold_one {r : List Nat} {pre : List Str} {b k : Str} {t n : Int} (h : FoldAt r pre b t) (hn : LcpIs k.cps.toList r n) (hb : n = k.length ∧ (b.length : Int) < n) (hk : k.length ≤ 1000) : FoldAt r (pre ++ [k]) k (max t n) := by
  have h1 := lcp_le_r k.cps.toList r
  have h0 := h.t0
  have h4 := h.le
  have h2 := hn.nn
  have h3 := hn.eq
  have hl := len_list k
  have hl2 := len_list b
  refine ⟨Int.le_trans h0 (Int.le_max_left _ _), Int.max_le.mpr ⟨h4, nat_le h3 h2 h1⟩, ?_, hk⟩
  rw [List.map_append, List.foldl_append, h.is]
  show stepM r _ k.cps.toList = _
  unfold stepM
  rw [if_pos ⟨by omega, by show b.cps.toList.length < _; omega⟩]
  show (_, max t.toNat _) = _
  rw [← h3, max_nat h0 h2]
theorem fold_two {r : List Nat} {pre : List Str} {b k : Str} {t n : Int} (h : FoldAt r pre b t) (hn : LcpIs k.cps.toList r n) (hb : ¬ (n = k.length ∧ (b.length : Int) < n)) : FoldAt r (pre ++ [k]) b (max t n) := by
  have h1 := lcp_le_r k.cps.toList r
  have h0 := h.t0
  have h4 := h.le
  have h2 := hn.nn
  have h3 := hn.eq
  have hl := len_list k
  have hl2 := len_list b
  refine ⟨Int.le_trans h0 (Int.le_max_left _ _), Int.max_le.mpr ⟨h4, nat_le h3 h2 h1⟩, ?_, h.sm⟩
  rw [List.map_append, List.foldl_append, h.is]
  show stepM r _ k.cps.toList = _
  unfold stepM
  rw [if_neg (fun q => hb ⟨by omega, by have := q.2; change b.cps.toList.length < _ at this; omega⟩)]
  show (_, max t.toNat _) = _
  rw [← h3, max_nat h0 h2]
theorem fold_all {r : List Nat} {b : Str} {t : Int} (h : FoldAt r namesA b t) : MatchIs r t.toNat b.cps.toList := by
  have e : matchN r = (b.cps.toList, t.toNat) := h.is
  exact ⟨(congrArg Prod.snd e).symm, (congrArg Prod.fst e).symm⟩
theorem name_small {pre post : List Str} {k : Str} (h : namesA = pre ++ k :: post) : 1 ≤ k.length ∧ k.length ≤ 20 := by
  have hk : k ∈ namesA := by rw [h]; simp
  have z : namesA.all (fun k => decide (1 ≤ k.length ∧ k.length ≤ 20)) = true := by decide +kernel
  exact of_decide_eq_true (List.all_eq_true.mp z k hk)
structure Cm where
  (b : Str) (t : Int) (ub ut : Tok)
theorem lcp_mu {x k : Str} {n : Int} (h : LcpAt k.cps.toList x.cps.toList n) (hl : n < k.length) : ((k.length : Int) - (n + 1)).toNat < ((k.length : Int) - n).toNat := by have := h.nn; omega
theorem dictAt_keeps {prog : Program} {w : World} {h h' : Heap} {d : Addr} {kvs : List (Str × Value)} {ep : Nat} (x : h.DictAt (PySem.strKind prog w) d kvs ep) (k : h.StaysIn h') : h'.DictAt (PySem.strKind prog w) d kvs ep := by
  obtain ⟨o, es, e, r⟩ := x
  exact ⟨o, es, k _ _ e, r⟩
theorem fold_oneY {r : List Nat} {pre : List Str} {b k : Str} {t n y : Int} (h : FoldAt r pre b t) (hn : LcpIs k.cps.toList r n) (hb : n = k.length ∧ (b.length : Int) < n) (hk : k.length ≤ 1000) (hy : y = if n > t then n else t) : FoldAt r (pre ++ [k]) k y := by
  have := fold_one h hn hb hk
  rw [show max t n = y by rw [hy]; split <;> omega] at this
  exact this
theorem fold_twoY {r : List Nat} {pre : List Str} {b k : Str} {t n y : Int} (h : FoldAt r pre b t) (hn : LcpIs k.cps.toList r n) (hb : ¬ (n = k.length ∧ (b.length : Int) < n)) (hy : y = if n > t then n else t) : FoldAt r (pre ++ [k]) b y := by
  have := fold_two h hn hb
  rw [show max t n = y by rw [hy]; split <;> omega] at this
  exact this
theorem keys_at {kvs : List (Str × Value)} {pre : List Str} {k : Str} (e : kvs.map (·.1) = namesA) (h : ∃ post, kvs.map (·.1) = pre ++ k :: post) : 1 ≤ k.length ∧ k.length ≤ 20 := by
  obtain ⟨post, h⟩ := h
  exact name_small (e.symm.trans h)
end
theorem lines_M2_1 : True := by
  (k_with "subscriptTail Name Name str int" => safely ((k_here; refine item_str (by first | exact fitsSsize_of (N := 9223372036854775808) (by omega) (by omega) (Int.le_refl _) | decide) (by omega) (by omega) ?_; intro _)))
  trivial
namespace Zlm_spec
noncomputable def P (prog : Program) (w : World) (p : Program) (loose : List Str) (mean : ExcName → Option Value) (mg : Str → Option Value) (mb : Str → Option Value) (dp : Nat) (gd : Option (List Code)) (un : Nat) (env : Env) (outer : List Env) (A₀ : Around) (base : Heap) (h₀ : Heap) (L : Addr) (m : Str → Option Value) (s : Shared) (Q : Value → Shared → Prop) (E : Value → Shared → Prop) (g' : Heap) (L' : Addr) (h' : Heap) (tk0 : Nat) (x : Str) (ux : Tok) : Prop := ∀ {fname qual : Str} {params : Arguments} {body : List Stmt} {scope : Scope} {dV kV doc pm cdv fct foc : Value} {fan fod : Option Addr} {fosl : Array (Option Value)} (hl : (Mine.a.heap_1_39 w.params).lookup 774 = some ⟨foc, fod, .func (fnOf fname qual params body scope dV kV doc pm fan cdv fct), fosl⟩) (hd : dp + 1 < recursionLimit) (hu : un + 10 < cLine) (X : (Mine.a.heap_1_39 w.params).In h₀) (T : Top p loose mean mg mb h₀) (hx : x.length < 1000)
    (KG' : Keeps (([] : List (Addr × Obj)).map (·.1)) s.heap g') (F' : Fr g' L' h' (fun y => (([(Str.ofString "text", .str x ux)] : List (Str × Value)).reverse).lookup y)) (N' : News g' L' h' []) (B' : Below ⟨none, dp, some (env :: outer), gd, un⟩ base (env :: outer) g') (X' : (Mine.a.heap_1_39 w.params).In g') (T' : Top p loose mean mg mb g') (l1 : ∀ q ∈ ([] : List (Addr × Obj)), q.1 < L') (htk0 : 0 < tk0)
    (post : ∀ (D : Nat) h' tk t1 t2 bS T, MatchIs x.cps.toList T bS.cps.toList → bS.length ≤ 1000 → s.heap.get? D = none → Fr h₀ L h' m → News h₀ L h' [(D, { cls := .type "tuple", data := .seq #[.str bS t1, .int (T : Int) t2] })] → Keeps [] s.heap h' → Q (.ref D) { s with heap := h', toks := tk }), wpAny (model prog w) (Around.deeper ⟨none, dp, some (env :: outer), gd, un⟩ (envOf qual scope L' 774 cdv)) (execs body (envOf qual scope L' 774 cdv)) (leaveQ h₀ L m g' Q E) (leaveE prog w (Around.deeper ⟨none, dp, some (env :: outer), gd, un⟩ (envOf qual scope L' 774 cdv)) (envOf qual scope L' 774 cdv) E) { s with heap := h', toks := tk0 }
@[irreducible] noncomputable def c0 : Gd × Str × Tok := @Classical.epsilon _ (Nonempty.elim Gd.ne fun b => ⟨(b, default, 0)⟩) fun c => ¬ P (c.1.prog) (c.1.w) (c.1.p) (c.1.loose) (c.1.mean) (c.1.mg) (c.1.mb) (c.1.dp) (c.1.gd) (c.1.un) (c.1.env) (c.1.outer) (c.1.A₀) (c.1.base) (c.1.h₀) (c.1.L) (c.1.m) (c.1.s) (c.1.Q) (c.1.E) (c.1.g') (c.1.L') (c.1.h') (c.1.tk0) (c.2.1) (c.2.2)
@[irreducible] noncomputable def prog : Program := c0.1.prog
@[irreducible] noncomputable def w : World := c0.1.w
@[irreducible] noncomputable def p : Program := c0.1.p
@[irreducible] noncomputable def loose : List Str := c0.1.loose
@[irreducible] noncomputable def mean : ExcName → Option Value := c0.1.mean
@[irreducible] noncomputable def mg : Str → Option Value := c0.1.mg
@[irreducible] noncomputable def mb : Str → Option Value := c0.1.mb
@[irreducible] noncomputable def dp : Nat := c0.1.dp
@[irreducible] noncomputable def gd : Option (List Code) := c0.1.gd
@[irreducible] noncomputable def un : Nat := c0.1.un
@[irreducible] noncomputable def env : Env := c0.1.env
@[irreducible] noncomputable def outer : List Env := c0.1.outer
@[irreducible] noncomputable def A₀ : Around := c0.1.A₀
@[irreducible] noncomputable def base : Heap := c0.1.base
@[irreducible] noncomputable def h₀ : Heap := c0.1.h₀
@[irreducible] noncomputable def L : Addr := c0.1.L
@[irreducible] noncomputable def m : Str → Option Value := c0.1.m
@[irreducible] noncomputable def s : Shared := c0.1.s
@[irreducible] noncomputable def Q : Value → Shared → Prop := c0.1.Q
@[irreducible] noncomputable def E : Value → Shared → Prop := c0.1.E
@[irreducible] noncomputable def g' : Heap := c0.1.g'
@[irreducible] noncomputable def L' : Addr := c0.1.L'
@[irreducible] noncomputable def h' : Heap := c0.1.h'
@[irreducible] noncomputable def tk0 : Nat := c0.1.tk0
@[irreducible] noncomputable def x : Str := c0.2.1
@[irreducible] noncomputable def ux : Tok := c0.2.2
theorem core {fname qual : Str} {params : Arguments} {body : List Stmt} {scope : Scope} {dV kV doc pm cdv fct foc : Value} {fan fod : Option Addr} {fosl : Array (Option Value)} (hl : (Mine.a.heap_1_39 w.params).lookup 774 = some ⟨foc, fod, .func (fnOf fname qual params body scope dV kV doc pm fan cdv fct), fosl⟩) (hd : dp + 1 < recursionLimit) (hu : un + 10 < cLine) (X : (Mine.a.heap_1_39 w.params).In h₀) (T : Top p loose mean mg mb h₀) (hx : x.length < 1000)
    (KG' : Keeps (([] : List (Addr × Obj)).map (·.1)) s.heap g') (F' : Fr g' L' h' (fun y => (([(Str.ofString "text", .str x ux)] : List (Str × Value)).reverse).lookup y)) (N' : News g' L' h' []) (B' : Below ⟨none, dp, some (env :: outer), gd, un⟩ base (env :: outer) g') (X' : (Mine.a.heap_1_39 w.params).In g') (T' : Top p loose mean mg mb g') (l1 : ∀ q ∈ ([] : List (Addr × Obj)), q.1 < L') (htk0 : 0 < tk0)
    (post : ∀ (D : Nat) h' tk t1 t2 bS T, MatchIs x.cps.toList T bS.cps.toList → bS.length ≤ 1000 → s.heap.get? D = none → Fr h₀ L h' m → News h₀ L h' [(D, { cls := .type "tuple", data := .seq #[.str bS t1, .int (T : Int) t2] })] → Keeps [] s.heap h' → Q (.ref D) { s with heap := h', toks := tk }) : wpAny (model prog w) (Around.deeper ⟨none, dp, some (env :: outer), gd, un⟩ (envOf qual scope L' 774 cdv)) (execs body (envOf qual scope L' 774 cdv)) (leaveQ h₀ L m g' Q E) (leaveE prog w (Around.deeper ⟨none, dp, some (env :: outer), gd, un⟩ (envOf qual scope L' 774 cdv)) (envOf qual scope L' 774 cdv) E) { s with heap := h', toks := tk0 } := by
  delta leaveQ leaveE
  refine' seg_inc hl ?hk ?_
  (case hk => k_is)
  rintro rfl rfl rfl rfl
  clear hl
  (try dsimp only)
  (try dsimp only [sdict, tdict, sEnt] at N')
  (try k_lt l1)
  obtain ⟨kvs9, ep9, hda9, hke9⟩ := dict43 (prog := prog) X'
  all_goals (have hin9 : InP 8 := rfl)
  k_with "exec For Name Name cons nil" => ((with_reducible (rename InP 8 => hin9)); ((with_reducible (rename Fr _ _ _ _ => lF')); (with_unfolding_all refine' For_invVF lF' ?k1 ?k2 ?_; (case k1 => exact rfl); (case k2 => exact rfl))))
  k_with "pyIter ref" => ((with_reducible (rename InP 8 => hin9)); ((with_reducible (rename Fr _ _ _ _ => lF')); (with_unfolding_all refine' kst_keys (σ := Cm) (x := Str.ofString "name") (d := 43) (kvs := kvs9) (ep := ep9) (fun _ => []) (fun c => [(Str.ofString "best", .str c.b c.ub), (Str.ofString "taken", .int c.t c.ut)]) [Str.ofString "size"] (fun pre c => FoldAt x.cps.toList pre c.b c.t) ⟨_, _, _, _⟩ ?k0 ?k1 ?k2 ?km ?kF ?kN ?kk ?kp ?ht ?hz); (case kF => with_unfolding_all exact lF'); (case k0 => with_unfolding_all rfl); (case k1 => with_unfolding_all decide); (case k2 => with_unfolding_all exact has43 (prog := prog) X'); (case kN => with_unfolding_all exact News.nil); (case km => with_unfolding_all exact dictAt_keeps hda9 (Fr.keep lF')); (case kk => k_dflt (repeat (first | exact List.forall_mem_nil _ | (refine' all_cons ?zA9 ?_; (case zA9 => with_unfolding_all rfl))))); (case kp => with_unfolding_all exact fold_start _); (clear lF'); (case' ht => ((rintro ⟨b9, t9, ub9, ut9⟩ pre9 k9 tk9 u9 h9 tok9 own9 hpo9 hOff9 hP9 kF9 kN9); (have hks9 := keys_at hke9 hpo9); (try dsimp only [List.nil_append] at kN9); (try dsimp only at kF9); (try dsimp only at hP9); (have hf0 := hP9.t0); (have hf1 := hP9.le); (have hf2 := hP9.sm); (have hlx9 := len_list x))); (case' hz => ((rintro ⟨b9, t9, ub9, ut9⟩ u9 h9 tok9 hP9 kF9 kN9); (rw [hke9] at hP9); (try dsimp only at kF9); (try dsimp only at hP9); (have hm9 := fold_all hP9); (have hf0 := hP9.t0)))))
  k_with "exec While BoolOp cons nil" => ((with_reducible (rename InP 8 => hin9)); ((with_reducible (rename Fr _ _ _ _ => lF'; rename News _ _ _ _ => lN')); (with_unfolding_all refine' while_X (σ := Int × Tok) (fun _ => _) (fun c => [(Str.ofString "size", .int c.1 c.2)]) [] (fun c => LcpAt k9.cps.toList x.cps.toList c.1) (fun c => LcpIs k9.cps.toList x.cps.toList c.1) (fun c => ((k9.length : Int) - c.1).toNat) (0, _) lF' lN' ?kk (lcp_start _ _) ?hti ?hzi); (case kk => k_dflt (repeat (first | exact List.forall_mem_nil _ | (refine' all_cons ?zA9 ?_; (case zA9 => with_unfolding_all rfl))))); (clear lF' lN'); (case' hti => ((rintro ⟨e9, te9⟩ ue9 he9 tke9 hl9 kF9 kN9); (try dsimp only at hl9); (try dsimp only at kF9); (try dsimp only at kN9); (have hl1 := hl9.nn); (have hl2 := hl9.lk); (have hl3 := len_list k9); (try dsimp only))); (case' hzi => ((rintro ⟨e9, te9⟩ ue9 he9 tke9 hl9 kF9 kN9); (try dsimp only at hl9); (try dsimp only at kF9); (try dsimp only at kN9); (have hl1 := hl9.nn); (have hl2 := hl9.lk); (have hl3 := len_list k9); (try dsimp only)))))
  k_with "KswEnd" => ((with_reducible (rename InP 8 => hin9)); (refine Halt.out ?_))
  k_with "InvEndN" => ((with_reducible (rename InP 8 => hin9)); (refine Halt.out ?_))
  k_steps
  all_goals (try (with_reducible refine Halt.mk ?_))
  all_goals first
    | (refine' outW_ (_, _) ?yF ?yN ?yhn ?yk ?yr ?yp; (case yF => k_asm); (case yN => k_asm); (case yhn => exact fun _ h => h); (case yk => (repeat (first | exact List.forall_mem_nil _ | (refine' all_cons ?zA9 ?_; (case zA9 => with_unfolding_all rfl))))); (case yr => (intro z h2 h3; (simp only [List.forall_mem_cons, List.not_mem_nil, false_implies, implies_true, and_true, ne_eq] at h2); (simp only [List.contains_cons, List.contains_nil, Bool.or_false, Bool.or_eq_false_iff, beq_eq_false_iff_ne, ne_eq] at h3); (simp [h2, h3, kstB]))); (case yp => first | exact lcp_stop hl9 (by assumption) (by assumption) | exact lcp_end hl9 (by assumption)))
    | (refine' ksw_end (_, _) ?yF ?yN ?yhn trivial ?yk ?yr ?yp ?ym; (case yF => k_asm); (case yN => k_asm); (case yhn => exact fun _ h => h); (case yk => (repeat (first | exact List.forall_mem_nil _ | (refine' all_cons ?zA9 ?_; (case zA9 => with_unfolding_all rfl))))); (case yr => (intro z h2 h3; (simp only [List.forall_mem_cons, List.not_mem_nil, false_implies, implies_true, and_true, ne_eq] at h2); (simp only [List.contains_cons, List.contains_nil, Bool.or_false, Bool.or_eq_false_iff, beq_eq_false_iff_ne, ne_eq] at h3); (simp [h2, h3, kstB]))); (case yp => exact lcp_more hl9 (by assumption) (by assumption)); (case ym => exact lcp_mu hl9 (by assumption)))
    | (refine' kstT_end ⟨_, _, _, _⟩ ?yF ?yN (List.forall_mem_nil _) ?yo rfl ?yk ?yr ?yp; (case yF => k_asm); (case yN => k_asm); (case yo => exact fun _ h => h); (case yk => (repeat (first | exact List.forall_mem_nil _ | (refine' all_cons ?zA9 ?_; (case zA9 => with_unfolding_all rfl))))); (case yr => (intro z h1 h2 h3; (simp only [List.forall_mem_cons, List.not_mem_nil, false_implies, implies_true, and_true, ne_eq] at h2); (simp only [List.contains_cons, List.contains_nil, Bool.or_false, Bool.or_eq_false_iff, beq_eq_false_iff_ne, ne_eq] at h3); (simp [h1, h2, h3, kstB]))); (case yp => first | exact fold_oneY (b := b9) hP9 hl9 ⟨by assumption, by omega⟩ (by omega) rfl | exact fold_twoY (b := b9) hP9 hl9 (by omega) rfl))
    | ((rename _ < _ => l9); refine' post _ _ _ _ _ _ t9.toNat ?ym ?yl ?yd ?yf ?yN ?yk; (case yf => k_asm); (case yN => rw [show ((t9.toNat : Nat) : Int) = t9 by omega]; k_asm); (case ym => exact hm9); (case yl => exact hP9.sm); (case yk => exact keeps_end KG' (by k_asm)); (case yd => exact new_of_hidden KG' (by k_asm) (.head _) (fun a ha => nomatch ha)))
    | (refine' post _ _ _ _ _ _ t9.toNat ?ym ?yl ?yd ?yf ?yN ?yk; (case yf => k_asm); (case yN => rw [show ((t9.toNat : Nat) : Int) = t9 by omega]; k_asm); (case ym => exact hm9); (case yl => exact hP9.sm); (case yk => exact keeps_end KG' (by k_asm)); (case yd => exact new_of_hidden KG' (by k_asm) (.head _) (fun a ha => nomatch ha)))
    | (exfalso; omega)
theorem all : ∀ c : Gd × Str × Tok, P (c.1.prog) (c.1.w) (c.1.p) (c.1.loose) (c.1.mean) (c.1.mg) (c.1.mb) (c.1.dp) (c.1.gd) (c.1.un) (c.1.env) (c.1.outer) (c.1.A₀) (c.1.base) (c.1.h₀) (c.1.L) (c.1.m) (c.1.s) (c.1.Q) (c.1.E) (c.1.g') (c.1.L') (c.1.h') (c.1.tk0) (c.2.1) (c.2.2) := by with_unfolding_all exact eps_all (Nonempty.elim Gd.ne fun b => ⟨(b, default, 0)⟩) (P := fun c : Gd × Str × Tok => P (c.1.prog) (c.1.w) (c.1.p) (c.1.loose) (c.1.mean) (c.1.mg) (c.1.mb) (c.1.dp) (c.1.gd) (c.1.un) (c.1.env) (c.1.outer) (c.1.A₀) (c.1.base) (c.1.h₀) (c.1.L) (c.1.m) (c.1.s) (c.1.Q) (c.1.E) (c.1.g') (c.1.L') (c.1.h') (c.1.tk0) (c.2.1) (c.2.2)) @core
end Zlm_spec
theorem lm_spec {prog : Program} {w : World} {p : Program} {loose : List Str} {mean : ExcName → Option Value} {mg mb : Str → Option Value}
    {A : Around} {env : Env} {outer : List Env} {A₀ : Around} {base h₀ : Heap} {L : Addr} {m : Str → Option Value} {s : Shared} {Q E : Value → Shared → Prop}
    {x : Str} {ux : Tok}
    (B : Below A₀ base outer h₀) (F : Fr h₀ L s.heap m) (X : (Mine.a.heap_1_39 w.params).In h₀) (T : Top p loose mean mg mb h₀) (hA : A.frames = some (env :: outer)) (hh : A.handled = none) (hf : env.frame = some L) (hke : env.scope.kind = .function)
    (hd : A.depth + 1 < recursionLimit) (hu : A.units + 10 < cLine) (N : News h₀ L s.heap [])
    (hx : x.length < 1000)
    (post : ∀ (D : Nat) h' tk t1 t2 bS T, MatchIs x.cps.toList T bS.cps.toList → bS.length ≤ 1000 → s.heap.get? D = none → Fr h₀ L h' m → News h₀ L h' [(D, { cls := .type "tuple", data := .seq #[.str bS t1, .int (T : Int) t2] })] → Keeps [] s.heap h' → Q (.ref D) { s with heap := h', toks := tk }) : wpAny (model prog w) A (call (.ref 774) [.str x ux]) Q E s := by
  obtain ⟨hn, dp, fr, gd, un⟩ := A
  obtain rfl : fr = some (env :: outer) := hA
  obtain rfl : hn = none := hh
  dsimp only at hd hu
  refine' call_small (binds := [(Str.ofString "text", .str x ux)]) B F X N T rfl hf hke ?k6 ?k7 ?k8 ?k9 ?kB ?_ ?c2 ?c3 ?c4 ?c5
  (case k6 => k_is)
  (case k7 => k_is)
  (case k8 => k_room)
  (case k9 => first | exact BindsTo.of_eq rfl | exact binds_K (by k_in) rfl (by k_is) rfl rfl rfl)
  (case kB => exact locs rfl)
  (case c2 => exact rfl)
  (case c3 => exact rfl)
  (case c4 => exact rfl)
  (case c5 => decide)
  intro g' L' h' KG' FG' F' N' B' X' T' l1
  exact Zlm_spec.all ⟨⟨prog, w, p, loose, mean, mg, mb, dp, gd, un, env, outer, A₀, base, h₀, L, m, s, Q, E, g', L', h', s.toks + List.length ([(Str.ofString "text", .str x ux)] : List (Str × Value))⟩, x, ux⟩ (by k_is) hd hu X T hx KG' F' N' B' X' T' l1 pos_len post
section
local macro_rules | `(tactic| omega) => `(tactic| lia)
noncomputable def piecesL : List Str := [⟨#[97, 109, 112]⟩, ⟨#[65, 77]⟩, ⟨#[80]⟩, ⟨#[97, 99]⟩, ⟨#[69]⟩, ⟨#[117, 116, 101]⟩, ⟨#[97, 110, 103]⟩, ⟨#[108, 101]⟩, ⟨#[98, 110, 101]⟩, ⟨#[99, 111, 112]⟩, ⟨#[121]⟩, ⟨#[101, 97, 99, 117, 116, 101]⟩, ⟨#[102, 114, 97, 99, 49, 50]⟩, ⟨#[102, 114, 97, 99]⟩, ⟨#[49]⟩, ⟨#[103, 116]⟩, ⟨#[108, 116]⟩, ⟨#[110, 98, 115, 112]⟩, ⟨#[110, 111, 116]⟩, ⟨#[105]⟩, ⟨#[110]⟩, ⟨#[110, 105]⟩, ⟨#[112, 97, 114, 97]⟩, ⟨#[108, 108, 101, 108]⟩, ⟨#[113, 117, 111, 116]⟩, ⟨#[115, 117, 112]⟩, ⟨#[50]⟩, ⟨#[116, 105, 109, 101, 115]⟩, ⟨#[98]⟩, ⟨#[77, 111, 112, 102]⟩, ⟨#[59]⟩, ⟨#[61]⟩, ⟨#[32]⟩, ⟨#[38]⟩, ⟨#[60]⟩, ⟨#[62]⟩, ⟨#[34]⟩, ⟨#[39]⟩, ⟨#[10]⟩, ⟨#[13]⟩, ⟨#[12]⟩, ⟨#[9]⟩, ⟨#[122]⟩, ⟨#[233]⟩, ⟨#[95]⟩, ⟨#[59, 59]⟩, ⟨#[69, 97, 99, 117, 116, 101]⟩, ⟨#[0]⟩]
noncomputable def pieceAt (k : Int) : Str := piecesL.getD (k.fmod 48).toNat Str.empty
noncomputable def okB (n : Nat) : Bool := n == 0 || n == 9 || n == 10 || n == 12 || n == 13 || (decide (32 ≤ n) && decide (n < 127)) || n == 233
theorem okB_is {n : Nat} (h : okB n = true) : okc n := by
  unfold okB at h
  unfold okc
  simp only [Bool.or_eq_true, Bool.and_eq_true, beq_iff_eq, decide_eq_true_eq] at h
  omega
theorem lst767 {w : World} {h : Heap} (X : (Mine.a.heap_1_39 w.params).In h) : ∃ l, h.IsList 767 (List.toArray l) ∧ StrsAre l piecesL := ⟨_, lstK X (by k_is), KTD.strs_of_look (by decide +kernel)⟩
theorem pieces_len : piecesL.length = 48 := by decide +kernel
theorem pieces_ok : piecesL.all (fun x => decide (x.length ≤ 6) && x.cps.toList.all (fun c => okB c && c != 35)) = true := by decide +kernel
theorem piece_mem (k : Int) : pieceAt k ∈ piecesL := by
  have h0 := Int.fmod_nonneg_of_pos k (show (0 : Int) < 48 by decide)
  have h1 := Int.fmod_lt_of_pos k (show (0 : Int) < 48 by decide)
  have hl := pieces_len
  unfold pieceAt
  rw [List.getD_eq_getElem?_getD, List.getElem?_eq_getElem (by omega)]
  exact List.getElem_mem _
theorem piece_ok (k : Int) : (pieceAt k).length ≤ 6 ∧ ∀ c ∈ (pieceAt k).cps.toList, okc c ∧ c ≠ 35 := by
  have z := List.all_eq_true.mp pieces_ok _ (piece_mem k)
  simp only [Bool.and_eq_true, decide_eq_true_eq, List.all_eq_true, bne_iff_ne] at z
  exact ⟨z.1, fun c hc => ⟨okB_is (z.2 c hc).1, (z.2 c hc).2⟩⟩
section
variable {prog : Program} {w : World} {A : Around} {E : Value → Shared → Prop} {s : Shared} {t u : Tok} {Q : Value → Shared → Prop} {D : Addr} {ys : List Value} {ns : List Int}
theorem piece_item {value slice : Expr} {k : Int} (X : (Mine.a.heap_1_39 w.params).In s.heap) (h : ∀ t, Q (.str (pieceAt k) t) s)
    (hs : subscripted slice false (.ref 767) (.int (k.fmod 48) u) = operate [.ref 767, .int (k.fmod 48) u] (getItem (.ref 767) (.int (k.fmod 48) u)) := by with_unfolding_all rfl) (hg : ∀ r, letTemporaryGo value (.ref 767) r = pure () := by intro _; with_unfolding_all rfl) :
    wpAny (model prog w) A (subscriptTail value slice (.ref 767) (.int (k.fmod 48) u)) Q E s := by
  obtain ⟨l, h1, h2⟩ := lst767 X
  have h0 := Int.fmod_nonneg_of_pos k (show (0 : Int) < 48 by decide)
  have h3 := Int.fmod_lt_of_pos k (show (0 : Int) < 48 by decide)
  have hl := pieces_len
  have e : piecesL[(k.fmod 48).toNat]? = some (pieceAt k) := by
    unfold pieceAt
    rw [List.getD_eq_getElem?_getD, List.getElem?_eq_getElem (by omega)]; rfl
  obtain ⟨t, ht⟩ := h2.at e
  have hn := strs_len h2
  exact nth_list h1 h0 ht (by omega) (h t) hs hg
theorem flat_ok : ∀ ns : List Int, ((ns.map pieceAt).map fun x => x.cps.toList).flatten.length ≤ 6 * ns.length ∧ ∀ c ∈ ((ns.map pieceAt).map fun x => x.cps.toList).flatten, okc c ∧ c ≠ 35
  | [] => ⟨Nat.le_refl _, fun _ h => by simp at h⟩
  | k :: r => by
    obtain ⟨a, b⟩ := flat_ok r
    obtain ⟨c, d⟩ := piece_ok k
    have hz := len_eq (pieceAt k)
    refine ⟨?_, fun e he => ?_⟩
    · simp only [List.map_cons, List.flatten_cons, List.length_append, List.length_cons] at a ⊢
      omega
    · simp only [List.map_cons, List.flatten_cons, List.mem_append] at he
      rcases he with he | he
      · exact d e he
      · exact b e he
theorem join_pieces (hl : s.heap.IsList D ys.toArray) (hc : CarriedAll ys (ns.map fun k => PyData.str (pieceAt k))) (hn : ns.length ≤ 6) (h : ∀ tx t' k, tx.length ≤ 36 → (∀ c ∈ tx.cps.toList, okc c ∧ c ≠ 35) → Q (.str tx t') { s with toks := k }) :
    wpAny (model prog w) A (call (.builtin "str.join") [.str (Str.ofString "") t, .ref D]) Q E s := by
  have hs : StrsAre ys (ns.map pieceAt) := StrsAre.of_carried (by rw [List.map_map]; exact hc)
  obtain ⟨a, b⟩ := flat_ok ns
  refine join_texts hl hs (by omega) fun t' k => h _ t' k ?_ b
  rw [str_len]
  omega
end
noncomputable def numHeads : List Str := [Str.ofString "#", Str.ofString "#x", Str.ofString "#X"]
noncomputable def numTails : List Str := [Str.ofString "", Str.ofString ";", Str.ofString "z", Str.ofString " ", Str.ofString "&", Str.ofString "<", Str.ofString "\"", Str.ofString "=;"]
noncomputable def numS (j k : Nat) : Str := numHeads.getD j Str.empty ++ numTails.getD k Str.empty

noncomputable def EndIs (al : Value) : Prop := al = .none ∨ ∃ t, al = .str (Str.ofString "\"") t ∨ al = .str (Str.ofString "'") t ∨ al = .str (Str.ofString ">") t

noncomputable def FaultIs (f : Option Str) (fls : List Value) : Prop := (f = none ∧ fls = []) ∨ ∃ g t, f = some g ∧ fls = [.str g t]

noncomputable def alT (al : Value) (y : Str) : Bool := match al with | .str e _ => y == e | _ => false
theorem ne_al {prog : Program} {w : World} {A : Around} {E : Value → Shared → Prop} {s : Shared} {al : Value} {y : Str} {t : Tok} {Q : Value → Shared → Prop} (h : EndIs al) (k : Q (.bool (!(alT al y))) s) : wpAny (model prog w) A (compareOp .NotEq (.str y t) al) Q E s := by
  rcases h with rfl | ⟨u, rfl | rfl | rfl⟩
  · exact EqNone.ne_str_none k
  · exact ne_str k
  · exact ne_str k
  · exact ne_str k
/-- is a fault told because no name begins here? -/
noncomputable def noB (x b : Str) (al : Value) : Bool := (b == Str.ofString "") && ((x != Str.ofString "") && ((Builtin.Str.occurrences (Str.ofString "\t\n\x0c <&") (Txt.item x 0) 0 (Str.ofString "\t\n\x0c <&").length 1).isEmpty && !(alT al (Txt.item x 0))))
theorem noB_1 {x b : Str} {al : Value} (h : (b == Str.ofString "") = false) : noB x b al = false := by unfold noB; rw [h]; rfl
theorem noB_2 {x b : Str} {al : Value} (h : (x != Str.ofString "") = false) : noB x b al = false := by unfold noB; rw [h, Bool.false_and, Bool.and_false]
theorem noB_3 {x b : Str} {al : Value} (h : (Builtin.Str.occurrences (Str.ofString "\t\n\x0c <&") (Txt.item x 0) 0 (Str.ofString "\t\n\x0c <&").length 1).isEmpty = false) : noB x b al = false := by unfold noB; rw [h, Bool.false_and, Bool.and_false, Bool.and_false]
theorem noB_4 {x b : Str} {al : Value} (h : alT al (Txt.item x 0) = true) : noB x b al = false := by unfold noB; rw [h, Bool.not_true, Bool.and_false, Bool.and_false, Bool.and_false]
theorem noB_y {x b : Str} {al : Value} (h1 : (b == Str.ofString "") = true) (h2 : (x != Str.ofString "") = true) (h3 : (Builtin.Str.occurrences (Str.ofString "\t\n\x0c <&") (Txt.item x 0) 0 (Str.ofString "\t\n\x0c <&").length 1).isEmpty = true) (h4 : alT al (Txt.item x 0) = false) : noB x b al = true := by unfold noB; rw [h1, h2, h3, h4]; rfl
noncomputable def fault1 (W : Int) (x b : Str) (al : Value) : Option Str := if W < 3 then some (Str.ofString "expected-numeric-entity") else if noB x b al = true then some (Str.ofString "expected-named-entity") else none
noncomputable def taken1 (W : Int) (T : Nat) : Int := if W < 3 then (if W = 0 then 1 else 2) else T
theorem fault1_num {W : Int} {x b : Str} {al : Value} {t : Tok} (h : W < 3) : FaultIs (fault1 W x b al) [.str (Str.ofString "expected-numeric-entity") t] := .inr ⟨_, _, if_pos h, rfl⟩
theorem fault1_yes {W : Int} {x b : Str} {al : Value} {t : Tok} (h : ¬ W < 3) (k : noB x b al = true) : FaultIs (fault1 W x b al) [.str (Str.ofString "expected-named-entity") t] := .inr ⟨_, _, (if_neg h).trans (if_pos k), rfl⟩
theorem fault1_no {W : Int} {x b : Str} {al : Value} (h : ¬ W < 3) (k : noB x b al = false) : FaultIs (fault1 W x b al) [] := .inl ⟨(if_neg h).trans (if_neg (by rw [k]; exact Bool.false_ne_true)), rfl⟩

noncomputable def amp1 (x : Str) (T : Int) : Str := Str.ofString "&" ++ Txt.slice x none (some T)
noncomputable def rest1 (x b : Str) (T : Int) : Str := entV b ++ Txt.slice x (some (b.length : Int)) (some T)

noncomputable abbrev gluedS : Str := Str.ofString "abcdefghijklmnopqrstuvwxyzABCDEFGHIJKLMNOPQRSTUVWXYZ0123456789="
/-- what the law reckons: in text, in a value, the fault -/
inductive InIs (x b : Str) (T : Int) (f : Option Str) : Str → Str → Option Str → Prop
  | none : b = Str.ofString "" → InIs x b T f (amp1 x T) (amp1 x T) f
  | semi : (b == Str.ofString "") = false → (Txt.item b (-1) == Str.ofString ";") = true → InIs x b T f (rest1 x b T) (rest1 x b T) f
  | free : (b == Str.ofString "") = false → (Txt.item b (-1) == Str.ofString ";") = false → ((Txt.slice x (some (b.length : Int)) (some ((b.length : Int) + 1)) == Str.ofString "") = true ∨ (Builtin.Str.occurrences gluedS (Txt.slice x (some (b.length : Int)) (some ((b.length : Int) + 1))) 0 gluedS.length 1).isEmpty = true) → InIs x b T f (rest1 x b T) (rest1 x b T) (some (Str.ofString "named-entity-without-semicolon"))
  | glue : (b == Str.ofString "") = false → (Txt.item b (-1) == Str.ofString ";") = false → (Txt.slice x (some (b.length : Int)) (some ((b.length : Int) + 1)) == Str.ofString "") = false → (Builtin.Str.occurrences gluedS (Txt.slice x (some (b.length : Int)) (some ((b.length : Int) + 1))) 0 gluedS.length 1).isEmpty = false → InIs x b T f (rest1 x b T) (amp1 x T) (some (Str.ofString "named-entity-without-semicolon"))
theorem bne_f {a b : Str} (h : (a != b) = false) (k : (a == b) = false) : False := by unfold bne at h; rw [k] at h; cases h
theorem bne_t {a b : Str} (h : (a != b) = true) (k : (a == b) = true) : False := by unfold bne at h; rw [k] at h; cases h
theorem faultIs_some {g : Str} {t : Tok} : FaultIs (some g) [.str g t] := .inr ⟨_, _, rfl, rfl⟩

noncomputable def ErrIs (prog : Program) (w : World) (f : Option Str) (er : Nat) (es : List Value) (tks : List (Addr × Obj)) : Prop := (f = none ∧ es = [] ∧ tks = []) ∨ ∃ (g : Str) (D : Nat) (o : Obj), f = some g ∧ es = [.ref D] ∧ tks = [(D, o)] ∧ TokIs prog w o 7 g ∧ D ≠ er ∧ (D == sysModules) = false
theorem errIs_none {prog : Program} {w : World} {er : Nat} : ErrIs prog w none er [] [] := .inl ⟨rfl, rfl, rfl⟩
theorem errIs_some {prog : Program} {w : World} {g : Str} {D er : Nat} {o : Obj} (h : TokIs prog w o 7 g) (n : D ≠ er) (b : (D == sysModules) = false) : ErrIs prog w (some g) er [.ref D] [(D, o)] := .inr ⟨_, _, _, rfl, rfl, rfl, h, n, b⟩
end
theorem lines_LM1_1 : True := by
  k_with_none
  (k_with "om" => safely (((k_whole; (first | with_reducible assumption | with_reducible exact Nat.succ_ne_zero _ | with_reducible exact Nat.ne_of_gt (by with_reducible assumption) | with_reducible exact tok_ne1 | with_reducible exact tok_ne0 (by with_reducible assumption) | exact room2 (by with_reducible assumption) rfl | exact room3 (by with_reducible assumption) rfl | exact room4 (by with_reducible assumption) rfl | exact room1 (by with_reducible assumption) rfl | exact room0 (by with_reducible assumption) | with_reducible exact big_le (by with_reducible assumption) rfl | with_reducible exact big_lt (by with_reducible assumption) rfl | with_reducible exact Int.natCast_nonneg _ | with_reducible exact neg1_lt | fail "o")))))
  (k_with "room" => safely ((first | exact room2 (by with_reducible assumption) rfl | exact room3 (by with_reducible assumption) rfl | exact room4 (by with_reducible assumption) rfl | exact room1 (by with_reducible assumption) rfl | exact room0 (by with_reducible assumption) | ((try simp only [depth_under_make, depth_under_kw, depth_in1, depth_deeper, depth_caller]); omega))))
  (k_with "units" => safely ((first | exact room2 (by with_reducible assumption) rfl | exact room3 (by with_reducible assumption) rfl | exact room4 (by with_reducible assumption) rfl | exact room1 (by with_reducible assumption) rfl | exact room0 (by with_reducible assumption) | ((have hcL9Qq := cLine_is); (simp only [units_in1, units_deeper, Around.mark_units, units_caller] at *); omega))))
  (k_with "ne" => safely (((refine neN ?_; (try dsimp only); first | exact Nat.ne_of_lt (by with_reducible assumption) | exact Nat.ne_of_gt (by with_reducible assumption) | with_reducible assumption | exact Ne.symm (by with_reducible assumption) | (refine' adr_ne ?qzhQ ?qzmQ; (case qzhQ => with_reducible assumption); (case qzmQ => k_mem)) | (refine' adr_en ?qzhQ ?qzmQ; (case qzhQ => with_reducible assumption); (case qzmQ => k_mem)) | exact adr_ne2 (by with_reducible assumption) (by with_reducible assumption) (by k_mem) | exact Ne.symm (adr_ne2 (by with_reducible assumption) (by with_reducible assumption) (by k_mem)) | fail "k_ne"))))
  (k_with "mem" => safely ((first | exact mem_0 | exact mem_1 | exact mem_2 | exact mem_3 | exact mem_4 | exact mem_5 | exact mem_6 | exact mem_7 | exact mem_8 | exact mem_9 | exact mem_10 | exact mem_11 | exact mem_12 | exact mem_13 | fail "k_mem")))
  (k_with "all" => safely ((first | exact List.forall_mem_nil _ | (refine' all_cons ?qaQ ?qbQ; (case qaQ => k_ne); (case qbQ => k_all)) | exact adr_ex (by with_reducible assumption) (fun aQq haQq => by (repeat (first | exact haQq | refine List.mem_cons_of_mem _ ?_))) | fail "k_all")))
  (k_with "eval Name" => safely ((k_here; (with_reducible show wpAny _ _ (eval (Expr.Name _ _) (envOf _ _ _ _ _)) _ _ _); (with_reducible rename Fr _ _ _ _ => kFQq); k_dflt (refine' name_K kFQq ?qk1Q ?qk2Q ?qk3Q ?_ ?qk4Q ?qk5Q ?qk6Q; (case qk4Q => exact rfl); (case qk5Q => exact rfl); (case qk6Q => exact rfl); (case qk1Q => k_asm); (case qk2Q => k_asm); (case qk3Q => k_is); k_whole))))
  (k_with "getMethod ref" => safely ((k_here; k_dflt (refine' kmu_own ?qk1Q ?qk2Q ?qk3Q ?qk4Q ?qk5Q ?_; (case qk1Q => k_asm); (case qk2Q => k_asm); (case qk3Q => k_inst); (case qk4Q => k_is); (case qk5Q => k_is); k_whole))))
  (k_with "getMethod ref" => safely ((k_here; k_dflt (refine' method_inst ?qk1Q ?qk2Q ?qk3Q ?qk4Q ?qk5Q ?qk6Q ?qk7Q ?_; (case qk1Q => k_asm); (case qk2Q => k_asm); (case qk3Q => k_inst); (case qk4Q => k_is); (case qk5Q => k_is); (case qk6Q => k_is); (case qk7Q => k_get); k_whole))))
  (k_with "getMethod ref" => safely ((k_here; (with_reducible show wpAny _ _ (getMethod (Value.ref _) (Str.ofString "append") _) _ _ _); k_dflt (refine' listMethod_K ?qk1Q ?qk2Q PySem.F.slot_list_append PySem.F.type_list_append ?_; (case qk1Q => k_asm); (case qk2Q => k_mem); k_whole))))
  (k_with "getMethod ref" => safely ((k_here; (with_reducible show wpAny _ _ (getMethod (Value.ref _) (Str.ofString "pop") _) _ _ _); k_dflt (refine' kl_method ?qk1Q ?qk2Q PySem.F.slot_list_pop PySem.F.type_list_pop ?_; (case qk1Q => k_asm); (case qk2Q => k_mem); k_whole))))
  (k_with "eval Name" => safely ((k_here; (with_reducible show wpAny _ _ (eval (Expr.Name _ _) (envOf _ _ _ _ _)) _ _ _); k_dflt (refine' ld ?qk1Q ?qk2Q ?_ ?qk4Q ?qk5Q ?qk6Q; (case qk4Q => exact rfl); (case qk5Q => exact rfl); (case qk6Q => exact rfl); (case qk1Q => k_asm); (case qk2Q => exact rfl); k_whole))))
  (k_with "eval Name" => safely ((k_here; (with_reducible show wpAny _ _ (eval (Expr.Name _ _) (envOf _ _ _ _ _)) _ _ _); (with_reducible rename Fr _ _ _ _ => kFQq); k_dflt (refine' name_K kFQq ?qk1Q ?qk2Q ?qk3Q ?_ ?qk4Q ?qk5Q ?qk6Q; (case qk4Q => exact rfl); (case qk5Q => decide +kernel); (case qk6Q => decide +kernel); (case qk1Q => k_asm); (case qk2Q => k_asm); (case qk3Q => k_is); k_whole))))
  (k_with "eval Name" => safely ((k_here; (with_reducible show wpAny _ _ (eval (Expr.Name _ _) (envOf _ _ _ _ _)) _ _ _); k_dflt (refine' ld ?qk1Q ?qk2Q ?_ ?qk4Q ?qk5Q ?qk6Q; (case qk4Q => exact rfl); (case qk5Q => decide +kernel); (case qk6Q => decide +kernel); (case qk1Q => k_asm); (case qk2Q => exact rfl); k_whole))))
  (k_with "callWith" => safely (((with_reducible show wpAny _ _ (callWith _ (Value.builtin _) [_] (backTo _ (starEach (_ :: _) _)) []) _ _ _); refine PyProof.Rows.callWith_method1 ?_)))
  (k_with "call builtin:str.count" => safely ((k_here; refine call_count4 ?_)))
  (k_with "call builtin:str.rfind" => safely ((k_here; refine call_rfind4 ?_)))
  (k_with "truthy ref" => safely ((k_here; k_dflt (refine' truthy_meth ?qk1Q ?qk2Q ?_; (case qk1Q => k_asm); (case qk2Q => k_mem); k_whole))))
  (k_with "assign Tuple" => safely ((k_here; (with_reducible show wpAny _ _ (assign (Expr.Tuple _ _ _) _ (Value.ref _)) _ _ _); k_dflt (refine' unpackN_ ?qk1Q ?qk2Q ?qk3Q ?qk4Q ?qk5Q ?qk6Q ?_; (case qk1Q => k_asm); (case qk2Q => k_asm); (case qk3Q => exact News.isTup (by k_asm) (List.Mem.head _)); (case qk4Q => exact rfl); (case qk5Q => exact rfl); (case qk6Q => exact rfl); k_whole); intro hpQq FpQq NpQq; (replace NpQq := news_tail NpQq); (try k_sweep))))
  (k_with "execs cons" => safely ((k_here; (with_reducible show wpAny _ _ _ _ _ (Shared.mk _ _ _ (_ + 1) _)); refine gen_toks ?_; intro tk9Qq htk9Qq; (try k_fold))))
  (k_with "call builtin:str.replace" => safely ((k_here; (with_reducible show wpAny _ _ (call (Value.builtin "str.replace") [Value.str _ _, Value.str _ _, Value.str _ _]) _ _ _); refine SC.replaceW (by (show @Ne Nat _ _); omega) (by (show @Ne Nat _ _); omega) (by (show @Ne Nat _ _); omega) (by decide +kernel) (by first | omega | (refine Nat.le_trans (crlf_len _) ?_; omega) | decide +kernel) (by decide +kernel) ?_; intro _ _)))
  (k_with "call builtin:str.startswith" => safely ((k_here; refine sw_empty (by first | rfl | decide +kernel) ?_)))
  (k_with "subscriptTail" => safely ((k_here; (fail_if_success (with_reducible show wpAny _ _ (subscriptTail (Expr.Name _ _) _ _ _) _ _ _)); (with_reducible show wpAny _ _ (subscriptTail _ _ (Value.str _ _) _) _ _ _); k_dflt (refine PySem.W.kba_turn (value' := Expr.Name (Str.ofString "_") ⟨0, 0, 0, 0⟩) (fun _ => rfl) ?_))))
  (k_with "subscriptTail Name Attribute str int" => safely ((refine item_str (by first | exact fitsSsize_of (N := 9223372036854775808) (by omega) (by omega) (Int.le_refl _) | decide) (by omega) (by omega) ?_; intro _)))
  trivial
structure Kz7 where
  (z1 z2 z3 z4 z5 z6 z7 : Tok)
  (lf st : Nat)
noncomputable abbrev zdict7 (w : World) (Z : Kz7) (x : Nat) : Obj := dictOf [sEnt w (Str.ofString "stream") Z.z1 (.ref x), sEnt w (Str.ofString "parser") Z.z2 .none, sEnt w (Str.ofString "escapeFlag") Z.z3 (.bool false), sEnt w (Str.ofString "lastFourChars") Z.z4 (.ref Z.lf),
  sEnt w (Str.ofString "state") Z.z5 (.ref Z.st), sEnt w (Str.ofString "escape") Z.z6 (.bool false), sEnt w (Str.ofString "currentToken") Z.z7 .none] 7

theorem code_R {M : PySem.Model} {A : Around} {c : Code} {R : Result → Shared → Prop} {s : Shared} (h : codeAny M A c (fun r s' => match r with | .ok (.ret v) => R (.ok (.ret v)) s' | .ok _ => False | .error e => R (.error e) s') s) : codeAny M A c R s :=
  codeAny_mono h fun r _ k => match r, k with
    | .ok (.ret _), k => k
    | .error _, k => k
theorem ownOff_lt {D : Nat} {rest : List (Addr × Obj)} {adr : List Addr} (h : AdrLt D (rest.map (·.1))) (k : ∀ a ∈ adr, @LE.le Nat _ D a) : OwnOff rest adr := fun p hp a ha e => Nat.lt_irrefl _ (Nat.lt_of_lt_of_le (h.lt _ (List.mem_map_of_mem hp)) (e ▸ k a ha))
theorem reset_spec {prog : Program} {w : World} {p : Program} {loose : List Str} {mean : ExcName → Option Value} {mg mb : Str → Option Value}
    {A : Around} {env : Env} {outer : List Env} {A₀ : Around} {base h₀ : Heap} {L : Addr} {m : Str → Option Value} {s : Shared} {Q E : Value → Shared → Prop}
    {x sd mo nl ds : Nat} {a1 a2 a3 : Tok}
    (B : Below A₀ base outer h₀) (F : Fr h₀ L s.heap m) (X : (Mine.a.heap_1_39 w.params).In h₀) (T : Top p loose mean mg mb h₀) (hA : A.frames = some (env :: outer)) (hh : A.handled = none) (hf : env.frame = some L) (hke : env.scope.kind = .function)
    (hd : A.depth + 1 < recursionLimit) (hu : A.units + 10 < cLine) (N : News h₀ L s.heap [(x, instObj 166 sd), (sd, dictOf [sEnt w (Str.ofString "reportCharacterErrors") a1 (.ref mo), sEnt w (Str.ofString "newLines") a2 (.ref nl), sEnt w (Str.ofString "dataStream") a3 (.ref ds)] 3)])
    (o1 : sd < x)
    (post : ∀ h' tk (K : Ks) (v : Sv), mo = K.mo → ds = K.ds → (∀ tx, At tx v 0 0) → Fr h₀ L h' m → News h₀ L h' [(x, instObj 166 sd), (sd, sdict w K v)] → Keeps [x, sd] s.heap h' → Q .none { s with heap := h', toks := tk }) : wpAny (model prog w) A (call (.ref 105) [.ref x]) Q E s := by
  obtain ⟨hn, dp, fr, gd, un⟩ := A
  obtain rfl : fr = some (env :: outer) := hA
  obtain rfl : hn = none := hh
  dsimp only at hd hu
  refine' call_small (binds := [(Str.ofString "self", .ref x)]) B F X N T rfl hf hke ?k6 ?k7 ?k8 ?k9 ?kB ?_ ?c2 ?c3 ?c4 ?c5
  (case k6 => k_is)
  (case k7 => k_is)
  (case k8 => k_room)
  (case k9 => first | exact BindsTo.of_eq rfl | exact binds_K (by k_in) rfl (by k_is) rfl rfl rfl)
  (case kB => exact locs rfl)
  (case c2 => exact rfl)
  (case c3 => exact rfl)
  (case c4 => exact rfl)
  (case c5 => decide)
  intro g' L' h' KG' FG' F' N' B' X' T' l1
  clear B F N hf hke FG'
  (try dsimp only)
  (try dsimp only [sdict, tdict, sEnt] at N')
  (try k_lt l1)
  (have htk0 : 0 < s.toks + List.length ([(Str.ofString "self", .ref x)] : List (Str × Value)) := pos_len)
  (generalize (s.toks + List.length _) = tk0 at htk0 ⊢)
  (try k_fold)
  (try dsimp only [sEnt] at N')
  k_steps
  all_goals first
    | (refine' post _ _ ⟨_, _, _, _, _, _, _, _, _, _, _, _, _, _⟩ ⟨_, _, _, _, _, _, _, _, _, _, _⟩ rfl rfl ?ya ?f ?N ?k; (case f => k_asm); (case N => exact news_sub (by k_asm) (by (repeat (first | exact List.forall_mem_nil _ | (refine' sub_cons ?zA9 ?_; (case zA9 => k_mem)))))); (case k => exact keeps_end KG' (by k_asm)); (case ya => exact fun _ => .inl ⟨rfl, rfl, rfl, rfl, rfl, rfl, rfl, rfl⟩))
theorem lines_LM2_1 : True := by
  (k_with "call ref" => safely ((k_here; (with_reducible show wpAny _ _ (call (Value.ref 105) _ _) _ _ _); (refine with_toks ?_); k_dflt (refine' reset_spec  ?quBQ ?quFQ ?quXQ ?quTQ ?quAQ ?quhQ ?qufQ ?qukQ ?qudQ ?quuQ ?quNQ ?qo1Q ?_; (case quAQ => exact rfl); (case quhQ => exact rfl); (case qufQ => exact rfl); (case qukQ => exact rfl); (case quBQ => k_asm); (case quFQ => k_asm); (case quXQ => k_asm); (case quTQ => k_asm); (case quNQ => exact news_sub (by k_asm) (by (repeat (first | exact List.forall_mem_nil _ | (refine' sub_cons ?qzA9Q ?_; (case qzA9Q => k_mem)))))); (case qudQ => k_room); (case quuQ => k_units); (case qo1Q => (first | assumption | exact adr_lt (by with_reducible assumption) (by k_mem) | fail "lt")); k_whole; intro h9Qq tk9Qq K9Qq v9Qq e9Qq g9Qq hat9Qq F9Qq N9Qq K8Qq; intro ht9Qq; (have N9pQq := news_nextc (by k_asm) K8Qq N9Qq (by (repeat (first | exact Rest.nil | exact Rest.none | (refine Rest.own (by assumption) ?_; (repeat (first | exact List.forall_mem_nil _ | (refine' sub_cons ?qzA9Q ?_; (case qzA9Q => k_mem))))) | (apply Rest.skip; (focus first | exact mem_0 | exact mem_1 | exact mem_2 | exact mem_3 | exact mem_4 | exact mem_5 | exact mem_6)) | (apply Rest.keep; (focus k_all))))) (by first | exact Cat.nil | exact (Cat.cons Cat.nil) | exact (Cat.cons (Cat.cons Cat.nil)) | exact (Cat.cons (Cat.cons (Cat.cons Cat.nil))) | exact (Cat.cons (Cat.cons (Cat.cons (Cat.cons Cat.nil)))) | exact (Cat.cons (Cat.cons (Cat.cons (Cat.cons (Cat.cons Cat.nil))))) | exact (Cat.cons (Cat.cons (Cat.cons (Cat.cons (Cat.cons (Cat.cons Cat.nil)))))) | exact (Cat.cons (Cat.cons (Cat.cons (Cat.cons (Cat.cons (Cat.cons (Cat.cons Cat.nil))))))) | exact (Cat.cons (Cat.cons (Cat.cons (Cat.cons (Cat.cons (Cat.cons (Cat.cons (Cat.cons Cat.nil)))))))))); clear N9Qq K8Qq; (try dsimp only at ht9Qq); (try k_sweep); (subst e9Qq); (subst g9Qq)))))
  trivial
namespace Zstream_spec
noncomputable def P (prog : Program) (w : World) (p : Program) (loose : List Str) (mean : ExcName → Option Value) (mg : Str → Option Value) (mb : Str → Option Value) (dp : Nat) (gd : Option (List Code)) (un : Nat) (env : Env) (outer : List Env) (A₀ : Around) (base : Heap) (h₀ : Heap) (L : Addr) (m : Str → Option Value) (s : Shared) (Q : Value → Shared → Prop) (E : Value → Shared → Prop) (g' : Heap) (L' : Addr) (h' : Heap) (tk0 : Nat) (x : Nat) (sd : Nat) (tx : Str) (ut : Tok) : Prop := ∀ {fname qual : Str} {params : Arguments} {body : List Stmt} {scope : Scope} {dV kV doc pm cdv fct foc : Value} {fan fod : Option Addr} {fosl : Array (Option Value)} (hl : (Mine.a.heap_1_39 w.params).lookup 98 = some ⟨foc, fod, .func (fnOf fname qual params body scope dV kV doc pm fan cdv fct), fosl⟩) (hd : dp + 4 < recursionLimit) (hu : un + 40 < cLine) (X : (Mine.a.heap_1_39 w.params).In h₀) (T : Top p loose mean mg mb h₀) (o1 : sd < x)
    (KG' : Keeps (([(x, instObj 166 sd), (sd, emptyDict)] : List (Addr × Obj)).map (·.1)) s.heap g') (F' : Fr g' L' h' (fun y => (([(Str.ofString "self", .ref x), (Str.ofString "source", .str tx ut)] : List (Str × Value)).reverse).lookup y)) (N' : News g' L' h' [(x, instObj 166 sd), (sd, emptyDict)]) (B' : Below ⟨none, dp, some (env :: outer), gd, un⟩ base (env :: outer) g') (X' : (Mine.a.heap_1_39 w.params).In g') (T' : Top p loose mean mg mb g') (l1 : ∀ q ∈ ([(x, instObj 166 sd), (sd, emptyDict)] : List (Addr × Obj)), q.1 < L') (htk0 : 0 < tk0)
    (post : ∀ h' tk (td : Nat) (K : Ks) (v : Sv) (Kx : Kt) (ud : Tok), x < K.mo → K.mo < td → td < K.ds → At tx v 0 0 → Fr h₀ L h' m → News h₀ L h' [(x, instObj 166 sd), (sd, sdict w K v), (K.ds, instObj 73 td), (td, tdict w Kx tx ut 0 ud), (K.mo, methodObj (.ref 148) (.ref x))] → Keeps [x, sd] s.heap h' → Q .none { s with heap := h', toks := tk }), wpAny (model prog w) (Around.deeper ⟨none, dp, some (env :: outer), gd, un⟩ (envOf qual scope L' 98 cdv)) (execs body (envOf qual scope L' 98 cdv)) (leaveQ h₀ L m g' Q E) (leaveE prog w (Around.deeper ⟨none, dp, some (env :: outer), gd, un⟩ (envOf qual scope L' 98 cdv)) (envOf qual scope L' 98 cdv) E) { s with heap := h', toks := tk0 }
@[irreducible] noncomputable def c0 : Gd × Nat × Nat × Str × Tok := @Classical.epsilon _ (Nonempty.elim Gd.ne fun b => ⟨(b, 0, 0, default, 0)⟩) fun c => ¬ P (c.1.prog) (c.1.w) (c.1.p) (c.1.loose) (c.1.mean) (c.1.mg) (c.1.mb) (c.1.dp) (c.1.gd) (c.1.un) (c.1.env) (c.1.outer) (c.1.A₀) (c.1.base) (c.1.h₀) (c.1.L) (c.1.m) (c.1.s) (c.1.Q) (c.1.E) (c.1.g') (c.1.L') (c.1.h') (c.1.tk0) (c.2.1) (c.2.2.1) (c.2.2.2.1) (c.2.2.2.2)
@[irreducible] noncomputable def prog : Program := c0.1.prog
@[irreducible] noncomputable def w : World := c0.1.w
@[irreducible] noncomputable def p : Program := c0.1.p
@[irreducible] noncomputable def loose : List Str := c0.1.loose
@[irreducible] noncomputable def mean : ExcName → Option Value := c0.1.mean
@[irreducible] noncomputable def mg : Str → Option Value := c0.1.mg
@[irreducible] noncomputable def mb : Str → Option Value := c0.1.mb
@[irreducible] noncomputable def dp : Nat := c0.1.dp
@[irreducible] noncomputable def gd : Option (List Code) := c0.1.gd
@[irreducible] noncomputable def un : Nat := c0.1.un
@[irreducible] noncomputable def env : Env := c0.1.env
@[irreducible] noncomputable def outer : List Env := c0.1.outer
@[irreducible] noncomputable def A₀ : Around := c0.1.A₀
@[irreducible] noncomputable def base : Heap := c0.1.base
@[irreducible] noncomputable def h₀ : Heap := c0.1.h₀
@[irreducible] noncomputable def L : Addr := c0.1.L
@[irreducible] noncomputable def m : Str → Option Value := c0.1.m
@[irreducible] noncomputable def s : Shared := c0.1.s
@[irreducible] noncomputable def Q : Value → Shared → Prop := c0.1.Q
@[irreducible] noncomputable def E : Value → Shared → Prop := c0.1.E
@[irreducible] noncomputable def g' : Heap := c0.1.g'
@[irreducible] noncomputable def L' : Addr := c0.1.L'
@[irreducible] noncomputable def h' : Heap := c0.1.h'
@[irreducible] noncomputable def tk0 : Nat := c0.1.tk0
@[irreducible] noncomputable def x : Nat := c0.2.1
@[irreducible] noncomputable def sd : Nat := c0.2.2.1
@[irreducible] noncomputable def tx : Str := c0.2.2.2.1
@[irreducible] noncomputable def ut : Tok := c0.2.2.2.2
theorem core {fname qual : Str} {params : Arguments} {body : List Stmt} {scope : Scope} {dV kV doc pm cdv fct foc : Value} {fan fod : Option Addr} {fosl : Array (Option Value)} (hl : (Mine.a.heap_1_39 w.params).lookup 98 = some ⟨foc, fod, .func (fnOf fname qual params body scope dV kV doc pm fan cdv fct), fosl⟩) (hd : dp + 4 < recursionLimit) (hu : un + 40 < cLine) (X : (Mine.a.heap_1_39 w.params).In h₀) (T : Top p loose mean mg mb h₀) (o1 : sd < x)
    (KG' : Keeps (([(x, instObj 166 sd), (sd, emptyDict)] : List (Addr × Obj)).map (·.1)) s.heap g') (F' : Fr g' L' h' (fun y => (([(Str.ofString "self", .ref x), (Str.ofString "source", .str tx ut)] : List (Str × Value)).reverse).lookup y)) (N' : News g' L' h' [(x, instObj 166 sd), (sd, emptyDict)]) (B' : Below ⟨none, dp, some (env :: outer), gd, un⟩ base (env :: outer) g') (X' : (Mine.a.heap_1_39 w.params).In g') (T' : Top p loose mean mg mb g') (l1 : ∀ q ∈ ([(x, instObj 166 sd), (sd, emptyDict)] : List (Addr × Obj)), q.1 < L') (htk0 : 0 < tk0)
    (post : ∀ h' tk (td : Nat) (K : Ks) (v : Sv) (Kx : Kt) (ud : Tok), x < K.mo → K.mo < td → td < K.ds → At tx v 0 0 → Fr h₀ L h' m → News h₀ L h' [(x, instObj 166 sd), (sd, sdict w K v), (K.ds, instObj 73 td), (td, tdict w Kx tx ut 0 ud), (K.mo, methodObj (.ref 148) (.ref x))] → Keeps [x, sd] s.heap h' → Q .none { s with heap := h', toks := tk }) : wpAny (model prog w) (Around.deeper ⟨none, dp, some (env :: outer), gd, un⟩ (envOf qual scope L' 98 cdv)) (execs body (envOf qual scope L' 98 cdv)) (leaveQ h₀ L m g' Q E) (leaveE prog w (Around.deeper ⟨none, dp, some (env :: outer), gd, un⟩ (envOf qual scope L' 98 cdv)) (envOf qual scope L' 98 cdv) E) { s with heap := h', toks := tk0 } := by
  delta leaveQ leaveE
  refine' seg_inc hl ?hk ?_
  (case hk => k_is)
  rintro rfl rfl rfl rfl
  clear hl
  (try dsimp only)
  (try dsimp only [sdict, tdict, sEnt] at N')
  (try k_lt l1)
  (try k_fold)
  k_steps
  all_goals first
    | (refine' post _ _ _ _ _ ⟨_, _⟩ _ ?o1 ?o2 ?o3 ?ya ?f ?N ?k; (case f => k_asm); (case N => exact news_sub (by k_asm) (by (repeat (first | exact List.forall_mem_nil _ | (refine' sub_cons ?zA9 ?_; (case zA9 => k_mem)))))); (case k => exact keeps_end KG' (by k_asm)); (case ya => exact (by assumption : ∀ tx, At tx _ 0 0) _); all_goals (first | assumption | exact adr_lt (by with_reducible assumption) (by k_mem) | fail "lt"))
theorem all : ∀ c : Gd × Nat × Nat × Str × Tok, P (c.1.prog) (c.1.w) (c.1.p) (c.1.loose) (c.1.mean) (c.1.mg) (c.1.mb) (c.1.dp) (c.1.gd) (c.1.un) (c.1.env) (c.1.outer) (c.1.A₀) (c.1.base) (c.1.h₀) (c.1.L) (c.1.m) (c.1.s) (c.1.Q) (c.1.E) (c.1.g') (c.1.L') (c.1.h') (c.1.tk0) (c.2.1) (c.2.2.1) (c.2.2.2.1) (c.2.2.2.2) := by with_unfolding_all exact eps_all (Nonempty.elim Gd.ne fun b => ⟨(b, 0, 0, default, 0)⟩) (P := fun c : Gd × Nat × Nat × Str × Tok => P (c.1.prog) (c.1.w) (c.1.p) (c.1.loose) (c.1.mean) (c.1.mg) (c.1.mb) (c.1.dp) (c.1.gd) (c.1.un) (c.1.env) (c.1.outer) (c.1.A₀) (c.1.base) (c.1.h₀) (c.1.L) (c.1.m) (c.1.s) (c.1.Q) (c.1.E) (c.1.g') (c.1.L') (c.1.h') (c.1.tk0) (c.2.1) (c.2.2.1) (c.2.2.2.1) (c.2.2.2.2)) @core
end Zstream_spec
theorem stream_spec {prog : Program} {w : World} {p : Program} {loose : List Str} {mean : ExcName → Option Value} {mg mb : Str → Option Value}
    {A : Around} {env : Env} {outer : List Env} {A₀ : Around} {base h₀ : Heap} {L : Addr} {m : Str → Option Value} {s : Shared} {Q E : Value → Shared → Prop}
    {x sd : Nat} {tx : Str} {ut : Tok}
    (B : Below A₀ base outer h₀) (F : Fr h₀ L s.heap m) (X : (Mine.a.heap_1_39 w.params).In h₀) (T : Top p loose mean mg mb h₀) (hA : A.frames = some (env :: outer)) (hh : A.handled = none) (hf : env.frame = some L) (hke : env.scope.kind = .function)
    (hd : A.depth + 4 < recursionLimit) (hu : A.units + 40 < cLine) (N : News h₀ L s.heap [(x, instObj 166 sd), (sd, emptyDict)])
    (o1 : sd < x)
    (post : ∀ h' tk (td : Nat) (K : Ks) (v : Sv) (Kx : Kt) (ud : Tok), x < K.mo → K.mo < td → td < K.ds → At tx v 0 0 → Fr h₀ L h' m → News h₀ L h' [(x, instObj 166 sd), (sd, sdict w K v), (K.ds, instObj 73 td), (td, tdict w Kx tx ut 0 ud), (K.mo, methodObj (.ref 148) (.ref x))] → Keeps [x, sd] s.heap h' → Q .none { s with heap := h', toks := tk }) : codeAny (model prog w) A (.call (.ref 98) ⟨[.ref x, .str tx ut], []⟩) (fun r s' => match r with | .ok (.ret v) => Q v s' | .ok _ => False | .error e => E e s') s := by
  obtain ⟨hn, dp, fr, gd, un⟩ := A
  obtain rfl : fr = some (env :: outer) := hA
  obtain rfl : hn = none := hh
  dsimp only at hd hu
  refine' code_small (binds := [(Str.ofString "self", .ref x), (Str.ofString "source", .str tx ut)]) B F X N T rfl hf hke ?k6 ?k7 ?k8 ?k9 ?kB ?_ ?c2 ?c3 ?c4 ?c5
  (case k6 => k_is)
  (case k7 => k_is)
  (case k8 => k_room)
  (case k9 => first | exact BindsTo.of_eq rfl | exact binds_K (by k_in) rfl (by k_is) rfl rfl rfl)
  (case kB => exact locs rfl)
  (case c2 => exact rfl)
  (case c3 => exact rfl)
  (case c4 => exact rfl)
  (case c5 => decide)
  intro g' L' h' KG' FG' F' N' B' X' T' l1
  exact Zstream_spec.all ⟨⟨prog, w, p, loose, mean, mg, mb, dp, gd, un, env, outer, A₀, base, h₀, L, m, s, Q, E, g', L', h', s.toks + List.length ([(Str.ofString "self", .ref x), (Str.ofString "source", .str tx ut)] : List (Str × Value))⟩, x, sd, tx, ut⟩ (by k_is) hd hu X T o1 KG' F' N' B' X' T' l1 pos_len post
theorem stream_call {prog : Program} {w : World} {p : Program} {loose : List Str} {mean : ExcName → Option Value} {mg mb : Str → Option Value}
    {A : Around} {env : Env} {outer : List Env} {A₀ : Around} {base h₀ : Heap} {L : Addr} {m : Str → Option Value} {s : Shared} {Q E : Value → Shared → Prop}
    {tx : Str} {ut : Tok} {rest : List (Addr × Obj)}
    (B : Below A₀ base outer h₀) (F : Fr h₀ L s.heap m) (X : (Mine.a.heap_1_39 w.params).In h₀) (T : Top p loose mean mg mb h₀) (hA : A.frames = some (env :: outer)) (hh : A.handled = none) (hf : env.frame = some L) (hke : env.scope.kind = .function)
    (hd : A.depth + 6 < recursionLimit) (hu : A.units + 60 < cLine) (N : News h₀ L s.heap rest)
    (post : ∀ h' tk (x sd td : Nat) (K : Ks) (v : Sv) (Kx : Kt) (ud : Tok), sd < x → x < K.mo → K.mo < td → td < K.ds → At tx v 0 0 → AdrLt sd (rest.map (·.1)) → Fr h₀ L h' m → News h₀ L h' ((x, instObj 166 sd) :: (sd, sdict w K v) :: (K.ds, instObj 73 td) :: (td, tdict w Kx tx ut 0 ud) :: (K.mo, methodObj (.ref 148) (.ref x)) :: rest) → Q (.ref x) { s with heap := h', toks := tk }) : wpAny (model prog w) A (call (.ref 166) [.str tx ut]) Q E s := by
  obtain ⟨hn, dp, fr, gd, un⟩ := A
  obtain rfl : fr = some (env :: outer) := hA
  obtain rfl : hn = none := hh
  dsimp only at hd hu
  refine' call_cls F X N ?k4 ?k5 ?k6 ?_
  (case k4 => k_is)
  (case k5 => k_is)
  (case k6 => k_is)
  intro z zd h' F' N' l1 l2
  replace l1 := adrLt_of l1
  refine code_R ?_
  refine' stream_spec (tx := tx) (ut := ut) (x := z) (sd := zd) B F' X T ?uA ?uh ?uf ?uk ?ud ?uu ?uN ?o1 ?_
  (case uA => exact rfl)
  (case uh => exact rfl)
  (case uf => exact hf)
  (case uk => exact hke)
  (case ud => (rw [depth_under_make]; show dp + 1 + 4 < _; omega))
  (case uu => (rw [PyProof.Rows.units_under_make]; show un + 1 + 40 < _; omega))
  (case uN => exact fun p hp => N' p (by rcases List.mem_cons.mp hp with rfl | hp; exact .head _; rcases List.mem_cons.mp hp with rfl | hp; exact .tail _ (.head _); nomatch hp))
  (case o1 => exact l2)
  intro h9 tk9 td9 K9 v9 Kx9 ud9 q3 q4 q5 hat9 F9 N9 G9
  refine ⟨rfl, ?_⟩
  have l2' : @LT.lt Nat _ zd z := l2
  show Q (Value.ref z) { s with heap := h9, toks := tk9 }
  refine post h9 tk9 z zd td9 K9 v9 Kx9 ud9 l2' q3 q4 q5 hat9 l1 F9 (news_nextc (rest := rest) N' G9 N9 ?_ ?_)
  · refine Rest.skip mem_0 (Rest.skip mem_1 (Rest.own (ownOff_lt (adr := [z, zd]) l1 ?_) (fun a ha => ha)))
    exact all_cons (Nat.le_of_lt l2') (all_cons (Nat.le_refl _) (List.forall_mem_nil _))
  · first | exact Cat.nil | exact (Cat.cons Cat.nil) | exact (Cat.cons (Cat.cons Cat.nil)) | exact (Cat.cons (Cat.cons (Cat.cons Cat.nil))) | exact (Cat.cons (Cat.cons (Cat.cons (Cat.cons Cat.nil)))) | exact (Cat.cons (Cat.cons (Cat.cons (Cat.cons (Cat.cons Cat.nil))))) | exact (Cat.cons (Cat.cons (Cat.cons (Cat.cons (Cat.cons (Cat.cons Cat.nil)))))) | exact (Cat.cons (Cat.cons (Cat.cons (Cat.cons (Cat.cons (Cat.cons (Cat.cons Cat.nil))))))) | exact (Cat.cons (Cat.cons (Cat.cons (Cat.cons (Cat.cons (Cat.cons (Cat.cons (Cat.cons Cat.nil))))))))
theorem lines_LM_1 : True := by
  (k_with "call ref" => safely ((k_here; (with_reducible show wpAny _ _ (call (Value.ref 166) _ _) _ _ _); (refine with_toks ?_); k_dflt (refine' stream_call ?quBQ ?quFQ ?quXQ ?quTQ ?quAQ ?quhQ ?qufQ ?qukQ ?qudQ ?quuQ ?quNQ ?_; (case quAQ => exact rfl); (case quhQ => exact rfl); (case qufQ => exact rfl); (case qukQ => exact rfl); (case quBQ => k_asm); (case quFQ => k_asm); (case quXQ => k_asm); (case quTQ => k_asm); (case quNQ => k_asm); (case qudQ => k_room); (case quuQ => k_units); k_whole; intro h9Qq tk9Qq x9Qq sd9Qq td9Qq K9Qq v9Qq Kx9Qq ud9Qq q3Qq q4Qq q5Qq q6Qq hat9Qq l9Qq F9Qq N9Qq; intro ht9Qq; (dsimp only [List.map] at l9Qq); (have b1Qq := adr_up l9Qq q3Qq); (have b2Qq := adr_up b1Qq q4Qq); (have b3Qq := adr_up b2Qq q5Qq); (have b4Qq := adr_up b3Qq q6Qq); (try dsimp only at ht9Qq); (try k_sweep)))))
  trivial
namespace Zinit_spec
noncomputable def P (prog : Program) (w : World) (p : Program) (loose : List Str) (mean : ExcName → Option Value) (mg : Str → Option Value) (mb : Str → Option Value) (dp : Nat) (gd : Option (List Code)) (un : Nat) (env : Env) (outer : List Env) (A₀ : Around) (base : Heap) (h₀ : Heap) (L : Addr) (m : Str → Option Value) (s : Shared) (Q : Value → Shared → Prop) (E : Value → Shared → Prop) (g' : Heap) (L' : Addr) (h' : Heap) (tk0 : Nat) (z : Nat) (zd : Nat) (tx : Str) (ut : Tok) : Prop := ∀ {fname qual : Str} {params : Arguments} {body : List Stmt} {scope : Scope} {dV kV doc pm cdv fct foc : Value} {fan fod : Option Addr} {fosl : Array (Option Value)} (hl : (Mine.a.heap_1_39 w.params).lookup 261 = some ⟨foc, fod, .func (fnOf fname qual params body scope dV kV doc pm fan cdv fct), fosl⟩) (hd : dp + 7 < recursionLimit) (hu : un + 70 < cLine) (X : (Mine.a.heap_1_39 w.params).In h₀) (T : Top p loose mean mg mb h₀) (o1 : zd < z)
    (KG' : Keeps (([(z, instObj 762 zd), (zd, emptyDict)] : List (Addr × Obj)).map (·.1)) s.heap g') (F' : Fr g' L' h' (fun y => (([(Str.ofString "self", .ref z), (Str.ofString "stream", .str tx ut), (Str.ofString "parser", .none)] : List (Str × Value)).reverse).lookup y)) (N' : News g' L' h' [(z, instObj 762 zd), (zd, emptyDict)]) (B' : Below ⟨none, dp, some (env :: outer), gd, un⟩ base (env :: outer) g') (X' : (Mine.a.heap_1_39 w.params).In g') (T' : Top p loose mean mg mb g') (l1 : ∀ q ∈ ([(z, instObj 762 zd), (zd, emptyDict)] : List (Addr × Obj)), q.1 < L') (htk0 : 0 < tk0)
    (post : ∀ h' tk (x sd td : Nat) (K : Ks) (v : Sv) (Kx : Kt) (ud : Tok) (Z : Kz7), z < sd → sd < x → x < K.mo → K.mo < td → td < K.ds → At tx v 0 0 → Fr h₀ L h' m → News h₀ L h' [(z, instObj 762 zd), (zd, zdict7 w Z x), (x, instObj 166 sd), (sd, sdict w K v), (K.ds, instObj 73 td), (td, tdict w Kx tx ut 0 ud), (K.mo, methodObj (.ref 148) (.ref x))] → Keeps [z, zd] s.heap h' → Q .none { s with heap := h', toks := tk }), wpAny (model prog w) (Around.deeper ⟨none, dp, some (env :: outer), gd, un⟩ (envOf qual scope L' 261 cdv)) (execs body (envOf qual scope L' 261 cdv)) (leaveQ h₀ L m g' Q E) (leaveE prog w (Around.deeper ⟨none, dp, some (env :: outer), gd, un⟩ (envOf qual scope L' 261 cdv)) (envOf qual scope L' 261 cdv) E) { s with heap := h', toks := tk0 }
@[irreducible] noncomputable def c0 : Gd × Nat × Nat × Str × Tok := @Classical.epsilon _ (Nonempty.elim Gd.ne fun b => ⟨(b, 0, 0, default, 0)⟩) fun c => ¬ P (c.1.prog) (c.1.w) (c.1.p) (c.1.loose) (c.1.mean) (c.1.mg) (c.1.mb) (c.1.dp) (c.1.gd) (c.1.un) (c.1.env) (c.1.outer) (c.1.A₀) (c.1.base) (c.1.h₀) (c.1.L) (c.1.m) (c.1.s) (c.1.Q) (c.1.E) (c.1.g') (c.1.L') (c.1.h') (c.1.tk0) (c.2.1) (c.2.2.1) (c.2.2.2.1) (c.2.2.2.2)
@[irreducible] noncomputable def prog : Program := c0.1.prog
@[irreducible] noncomputable def w : World := c0.1.w
@[irreducible] noncomputable def p : Program := c0.1.p
@[irreducible] noncomputable def loose : List Str := c0.1.loose
@[irreducible] noncomputable def mean : ExcName → Option Value := c0.1.mean
@[irreducible] noncomputable def mg : Str → Option Value := c0.1.mg
@[irreducible] noncomputable def mb : Str → Option Value := c0.1.mb
@[irreducible] noncomputable def dp : Nat := c0.1.dp
@[irreducible] noncomputable def gd : Option (List Code) := c0.1.gd
@[irreducible] noncomputable def un : Nat := c0.1.un
@[irreducible] noncomputable def env : Env := c0.1.env
@[irreducible] noncomputable def outer : List Env := c0.1.outer
@[irreducible] noncomputable def A₀ : Around := c0.1.A₀
@[irreducible] noncomputable def base : Heap := c0.1.base
@[irreducible] noncomputable def h₀ : Heap := c0.1.h₀
@[irreducible] noncomputable def L : Addr := c0.1.L
@[irreducible] noncomputable def m : Str → Option Value := c0.1.m
@[irreducible] noncomputable def s : Shared := c0.1.s
@[irreducible] noncomputable def Q : Value → Shared → Prop := c0.1.Q
@[irreducible] noncomputable def E : Value → Shared → Prop := c0.1.E
@[irreducible] noncomputable def g' : Heap := c0.1.g'
@[irreducible] noncomputable def L' : Addr := c0.1.L'
@[irreducible] noncomputable def h' : Heap := c0.1.h'
@[irreducible] noncomputable def tk0 : Nat := c0.1.tk0
@[irreducible] noncomputable def z : Nat := c0.2.1
@[irreducible] noncomputable def zd : Nat := c0.2.2.1
@[irreducible] noncomputable def tx : Str := c0.2.2.2.1
@[irreducible] noncomputable def ut : Tok := c0.2.2.2.2
theorem core {fname qual : Str} {params : Arguments} {body : List Stmt} {scope : Scope} {dV kV doc pm cdv fct foc : Value} {fan fod : Option Addr} {fosl : Array (Option Value)} (hl : (Mine.a.heap_1_39 w.params).lookup 261 = some ⟨foc, fod, .func (fnOf fname qual params body scope dV kV doc pm fan cdv fct), fosl⟩) (hd : dp + 7 < recursionLimit) (hu : un + 70 < cLine) (X : (Mine.a.heap_1_39 w.params).In h₀) (T : Top p loose mean mg mb h₀) (o1 : zd < z)
    (KG' : Keeps (([(z, instObj 762 zd), (zd, emptyDict)] : List (Addr × Obj)).map (·.1)) s.heap g') (F' : Fr g' L' h' (fun y => (([(Str.ofString "self", .ref z), (Str.ofString "stream", .str tx ut), (Str.ofString "parser", .none)] : List (Str × Value)).reverse).lookup y)) (N' : News g' L' h' [(z, instObj 762 zd), (zd, emptyDict)]) (B' : Below ⟨none, dp, some (env :: outer), gd, un⟩ base (env :: outer) g') (X' : (Mine.a.heap_1_39 w.params).In g') (T' : Top p loose mean mg mb g') (l1 : ∀ q ∈ ([(z, instObj 762 zd), (zd, emptyDict)] : List (Addr × Obj)), q.1 < L') (htk0 : 0 < tk0)
    (post : ∀ h' tk (x sd td : Nat) (K : Ks) (v : Sv) (Kx : Kt) (ud : Tok) (Z : Kz7), z < sd → sd < x → x < K.mo → K.mo < td → td < K.ds → At tx v 0 0 → Fr h₀ L h' m → News h₀ L h' [(z, instObj 762 zd), (zd, zdict7 w Z x), (x, instObj 166 sd), (sd, sdict w K v), (K.ds, instObj 73 td), (td, tdict w Kx tx ut 0 ud), (K.mo, methodObj (.ref 148) (.ref x))] → Keeps [z, zd] s.heap h' → Q .none { s with heap := h', toks := tk }) : wpAny (model prog w) (Around.deeper ⟨none, dp, some (env :: outer), gd, un⟩ (envOf qual scope L' 261 cdv)) (execs body (envOf qual scope L' 261 cdv)) (leaveQ h₀ L m g' Q E) (leaveE prog w (Around.deeper ⟨none, dp, some (env :: outer), gd, un⟩ (envOf qual scope L' 261 cdv)) (envOf qual scope L' 261 cdv) E) { s with heap := h', toks := tk0 } := by
  delta leaveQ leaveE
  refine' seg_inc hl ?hk ?_
  (case hk => k_is)
  rintro rfl rfl rfl rfl
  clear hl
  (try dsimp only)
  (try k_lt l1)
  (try k_fold)
  k_steps
  all_goals first
    | (refine' post _ _ _ _ _ _ _ _ _ ⟨_, _, _, _, _, _, _, _, _⟩ ?o1 ?o2 ?o3 ?o4 ?o5 ?ya ?f ?N ?k; (case f => k_asm); (case N => exact news_sub (by k_asm) (by (repeat (first | exact List.forall_mem_nil _ | (refine' sub_cons ?zA9 ?_; (case zA9 => k_mem)))))); (case k => exact keeps_end KG' (by k_asm)); (case ya => assumption); all_goals (first | assumption | exact adr_lt (by with_reducible assumption) (by k_mem) | fail "lt"))
theorem all : ∀ c : Gd × Nat × Nat × Str × Tok, P (c.1.prog) (c.1.w) (c.1.p) (c.1.loose) (c.1.mean) (c.1.mg) (c.1.mb) (c.1.dp) (c.1.gd) (c.1.un) (c.1.env) (c.1.outer) (c.1.A₀) (c.1.base) (c.1.h₀) (c.1.L) (c.1.m) (c.1.s) (c.1.Q) (c.1.E) (c.1.g') (c.1.L') (c.1.h') (c.1.tk0) (c.2.1) (c.2.2.1) (c.2.2.2.1) (c.2.2.2.2) := by with_unfolding_all exact eps_all (Nonempty.elim Gd.ne fun b => ⟨(b, 0, 0, default, 0)⟩) (P := fun c : Gd × Nat × Nat × Str × Tok => P (c.1.prog) (c.1.w) (c.1.p) (c.1.loose) (c.1.mean) (c.1.mg) (c.1.mb) (c.1.dp) (c.1.gd) (c.1.un) (c.1.env) (c.1.outer) (c.1.A₀) (c.1.base) (c.1.h₀) (c.1.L) (c.1.m) (c.1.s) (c.1.Q) (c.1.E) (c.1.g') (c.1.L') (c.1.h') (c.1.tk0) (c.2.1) (c.2.2.1) (c.2.2.2.1) (c.2.2.2.2)) @core
end Zinit_spec
theorem init_spec {prog : Program} {w : World} {p : Program} {loose : List Str} {mean : ExcName → Option Value} {mg mb : Str → Option Value}
    {A : Around} {env : Env} {outer : List Env} {A₀ : Around} {base h₀ : Heap} {L : Addr} {m : Str → Option Value} {s : Shared} {Q E : Value → Shared → Prop}
    {z zd : Nat} {tx : Str} {ut : Tok}
    (B : Below A₀ base outer h₀) (F : Fr h₀ L s.heap m) (X : (Mine.a.heap_1_39 w.params).In h₀) (T : Top p loose mean mg mb h₀) (hA : A.frames = some (env :: outer)) (hh : A.handled = none) (hf : env.frame = some L) (hke : env.scope.kind = .function)
    (hd : A.depth + 7 < recursionLimit) (hu : A.units + 70 < cLine) (N : News h₀ L s.heap [(z, instObj 762 zd), (zd, emptyDict)])
    (o1 : zd < z)
    (post : ∀ h' tk (x sd td : Nat) (K : Ks) (v : Sv) (Kx : Kt) (ud : Tok) (Z : Kz7), z < sd → sd < x → x < K.mo → K.mo < td → td < K.ds → At tx v 0 0 → Fr h₀ L h' m → News h₀ L h' [(z, instObj 762 zd), (zd, zdict7 w Z x), (x, instObj 166 sd), (sd, sdict w K v), (K.ds, instObj 73 td), (td, tdict w Kx tx ut 0 ud), (K.mo, methodObj (.ref 148) (.ref x))] → Keeps [z, zd] s.heap h' → Q .none { s with heap := h', toks := tk }) : codeAny (model prog w) A (.call (.ref 261) ⟨[.ref z, .str tx ut], []⟩) (fun r s' => match r with | .ok (.ret v) => Q v s' | .ok _ => False | .error e => E e s') s := by
  obtain ⟨hn, dp, fr, gd, un⟩ := A
  obtain rfl : fr = some (env :: outer) := hA
  obtain rfl : hn = none := hh
  dsimp only at hd hu
  refine' code_small (binds := [(Str.ofString "self", .ref z), (Str.ofString "stream", .str tx ut), (Str.ofString "parser", .none)]) B F X N T rfl hf hke ?k6 ?k7 ?k8 ?k9 ?kB ?_ ?c2 ?c3 ?c4 ?c5
  (case k6 => k_is)
  (case k7 => k_is)
  (case k8 => k_room)
  (case k9 => first | exact BindsTo.of_eq rfl | exact binds_K (by k_in) rfl (by k_is) rfl rfl rfl)
  (case kB => exact locs rfl)
  (case c2 => exact rfl)
  (case c3 => exact rfl)
  (case c4 => exact rfl)
  (case c5 => decide)
  intro g' L' h' KG' FG' F' N' B' X' T' l1
  exact Zinit_spec.all ⟨⟨prog, w, p, loose, mean, mg, mb, dp, gd, un, env, outer, A₀, base, h₀, L, m, s, Q, E, g', L', h', s.toks + List.length ([(Str.ofString "self", .ref z), (Str.ofString "stream", .str tx ut), (Str.ofString "parser", .none)] : List (Str × Value))⟩, z, zd, tx, ut⟩ (by k_is) hd hu X T o1 KG' F' N' B' X' T' l1 pos_len post
theorem lines_MK_1 : True := by
  (k_with "room" => safely ((first | omega | decide | ((try simp only [depth_under_make, depth_under_kw, depth_in1, depth_deeper, depth_caller]); first | omega | decide))))
  (k_with "units" => safely ((first | omega | decide | ((have hcL9Qq := cLine_is); (simp only [units_in1, units_deeper, Around.mark_units, units_caller] at *); omega))))
  trivial
noncomputable abbrev tokLed (w : World) (z zd x sd td : Nat) (K : Ks) (v : Sv) (Kx : Kt) (tx : Str) (ut : Tok) (d : Int) (ud : Tok) (zo : Obj) (rest : List (Addr × Obj)) : List (Addr × Obj) := (z, instObj 762 zd) :: (zd, zo) :: (x, instObj 166 sd) :: (sd, sdict w K v) :: (K.ds, instObj 73 td) :: (td, tdict w Kx tx ut d ud) :: (K.mo, methodObj (.ref 148) (.ref x)) :: rest
section
variable {zd z sd x mo td ds q : Nat} {rest : List (Addr × Obj)}
theorem off7 (l : AdrLt zd (rest.map (·.1))) (q1 : zd < z) (q2 : z < sd) (q3 : sd < x) (q4 : x < mo) (q5 : mo < td) (q6 : td < ds) : OwnOff rest [z, zd, x, sd, ds, td, mo] := ownOff_lt l (by
  have a := Nat.lt_trans q1 q2
  have b := Nat.lt_trans a q3
  have c := Nat.lt_trans b q4
  have d := Nat.lt_trans c q5
  have e := Nat.lt_trans d q6
  exact all_cons (Nat.le_of_lt q1) (all_cons (Nat.le_refl _) (all_cons (Nat.le_of_lt b) (all_cons (Nat.le_of_lt a) (all_cons (Nat.le_of_lt e) (all_cons (Nat.le_of_lt d) (all_cons (Nat.le_of_lt c) (List.forall_mem_nil _))))))))
theorem off8 (l : AdrLt zd (rest.map (·.1))) (q1 : zd < z) (q2 : z < sd) (q3 : sd < x) (q4 : x < mo) (q5 : mo < td) (q6 : td < ds) (q7 : ds < q) : OwnOff rest [z, zd, q, x, sd, ds, td, mo] := ownOff_lt l (by
  have a := Nat.lt_trans q1 q2
  have b := Nat.lt_trans a q3
  have c := Nat.lt_trans b q4
  have d := Nat.lt_trans c q5
  have e := Nat.lt_trans d q6
  exact all_cons (Nat.le_of_lt q1) (all_cons (Nat.le_refl _) (all_cons (Nat.le_of_lt (Nat.lt_trans e q7)) (all_cons (Nat.le_of_lt b) (all_cons (Nat.le_of_lt a) (all_cons (Nat.le_of_lt e) (all_cons (Nat.le_of_lt d) (all_cons (Nat.le_of_lt c) (List.forall_mem_nil _)))))))))
end
theorem mk_spec {prog : Program} {w : World} {p : Program} {loose : List Str} {mean : ExcName → Option Value} {mg mb : Str → Option Value}
    {A : Around} {env : Env} {outer : List Env} {A₀ : Around} {base h₀ : Heap} {L : Addr} {m : Str → Option Value} {s : Shared} {Q E : Value → Shared → Prop}
    {tx : Str} {ut : Tok} {rest : List (Addr × Obj)}
    (B : Below A₀ base outer h₀) (F : Fr h₀ L s.heap m) (X : (Mine.a.heap_1_39 w.params).In h₀) (T : Top p loose mean mg mb h₀) (hA : A.frames = some (env :: outer)) (hh : A.handled = none) (hf : env.frame = some L) (hke : env.scope.kind = .function)
    (hd : A.depth + 10 < recursionLimit) (hu : A.units + 80 < cLine) (N : News h₀ L s.heap rest)
    (post : ∀ h' tk (z zd x sd td : Nat) (K : Ks) (v : Sv) (Kx : Kt) (ud : Tok) (Z : Kz7), zd < z → z < sd → sd < x → x < K.mo → K.mo < td → td < K.ds → At tx v 0 0 → AdrLt zd (rest.map (·.1)) → OwnOff rest [z, zd, x, sd, K.ds, td, K.mo] → Fr h₀ L h' m → News h₀ L h' (tokLed w z zd x sd td K v Kx tx ut 0 ud (zdict7 w Z x) rest) → Q (.ref z) { s with heap := h', toks := tk }) : wpAny (model prog w) A (call (.ref 762) [.str tx ut]) Q E s := by
  obtain ⟨hn, dp, fr, gd, un⟩ := A
  obtain rfl : fr = some (env :: outer) := hA
  obtain rfl : hn = none := hh
  dsimp only at hd hu
  refine' call_cls F X N ?k4 ?k5 ?k6 ?_
  (case k4 => k_is)
  (case k5 => k_is)
  (case k6 => k_is)
  intro z zd h' F' N' l1 l2
  replace l1 := adrLt_of l1
  refine code_R ?_
  refine' init_spec (tx := tx) (ut := ut) (z := z) (zd := zd) B F' X T ?uA ?uh ?uf ?uk ?ud ?uu ?uN ?o1 ?_
  (case uA => exact rfl)
  (case uh => exact rfl)
  (case uf => exact hf)
  (case uk => exact hke)
  (case ud => (rw [depth_under_make]; show dp + 1 + 7 < _; omega))
  (case uu => (rw [PyProof.Rows.units_under_make]; show un + 1 + 70 < _; omega))
  (case uN => exact fun p hp => N' p (by rcases List.mem_cons.mp hp with rfl | hp; exact .head _; rcases List.mem_cons.mp hp with rfl | hp; exact .tail _ (.head _); nomatch hp))
  (case o1 => exact l2)
  intro h9 tk9 x9 sd9 td9 K9 v9 Kx9 ud9 Z9 q1 q2 q3 q4 q5 hat9 F9 N9 G9
  refine ⟨rfl, ?_⟩
  have l2' : @LT.lt Nat _ zd z := l2
  show Q (Value.ref z) { s with heap := h9, toks := tk9 }
  refine post h9 tk9 z zd x9 sd9 td9 K9 v9 Kx9 ud9 Z9 l2' q1 q2 q3 q4 q5 hat9 l1 (off7 l1 l2' q1 q2 q3 q4 q5) F9 (news_nextc (rest := rest) N' G9 N9 ?_ ?_)
  · refine Rest.skip mem_0 (Rest.skip mem_1 (Rest.own (ownOff_lt (adr := [z, zd]) l1 ?_) (fun a ha => ha)))
    exact all_cons (Nat.le_of_lt l2') (all_cons (Nat.le_refl _) (List.forall_mem_nil _))
  · first | exact Cat.nil | exact (Cat.cons Cat.nil) | exact (Cat.cons (Cat.cons Cat.nil)) | exact (Cat.cons (Cat.cons (Cat.cons Cat.nil))) | exact (Cat.cons (Cat.cons (Cat.cons (Cat.cons Cat.nil)))) | exact (Cat.cons (Cat.cons (Cat.cons (Cat.cons (Cat.cons Cat.nil))))) | exact (Cat.cons (Cat.cons (Cat.cons (Cat.cons (Cat.cons (Cat.cons Cat.nil)))))) | exact (Cat.cons (Cat.cons (Cat.cons (Cat.cons (Cat.cons (Cat.cons (Cat.cons Cat.nil))))))) | exact (Cat.cons (Cat.cons (Cat.cons (Cat.cons (Cat.cons (Cat.cons (Cat.cons (Cat.cons Cat.nil))))))))
theorem news_cat {h₀ h : Heap} {L : Addr} {a b c : List (Addr × Obj)} (N : News h₀ L h a) (M : News h₀ L h b) (C : Cat a b c) : News h₀ L h c := C.eq ▸ fun p hp => (List.mem_append.mp hp).elim (N p) (M p)
theorem binds_at {P : FuncData → Prop} {look : Option Obj} {oc' : Value} {od' : Option Addr} {fd' : FuncData} {osl' : Array (Option Value)} (h2 : look = some ⟨oc', od', .func fd', osl'⟩) (k : P fd') : ∀ oc od fd osl, look = some ⟨oc, od, .func fd, osl⟩ → P fd := by
  intro oc od fd osl h
  rw [h2] at h
  injection h with h
  injection h with _ _ h _
  injection h with h
  exact h ▸ k
theorem cat_app {α : Type} : ∀ {a b : List α}, Cat a b (a ++ b)
  | [], _ => .nil
  | _ :: _, _ => .cons cat_app
theorem endIs_ok {al : Value} (h : EndIs al) : AlOk al := by
  rcases h with rfl | ⟨t, rfl | rfl | rfl⟩
  · exact .inl rfl
  · exact .inr ⟨_, _, rfl⟩
  · exact .inr ⟨_, _, rfl⟩
  · exact .inr ⟨_, _, rfl⟩
theorem ce_text {prog : Program} {w : World} {p : Program} {loose : List Str} {mean : ExcName → Option Value} {mg mb : Str → Option Value}
    {A : Around} {env : Env} {A₀ : Around} {h₀ : Heap} {L : Addr} {m : Str → Option Value} {s : Shared} {Q E : Value → Shared → Prop}
    {z zd x sd td : Nat} {Z : Kz} {qs : Array Value} {qn : Nat} {al : Value} {K : Ks} {v : Sv} {Kx : Kt} {tx : Str} {ux ud : Tok} {d : Int} {i : Nat} {rest : List (Addr × Obj)}
    (B : Below A₀ h₀ [] h₀) (F : Fr h₀ L s.heap m) (X : (Mine.a.heap_1_39 w.params).In h₀) (T : Top p loose mean mg mb h₀) (hA : A.frames = some [env]) (hh : A.handled = none) (hf : env.frame = some L) (hke : env.scope.kind = .function)
    (hd : A.depth + 12 < recursionLimit) (hu : A.units + 90 < cLine)
    (N : News h₀ L s.heap ((Z.q, listOf qs qn) :: tokLed w z zd x sd td K v Kx tx ux d ud (zdict w Z x .none) rest))
    (p0 : zd < z) (p1 : z < sd) (o1 : sd < x) (o2 : x < K.mo) (o3 : K.mo < td) (o4 : td < K.ds) (p3 : K.ds < Z.q) (hoff : OwnOff rest [z, zd, Z.q, x, sd, K.ds, td, K.mo]) (hq : qs.size < 1000) (hal : EndIs al) (hnum : (MM tx)[i]? = some 35 → NoNum tx i) (hx : tx.length < 1000) (hok : ∀ c ∈ tx.cps.toList, okc c) (hat : At tx v d i)
    (post : ∀ h' tk T b f out tks qi D2 o2 n' v' d' ud', CeIs (RR tx i) al false T b f out → At tx v' d' (i + T) → TkIs prog w qs Z.q [] f tks qi → TokIs prog w o2 1 out → (D2 == sysModules) = false → Fr h₀ L h' m → News h₀ L h' ((Z.q, listOf (qi.push (.ref D2)) n') :: tokLed w z zd x sd td K v' Kx tx ux d' ud' (zdict w Z x .none) ((D2, o2) :: (tks ++ rest))) → Q .none { s with heap := h', toks := tk }) :
    wpAny (model prog w) A (call (.ref 283) [.ref z, al]) Q E s := by
  refine ce_spec (fa := false) (ct := .none) (ex := []) (e0 := 0) (e1 := 0) (e2 := 0) (e3 := 0) (ne := 0) (nf := 0) (tn := 0) (uv := 0) (oc := emptyDict) (nm := Str.empty) (vl := Str.empty) (x := x) (sd := sd) (td := td) (K := K) (v := v) (Kx := Kx) (tx := tx) (ux := ux) (ud := ud) (d := d) (i := i) (Z := Z) (qs := qs) (qn := qn)
    B F X T X T ktsDicts_nil hA hh hf hke hd hu ?uN p0 p1 p3 hq (endIs_ok hal) rfl ?hbi ?hoff (fun h => nomatch h) hnum o1 o2 o3 o4 hx hok hat ?pt (fun _ _ _ _ _ _ _ _ _ _ _ _ _ _ h => nomatch h)
  (case uN => exact news_sub N (by (repeat (first | exact List.forall_mem_nil _ | (refine' sub_cons ?zA9 ?_; (case zA9 => k_mem)) | exact (fun p hp => by (repeat (first | exact hp | refine List.mem_cons_of_mem _ ?_)))))))
  (case hbi =>
    refine' binds_at (P := fun fd => BindsTo s fd ⟨[.ref z, al], []⟩ [(Str.ofString "self", .ref z), (Str.ofString "allowedChar", al), (Str.ofString "fromAttribute", .bool false)]) ?a ?b
    (case a => k_is)
    (case b => exact binds_K (X.keeps F.keep) rfl (by k_is) rfl rfl rfl))
  (case hoff => exact fun _ h => nomatch h)
  (case pt =>
    intro h' tk T b f out tks qi D2 o2 n' v' d' ud' _ hce hat' htk hto hnm h₁ a9
    obtain ⟨F', N', R'⟩ := After.home a9
    have N2 := R' _ rest N (by (repeat (first | exact Rest.nil | exact Rest.none | (refine Rest.own (by assumption) ?_; (repeat (first | exact List.forall_mem_nil _ | (refine' sub_cons ?zA9 ?_; (case zA9 => k_mem))))) | (apply Rest.skip; (focus first | exact mem_0 | exact mem_1 | exact mem_2 | exact mem_3 | exact mem_4 | exact mem_5 | exact mem_6 | exact mem_7)) | (apply Rest.keep; (focus k_all)))))
    refine post h' tk T b f out tks qi D2 o2 n' v' d' ud' hce hat' htk hto hnm.1 F' (news_cat N' N2 ?_)
    rw [List.append_nil]
    refine Cat.cons (Cat.cons (Cat.cons (Cat.cons (Cat.cons (Cat.cons (Cat.cons (Cat.cons (Cat.cons ?_))))))))
    exact cat_app)
section
local macro_rules | `(tactic| omega) => `(tactic| lia)
theorem names_letter : nL.all (fun k => match k with | c :: _ => lettersL.contains c | [] => false) = true := by decide +kernel
theorem names_no10 : nL.all (fun k => k.all fun c => c != 10) = true := by decide +kernel
theorem taken_0 {r : List Nat} (h : ∀ c, r.head? = some c → lettersL.contains c = false) : takenN r = 0 := by
  rcases taken_is r with z | ⟨k, hk, z⟩
  · exact z
  · have q := List.all_eq_true.mp names_letter k hk
    cases k with
    | nil => cases q
    | cons d k =>
      cases r with
      | nil => rw [← z]; rfl
      | cons c r =>
        rw [← z, lcp]
        split
        · rename_i e
          have := h c rfl
          rw [e] at this
          dsimp only at q
          rw [this] at q
          cases q
        · rfl
theorem best_0 {r : List Nat} (h : takenN r = 0) : bestN r = [] := List.length_eq_zero_iff.mp (by have := best_len r; omega)
theorem taken_no10 (r : List Nat) : ∀ c ∈ r.take (takenN r), c ≠ 10 := by
  obtain ⟨k, hk, hp⟩ := taken_names (r := r)
  intro c hc
  have q := List.all_eq_true.mp (List.all_eq_true.mp names_no10 k hk) c (hp.subset hc)
  simpa using q
theorem cps6 : (Str.ofString "\t\n\x0c <&").cps.toList = [9, 10, 12, 32, 60, 38] := by decide +kernel
theorem cpsG : gluedS.cps.toList = lettersL ++ (digitsL ++ [61]) := by decide +kernel
theorem okc_lt {c : Nat} (h : okc c) : c < 234 := by unfold okc at h; omega
theorem signs6_at {c : Nat} (_ : okc c) : (Builtin.Str.occurrences (Str.ofString "\t\n\x0c <&") ⟨#[c]⟩ 0 (Str.ofString "\t\n\x0c <&").length 1).isEmpty = !(c == 9 || c == 10 || c == 12 || c == 32 || c == 60 || c == 38) := by
  rw [PyProof.Rows.empty_one, cps6]
  refine congrArg (! ·) (Bool.eq_iff_iff.mpr ?_)
  simp only [decide_eq_true_eq, List.mem_cons, List.not_mem_nil, or_false, Bool.or_eq_true, beq_iff_eq, or_assoc]
theorem sg61 (c : Nat) : ((⟨#[c]⟩ : Str) == Str.ofString "=") = decide (c = 61) := by
  rw [show Str.ofString "=" = (⟨#[61]⟩ : Str) by decide +kernel]
  refine Bool.eq_iff_iff.mpr (by simp)
theorem signsG_at {c : Nat} (_ : okc c) : (Builtin.Str.occurrences gluedS ⟨#[c]⟩ 0 gluedS.length 1).isEmpty = !(lettersL.contains c || (digitsL.contains c || ((⟨#[c]⟩ : Str) == Str.ofString "="))) := by
  rw [PyProof.Rows.empty_one, cpsG, sg61]
  refine congrArg (! ·) (Bool.eq_iff_iff.mpr ?_)
  simp only [decide_eq_true_eq, List.mem_append, List.mem_singleton, Bool.or_eq_true, List.contains_iff_mem]
theorem slice_none (x : Str) (n : Nat) : Txt.slice x none (some (n : Int)) = ⟨(x.cps.toList.take n).toArray⟩ := by
  have e : Txt.slice x none (some (n : Int)) = Txt.slice x (some ((0 : Nat) : Int)) (some (n : Int)) := by
    unfold Txt.slice
    have : Builtin.Str.strSliceIndices none (some (n : Int)) 1 x.length = Builtin.Str.strSliceIndices (some ((0 : Nat) : Int)) (some (n : Int)) 1 x.length := by
      have h0 : max (0 : Int) (min 0 (x.length : Int)) = 0 := by omega
      simp [Builtin.Str.strSliceIndices, h0]
    rw [this]
  rw [e, slice_nat, List.drop_zero, Nat.sub_zero]
theorem slice_td (x : Str) (a b : Nat) : Txt.slice x (some (a : Int)) (some (b : Int)) = ⟨((x.cps.toList.take b).drop a).toArray⟩ := by
  rw [slice_nat, List.drop_take]
theorem slice_one {x : Str} (n : Nat) : Txt.slice x (some (n : Int)) (some ((n : Int) + 1)) = ⟨((x.cps.toList.drop n).take 1).toArray⟩ := by
  have := slice_nat x n (n + 1)
  rw [show n + 1 - n = 1 by omega] at this
  exact this
theorem amp_is (x : Str) (T : Nat) : amp1 x (T : Int) = ampS (x.cps.toList.take T) := by unfold amp1 ampS; rw [slice_none]
theorem rest_is (x b : Str) (T : Nat) : rest1 x b (T : Int) = entV b ++ ⟨((x.cps.toList.take T).drop b.length).toArray⟩ := by unfold rest1; rw [slice_td]
theorem alT_is {al : Value} {c : Nat} : alT al ⟨#[c]⟩ = alIs al c := by
  cases al with
  | str e t =>
    show ((⟨#[c]⟩ : Str) == e) = (e == ⟨#[c]⟩)
    rw [Bool.eq_iff_iff]; simp only [beq_iff_eq]; exact ⟨Eq.symm, Eq.symm⟩
  | _ => rfl
theorem alIs_endIs {al : Value} {c : Nat} (h : EndIs al) (k : alIs al c = true) : c = 34 ∨ c = 39 ∨ c = 62 := by
  have key : ∀ (e : Str) (d : Nat), e = ⟨#[d]⟩ → (e == (⟨#[c]⟩ : Str)) = true → c = d := fun e d he q => by
    rw [he] at q
    have q := eq_of_beq q
    injection q with q
    injection q with q
    injection q with q
    exact q.symm
  rcases h with rfl | ⟨t, rfl | rfl | rfl⟩
  · cases k
  · exact .inl (key _ 34 (by decide +kernel) k)
  · exact .inr (.inl (key _ 39 (by decide +kernel) k))
  · exact .inr (.inr (key _ 62 (by decide +kernel) k))
theorem first_item {x : Str} {c : Nat} (h : x.cps.toList[0]? = some c) : Txt.item x 0 = ⟨#[c]⟩ := item_at (i := 0) h
theorem str_empty {x : Str} : (x == Str.ofString "") = decide (x.cps.toList = []) := by
  rw [show Str.ofString "" = (⟨#[]⟩ : Str) by decide +kernel]
  by_cases h : x.cps.toList = []
  · rw [decide_eq_true h]
    have : x = ⟨x.cps.toList.toArray⟩ := (mk_list x).symm
    rw [this, h]
    decide +kernel
  · rw [decide_eq_false h]
    refine beq_eq_false_iff_ne.mpr fun e => h ?_
    rw [e]
theorem letters_not : [35, 9, 10, 12, 32, 13, 60, 38, 34, 39, 62].all (fun c => !lettersL.contains c) = true := by decide +kernel
theorem letters_at {c : Nat} (h : c ∈ [35, 9, 10, 12, 32, 13, 60, 38, 34, 39, 62]) : lettersL.contains c = false := by
  have := List.all_eq_true.mp letters_not c h
  rwa [Bool.not_eq_true'] at this
theorem spaces_in : spacesL.all (fun c => [35, 9, 10, 12, 32, 13, 60, 38, 34, 39, 62].contains c) = true := by decide +kernel
theorem stop_letters {r : List Nat} {al : Value} (hal : EndIs al) (h : StopIs r al) : ∀ c, r.head? = some c → lettersL.contains c = false := by
  intro c hc
  rcases h with rfl | ⟨d, t, rfl, q⟩
  · cases hc
  · obtain rfl : d = c := Option.some.inj hc
    refine letters_at ?_
    rcases q with q | q | q
    · exact List.contains_iff_mem.mp (List.all_eq_true.mp spaces_in d (List.contains_iff_mem.mp q))
    · rcases (Bool.or_eq_true _ _).mp q with q | q
      · rw [eq_of_beq q]; exact List.contains_iff_mem.mp rfl
      · rw [eq_of_beq q]; exact List.contains_iff_mem.mp rfl
    · rcases alIs_endIs hal q with rfl | rfl | rfl
      · exact List.contains_iff_mem.mp rfl
      · exact List.contains_iff_mem.mp rfl
      · exact List.contains_iff_mem.mp rfl
/-- what is known of the text behind & -/
structure TextIs (x : Str) (r : List Nat) : Prop where
  is : x.cps.toList = r
  ok : ∀ c ∈ r, okc c ∧ c ≠ 13
theorem noB_stop {x b : Str} {r : List Nat} {al : Value} (hx : TextIs x r) (h : StopIs r al) : noB x b al = false := by
  rcases h with rfl | ⟨c, t, rfl, q⟩
  · refine noB_2 ?_
    unfold bne
    rw [str_empty, hx.is]
    rfl
  · have h0 : Txt.item x 0 = ⟨#[c]⟩ := first_item (by rw [hx.is]; rfl)
    have hc := hx.ok c (.head _)
    rcases q with q | q | q
    · refine noB_3 ?_
      rw [h0, signs6_at hc.1]
      have : c ∈ spacesL := List.contains_iff_mem.mp q
      simp only [spacesL, List.mem_cons, List.not_mem_nil, or_false] at this
      rcases this with rfl | rfl | rfl | rfl | rfl
      · rfl
      · rfl
      · rfl
      · rfl
      · exact absurd rfl hc.2
    · refine noB_3 ?_
      rw [h0, signs6_at hc.1]
      simp only [Bool.or_eq_true, beq_iff_eq] at q
      rcases q with rfl | rfl <;> rfl
    · refine noB_4 ?_
      rw [h0, alT_is]; exact q
theorem noB_go {x b : Str} {r : List Nat} {c : Nat} {al : Value} (hx : TextIs x r) (hb : b.cps.toList = []) (hc : r[0]? = some c) (h : ¬ StopIs r al) : noB x b al = true := by
  have h0 : Txt.item x 0 = ⟨#[c]⟩ := first_item (by rw [hx.is]; exact hc)
  obtain ⟨t, rfl⟩ : ∃ t, r = c :: t := by
    cases r with
    | nil => cases hc
    | cons d t => exact ⟨t, by rw [show d = c from Option.some.inj hc]⟩
  refine noB_y ?_ ?_ ?_ ?_
  · rw [str_empty, hb]; rfl
  · unfold bne
    rw [str_empty, hx.is]
    rfl
  · rw [h0, signs6_at (hx.ok c (.head _)).1]
    have a1 : spacesL.contains c = false := Bool.eq_false_iff.mpr fun q => h (.inr ⟨c, t, rfl, .inl q⟩)
    have a2 : (c == 60 || c == 38) = false := Bool.eq_false_iff.mpr fun q => h (.inr ⟨c, t, rfl, .inr (.inl q)⟩)
    have a3 : ¬ c ∈ spacesL := fun q => by rw [List.contains_iff_mem.mpr q] at a1; cases a1
    simp only [spacesL, List.mem_cons, List.not_mem_nil, or_false, not_or] at a3
    simp only [Bool.or_eq_false_iff, beq_eq_false_iff_ne] at a2
    simp only [Bool.not_eq_true', Bool.or_eq_false_iff, beq_eq_false_iff_ne]
    exact ⟨⟨⟨⟨⟨a3.1, a3.2.1⟩, a3.2.2.1⟩, a3.2.2.2.1⟩, a2.1⟩, a2.2⟩
  · rw [h0, alT_is]
    exact Bool.eq_false_iff.mpr fun q => h (.inr ⟨c, t, rfl, .inr (.inr q)⟩)
theorem b_nil {b : Str} (h : b.cps.toList = []) : b = Str.ofString "" := by
  have := str_empty (x := b)
  rw [h] at this
  exact eq_of_beq this
theorem b_one {b : Str} (h : b.cps.toList ≠ []) : (b == Str.ofString "") = false := by rw [str_empty]; exact decide_eq_false h
/-- after the name: does it glue? -/
theorem after_is {x : Str} {r : List Nat} (hx : TextIs x r) (n : Nat) : gluedAt r n = (!(Txt.slice x (some (n : Int)) (some ((n : Int) + 1)) == Str.ofString "") && !(Builtin.Str.occurrences gluedS (Txt.slice x (some (n : Int)) (some ((n : Int) + 1))) 0 gluedS.length 1).isEmpty) := by
  rw [slice_one, hx.is, str_empty]
  cases h : r[n]? with
  | none =>
    rw [glued_none h, List.drop_eq_nil_of_le (by exact List.getElem?_eq_none_iff.mp h)]
    rfl
  | some c =>
    obtain ⟨hl, e⟩ := List.getElem?_eq_some_iff.mp h
    rw [glued_some h, List.drop_eq_getElem_cons hl, e]
    show _ = (!decide ([c] = []) && !(Builtin.Str.occurrences gluedS ⟨#[c]⟩ 0 gluedS.length 1).isEmpty)
    rw [signsG_at (hx.ok c (List.mem_of_getElem? h)).1, Bool.not_not]
    rfl

theorem ce_law {x b : Str} {r : List Nat} {T : Nat} {al : Value} {it iv : Str} {fo : Option Str} (hx : TextIs x r) (h35 : ∀ c ∈ r, c ≠ 35) (hal : EndIs al) (hm : MatchIs r T b.cps.toList)
    (hI : InIs x b (T : Int) (if noB x b al = true then some (Str.ofString "expected-named-entity") else none) it iv fo) {fa : Bool} {T' : Nat} {b' : List Nat} {f : Option Str} {out : Str} (hc : CeIs r al fa T' b' f out) :
    f = fo ∧ T' = T ∧ out = (if fa = true then iv else it) := by
  have hbs : (⟨b.cps.toList.toArray⟩ : Str) = b := mk_list b
  have hra : ∀ T, amp1 x ((T : Nat) : Int) = ampS (r.take T) := fun T => by rw [amp_is, hx.is]
  have hrr : rest1 x b (T : Int) = entV b ++ ⟨((r.take T).drop b.length).toArray⟩ := by rw [rest_is, hx.is]
  have hlb : b.cps.toList.length = b.length := len_list b
  cases hc with
  | stop hs =>
    have ht : takenN r = 0 := taken_0 (stop_letters hal hs)
    have hT : T = 0 := hm.ht.trans ht
    have hb0 : b.cps.toList = [] := hm.hb.trans (best_0 ht)
    rw [noB_stop hx hs, if_neg Bool.false_ne_true] at hI
    have he : amp1 x (T : Int) = Str.ofString "&" := by rw [hra, hT, List.take_zero]; decide +kernel
    cases hI with
    | none _ => exact ⟨rfl, hT.symm, by rw [he]; split <;> rfl⟩
    | semi h _ => rw [b_nil hb0] at h; exact absurd h (by decide +kernel)
    | free h _ _ => rw [b_nil hb0] at h; exact absurd h (by decide +kernel)
    | glue h _ _ _ => rw [b_nil hb0] at h; exact absurd h (by decide +kernel)
  | hash _ h1 _ _ => exact absurd rfl (h35 35 (List.mem_of_getElem? h1))
  | no c _ h1 h2 h3 h4 =>
    have hT : T = T' := hm.ht.trans h4.ht.symm
    have hb0 : b.cps.toList = [] := hm.hb.trans h4.hb.symm
    rw [noB_go hx hb0 h1 h2, if_pos rfl] at hI
    cases hI with
    | none _ => exact ⟨rfl, hT.symm, by rw [hra, hT]; split <;> rfl⟩
    | semi h _ => rw [b_nil hb0] at h; exact absurd h (by decide +kernel)
    | free h _ _ => rw [b_nil hb0] at h; exact absurd h (by decide +kernel)
    | glue h _ _ _ => rw [b_nil hb0] at h; exact absurd h (by decide +kernel)
  | semi _ _ h1 h2 h3 =>
    have hT : T = T' := hm.ht.trans h1.ht.symm
    have hb' : b' = b.cps.toList := h1.hb.trans hm.hb.symm
    subst hb'
    rw [hbs] at h3 ⊢
    have hn : noB x b al = false := noB_1 (b_one h2)
    rw [hn, if_neg Bool.false_ne_true] at hI
    cases hI with
    | none h => exact absurd (by rw [h]; decide +kernel) h2
    | semi _ _ => exact ⟨rfl, hT.symm, by rw [hrr, ← hlb, ← hT]; split <;> rfl⟩
    | free _ h _ => rw [h3] at h; exact absurd h (by decide +kernel)
    | glue _ h _ _ => rw [h3] at h; exact absurd h (by decide +kernel)
  | bare _ _ _ h1 h2 h3 h4 =>
    have hT : T = T' := hm.ht.trans h1.ht.symm
    have hb' : b' = b.cps.toList := h1.hb.trans hm.hb.symm
    subst hb'
    rw [hbs] at h3 h4
    have hg := after_is hx b.length
    rw [hlb] at h4
    cases hI with
    | none h => exact absurd (by rw [h]; decide +kernel) h2
    | semi _ h => exact absurd (eq_of_beq h) h3
    | free _ _ h =>
      refine ⟨rfl, hT.symm, ?_⟩
      have hf : gluedAt r b.length = false := by
        rw [hg]
        rcases h with h | h <;> rw [h] <;> simp
      rw [h4, hf, if_neg (fun q => Bool.false_ne_true q.2), hrr, ← hT]
      split <;> rfl
    | glue _ _ h h' =>
      refine ⟨rfl, hT.symm, ?_⟩
      have hf : gluedAt r b.length = true := by rw [hg, h, h']; rfl
      rw [h4, hf, hrr, hra, ← hT]
      cases fa <;> rfl

/-- the 24 texts with a number sign -/
noncomputable def numOk (j k : Nat) : Bool := ((MM (numS j k))[0]? == some 35) && ((numS j k).cps.toList.all (fun c => okB c) && (decide ((numS j k).length ≤ 36) && (match (MM (numS j k))[1]? with
  | none => j == 0
  | some c => !digitsL.contains c && (([120, 88].contains c == !(j == 0)) && (c != 10 && (match (MM (numS j k))[2]? with | none => true | some d => !hexL.contains d))))))
theorem num_all : (List.range 3).all (fun j => (List.range 8).all fun k => numOk j k) = true := by decide +kernel
theorem num_at {j k : Nat} (hj : j < 3) (hk : k < 8) : numOk j k = true := List.all_eq_true.mp (List.all_eq_true.mp num_all j (List.mem_range.mpr hj)) k (List.mem_range.mpr hk)
structure NumIs (tx : Str) (j : Nat) : Prop where
  h0 : (MM tx)[0]? = some 35
  ok : ∀ c ∈ tx.cps.toList, okc c
  len : tx.length ≤ 36
  h1 : ∀ c, (MM tx)[1]? = some c → digitsL.contains c = false ∧ ([120, 88].contains c = true ↔ j ≠ 0) ∧ c ≠ 10
  hn : (MM tx)[1]? = none → j = 0
  h2 : ∀ c d, (MM tx)[1]? = some c → (MM tx)[2]? = some d → hexL.contains d = false
theorem num_is {j k : Nat} (hj : j < 3) (hk : k < 8) : NumIs (numS j k) j := by
  have h := num_at hj hk
  unfold numOk at h
  rw [Bool.and_eq_true, Bool.and_eq_true, Bool.and_eq_true] at h
  obtain ⟨a, b, c, d⟩ := h
  refine ⟨eq_of_beq a, fun x hx => okB_is (List.all_eq_true.mp b x hx), of_decide_eq_true c, fun x hx => ?_, fun hx => ?_, fun x y hx hy => ?_⟩
  · rw [hx] at d
    dsimp only at d
    rw [Bool.and_eq_true, Bool.and_eq_true, Bool.and_eq_true] at d
    obtain ⟨d1, d2, d3, _⟩ := d
    refine ⟨by simpa using d1, ?_, by simpa using d3⟩
    rw [eq_of_beq d2]
    simp
  · rw [hx] at d
    exact eq_of_beq d
  · rw [hx, hy] at d
    dsimp only at d
    rw [Bool.and_eq_true, Bool.and_eq_true, Bool.and_eq_true] at d
    simpa using d.2.2.2
theorem num_no {tx : Str} {j : Nat} (h : NumIs tx j) : NoNum tx 0 := ⟨fun c hc => (h.h1 c (by simpa using hc)).1, fun c d hc _ hd => h.h2 c d (by simpa using hc) (by simpa using hd)⟩
theorem num_law {tx x b : Str} {j T : Nat} {al : Value} {it iv : Str} {fo : Option Str} (hn : NumIs tx j) (hj : j < 3) (hx : x.cps.toList = MM tx) (hal : EndIs al) (hm : MatchIs x.cps.toList T b.cps.toList)
    {Tn : Nat} (hT : Tn = if j = 0 then 1 else 2) (hI : InIs x b (Tn : Int) (some (Str.ofString "expected-numeric-entity")) it iv fo) {fa : Bool} {T' : Nat} {b' : List Nat} {f : Option Str} {out : Str} (hc : CeIs (MM tx) al fa T' b' f out) :
    f = fo ∧ T' = Tn ∧ out = (if fa = true then iv else it) := by
  have hhd : ∀ c, (MM tx).head? = some c → lettersL.contains c = false := fun c hc => by
    have := hn.h0
    rw [← List.head?_eq_getElem?, hc] at this
    rw [Option.some.inj this]
    decide +kernel
  have ht : takenN (MM tx) = 0 := taken_0 hhd
  have hb0 : b.cps.toList = [] := by rw [hm.hb, hx]; exact best_0 ht
  have hra : ∀ T, amp1 x ((T : Nat) : Int) = ampS ((MM tx).take T) := fun T => by rw [amp_is, hx]
  have hb9 : ∀ {T b}, MatchIs (MM tx) T b → b ≠ [] → False := fun h q => q (h.hb.trans (best_0 ht))
  cases hc with
  | stop hs =>
    exfalso
    rcases hs with q | ⟨c, t, q, z⟩
    · have := hn.h0; rw [q] at this; cases this
    · have := hn.h0
      rw [q] at this
      obtain rfl : c = 35 := Option.some.inj this
      rcases z with z | z | z
      · revert z; decide +kernel
      · revert z; decide +kernel
      · have := alIs_endIs hal z; omega
  | hash _ h1 h2 h3 =>
    have hTT : T' = Tn := by
      rw [hT]
      cases q : (MM tx)[1]? with
      | none =>
        rw [if_pos (hn.hn q)]
        rcases h2 with h2 | h2
        · exact h2
        · obtain ⟨c, hc, _⟩ := h3.mp h2
          rw [q] at hc; cases hc
      | some c =>
        obtain ⟨_, hx1, _⟩ := hn.h1 c q
        split
        · rename_i e
          rcases h2 with h2 | h2
          · exact h2
          · obtain ⟨d, hd, hd2⟩ := h3.mp h2
            rw [q] at hd
            cases hd
            exact absurd e (hx1.mp hd2)
        · rename_i e
          exact h3.mpr ⟨c, q, hx1.mpr e⟩
    cases hI with
    | none _ => exact ⟨rfl, hTT, by rw [hra, hTT]; split <;> rfl⟩
    | semi h _ => rw [b_nil hb0] at h; exact absurd h (by decide +kernel)
    | free h _ _ => rw [b_nil hb0] at h; exact absurd h (by decide +kernel)
    | glue h _ _ _ => rw [b_nil hb0] at h; exact absurd h (by decide +kernel)
  | no c _ h1 _ h3 _ => exact absurd (Option.some.inj (h1.symm.trans hn.h0)) h3
  | semi _ _ h1 h2 _ => exact absurd h2 (hb9 h1)
  | bare _ _ _ h1 h2 _ _ => exact absurd h2 (hb9 h1)

/-- what the law has reckoned is what consumeEntity tells -/
structure LawIs (tx x : Str) (al : Value) (Tn : Nat) (fo : Option Str) (it iv : Str) : Prop where
  mm : x.cps.toList = MM tx
  len : tx.length ≤ 36
  ok : ∀ c ∈ tx.cps.toList, okc c
  end_ : EndIs al
  num : (MM tx)[0]? = some 35 → NoNum tx 0
  line : ∀ c ∈ (MM tx).take Tn, c ≠ 10
  ce : ∀ {fa T' b' f out}, CeIs (RR tx 0) al fa T' b' f out → f = fo ∧ T' = Tn ∧ out = (if fa = true then iv else it)
theorem law_len {tx x : Str} {al : Value} {Tn : Nat} {fo : Option Str} {it iv : Str} (h : LawIs tx x al Tn fo it iv) : x.length ≤ 36 := by
  have h1 := mm_len tx
  rw [← len_list, h.mm]
  exact Nat.le_trans h1 h.len
theorem at_zero {tx : Str} {v : Sv} {d : Int} {i : Nat} (h : At tx v d (0 + i)) : At tx v d i := by rw [Nat.zero_add] at h; exact h
section
variable {prog : Program} {w : World} {A : Around} {E : Value → Shared → Prop} {s : Shared} {Q : Value → Shared → Prop} {h₀ : Heap} {L : Addr} {news tks tE ex : List (Addr × Obj)} {q r er D2 Dn nq n2 lo : Nat} {i2 qi : Array Value} {o2 on : Obj} {it : Str} {t3 t4 : Tok} {fo : Option Str} {es : List Value}
theorem queue_tk (N : News h₀ L s.heap news) (hq : (q, listOf (qi.push (.ref D2)) nq) ∈ news) (hr : (r, listOf i2 n2) ∈ news) (htk : TkIs prog w #[] lo ex fo tks qi) (her : ErrIs prog w fo er es tE) (e2 : i2 = (es ++ [Value.ref Dn]).toArray) (hk : ∀ p ∈ tks, p ∈ news) (he : ∀ p ∈ tE, p ∈ news) (p2 : (D2, o2) ∈ news) (pn : (Dn, on) ∈ news)
    (hto : TokIs prog w o2 1 it) (hd : on.IsDictOf (PySem.strKind prog w) (tokKv 1 t3 it t4)) (m2 : (D2 == sysModules) = false) (mn : (Dn == sysModules) = false) (hl : 0 < lo) (hu : A.units + 1 < cLine) (h : Q (.bool false) s) : wpAny (model prog w) A (compareOp .NotEq (.ref q) (.ref r)) Q E s := by
  obtain ⟨tt, uu, hd2⟩ := hto
  rcases htk with ⟨rfl, rfl, rfl⟩ | ⟨g, D, o, rfl, rfl, rfl, ⟨t8, u8, hd8⟩, hlo, -⟩
  · rcases her with ⟨_, rfl, rfl⟩ | ⟨_, _, _, e, _⟩
    · exact queue_1 N hq hr rfl e2 p2 pn hd2 hd m2 mn hu h
    · cases e
  · rcases her with ⟨e, _⟩ | ⟨g', D', o', e, rfl, rfl, ⟨t9, u9, hd9⟩, hne, hnm9⟩
    · cases e
    · injection e with e
      subst e
      exact queue_2 N hq hr rfl e2 (hk _ (.head _)) (he _ (.head _)) p2 pn hd8 hd9 hd2 hd (not_mods (Nat.lt_of_le_of_lt hl hlo)) hnm9 m2 mn hu h
theorem errs_fit {v : Value} (h : ErrIs prog w fo er es tE) : es.toArray.toList.length + (#[v] : Array Value).toList.length ≤ sizeLine := by
  rcases h with ⟨_, rfl, _⟩ | ⟨_, _, _, _, rfl, _⟩ <;> exact Nat.le_of_ble_eq_true rfl
theorem queue_tk0 (N : News h₀ L s.heap news) (hq : (q, listOf qi nq) ∈ news) (hr : (r, listOf i2 n2) ∈ news) (htk : TkIs prog w #[] lo ex fo tks qi) (her : ErrIs prog w fo er es tE) (e2 : i2 = es.toArray) (hk : ∀ p ∈ tks, p ∈ news) (he : ∀ p ∈ tE, p ∈ news) (hl : 0 < lo) (hu : A.units + 1 < cLine) (h : Q (.bool false) s) : wpAny (model prog w) A (compareOp .NotEq (.ref q) (.ref r)) Q E s := by
  rcases htk with ⟨rfl, rfl, rfl⟩ | ⟨g, D, o, rfl, rfl, rfl, ⟨t8, u8, hd8⟩, hlo, -⟩
  · rcases her with ⟨_, rfl, rfl⟩ | ⟨_, _, _, e, _⟩
    · exact queue_0 N hq hr rfl e2 (Nat.lt_of_succ_lt hu) h
    · cases e
  · rcases her with ⟨e, _⟩ | ⟨g', D', o', e, rfl, rfl, ⟨t9, u9, hd9⟩, hne, hnm9⟩
    · cases e
    · injection e with e
      subst e
      exact queue_1 N hq hr rfl e2 (hk _ (.head _)) (he _ (.head _)) hd8 hd9 (not_mods (Nat.lt_of_le_of_lt hl hlo)) hnm9 hu h
end
end
theorem take_all (l : List Nat) : l.takeWhile (runP [] false) = l := by
  induction l with
  | nil => rfl
  | cons c l ih =>
    rw [List.takeWhile_cons, if_pos (by rfl), ih]
theorem cu_rest {prog : Program} {w : World} {p : Program} {loose : List Str} {mean : ExcName → Option Value} {mg mb : Str → Option Value}
    {A : Around} {env : Env} {outer : List Env} {A₀ : Around} {base h₀ : Heap} {L : Addr} {m : Str → Option Value} {s : Shared} {Q E : Value → Shared → Prop}
    {x sd td ca : Nat} {K : Ks} {v : Sv} {Kx : Kt} {tx : Str} {ux ud : Tok} {d : Int} {i : Nat}
    (B : Below A₀ base outer h₀) (F : Fr h₀ L s.heap m) (X : (Mine.a.heap_1_39 w.params).In h₀) (T : Top p loose mean mg mb h₀) (hA : A.frames = some (env :: outer)) (hh : A.handled = none) (hf : env.frame = some L) (hke : env.scope.kind = .function)
    (hd : A.depth + 8 < recursionLimit) (hu : A.units + 60 < cLine) (N : News h₀ L s.heap [(x, instObj 166 sd), (sd, sdict w K v), (K.ds, instObj 73 td), (td, tdict w Kx tx ux d ud), (K.mo, methodObj (.ref 148) (.ref x))])
    (ht : IsTup s.heap ca #[]) (hca : ca ∉ [x, sd, K.ds, td, K.mo]) (o1 : sd < x) (o2 : x < K.mo) (o3 : K.mo < td) (o4 : td < K.ds) (hx : tx.length < 1000) (hok : ∀ c ∈ tx.cps.toList, okc c) (hat : At tx v d i)
    (post : ∀ h' tk t y v' d' ud', y = ⟨((MM tx).drop i).toArray⟩ → Fr h₀ L h' m → News h₀ L h' [(x, instObj 166 sd), (sd, sdict w K v'), (K.ds, instObj 73 td), (td, tdict w Kx tx ux d' ud'), (K.mo, methodObj (.ref 148) (.ref x))] → Keeps [x, sd, K.ds, td, K.mo] s.heap h' → Q (.str y t) { s with heap := h', toks := tk }) :
    wpAny (model prog w) A (call (.ref 156) [.ref x, .ref ca]) Q E s := by
  refine cu_spec (cs := []) (op := false) (ca := ca) (i := i) B F X T hA hh hf hke hd hu N ?hbi ⟨_, ht, .nil⟩ hca o1 o2 o3 o4 hx hok hat (fun h' tk t y v' d' ud' hy _ F' N' K' => post h' tk t y v' d' ud' (by rw [hy, runL, take_all]) F' N' K')
  refine' binds_at (P := fun fd => BindsTo s fd ⟨[.ref x, .ref ca], []⟩ [(Str.ofString "self", .ref x), (Str.ofString "characters", .ref ca), (Str.ofString "opposite", .bool false)]) ?a ?b
  (case a => k_is)
  (case b => exact binds_K (X.keeps F.keep) rfl (by k_is) rfl rfl rfl)
theorem rest_same {tx x : Str} {al : Value} {Tn : Nat} {fo : Option Str} {it iv : Str} {v : Sv} {d : Int} (h : LawIs tx x al Tn fo it iv) (hat : At tx v d Tn) : (⟨((MM tx).drop Tn).toArray⟩ : Str) = Txt.slice x (some (Tn : Int)) none := by
  have hl := hat.le
  rw [slice_from (by omega) (by rw [← len_list, h.mm]; omega), h.mm]
  rfl
theorem off_ex {zd z q x sd ds td mo e1 e2 e3 : Nat} {o1 o2 o3 : Obj} (q1 : zd < z) (q2 : z < sd) (q3 : sd < x) (q4 : x < mo) (q5 : mo < td) (q6 : td < ds) (q7 : ds < q) (r1 : q < e1) (r2 : e1 < e3) (r3 : e3 < e2) : OwnOff [(e1, o1), (e2, o2), (e3, o3)] [z, zd, q, x, sd, ds, td, mo] := by
  intro p hp a ha
  have hp : @LT.lt Nat _ q p.1 := by
    rcases List.mem_cons.mp hp with rfl | hp
    · exact r1
    · rcases List.mem_cons.mp hp with rfl | hp
      · exact Nat.lt_trans r1 (Nat.lt_trans r2 r3)
      · rcases List.mem_cons.mp hp with rfl | hp
        · exact Nat.lt_trans r1 r2
        · exact nomatch hp
  have c1 := Nat.lt_trans q6 q7
  have c2 := Nat.lt_trans q5 c1
  have c3 := Nat.lt_trans q4 c2
  have c4 := Nat.lt_trans q3 c3
  have c5 := Nat.lt_trans q2 c4
  have c6 := Nat.lt_trans q1 c5
  have k : ∀ a ∈ [z, zd, q, x, sd, ds, td, mo], @LE.le Nat _ a q := all_cons (Nat.le_of_lt c5) (all_cons (Nat.le_of_lt c6) (all_cons (Nat.le_refl _) (all_cons (Nat.le_of_lt c3) (all_cons (Nat.le_of_lt c4) (all_cons (Nat.le_of_lt q7) (all_cons (Nat.le_of_lt c1) (all_cons (Nat.le_of_lt c2) (List.forall_mem_nil _))))))))
  have ha : @LE.le Nat _ a q := k a ha
  exact Nat.ne_of_gt (Nat.lt_of_le_of_lt ha hp)
theorem ce_attr {prog : Program} {w : World} {p : Program} {loose : List Str} {mean : ExcName → Option Value} {mg mb : Str → Option Value}
    {A : Around} {env : Env} {A₀ : Around} {h₀ : Heap} {L : Addr} {m : Str → Option Value} {s : Shared} {Q E : Value → Shared → Prop}
    {z zd x sd td : Nat} {Z : Kz} {qs : Array Value} {qn : Nat} {al : Value} {K : Ks} {v : Sv} {Kx : Kt} {tx : Str} {ux ud : Tok} {d : Int} {i : Nat} {e0 e1 e2 e3 ne nf : Nat} {un uv : Tok} {nm vl : Str} {oc : Obj} {rest : List (Addr × Obj)}
    (B : Below A₀ h₀ [] h₀) (F : Fr h₀ L s.heap m) (X : (Mine.a.heap_1_39 w.params).In h₀) (T : Top p loose mean mg mb h₀) (hA : A.frames = some [env]) (hh : A.handled = none) (hf : env.frame = some L) (hke : env.scope.kind = .function)
    (hd : A.depth + 12 < recursionLimit) (hu : A.units + 90 < cLine)
    (N : News h₀ L s.heap ((Z.q, listOf qs qn) :: tokLed w z zd x sd td K v Kx tx ux d ud (zdict w Z x (.ref e1)) ((e1, oc) :: (e2, listOf #[.ref e0, .ref e3] ne) :: (e3, listOf #[.str nm un, .str vl uv] nf) :: rest)))
    (p0 : zd < z) (p1 : z < sd) (o1 : sd < x) (o2 : x < K.mo) (o3 : K.mo < td) (o4 : td < K.ds) (p3 : K.ds < Z.q) (hoff : OwnOff rest [z, zd, Z.q, x, sd, K.ds, td, K.mo, e1, e2, e3]) (r1 : Z.q < e1) (r2 : e1 < e3) (r3 : e3 < e2) (hvl : vl.length < 1000) (hoc : oc.IsDictOf (PySem.strKind prog w) [(Str.ofString "data", .ref e2)]) (hq : qs.size < 1000) (hal : EndIs al) (hnum : (MM tx)[i]? = some 35 → NoNum tx i) (hx : tx.length < 1000) (hok : ∀ c ∈ tx.cps.toList, okc c) (hat : At tx v d i)
    (post : ∀ h' tk T b f out tks qi n' nf' v' d' ud' uz, CeIs (RR tx i) al true T b f out → At tx v' d' (i + T) → TkIs prog w qs Z.q [(e1, oc), (e2, listOf #[.ref e0, .ref e3] ne), (e3, listOf #[.str nm un, .str vl uv] nf)] f tks qi → Fr h₀ L h' m → News h₀ L h' ((Z.q, listOf qi n') :: tokLed w z zd x sd td K v' Kx tx ux d' ud' (zdict w Z x (.ref e1)) ((e1, oc) :: (e2, listOf #[.ref e0, .ref e3] ne) :: (e3, listOf #[.str nm un, .str (vl ++ out) uz] nf') :: (tks ++ rest))) → Q .none { s with heap := h', toks := tk }) :
    wpAny (model prog w) A (call (.ref 283) [.ref z, al, .bool true]) Q E s := by
  refine ce_spec (fa := true) (ct := .ref e1) (ex := [(e1, oc), (e2, listOf #[.ref e0, .ref e3] ne), (e3, listOf #[.str nm un, .str vl uv] nf)]) (e0 := e0) (e1 := e1) (e2 := e2) (e3 := e3) (ne := ne) (nf := nf) (tn := un) (uv := uv) (oc := oc) (nm := nm) (vl := vl) (x := x) (sd := sd) (td := td) (K := K) (v := v) (Kx := Kx) (tx := tx) (ux := ux) (ud := ud) (d := d) (i := i) (Z := Z) (qs := qs) (qn := qn)
    B F X T X T ktsDicts_nil hA hh hf hke hd hu ?uN p0 p1 p3 hq (endIs_ok hal) rfl ?hbi (off_ex p0 p1 o1 o2 o3 o4 p3 r1 r2 r3) (fun _ => ⟨rfl, rfl, r1, r2, r3, hvl, hoc⟩) hnum o1 o2 o3 o4 hx hok hat (fun _ _ _ _ _ _ _ _ _ _ _ _ _ _ h => nomatch h) ?pt
  (case uN => exact news_sub N (by (repeat (first | exact List.forall_mem_nil _ | (refine' sub_cons ?zA9 ?_; (case zA9 => k_mem)) | exact (fun p hp => by (repeat (first | exact hp | refine List.mem_cons_of_mem _ ?_)))))))
  (case hbi =>
    refine' binds_at (P := fun fd => BindsTo s fd ⟨[.ref z, al, .bool true], []⟩ [(Str.ofString "self", .ref z), (Str.ofString "allowedChar", al), (Str.ofString "fromAttribute", .bool true)]) ?a ?b
    (case a => k_is)
    (case b => first | exact BindsTo.of_eq rfl | exact binds_K (X.keeps F.keep) rfl (by k_is) rfl rfl rfl))
  (case pt =>
    intro h' tk T b f out tks qi n' nf' v' d' ud' uv' _ hce hat' htk h₁ a9
    obtain ⟨F', N', R'⟩ := After.home a9
    have N2 := R' _ rest N (by (repeat (first | exact Rest.nil | exact Rest.none | (refine Rest.own (by assumption) ?_; (repeat (first | exact List.forall_mem_nil _ | (refine' sub_cons ?zA9 ?_; (case zA9 => k_mem))))) | (apply Rest.skip; (focus first | exact mem_0 | exact mem_1 | exact mem_2 | exact mem_3 | exact mem_4 | exact mem_5 | exact mem_6 | exact mem_7 | exact mem_8 | exact mem_9 | exact mem_10)) | (apply Rest.keep; (focus k_all)))))
    refine post h' tk T b f out tks qi n' nf' v' d' ud' uv' hce hat' htk F' (news_cat N' N2 ?_)
    refine Cat.cons (Cat.cons (Cat.cons (Cat.cons (Cat.cons (Cat.cons (Cat.cons (Cat.cons (Cat.cons (Cat.cons (Cat.cons ?_))))))))))
    exact cat_app)
section
local macro_rules | `(tactic| k_lt $h:ident) => `(tactic| (replace $h := allLt_of $h; k_dflt (repeat (obtain ⟨q9, $h:ident⟩ := $h:ident; (try dsimp only at q9))); (try k_dflt (obtain ⟨⟩ := $h:ident))))
theorem lines_LA1_1 : True := by
  (k_with "execs cons" => safely ((k_here; (with_reducible show wpAny _ _ _ _ _ (Shared.mk _ _ _ (_ + 1) _)); refine gen_toks ?_; intro tk9Qq htk9Qq)))
  trivial

theorem lines_LA1_2 : True := by
  (k_with "eval ListComp" => safely ((k_here; (k_dflt (refine LCg.ListComp_U (F₀ := by k_asm) (by with_unfolding_all rfl) (by decide) (by rfl) (by decide) (by rfl) ?_)))))
  (k_with "CompSrc" => safely ((k_here; (k_dflt (refine LCg.CompSrc.ledger (by rfl) (by k_asm) (by k_asm) (by k_mem) (by kcf_size) ?_; intro gpQq; (refine' kct_list pieceAt (by first | assumption | l_ints) (fun kpQq tpQq IpQq oIpQq CpQq oCpQq DpQq mpQq yspQq hpQq tkpQq EpQq hkpQq hCpQq hxpQq FpQq NpQq offpQq nepQq => ?_) ?_); (all_goals (try (simp only [LCg.Off3, and_true] at offpQq))); (all_goals (try ((show KPfMark → _); intro hMarkpQq))); kcf_last)))))
  (k_with "subscriptTail Name BinOp ref int" => safely ((k_here; (with_reducible show wpAny _ _ (subscriptTail _ _ (Value.ref 767) (Value.int _ _)) _ _ _); k_dflt (refine' piece_item ?qXQ ?_ ?qsQ ?qgQ; (case qXQ => k_in); (case qsQ => with_unfolding_all rfl); (case qgQ => (intro _; with_unfolding_all rfl)); k_whole); intro t9Qq)))
  (k_with "KCtEl" => safely ((refine' kct_el ?qy1Q ?qy2Q ?qy3Q; (case qy1Q => exact rfl); (case qy2Q => with_unfolding_all rfl); (case qy3Q => with_unfolding_all rfl))))
  (k_with "call builtin:str.join" => safely ((k_here; (with_reducible show wpAny _ _ (call (Value.builtin "str.join") [Value.str _ _, Value.ref _]) _ _ _); (with_reducible rename CarriedAll _ (List.map _ _) => ktCQq); k_dflt (refine' join_pieces ?qlQ ktCQq ?qnQ ?_; (case qlQ => first | assumption | exact News.isList (by k_asm) (by k_mem)); (case qnQ => (simp only [List.length_take]; omega)); k_whole); intro tx9Qq t9Qq k9Qq hx9Qq hok9Qq)))
  trivial
namespace Zlaw_a1
noncomputable def P (prog : Program) (w : World) (p : Program) (loose : List Str) (mean : ExcName → Option Value) (mg : Str → Option Value) (mb : Str → Option Value) (h₀ : Heap) (L : Addr) (fa : Addr) (cd : Value) (s : Shared) (u : Str → Option Value) (Q : Flow → Shared → Prop) (E : Value → Shared → Prop) (l : Addr) (vs : List Value) (ns : List Int) : Prop := ∀ {fname qual : Str} {params : Arguments} {body : List Stmt} {scope : Scope} {dV kV doc pm cdv fct foc : Value} {fan fod : Option Addr} {fosl : Array (Option Value)}
    (hl : (Mine.a.heap_1_39 w.params).lookup 779 = some ⟨foc, fod, .func (fnOf fname qual params body scope dV kV doc pm fan cdv fct), fosl⟩)
    (B : Below callerA h₀ [] h₀) (F : Fr h₀ L s.heap (kstB u [(Str.ofString "script", .ref l)])) (X : (Mine.a.heap_1_39 w.params).In h₀) (T : Top p loose mean mg mb h₀) (N : News h₀ L s.heap []) (htk0 : 0 < s.toks)
    (hL : h₀.IsList l vs.toArray) (hI : IntsAre vs ns) (hn : ns.length ≤ 63)
    (post : ∀ h' tk (m' : Str → Option Value) tx t1 t2, (tx.length ≤ 36) → (∀ c ∈ tx.cps.toList, okc c ∧ c ≠ 35) → 0 < tk → Fr h₀ L h' (kstB m' [(Str.ofString "way", .int (ns.sum.fmod 20) t1), (Str.ofString "text", .str tx t2), (Str.ofString "script", .ref l)]) → News h₀ L h' [] → wpAny (model prog w) (callerA.deeper (envOf qual scope L fa cd)) (execs (body.drop 2) (envOf qual scope L fa cd)) Q E { s with heap := h', toks := tk }), wpAny (model prog w) (callerA.deeper (envOf qual scope L fa cd)) (execs (body.drop 0) (envOf qual scope L fa cd)) Q E s
@[irreducible] noncomputable def c0 : Ld × Addr × (List Value) × (List Int) := @Classical.epsilon _ (Nonempty.elim Ld.ne fun b => ⟨(b, 0, [], [])⟩) fun c => ¬ P (c.1.prog) (c.1.w) (c.1.p) (c.1.loose) (c.1.mean) (c.1.mg) (c.1.mb) (c.1.h₀) (c.1.L) (c.1.fa) (c.1.cd) (c.1.s) (c.1.u) (c.1.Q) (c.1.E) (c.2.1) (c.2.2.1) (c.2.2.2)
@[irreducible] noncomputable def prog : Program := c0.1.prog
@[irreducible] noncomputable def w : World := c0.1.w
@[irreducible] noncomputable def p : Program := c0.1.p
@[irreducible] noncomputable def loose : List Str := c0.1.loose
@[irreducible] noncomputable def mean : ExcName → Option Value := c0.1.mean
@[irreducible] noncomputable def mg : Str → Option Value := c0.1.mg
@[irreducible] noncomputable def mb : Str → Option Value := c0.1.mb
@[irreducible] noncomputable def h₀ : Heap := c0.1.h₀
@[irreducible] noncomputable def L : Addr := c0.1.L
@[irreducible] noncomputable def fa : Addr := c0.1.fa
@[irreducible] noncomputable def cd : Value := c0.1.cd
@[irreducible] noncomputable def s : Shared := c0.1.s
@[irreducible] noncomputable def u : Str → Option Value := c0.1.u
@[irreducible] noncomputable def Q : Flow → Shared → Prop := c0.1.Q
@[irreducible] noncomputable def E : Value → Shared → Prop := c0.1.E
@[irreducible] noncomputable def l : Addr := c0.2.1
@[irreducible] noncomputable def vs : List Value := c0.2.2.1
@[irreducible] noncomputable def ns : List Int := c0.2.2.2
theorem core {fname qual : Str} {params : Arguments} {body : List Stmt} {scope : Scope} {dV kV doc pm cdv fct foc : Value} {fan fod : Option Addr} {fosl : Array (Option Value)}
    (hl : (Mine.a.heap_1_39 w.params).lookup 779 = some ⟨foc, fod, .func (fnOf fname qual params body scope dV kV doc pm fan cdv fct), fosl⟩)
    (B : Below callerA h₀ [] h₀) (F : Fr h₀ L s.heap (kstB u [(Str.ofString "script", .ref l)])) (X : (Mine.a.heap_1_39 w.params).In h₀) (T : Top p loose mean mg mb h₀) (N : News h₀ L s.heap []) (htk0 : 0 < s.toks)
    (hL : h₀.IsList l vs.toArray) (hI : IntsAre vs ns) (hn : ns.length ≤ 63)
    (post : ∀ h' tk (m' : Str → Option Value) tx t1 t2, (tx.length ≤ 36) → (∀ c ∈ tx.cps.toList, okc c ∧ c ≠ 35) → 0 < tk → Fr h₀ L h' (kstB m' [(Str.ofString "way", .int (ns.sum.fmod 20) t1), (Str.ofString "text", .str tx t2), (Str.ofString "script", .ref l)]) → News h₀ L h' [] → wpAny (model prog w) (callerA.deeper (envOf qual scope L fa cd)) (execs (body.drop 2) (envOf qual scope L fa cd)) Q E { s with heap := h', toks := tk }) : wpAny (model prog w) (callerA.deeper (envOf qual scope L fa cd)) (execs (body.drop 0) (envOf qual scope L fa cd)) Q E s := by
  refine' seg_in hl ?hk ?_
  (case hk => k_is)
  rintro rfl rfl rfl rfl
  clear hl
  (try dsimp only [List.drop])
  (try dsimp only [kstB] at F)
  k_with "execs cons Assign" => ((with_reducible show wpAny _ _ (execs (Stmt.Assign _ _ ⟨1201, _, _, _⟩ :: _) _) _ _ _); refine wpAny_execs_cons (with_toks ?_))
  k_with "execs cons If" => ((with_reducible show wpAny _ _ (execs (Stmt.If _ _ _ ⟨1202, _, _, _⟩ :: _) _) _ _ _); (k_dflt (refine' post _ _ _ _ _ _ ?ya ?yb ?yt (fr_ps ?yF ?yk) ?yN; (case yF => k_asm); (case yk => (repeat (first | exact List.forall_mem_nil _ | (refine' all_cons ?zA9 ?_; (case zA9 => with_unfolding_all rfl))))); (case yN => first | exact News.nil | (refine' news_sub ?yq1 ?yq2; (case yq1 => k_asm); (case yq2 => (repeat (first | exact List.forall_mem_nil _ | (refine' sub_cons ?zA9 ?_; (case zA9 => k_mem))))))); (case ya => assumption); (case yb => assumption); (case yt => first | assumption | omega | ((try dsimp only at *); omega)); done)))
  k_steps
  all_goals (try ((with_reducible intro ht9); (try dsimp only at ht9); (try dsimp only); k_steps))
theorem all : ∀ c : Ld × Addr × (List Value) × (List Int), P (c.1.prog) (c.1.w) (c.1.p) (c.1.loose) (c.1.mean) (c.1.mg) (c.1.mb) (c.1.h₀) (c.1.L) (c.1.fa) (c.1.cd) (c.1.s) (c.1.u) (c.1.Q) (c.1.E) (c.2.1) (c.2.2.1) (c.2.2.2) := by with_unfolding_all exact eps_all (Nonempty.elim Ld.ne fun b => ⟨(b, 0, [], [])⟩) (P := fun c : Ld × Addr × (List Value) × (List Int) => P (c.1.prog) (c.1.w) (c.1.p) (c.1.loose) (c.1.mean) (c.1.mg) (c.1.mb) (c.1.h₀) (c.1.L) (c.1.fa) (c.1.cd) (c.1.s) (c.1.u) (c.1.Q) (c.1.E) (c.2.1) (c.2.2.1) (c.2.2.2)) @core
end Zlaw_a1
theorem law_a1 {prog : Program} {w : World} {p : Program} {loose : List Str} {mean : ExcName → Option Value} {mg mb : Str → Option Value}
    {h₀ : Heap} {L fa : Addr} {cd : Value} {s : Shared} {u : Str → Option Value} {Q : Flow → Shared → Prop} {E : Value → Shared → Prop}
    {fname qual : Str} {params : Arguments} {body : List Stmt} {scope : Scope} {dV kV doc pm cdv ct oc : Value} {an od : Option Addr} {osl : Array (Option Value)}
    {l : Addr} {vs : List Value} {ns : List Int}
    (hl : (Mine.a.heap_1_39 w.params).lookup 779 = some ⟨oc, od, .func (fnOf fname qual params body scope dV kV doc pm an cdv ct), osl⟩)
    (B : Below callerA h₀ [] h₀) (F : Fr h₀ L s.heap (kstB u [(Str.ofString "script", .ref l)])) (X : (Mine.a.heap_1_39 w.params).In h₀) (T : Top p loose mean mg mb h₀) (N : News h₀ L s.heap []) (htk0 : 0 < s.toks)
    (hL : h₀.IsList l vs.toArray) (hI : IntsAre vs ns) (hn : ns.length ≤ 63)
    (post : ∀ h' tk (m' : Str → Option Value) tx t1 t2, (tx.length ≤ 36) → (∀ c ∈ tx.cps.toList, okc c ∧ c ≠ 35) → 0 < tk → Fr h₀ L h' (kstB m' [(Str.ofString "way", .int (ns.sum.fmod 20) t1), (Str.ofString "text", .str tx t2), (Str.ofString "script", .ref l)]) → News h₀ L h' [] → wpAny (model prog w) (callerA.deeper (envOf qual scope L fa cd)) (execs (body.drop 2) (envOf qual scope L fa cd)) Q E { s with heap := h', toks := tk }) : wpAny (model prog w) (callerA.deeper (envOf qual scope L fa cd)) (execs (body.drop 0) (envOf qual scope L fa cd)) Q E s := by
  exact Zlaw_a1.all ⟨⟨prog, w, p, loose, mean, mg, mb, h₀, L, fa, cd, s, u, Q, E⟩, l, vs, ns⟩ hl B F X T N htk0 hL hI hn post
end
theorem law_a2 {prog : Program} {w : World} {p : Program} {loose : List Str} {mean : ExcName → Option Value} {mg mb : Str → Option Value}
    {h₀ : Heap} {L fa : Addr} {cd : Value} {s : Shared} {u : Str → Option Value} {Q : Flow → Shared → Prop} {E : Value → Shared → Prop}
    {fname qual : Str} {params : Arguments} {body : List Stmt} {scope : Scope} {dV kV doc pm cdv ct oc : Value} {an od : Option Addr} {osl : Array (Option Value)}
    {l : Addr} {vs : List Value} {ns : List Int} {tx : Str} {t1 t2 : Tok}
    (hl : (Mine.a.heap_1_39 w.params).lookup 779 = some ⟨oc, od, .func (fnOf fname qual params body scope dV kV doc pm an cdv ct), osl⟩)
    (B : Below callerA h₀ [] h₀) (F : Fr h₀ L s.heap (kstB u [(Str.ofString "way", .int (ns.sum.fmod 20) t1), (Str.ofString "text", .str tx t2), (Str.ofString "script", .ref l)])) (X : (Mine.a.heap_1_39 w.params).In h₀) (T : Top p loose mean mg mb h₀) (N : News h₀ L s.heap []) (htk0 : 0 < s.toks)
    (hL : h₀.IsList l vs.toArray) (hI : IntsAre vs ns) (hn : ns.length ≤ 63)
    (post : ∀ h' tk (m' : Str → Option Value) x' t1 t2, ((ns.sum.fmod 20 < 3 ∧ ∃ k, k < 8 ∧ x' = numS (ns.sum.fmod 20).toNat k) ∨ (¬ ns.sum.fmod 20 < 3 ∧ x' = tx)) → 0 < tk → Fr h₀ L h' (kstB m' [(Str.ofString "way", .int (ns.sum.fmod 20) t1), (Str.ofString "text", .str x' t2), (Str.ofString "script", .ref l)]) → News h₀ L h' [] → wpAny (model prog w) (callerA.deeper (envOf qual scope L fa cd)) (execs (body.drop 3) (envOf qual scope L fa cd)) Q E { s with heap := h', toks := tk }) : wpAny (model prog w) (callerA.deeper (envOf qual scope L fa cd)) (execs (body.drop 2) (envOf qual scope L fa cd)) Q E s := by
  refine' seg_in hl ?hk ?_
  (case hk => k_is)
  rintro rfl rfl rfl rfl
  clear hl
  (try dsimp only [List.drop])
  (try dsimp only [kstB] at F)
  (try k_fold)
  k_with "execs cons If" => ((with_reducible show wpAny _ _ (execs (Stmt.If _ _ _ ⟨1202, _, _, _⟩ :: _) _) _ _ _); refine wpAny_execs_cons (with_toks ?_))
  all_goals (have hin9 : InP 9 := rfl)
  k_with "table" => ((with_reducible (rename InP 9 => hin9)); skip)
  k_with "execs cons Assign" => ((with_reducible show wpAny _ _ (execs (Stmt.Assign _ _ ⟨1204, _, _, _⟩ :: _) _) _ _ _); (k_dflt (refine' post _ _ _ _ _ _ ?ya ?yt (fr_ps ?yF ?yk) ?yN; (case yF => k_asm); (case yk => (repeat (first | exact List.forall_mem_nil _ | (refine' all_cons ?zA9 ?_; (case zA9 => with_unfolding_all rfl))))); (case yN => first | exact News.nil | (refine' news_sub ?yq1 ?yq2; (case yq1 => k_asm); (case yq2 => (repeat (first | exact List.forall_mem_nil _ | (refine' sub_cons ?zA9 ?_; (case zA9 => k_mem))))))); (case ya => first | ((rename (_ < 1 + 1 + 1 + 1 + 1 + 1 + 1 + 1) => q8); exact .inl ⟨by assumption, _, q8, rfl⟩) | exact .inr ⟨by assumption, rfl⟩); (case yt => first | assumption | omega | ((try dsimp only at *); omega)); done)))
  k_with "binaryOp Add str str" => ((with_reducible (rename InP 9 => hin9)); (walk_at "last binaryOp Add str str"))
  k_steps
  all_goals (try ((with_reducible intro ht9); (try dsimp only at ht9); (try dsimp only); (try k_fold); k_steps))
theorem law_a3 {prog : Program} {w : World} {p : Program} {loose : List Str} {mean : ExcName → Option Value} {mg mb : Str → Option Value}
    {h₀ : Heap} {L fa : Addr} {cd : Value} {s : Shared} {u : Str → Option Value} {Q : Flow → Shared → Prop} {E : Value → Shared → Prop}
    {fname qual : Str} {params : Arguments} {body : List Stmt} {scope : Scope} {dV kV doc pm cdv ct oc : Value} {an od : Option Addr} {osl : Array (Option Value)}
    {l : Addr} {vs : List Value} {ns : List Int} {tx : Str} {t1 t2 : Tok}
    (hl : (Mine.a.heap_1_39 w.params).lookup 779 = some ⟨oc, od, .func (fnOf fname qual params body scope dV kV doc pm an cdv ct), osl⟩)
    (B : Below callerA h₀ [] h₀) (F : Fr h₀ L s.heap (kstB u [(Str.ofString "way", .int (ns.sum.fmod 20) t1), (Str.ofString "text", .str tx t2), (Str.ofString "script", .ref l)])) (X : (Mine.a.heap_1_39 w.params).In h₀) (T : Top p loose mean mg mb h₀) (N : News h₀ L s.heap []) (htk0 : 0 < s.toks)
    (hL : h₀.IsList l vs.toArray) (hI : IntsAre vs ns) (hn : ns.length ≤ 63)
    (post : ∀ h' tk (m' : Str → Option Value) al t1 t2, (EndIs al) → 0 < tk → Fr h₀ L h' (kstB m' [(Str.ofString "text", .str tx t2), (Str.ofString "ending", al), (Str.ofString "way", .int (ns.sum.fmod 20) t1), (Str.ofString "script", .ref l)]) → News h₀ L h' [] → wpAny (model prog w) (callerA.deeper (envOf qual scope L fa cd)) (execs (body.drop 4) (envOf qual scope L fa cd)) Q E { s with heap := h', toks := tk }) : wpAny (model prog w) (callerA.deeper (envOf qual scope L fa cd)) (execs (body.drop 3) (envOf qual scope L fa cd)) Q E s := by
  refine' seg_in hl ?hk ?_
  (case hk => k_is)
  rintro rfl rfl rfl rfl
  clear hl
  (try dsimp only [List.drop])
  (try dsimp only [kstB] at F)
  (try k_fold)
  k_with "execs cons Assign" => ((with_reducible show wpAny _ _ (execs (Stmt.Assign _ _ ⟨1204, _, _, _⟩ :: _) _) _ _ _); refine wpAny_execs_cons (with_toks ?_))
  k_with "execs cons Assign" => ((with_reducible show wpAny _ _ (execs (Stmt.Assign _ _ ⟨1205, _, _, _⟩ :: _) _) _ _ _); (k_dflt (refine' post _ _ _ _ _ _ ?ya ?yt (fr_ps ?yF ?yk) ?yN; (case yF => k_asm); (case yk => (repeat (first | exact List.forall_mem_nil _ | (refine' all_cons ?zA9 ?_; (case zA9 => with_unfolding_all rfl))))); (case yN => first | exact News.nil | (refine' news_sub ?yq1 ?yq2; (case yq1 => k_asm); (case yq2 => (repeat (first | exact List.forall_mem_nil _ | (refine' sub_cons ?zA9 ?_; (case zA9 => k_mem))))))); (case ya => unfold EndIs; first | exact .inl rfl | exact .inr ⟨_, .inl rfl⟩ | exact .inr ⟨_, .inr (.inl rfl)⟩ | exact .inr ⟨_, .inr (.inr rfl)⟩); (case yt => first | assumption | omega | ((try dsimp only at *); omega)); done)))
  k_steps
  all_goals (try ((with_reducible intro ht9); (try dsimp only at ht9); (try dsimp only); (try k_fold); k_steps))
theorem lines_LA4_1 : True := by
  (k_with "call builtin:str.replace" => safely ((k_here; (with_reducible show wpAny _ _ (call (Value.builtin "str.replace") [Value.str _ _, Value.str _ _, Value.str _ _]) _ _ _); (refine with_toks ?_); refine SC.replaceW (by (show @Ne Nat _ _); omega) (by (show @Ne Nat _ _); omega) (by (show @Ne Nat _ _); omega) (by decide +kernel) (by first | omega | (refine Nat.le_trans (crlf_len _) ?_; omega) | decide +kernel) (by decide +kernel) ?_; intro t9Qq k9Qq ht9Qq; (try dsimp only at ht9Qq))))
  (k_with "call ref" => safely ((k_here; (with_reducible show wpAny _ _ (call (Value.ref 774) _ _) _ _ _); (refine with_toks ?_); k_dflt (refine' lm_spec  ?quBQ ?quFQ ?quXQ ?quTQ ?quAQ ?quhQ ?qufQ ?qukQ ?qudQ ?quuQ ?quNQ ?qo1Q ?_; (case quAQ => exact rfl); (case quhQ => exact rfl); (case qufQ => exact rfl); (case qukQ => exact rfl); (case quBQ => k_asm); (case quFQ => k_asm); (case quXQ => k_asm); (case quTQ => k_asm); (case quNQ => exact news_sub (by k_asm) (by (repeat (first | exact List.forall_mem_nil _ | (refine' sub_cons ?qzA9Q ?_; (case qzA9Q => k_mem)))))); (case qudQ => k_room); (case quuQ => k_units); (case qo1Q => omega); k_whole; intro D9Qq h9Qq tk9Qq t9Qq u9Qq b9Qq T9Qq hm9Qq hbl9Qq hD9Qq F9Qq N9Qq K9Qq; intro ht9Qq; (have N9pQq := news_nextc (by k_asm) K9Qq N9Qq (by (repeat (first | exact Rest.nil | exact Rest.none | (refine Rest.own (by assumption) ?_; (repeat (first | exact List.forall_mem_nil _ | (refine' sub_cons ?qzA9Q ?_; (case qzA9Q => k_mem))))) | (apply Rest.skip; (focus first | exact mem_0 | exact mem_1 | exact mem_2 | exact mem_3 | exact mem_4 | exact mem_5 | exact mem_6)) | (apply Rest.keep; (focus k_all))))) (by first | exact Cat.nil | exact (Cat.cons Cat.nil) | exact (Cat.cons (Cat.cons Cat.nil)) | exact (Cat.cons (Cat.cons (Cat.cons Cat.nil))) | exact (Cat.cons (Cat.cons (Cat.cons (Cat.cons Cat.nil)))) | exact (Cat.cons (Cat.cons (Cat.cons (Cat.cons (Cat.cons Cat.nil))))) | exact (Cat.cons (Cat.cons (Cat.cons (Cat.cons (Cat.cons (Cat.cons Cat.nil)))))) | exact (Cat.cons (Cat.cons (Cat.cons (Cat.cons (Cat.cons (Cat.cons (Cat.cons Cat.nil))))))) | exact (Cat.cons (Cat.cons (Cat.cons (Cat.cons (Cat.cons (Cat.cons (Cat.cons (Cat.cons Cat.nil)))))))))); clear N9Qq K9Qq; (try dsimp only at ht9Qq); (try k_sweep)))))
  trivial
namespace Zlaw_a4
noncomputable def P (prog : Program) (w : World) (p : Program) (loose : List Str) (mean : ExcName → Option Value) (mg : Str → Option Value) (mb : Str → Option Value) (h₀ : Heap) (L : Addr) (fa : Addr) (cd : Value) (s : Shared) (u : Str → Option Value) (Q : Flow → Shared → Prop) (E : Value → Shared → Prop) (l : Addr) (vs : List Value) (ns : List Int) (tx : Str) (t1 : Tok) (t2 : Tok) (al : Value) : Prop := ∀ {fname qual : Str} {params : Arguments} {body : List Stmt} {scope : Scope} {dV kV doc pm cdv fct foc : Value} {fan fod : Option Addr} {fosl : Array (Option Value)}
    (hl : (Mine.a.heap_1_39 w.params).lookup 779 = some ⟨foc, fod, .func (fnOf fname qual params body scope dV kV doc pm fan cdv fct), fosl⟩)
    (B : Below callerA h₀ [] h₀) (F : Fr h₀ L s.heap (kstB u [(Str.ofString "text", .str tx t2), (Str.ofString "ending", al), (Str.ofString "way", .int (ns.sum.fmod 20) t1), (Str.ofString "script", .ref l)])) (X : (Mine.a.heap_1_39 w.params).In h₀) (T : Top p loose mean mg mb h₀) (N : News h₀ L s.heap []) (htk0 : 0 < s.toks)
    (hL : h₀.IsList l vs.toArray) (hI : IntsAre vs ns) (hn : ns.length ≤ 63) (hx : tx.length ≤ 36) (hal : EndIs al)
    (post : ∀ h' tk (m' : Str → Option Value) b T t1 t2 t3 t4 t5, (MatchIs (mendS tx).cps.toList T b.cps.toList) → (b.length ≤ 1000) → 0 < tk → Fr h₀ L h' (kstB m' [(Str.ofString "text", .str tx t2), (Str.ofString "ending", al), (Str.ofString "way", .int (ns.sum.fmod 20) t1), (Str.ofString "mended", .str (mendS tx) t3), (Str.ofString "best", .str b t4), (Str.ofString "taken", .int (T : Int) t5), (Str.ofString "script", .ref l)]) → News h₀ L h' [] → wpAny (model prog w) (callerA.deeper (envOf qual scope L fa cd)) (execs (body.drop 6) (envOf qual scope L fa cd)) Q E { s with heap := h', toks := tk }), wpAny (model prog w) (callerA.deeper (envOf qual scope L fa cd)) (execs (body.drop 4) (envOf qual scope L fa cd)) Q E s
@[irreducible] noncomputable def c0 : Ld × Addr × (List Value) × (List Int) × Str × Tok × Tok × Value := @Classical.epsilon _ (Nonempty.elim Ld.ne fun b => ⟨(b, 0, [], [], default, 0, 0, .none)⟩) fun c => ¬ P (c.1.prog) (c.1.w) (c.1.p) (c.1.loose) (c.1.mean) (c.1.mg) (c.1.mb) (c.1.h₀) (c.1.L) (c.1.fa) (c.1.cd) (c.1.s) (c.1.u) (c.1.Q) (c.1.E) (c.2.1) (c.2.2.1) (c.2.2.2.1) (c.2.2.2.2.1) (c.2.2.2.2.2.1) (c.2.2.2.2.2.2.1) (c.2.2.2.2.2.2.2)
@[irreducible] noncomputable def prog : Program := c0.1.prog
@[irreducible] noncomputable def w : World := c0.1.w
@[irreducible] noncomputable def p : Program := c0.1.p
@[irreducible] noncomputable def loose : List Str := c0.1.loose
@[irreducible] noncomputable def mean : ExcName → Option Value := c0.1.mean
@[irreducible] noncomputable def mg : Str → Option Value := c0.1.mg
@[irreducible] noncomputable def mb : Str → Option Value := c0.1.mb
@[irreducible] noncomputable def h₀ : Heap := c0.1.h₀
@[irreducible] noncomputable def L : Addr := c0.1.L
@[irreducible] noncomputable def fa : Addr := c0.1.fa
@[irreducible] noncomputable def cd : Value := c0.1.cd
@[irreducible] noncomputable def s : Shared := c0.1.s
@[irreducible] noncomputable def u : Str → Option Value := c0.1.u
@[irreducible] noncomputable def Q : Flow → Shared → Prop := c0.1.Q
@[irreducible] noncomputable def E : Value → Shared → Prop := c0.1.E
@[irreducible] noncomputable def l : Addr := c0.2.1
@[irreducible] noncomputable def vs : List Value := c0.2.2.1
@[irreducible] noncomputable def ns : List Int := c0.2.2.2.1
@[irreducible] noncomputable def tx : Str := c0.2.2.2.2.1
@[irreducible] noncomputable def t1 : Tok := c0.2.2.2.2.2.1
@[irreducible] noncomputable def t2 : Tok := c0.2.2.2.2.2.2.1
@[irreducible] noncomputable def al : Value := c0.2.2.2.2.2.2.2
theorem core {fname qual : Str} {params : Arguments} {body : List Stmt} {scope : Scope} {dV kV doc pm cdv fct foc : Value} {fan fod : Option Addr} {fosl : Array (Option Value)}
    (hl : (Mine.a.heap_1_39 w.params).lookup 779 = some ⟨foc, fod, .func (fnOf fname qual params body scope dV kV doc pm fan cdv fct), fosl⟩)
    (B : Below callerA h₀ [] h₀) (F : Fr h₀ L s.heap (kstB u [(Str.ofString "text", .str tx t2), (Str.ofString "ending", al), (Str.ofString "way", .int (ns.sum.fmod 20) t1), (Str.ofString "script", .ref l)])) (X : (Mine.a.heap_1_39 w.params).In h₀) (T : Top p loose mean mg mb h₀) (N : News h₀ L s.heap []) (htk0 : 0 < s.toks)
    (hL : h₀.IsList l vs.toArray) (hI : IntsAre vs ns) (hn : ns.length ≤ 63) (hx : tx.length ≤ 36) (hal : EndIs al)
    (post : ∀ h' tk (m' : Str → Option Value) b T t1 t2 t3 t4 t5, (MatchIs (mendS tx).cps.toList T b.cps.toList) → (b.length ≤ 1000) → 0 < tk → Fr h₀ L h' (kstB m' [(Str.ofString "text", .str tx t2), (Str.ofString "ending", al), (Str.ofString "way", .int (ns.sum.fmod 20) t1), (Str.ofString "mended", .str (mendS tx) t3), (Str.ofString "best", .str b t4), (Str.ofString "taken", .int (T : Int) t5), (Str.ofString "script", .ref l)]) → News h₀ L h' [] → wpAny (model prog w) (callerA.deeper (envOf qual scope L fa cd)) (execs (body.drop 6) (envOf qual scope L fa cd)) Q E { s with heap := h', toks := tk }) : wpAny (model prog w) (callerA.deeper (envOf qual scope L fa cd)) (execs (body.drop 4) (envOf qual scope L fa cd)) Q E s := by
  refine' seg_in hl ?hk ?_
  (case hk => k_is)
  rintro rfl rfl rfl rfl
  clear hl
  (try dsimp only [List.drop])
  (try dsimp only [kstB] at F)
  have hm9 := mend_len tx
  k_with "execs cons Assign" => ((with_reducible show wpAny _ _ (execs (Stmt.Assign _ _ ⟨1207, _, _, _⟩ :: _) _) _ _ _); (k_dflt (refine' post _ _ _ _ _ _ _ _ _ _ ?ya ?yb ?yt (fr_ps ?yF ?yk) ?yN; (case yF => k_asm); (case yk => (repeat (first | exact List.forall_mem_nil _ | (refine' all_cons ?zA9 ?_; (case zA9 => with_unfolding_all rfl))))); (case yN => first | exact News.nil | (refine' news_sub ?yq1 ?yq2; (case yq1 => k_asm); (case yq2 => (repeat (first | exact List.forall_mem_nil _ | (refine' sub_cons ?zA9 ?_; (case zA9 => k_mem))))))); (case ya => assumption); (case yb => assumption); (case yt => first | assumption | omega | ((try dsimp only at *); omega)); done)))
  k_steps
  all_goals (try ((with_reducible intro ht9); (try dsimp only at ht9); (try dsimp only); k_steps))
theorem all : ∀ c : Ld × Addr × (List Value) × (List Int) × Str × Tok × Tok × Value, P (c.1.prog) (c.1.w) (c.1.p) (c.1.loose) (c.1.mean) (c.1.mg) (c.1.mb) (c.1.h₀) (c.1.L) (c.1.fa) (c.1.cd) (c.1.s) (c.1.u) (c.1.Q) (c.1.E) (c.2.1) (c.2.2.1) (c.2.2.2.1) (c.2.2.2.2.1) (c.2.2.2.2.2.1) (c.2.2.2.2.2.2.1) (c.2.2.2.2.2.2.2) := by with_unfolding_all exact eps_all (Nonempty.elim Ld.ne fun b => ⟨(b, 0, [], [], default, 0, 0, .none)⟩) (P := fun c : Ld × Addr × (List Value) × (List Int) × Str × Tok × Tok × Value => P (c.1.prog) (c.1.w) (c.1.p) (c.1.loose) (c.1.mean) (c.1.mg) (c.1.mb) (c.1.h₀) (c.1.L) (c.1.fa) (c.1.cd) (c.1.s) (c.1.u) (c.1.Q) (c.1.E) (c.2.1) (c.2.2.1) (c.2.2.2.1) (c.2.2.2.2.1) (c.2.2.2.2.2.1) (c.2.2.2.2.2.2.1) (c.2.2.2.2.2.2.2)) @core
end Zlaw_a4
theorem law_a4 {prog : Program} {w : World} {p : Program} {loose : List Str} {mean : ExcName → Option Value} {mg mb : Str → Option Value}
    {h₀ : Heap} {L fa : Addr} {cd : Value} {s : Shared} {u : Str → Option Value} {Q : Flow → Shared → Prop} {E : Value → Shared → Prop}
    {fname qual : Str} {params : Arguments} {body : List Stmt} {scope : Scope} {dV kV doc pm cdv ct oc : Value} {an od : Option Addr} {osl : Array (Option Value)}
    {l : Addr} {vs : List Value} {ns : List Int} {tx : Str} {t1 t2 : Tok} {al : Value}
    (hl : (Mine.a.heap_1_39 w.params).lookup 779 = some ⟨oc, od, .func (fnOf fname qual params body scope dV kV doc pm an cdv ct), osl⟩)
    (B : Below callerA h₀ [] h₀) (F : Fr h₀ L s.heap (kstB u [(Str.ofString "text", .str tx t2), (Str.ofString "ending", al), (Str.ofString "way", .int (ns.sum.fmod 20) t1), (Str.ofString "script", .ref l)])) (X : (Mine.a.heap_1_39 w.params).In h₀) (T : Top p loose mean mg mb h₀) (N : News h₀ L s.heap []) (htk0 : 0 < s.toks)
    (hL : h₀.IsList l vs.toArray) (hI : IntsAre vs ns) (hn : ns.length ≤ 63) (hx : tx.length ≤ 36) (hal : EndIs al)
    (post : ∀ h' tk (m' : Str → Option Value) b T t1 t2 t3 t4 t5, (MatchIs (mendS tx).cps.toList T b.cps.toList) → (b.length ≤ 1000) → 0 < tk → Fr h₀ L h' (kstB m' [(Str.ofString "text", .str tx t2), (Str.ofString "ending", al), (Str.ofString "way", .int (ns.sum.fmod 20) t1), (Str.ofString "mended", .str (mendS tx) t3), (Str.ofString "best", .str b t4), (Str.ofString "taken", .int (T : Int) t5), (Str.ofString "script", .ref l)]) → News h₀ L h' [] → wpAny (model prog w) (callerA.deeper (envOf qual scope L fa cd)) (execs (body.drop 6) (envOf qual scope L fa cd)) Q E { s with heap := h', toks := tk }) : wpAny (model prog w) (callerA.deeper (envOf qual scope L fa cd)) (execs (body.drop 4) (envOf qual scope L fa cd)) Q E s := by
  exact Zlaw_a4.all ⟨⟨prog, w, p, loose, mean, mg, mb, h₀, L, fa, cd, s, u, Q, E⟩, l, vs, ns, tx, t1, t2, al⟩ hl B F X T N htk0 hL hI hn hx hal post
theorem lines_LB1_1 : True := by
  (k_with "compareOp NotEq" => safely ((k_here; (with_reducible rename EndIs _ => hal9Qq); (with_reducible refine ne_al hal9Qq ?_))))
  trivial
theorem law_b1 {prog : Program} {w : World} {p : Program} {loose : List Str} {mean : ExcName → Option Value} {mg mb : Str → Option Value}
    {h₀ : Heap} {L fa : Addr} {cd : Value} {s : Shared} {u : Str → Option Value} {Q : Flow → Shared → Prop} {E : Value → Shared → Prop}
    {fname qual : Str} {params : Arguments} {body : List Stmt} {scope : Scope} {dV kV doc pm cdv ct oc : Value} {an od : Option Addr} {osl : Array (Option Value)}
    {l : Addr} {vs : List Value} {ns : List Int} {tx x b : Str} {Tn : Nat} {t1 t2 t3 t4 t5 : Tok} {al : Value}
    (hl : (Mine.a.heap_1_39 w.params).lookup 779 = some ⟨oc, od, .func (fnOf fname qual params body scope dV kV doc pm an cdv ct), osl⟩)
    (B : Below callerA h₀ [] h₀) (F : Fr h₀ L s.heap (kstB u [(Str.ofString "text", .str tx t2), (Str.ofString "ending", al), (Str.ofString "way", .int (ns.sum.fmod 20) t1), (Str.ofString "mended", .str (x) t3), (Str.ofString "best", .str b t4), (Str.ofString "taken", .int (Tn : Int) t5), (Str.ofString "script", .ref l)])) (X : (Mine.a.heap_1_39 w.params).In h₀) (T : Top p loose mean mg mb h₀) (N : News h₀ L s.heap []) (htk0 : 0 < s.toks)
    (hL : h₀.IsList l vs.toArray) (hI : IntsAre vs ns) (hn : ns.length ≤ 63) (hx : x.length ≤ 36) (hal : EndIs al) (hb : b.length ≤ 1000) (hT : Tn ≤ 1000)
    (post : ∀ h' tk (m' : Str → Option Value) T' fls n (fl : Nat) t2 t3 t4 t5, (T' = taken1 (ns.sum.fmod 20) Tn) → (FaultIs (fault1 (ns.sum.fmod 20) (x) b al) fls) → 0 < tk → Fr h₀ L h' (kstB m' [(Str.ofString "text", .str tx t2), (Str.ofString "ending", al), (Str.ofString "mended", .str (x) t3), (Str.ofString "best", .str b t4), (Str.ofString "taken", .int T' t5), (Str.ofString "faults", .ref fl), (Str.ofString "script", .ref l)]) → News h₀ L h' [(fl, listOf fls.toArray n)] → wpAny (model prog w) (callerA.deeper (envOf qual scope L fa cd)) (execs (body.drop 8) (envOf qual scope L fa cd)) Q E { s with heap := h', toks := tk }) : wpAny (model prog w) (callerA.deeper (envOf qual scope L fa cd)) (execs (body.drop 6) (envOf qual scope L fa cd)) Q E s := by
  refine' seg_in hl ?hk ?_
  (case hk => k_is)
  rintro rfl rfl rfl rfl
  clear hl
  (try dsimp only [List.drop])
  (try dsimp only [kstB] at F)
  (try k_fold)
  k_with "execs cons If" => ((with_reducible show wpAny _ _ (execs (Stmt.If _ _ _ ⟨1208, _, _, _⟩ :: _) _) _ _ _); refine wpAny_execs_cons (with_toks ?_))
  k_with "execs cons Assign" => ((with_reducible show wpAny _ _ (execs (Stmt.Assign _ _ ⟨1213, _, _, _⟩ :: _) _) _ _ _); (k_dflt (refine' post _ _ _ _ _ _ _ _ _ _ _ ?ya ?yb ?yt (fr_ps ?yF ?yk) ?yN; (case yF => k_asm); (case yk => (repeat (first | exact List.forall_mem_nil _ | (refine' all_cons ?zA9 ?_; (case zA9 => with_unfolding_all rfl))))); (case yN => first | exact News.nil | (refine' news_sub ?yq1 ?yq2; (case yq1 => k_asm); (case yq2 => (repeat (first | exact List.forall_mem_nil _ | (refine' sub_cons ?zA9 ?_; (case zA9 => k_mem))))))); (case ya => unfold taken1; first | (rw [if_pos (show ns.sum.fmod 20 < 3 by assumption)]; split <;> first | rfl | omega) | rw [if_neg (show ¬ ns.sum.fmod 20 < 3 by assumption)]); (case yb => first | exact fault1_num (by assumption) | exact fault1_yes (by assumption) (noB_y (by assumption) (by assumption) (by assumption) (by assumption)) | exact fault1_no (by assumption) (noB_1 (by assumption)) | exact fault1_no (by assumption) (noB_2 (by assumption)) | exact fault1_no (by assumption) (noB_3 (by assumption)) | exact fault1_no (by assumption) (noB_4 (by assumption))); (case yt => first | assumption | omega | ((try dsimp only at *); omega)); done)))
  k_steps
  all_goals (try ((with_reducible intro ht9); (try dsimp only at ht9); (try dsimp only); (try k_fold); k_steps))
theorem lines_LB2_1 : True := by
  (k_with "subscriptTail" => safely ((k_here; (with_reducible show wpAny _ _ (subscriptTail _ _ (Value.ref 43) (Value.str _ _)) _ _ _); k_dflt (refine' topItem_K ?qFQ ?qXQ ?qlQ ?qkQ ?qeQ ?_ ?qsQ; (case qFQ => k_asm); (case qXQ => k_asm); (case qlQ => k_is); (case qkQ => k_keys); (case qeQ => with_reducible assumption); (case qsQ => with_unfolding_all rfl); k_whole))))
  trivial
namespace Zlaw_b2
noncomputable def P (prog : Program) (w : World) (p : Program) (loose : List Str) (mean : ExcName → Option Value) (mg : Str → Option Value) (mb : Str → Option Value) (h₀ : Heap) (L : Addr) (fa : Addr) (cd : Value) (s : Shared) (u : Str → Option Value) (Q : Flow → Shared → Prop) (E : Value → Shared → Prop) (l : Addr) (vs : List Value) (ns : List Int) (tx : Str) (x : Str) (Tt : Int) (fls : List Value) (n : Nat) (fl : Nat) (t2 : Tok) (t3 : Tok) (t4 : Tok) (t5 : Tok) (al : Value) (fo : Option Str) : Prop := ∀ {b : Str} {fname qual : Str} {params : Arguments} {body : List Stmt} {scope : Scope} {dV kV doc pm cdv fct foc : Value} {fan fod : Option Addr} {fosl : Array (Option Value)}
    (hl : (Mine.a.heap_1_39 w.params).lookup 779 = some ⟨foc, fod, .func (fnOf fname qual params body scope dV kV doc pm fan cdv fct), fosl⟩)
    (B : Below callerA h₀ [] h₀) (F : Fr h₀ L s.heap (kstB u [(Str.ofString "text", .str tx t2), (Str.ofString "ending", al), (Str.ofString "mended", .str (x) t3), (Str.ofString "best", .str b t4), (Str.ofString "taken", .int Tt t5), (Str.ofString "faults", .ref fl), (Str.ofString "script", .ref l)])) (X : (Mine.a.heap_1_39 w.params).In h₀) (T : Top p loose mean mg mb h₀) (N : News h₀ L s.heap [(fl, listOf fls.toArray n)]) (htk0 : 0 < s.toks)
    (hL : h₀.IsList l vs.toArray) (hI : IntsAre vs ns) (hn : ns.length ≤ 63) (hx : x.length ≤ 36) (hb : b.length ≤ 1000) (hT0 : 0 ≤ Tt) (hT : Tt ≤ 1000) (hbe : b = Str.ofString "" ∨ ((b == Str.ofString "") = false ∧ 1 ≤ b.length ∧ (entV b).length ≤ 2 ∧ ∃ u, nsIn (Mine.a.heap_1_39 w.params) 43 b = some (some (.str (entV b) u)))) (hfo : FaultIs fo fls)
    (post : ∀ h' tk (m' : Str → Option Value) fo' fls' it iv n' (fl' : Nat) t2 t3 t5 t6 t7, (InIs x b Tt fo it iv fo') → (FaultIs fo' fls') → 0 < tk → Fr h₀ L h' (kstB m' [(Str.ofString "text", .str tx t2), (Str.ofString "ending", al), (Str.ofString "mended", .str (x) t3), (Str.ofString "taken", .int Tt t5), (Str.ofString "faults", .ref fl'), (Str.ofString "in_text", .str it t6), (Str.ofString "in_value", .str iv t7), (Str.ofString "script", .ref l)]) → News h₀ L h' [(fl', listOf fls'.toArray n')] → wpAny (model prog w) (callerA.deeper (envOf qual scope L fa cd)) (execs (body.drop 11) (envOf qual scope L fa cd)) Q E { s with heap := h', toks := tk }), wpAny (model prog w) (callerA.deeper (envOf qual scope L fa cd)) (execs (body.drop 8) (envOf qual scope L fa cd)) Q E s
@[irreducible] noncomputable def c0 : Ld × Addr × (List Value) × (List Int) × Str × Str × Int × (List Value) × Nat × Nat × Tok × Tok × Tok × Tok × Value × (Option Str) := @Classical.epsilon _ (Nonempty.elim Ld.ne fun b => ⟨(b, 0, [], [], default, default, 0, [], 0, 0, 0, 0, 0, 0, .none, none)⟩) fun c => ¬ P (c.1.prog) (c.1.w) (c.1.p) (c.1.loose) (c.1.mean) (c.1.mg) (c.1.mb) (c.1.h₀) (c.1.L) (c.1.fa) (c.1.cd) (c.1.s) (c.1.u) (c.1.Q) (c.1.E) (c.2.1) (c.2.2.1) (c.2.2.2.1) (c.2.2.2.2.1) (c.2.2.2.2.2.1) (c.2.2.2.2.2.2.1) (c.2.2.2.2.2.2.2.1) (c.2.2.2.2.2.2.2.2.1) (c.2.2.2.2.2.2.2.2.2.1) (c.2.2.2.2.2.2.2.2.2.2.1) (c.2.2.2.2.2.2.2.2.2.2.2.1) (c.2.2.2.2.2.2.2.2.2.2.2.2.1) (c.2.2.2.2.2.2.2.2.2.2.2.2.2.1) (c.2.2.2.2.2.2.2.2.2.2.2.2.2.2.1) (c.2.2.2.2.2.2.2.2.2.2.2.2.2.2.2)
@[irreducible] noncomputable def prog : Program := c0.1.prog
@[irreducible] noncomputable def w : World := c0.1.w
@[irreducible] noncomputable def p : Program := c0.1.p
@[irreducible] noncomputable def loose : List Str := c0.1.loose
@[irreducible] noncomputable def mean : ExcName → Option Value := c0.1.mean
@[irreducible] noncomputable def mg : Str → Option Value := c0.1.mg
@[irreducible] noncomputable def mb : Str → Option Value := c0.1.mb
@[irreducible] noncomputable def h₀ : Heap := c0.1.h₀
@[irreducible] noncomputable def L : Addr := c0.1.L
@[irreducible] noncomputable def fa : Addr := c0.1.fa
@[irreducible] noncomputable def cd : Value := c0.1.cd
@[irreducible] noncomputable def s : Shared := c0.1.s
@[irreducible] noncomputable def u : Str → Option Value := c0.1.u
@[irreducible] noncomputable def Q : Flow → Shared → Prop := c0.1.Q
@[irreducible] noncomputable def E : Value → Shared → Prop := c0.1.E
@[irreducible] noncomputable def l : Addr := c0.2.1
@[irreducible] noncomputable def vs : List Value := c0.2.2.1
@[irreducible] noncomputable def ns : List Int := c0.2.2.2.1
@[irreducible] noncomputable def tx : Str := c0.2.2.2.2.1
@[irreducible] noncomputable def x : Str := c0.2.2.2.2.2.1
@[irreducible] noncomputable def Tt : Int := c0.2.2.2.2.2.2.1
@[irreducible] noncomputable def fls : List Value := c0.2.2.2.2.2.2.2.1
@[irreducible] noncomputable def n : Nat := c0.2.2.2.2.2.2.2.2.1
@[irreducible] noncomputable def fl : Nat := c0.2.2.2.2.2.2.2.2.2.1
@[irreducible] noncomputable def t2 : Tok := c0.2.2.2.2.2.2.2.2.2.2.1
@[irreducible] noncomputable def t3 : Tok := c0.2.2.2.2.2.2.2.2.2.2.2.1
@[irreducible] noncomputable def t4 : Tok := c0.2.2.2.2.2.2.2.2.2.2.2.2.1
@[irreducible] noncomputable def t5 : Tok := c0.2.2.2.2.2.2.2.2.2.2.2.2.2.1
@[irreducible] noncomputable def al : Value := c0.2.2.2.2.2.2.2.2.2.2.2.2.2.2.1
@[irreducible] noncomputable def fo : Option Str := c0.2.2.2.2.2.2.2.2.2.2.2.2.2.2.2
theorem core {b : Str} {fname qual : Str} {params : Arguments} {body : List Stmt} {scope : Scope} {dV kV doc pm cdv fct foc : Value} {fan fod : Option Addr} {fosl : Array (Option Value)}
    (hl : (Mine.a.heap_1_39 w.params).lookup 779 = some ⟨foc, fod, .func (fnOf fname qual params body scope dV kV doc pm fan cdv fct), fosl⟩)
    (B : Below callerA h₀ [] h₀) (F : Fr h₀ L s.heap (kstB u [(Str.ofString "text", .str tx t2), (Str.ofString "ending", al), (Str.ofString "mended", .str (x) t3), (Str.ofString "best", .str b t4), (Str.ofString "taken", .int Tt t5), (Str.ofString "faults", .ref fl), (Str.ofString "script", .ref l)])) (X : (Mine.a.heap_1_39 w.params).In h₀) (T : Top p loose mean mg mb h₀) (N : News h₀ L s.heap [(fl, listOf fls.toArray n)]) (htk0 : 0 < s.toks)
    (hL : h₀.IsList l vs.toArray) (hI : IntsAre vs ns) (hn : ns.length ≤ 63) (hx : x.length ≤ 36) (hb : b.length ≤ 1000) (hT0 : 0 ≤ Tt) (hT : Tt ≤ 1000) (hbe : b = Str.ofString "" ∨ ((b == Str.ofString "") = false ∧ 1 ≤ b.length ∧ (entV b).length ≤ 2 ∧ ∃ u, nsIn (Mine.a.heap_1_39 w.params) 43 b = some (some (.str (entV b) u)))) (hfo : FaultIs fo fls)
    (post : ∀ h' tk (m' : Str → Option Value) fo' fls' it iv n' (fl' : Nat) t2 t3 t5 t6 t7, (InIs x b Tt fo it iv fo') → (FaultIs fo' fls') → 0 < tk → Fr h₀ L h' (kstB m' [(Str.ofString "text", .str tx t2), (Str.ofString "ending", al), (Str.ofString "mended", .str (x) t3), (Str.ofString "taken", .int Tt t5), (Str.ofString "faults", .ref fl'), (Str.ofString "in_text", .str it t6), (Str.ofString "in_value", .str iv t7), (Str.ofString "script", .ref l)]) → News h₀ L h' [(fl', listOf fls'.toArray n')] → wpAny (model prog w) (callerA.deeper (envOf qual scope L fa cd)) (execs (body.drop 11) (envOf qual scope L fa cd)) Q E { s with heap := h', toks := tk }) : wpAny (model prog w) (callerA.deeper (envOf qual scope L fa cd)) (execs (body.drop 8) (envOf qual scope L fa cd)) Q E s := by
  refine' seg_in hl ?hk ?_
  (case hk => k_is)
  rintro rfl rfl rfl rfl
  clear hl
  (try dsimp only [List.drop])
  (try dsimp only [kstB] at F)
  rcases hbe with rfl | ⟨hb9, hb8, hv9, ue9, hen9⟩
  k_with "execs cons If" => ((with_reducible show wpAny _ _ (execs (Stmt.If _ _ _ ⟨1215, _, _, _⟩ :: _) _) _ _ _); refine wpAny_execs_cons (with_toks ?_))
  k_with "execs cons Assign" => ((with_reducible show wpAny _ _ (execs (Stmt.Assign _ _ ⟨1222, _, _, _⟩ :: _) _) _ _ _); (first | (exfalso; first | exact bne_f (by with_reducible assumption) hb9 | exact bne_t (by with_reducible assumption) (by with_reducible assumption) | exact bne_f (by with_reducible assumption) (by with_reducible assumption)) | (k_dflt (refine' post _ _ _ _ _ _ _ _ _ _ _ _ _ _ ?ya ?yb ?yt (fr_ps ?yF ?yk) ?yN; (case yF => k_asm); (case yk => (repeat (first | exact List.forall_mem_nil _ | (refine' all_cons ?zA9 ?_; (case zA9 => with_unfolding_all rfl))))); (case yN => first | exact News.nil | (refine' news_sub ?yq1 ?yq2; (case yq1 => k_asm); (case yq2 => (repeat (first | exact List.forall_mem_nil _ | (refine' sub_cons ?zA9 ?_; (case zA9 => k_mem))))))); (case ya => first | exact .none rfl | exact .semi hb9 (by assumption) | exact .free hb9 (by assumption) (.inl (by assumption)) | exact .free hb9 (by assumption) (.inr (by assumption)) | exact .glue hb9 (by assumption) (by assumption) (by assumption)); (case yb => first | exact hfo | exact faultIs_some); (case yt => first | assumption | omega | ((try dsimp only at *); omega)); done))))
  k_steps
  all_goals (try ((with_reducible intro ht9); (try dsimp only at ht9); (try dsimp only); k_steps))
theorem all : ∀ c : Ld × Addr × (List Value) × (List Int) × Str × Str × Int × (List Value) × Nat × Nat × Tok × Tok × Tok × Tok × Value × (Option Str), P (c.1.prog) (c.1.w) (c.1.p) (c.1.loose) (c.1.mean) (c.1.mg) (c.1.mb) (c.1.h₀) (c.1.L) (c.1.fa) (c.1.cd) (c.1.s) (c.1.u) (c.1.Q) (c.1.E) (c.2.1) (c.2.2.1) (c.2.2.2.1) (c.2.2.2.2.1) (c.2.2.2.2.2.1) (c.2.2.2.2.2.2.1) (c.2.2.2.2.2.2.2.1) (c.2.2.2.2.2.2.2.2.1) (c.2.2.2.2.2.2.2.2.2.1) (c.2.2.2.2.2.2.2.2.2.2.1) (c.2.2.2.2.2.2.2.2.2.2.2.1) (c.2.2.2.2.2.2.2.2.2.2.2.2.1) (c.2.2.2.2.2.2.2.2.2.2.2.2.2.1) (c.2.2.2.2.2.2.2.2.2.2.2.2.2.2.1) (c.2.2.2.2.2.2.2.2.2.2.2.2.2.2.2) := by with_unfolding_all exact eps_all (Nonempty.elim Ld.ne fun b => ⟨(b, 0, [], [], default, default, 0, [], 0, 0, 0, 0, 0, 0, .none, none)⟩) (P := fun c : Ld × Addr × (List Value) × (List Int) × Str × Str × Int × (List Value) × Nat × Nat × Tok × Tok × Tok × Tok × Value × (Option Str) => P (c.1.prog) (c.1.w) (c.1.p) (c.1.loose) (c.1.mean) (c.1.mg) (c.1.mb) (c.1.h₀) (c.1.L) (c.1.fa) (c.1.cd) (c.1.s) (c.1.u) (c.1.Q) (c.1.E) (c.2.1) (c.2.2.1) (c.2.2.2.1) (c.2.2.2.2.1) (c.2.2.2.2.2.1) (c.2.2.2.2.2.2.1) (c.2.2.2.2.2.2.2.1) (c.2.2.2.2.2.2.2.2.1) (c.2.2.2.2.2.2.2.2.2.1) (c.2.2.2.2.2.2.2.2.2.2.1) (c.2.2.2.2.2.2.2.2.2.2.2.1) (c.2.2.2.2.2.2.2.2.2.2.2.2.1) (c.2.2.2.2.2.2.2.2.2.2.2.2.2.1) (c.2.2.2.2.2.2.2.2.2.2.2.2.2.2.1) (c.2.2.2.2.2.2.2.2.2.2.2.2.2.2.2)) @core
end Zlaw_b2
theorem law_b2 {prog : Program} {w : World} {p : Program} {loose : List Str} {mean : ExcName → Option Value} {mg mb : Str → Option Value}
    {h₀ : Heap} {L fa : Addr} {cd : Value} {s : Shared} {u : Str → Option Value} {Q : Flow → Shared → Prop} {E : Value → Shared → Prop}
    {fname qual : Str} {params : Arguments} {body : List Stmt} {scope : Scope} {dV kV doc pm cdv ct oc : Value} {an od : Option Addr} {osl : Array (Option Value)}
    {l : Addr} {vs : List Value} {ns : List Int} {tx x b : Str} {Tt : Int} {fls : List Value} {n fl : Nat} {t2 t3 t4 t5 : Tok} {al : Value} {fo : Option Str}
    (hl : (Mine.a.heap_1_39 w.params).lookup 779 = some ⟨oc, od, .func (fnOf fname qual params body scope dV kV doc pm an cdv ct), osl⟩)
    (B : Below callerA h₀ [] h₀) (F : Fr h₀ L s.heap (kstB u [(Str.ofString "text", .str tx t2), (Str.ofString "ending", al), (Str.ofString "mended", .str (x) t3), (Str.ofString "best", .str b t4), (Str.ofString "taken", .int Tt t5), (Str.ofString "faults", .ref fl), (Str.ofString "script", .ref l)])) (X : (Mine.a.heap_1_39 w.params).In h₀) (T : Top p loose mean mg mb h₀) (N : News h₀ L s.heap [(fl, listOf fls.toArray n)]) (htk0 : 0 < s.toks)
    (hL : h₀.IsList l vs.toArray) (hI : IntsAre vs ns) (hn : ns.length ≤ 63) (hx : x.length ≤ 36) (hb : b.length ≤ 1000) (hT0 : 0 ≤ Tt) (hT : Tt ≤ 1000) (hbe : b = Str.ofString "" ∨ ((b == Str.ofString "") = false ∧ 1 ≤ b.length ∧ (entV b).length ≤ 2 ∧ ∃ u, nsIn (Mine.a.heap_1_39 w.params) 43 b = some (some (.str (entV b) u)))) (hfo : FaultIs fo fls)
    (post : ∀ h' tk (m' : Str → Option Value) fo' fls' it iv n' (fl' : Nat) t2 t3 t5 t6 t7, (InIs x b Tt fo it iv fo') → (FaultIs fo' fls') → 0 < tk → Fr h₀ L h' (kstB m' [(Str.ofString "text", .str tx t2), (Str.ofString "ending", al), (Str.ofString "mended", .str (x) t3), (Str.ofString "taken", .int Tt t5), (Str.ofString "faults", .ref fl'), (Str.ofString "in_text", .str it t6), (Str.ofString "in_value", .str iv t7), (Str.ofString "script", .ref l)]) → News h₀ L h' [(fl', listOf fls'.toArray n')] → wpAny (model prog w) (callerA.deeper (envOf qual scope L fa cd)) (execs (body.drop 11) (envOf qual scope L fa cd)) Q E { s with heap := h', toks := tk }) : wpAny (model prog w) (callerA.deeper (envOf qual scope L fa cd)) (execs (body.drop 8) (envOf qual scope L fa cd)) Q E s := by
  exact Zlaw_b2.all ⟨⟨prog, w, p, loose, mean, mg, mb, h₀, L, fa, cd, s, u, Q, E⟩, l, vs, ns, tx, x, Tt, fls, n, fl, t2, t3, t4, t5, al, fo⟩ hl B F X T N htk0 hL hI hn hx hb hT0 hT hbe hfo post
section
local macro_rules | `(tactic| k_lt $h:ident) => `(tactic| (replace $h := allLt_of $h; k_dflt (repeat (obtain ⟨q9, $h:ident⟩ := $h:ident; (try dsimp only at q9))); (try k_dflt (obtain ⟨⟩ := $h:ident))))
theorem lines_LB4_1 : True := by
  k_with_none
  (k_with "om" => safely (((k_whole; (first | with_reducible assumption | with_reducible exact Nat.succ_ne_zero _ | with_reducible exact Nat.ne_of_gt (by with_reducible assumption) | with_reducible exact tok_ne1 | with_reducible exact tok_ne0 (by with_reducible assumption) | exact room2 (by with_reducible assumption) rfl | exact room3 (by with_reducible assumption) rfl | exact room4 (by with_reducible assumption) rfl | exact room1 (by with_reducible assumption) rfl | exact room0 (by with_reducible assumption) | with_reducible exact big_le (by with_reducible assumption) rfl | with_reducible exact big_lt (by with_reducible assumption) rfl | with_reducible exact Int.natCast_nonneg _ | with_reducible exact neg1_lt | fail "o")))))
  (k_with "room" => safely ((first | exact room2 (by with_reducible assumption) rfl | exact room3 (by with_reducible assumption) rfl | exact room4 (by with_reducible assumption) rfl | exact room1 (by with_reducible assumption) rfl | exact room0 (by with_reducible assumption) | ((try simp only [depth_under_make, depth_under_kw, depth_in1, depth_deeper, depth_caller]); omega))))
  (k_with "units" => safely ((first | exact room2 (by with_reducible assumption) rfl | exact room3 (by with_reducible assumption) rfl | exact room4 (by with_reducible assumption) rfl | exact room1 (by with_reducible assumption) rfl | exact room0 (by with_reducible assumption) | ((have hcL9Qq := cLine_is); (simp only [units_in1, units_deeper, Around.mark_units, units_caller] at *); omega))))
  (k_with "ne" => safely (((refine neN ?_; (try dsimp only); first | exact Nat.ne_of_lt (by with_reducible assumption) | exact Nat.ne_of_gt (by with_reducible assumption) | with_reducible assumption | exact Ne.symm (by with_reducible assumption) | (refine' adr_ne ?qzhQ ?qzmQ; (case qzhQ => with_reducible assumption); (case qzmQ => k_mem)) | (refine' adr_en ?qzhQ ?qzmQ; (case qzhQ => with_reducible assumption); (case qzmQ => k_mem)) | exact adr_ne2 (by with_reducible assumption) (by with_reducible assumption) (by k_mem) | exact Ne.symm (adr_ne2 (by with_reducible assumption) (by with_reducible assumption) (by k_mem)) | fail "k_ne"))))
  (k_with "mem" => safely ((first | exact mem_0 | exact mem_1 | exact mem_2 | exact mem_3 | exact mem_4 | exact mem_5 | exact mem_6 | exact mem_7 | exact mem_8 | exact mem_9 | exact mem_10 | exact mem_11 | exact mem_12 | exact mem_13 | fail "k_mem")))
  (k_with "all" => safely ((first | exact List.forall_mem_nil _ | (refine' all_cons ?qaQ ?qbQ; (case qaQ => k_ne); (case qbQ => k_all)) | exact adr_ex (by with_reducible assumption) (fun aQq haQq => by (repeat (first | exact haQq | refine List.mem_cons_of_mem _ ?_))) | fail "k_all")))
  (k_with "eval Name" => safely ((k_here; (with_reducible show wpAny _ _ (eval (Expr.Name _ _) (envOf _ _ _ _ _)) _ _ _); (with_reducible rename Fr _ _ _ _ => kFQq); k_dflt (refine' name_K kFQq ?qk1Q ?qk2Q ?qk3Q ?_ ?qk4Q ?qk5Q ?qk6Q; (case qk4Q => exact rfl); (case qk5Q => exact rfl); (case qk6Q => exact rfl); (case qk1Q => k_asm); (case qk2Q => k_asm); (case qk3Q => k_is); k_whole))))
  (k_with "getMethod ref" => safely ((k_here; k_dflt (refine' kmu_own ?qk1Q ?qk2Q ?qk3Q ?qk4Q ?qk5Q ?_; (case qk1Q => k_asm); (case qk2Q => k_asm); (case qk3Q => k_inst); (case qk4Q => k_is); (case qk5Q => k_is); k_whole))))
  (k_with "getMethod ref" => safely ((k_here; k_dflt (refine' method_inst ?qk1Q ?qk2Q ?qk3Q ?qk4Q ?qk5Q ?qk6Q ?qk7Q ?_; (case qk1Q => k_asm); (case qk2Q => k_asm); (case qk3Q => k_inst); (case qk4Q => k_is); (case qk5Q => k_is); (case qk6Q => k_is); (case qk7Q => k_get); k_whole))))
  (k_with "getMethod ref" => safely ((k_here; (with_reducible show wpAny _ _ (getMethod (Value.ref _) (Str.ofString "append") _) _ _ _); k_dflt (refine' listMethod_K ?qk1Q ?qk2Q PySem.F.slot_list_append PySem.F.type_list_append ?_; (case qk1Q => k_asm); (case qk2Q => k_mem); k_whole))))
  (k_with "getMethod ref" => safely ((k_here; (with_reducible show wpAny _ _ (getMethod (Value.ref _) (Str.ofString "pop") _) _ _ _); k_dflt (refine' kl_method ?qk1Q ?qk2Q PySem.F.slot_list_pop PySem.F.type_list_pop ?_; (case qk1Q => k_asm); (case qk2Q => k_mem); k_whole))))
  (k_with "eval Name" => safely ((k_here; (with_reducible show wpAny _ _ (eval (Expr.Name _ _) (envOf _ _ _ _ _)) _ _ _); k_dflt (refine' ld ?qk1Q ?qk2Q ?_ ?qk4Q ?qk5Q ?qk6Q; (case qk4Q => exact rfl); (case qk5Q => exact rfl); (case qk6Q => exact rfl); (case qk1Q => k_asm); (case qk2Q => exact rfl); k_whole))))
  (k_with "eval Name" => safely ((k_here; (with_reducible show wpAny _ _ (eval (Expr.Name _ _) (envOf _ _ _ _ _)) _ _ _); (with_reducible rename Fr _ _ _ _ => kFQq); k_dflt (refine' name_K kFQq ?qk1Q ?qk2Q ?qk3Q ?_ ?qk4Q ?qk5Q ?qk6Q; (case qk4Q => exact rfl); (case qk5Q => decide +kernel); (case qk6Q => decide +kernel); (case qk1Q => k_asm); (case qk2Q => k_asm); (case qk3Q => k_is); k_whole))))
  (k_with "eval Name" => safely ((k_here; (with_reducible show wpAny _ _ (eval (Expr.Name _ _) (envOf _ _ _ _ _)) _ _ _); k_dflt (refine' ld ?qk1Q ?qk2Q ?_ ?qk4Q ?qk5Q ?qk6Q; (case qk4Q => exact rfl); (case qk5Q => decide +kernel); (case qk6Q => decide +kernel); (case qk1Q => k_asm); (case qk2Q => exact rfl); k_whole))))
  (k_with "callWith" => safely (((with_reducible show wpAny _ _ (callWith _ (Value.builtin _) [_] (backTo _ (starEach (_ :: _) _)) []) _ _ _); refine PyProof.Rows.callWith_method1 ?_)))
  (k_with "call builtin:str.count" => safely ((k_here; refine call_count4 ?_)))
  (k_with "call builtin:str.rfind" => safely ((k_here; refine call_rfind4 ?_)))
  (k_with "truthy ref" => safely ((k_here; k_dflt (refine' truthy_meth ?qk1Q ?qk2Q ?_; (case qk1Q => k_asm); (case qk2Q => k_mem); k_whole))))
  (k_with "assign Tuple" => safely ((k_here; (with_reducible show wpAny _ _ (assign (Expr.Tuple _ _ _) _ (Value.ref _)) _ _ _); k_dflt (refine' unpackN_ ?qk1Q ?qk2Q ?qk3Q ?qk4Q ?qk5Q ?qk6Q ?_; (case qk1Q => k_asm); (case qk2Q => k_asm); (case qk3Q => exact News.isTup (by k_asm) (List.Mem.head _)); (case qk4Q => exact rfl); (case qk5Q => exact rfl); (case qk6Q => exact rfl); k_whole); intro hpQq FpQq NpQq; (replace NpQq := news_tail NpQq); (try k_sweep))))
  (k_with "execs cons" => safely ((k_here; (with_reducible show wpAny _ _ _ _ _ (Shared.mk _ _ _ (_ + 1) _)); refine gen_toks ?_; intro tk9Qq htk9Qq; (try k_fold))))
  (k_with "call builtin:str.replace" => safely ((k_here; (with_reducible show wpAny _ _ (call (Value.builtin "str.replace") [Value.str _ _, Value.str _ _, Value.str _ _]) _ _ _); refine SC.replaceW (by (show @Ne Nat _ _); omega) (by (show @Ne Nat _ _); omega) (by (show @Ne Nat _ _); omega) (by decide +kernel) (by first | omega | (refine Nat.le_trans (crlf_len _) ?_; omega) | decide +kernel) (by decide +kernel) ?_; intro _ _)))
  (k_with "call builtin:str.startswith" => safely ((k_here; refine sw_empty (by first | rfl | decide +kernel) ?_)))
  (k_with "subscriptTail" => safely ((k_here; (fail_if_success (with_reducible show wpAny _ _ (subscriptTail (Expr.Name _ _) _ _ _) _ _ _)); (with_reducible show wpAny _ _ (subscriptTail _ _ (Value.str _ _) _) _ _ _); k_dflt (refine PySem.W.kba_turn (value' := Expr.Name (Str.ofString "_") ⟨0, 0, 0, 0⟩) (fun _ => rfl) ?_))))
  (k_with "subscriptTail Name Attribute str int" => safely ((refine item_str (by first | exact fitsSsize_of (N := 9223372036854775808) (by omega) (by omega) (Int.le_refl _) | decide) (by omega) (by omega) ?_; intro _)))
  trivial

theorem lines_LB4_2 : True := by
  (k_with "room" => safely ((first | omega | decide | ((try simp only [depth_under_make, depth_under_kw, depth_in1, depth_deeper, depth_caller]); first | omega | decide))))
  (k_with "units" => safely ((first | omega | decide | ((have hcL9Qq := cLine_is); (simp only [units_in1, units_deeper, Around.mark_units, units_caller] at *); omega))))
  (k_with "subscriptTail" => safely ((k_here; (with_reducible show wpAny _ _ (subscriptTail _ _ (Value.ref 48) (Value.str _ _)) _ _ _); k_dflt (refine' topItem_K ?qFQ ?qXQ ?qlQ ?qkQ ?qeQ ?_ ?qsQ; (case qFQ => k_asm); (case qXQ => k_asm); (case qlQ => k_is); (case qkQ => k_keys); (case qeQ => k_is); (case qsQ => with_unfolding_all rfl); k_whole))))
  trivial
theorem law_b4 {prog : Program} {w : World} {p : Program} {loose : List Str} {mean : ExcName → Option Value} {mg mb : Str → Option Value}
    {h₀ : Heap} {L fa : Addr} {cd : Value} {s : Shared} {u : Str → Option Value} {Q : Flow → Shared → Prop} {E : Value → Shared → Prop}
    {fname qual : Str} {params : Arguments} {body : List Stmt} {scope : Scope} {dV kV doc pm cdv ct oc : Value} {an od : Option Addr} {osl : Array (Option Value)}
    {l : Addr} {vs : List Value} {ns : List Int} {tx x it iv : Str} {Tt : Int} {fls : List Value} {n fl : Nat} {t2 t3 t5 t6 t7 : Tok} {al : Value} {fo : Option Str}
    (hl : (Mine.a.heap_1_39 w.params).lookup 779 = some ⟨oc, od, .func (fnOf fname qual params body scope dV kV doc pm an cdv ct), osl⟩)
    (B : Below callerA h₀ [] h₀) (F : Fr h₀ L s.heap (kstB u [(Str.ofString "text", .str tx t2), (Str.ofString "ending", al), (Str.ofString "mended", .str x t3), (Str.ofString "taken", .int Tt t5), (Str.ofString "faults", .ref fl), (Str.ofString "in_text", .str it t6), (Str.ofString "in_value", .str iv t7), (Str.ofString "script", .ref l)])) (X : (Mine.a.heap_1_39 w.params).In h₀) (T : Top p loose mean mg mb h₀) (N : News h₀ L s.heap [(fl, listOf fls.toArray n)]) (htk0 : 0 < s.toks)
     (hfo : FaultIs fo fls)
    (post : ∀ h' tk (m' : Str → Option Value) n' (er : Nat) (es : List Value) tks t2 t3 t5 t6 t7, (ErrIs prog w fo er es tks) → 0 < tk → Fr h₀ L h' (kstB m' [(Str.ofString "text", .str tx t2), (Str.ofString "ending", al), (Str.ofString "mended", .str x t3), (Str.ofString "taken", .int Tt t5), (Str.ofString "errors", .ref er), (Str.ofString "in_text", .str it t6), (Str.ofString "in_value", .str iv t7), (Str.ofString "script", .ref l)]) → News h₀ L h' ((er, listOf es.toArray n') :: tks) → wpAny (model prog w) (callerA.deeper (envOf qual scope L fa cd)) (execs (body.drop 12) (envOf qual scope L fa cd)) Q E { s with heap := h', toks := tk }) : wpAny (model prog w) (callerA.deeper (envOf qual scope L fa cd)) (execs (body.drop 11) (envOf qual scope L fa cd)) Q E s := by
  refine' seg_in hl ?hk ?_
  (case hk => k_is)
  rintro rfl rfl rfl rfl
  clear hl
  (try dsimp only [List.drop])
  (try dsimp only [kstB] at F)
  rcases hfo with ⟨rfl, rfl⟩ | ⟨g9, t9, rfl, rfl⟩
  (try k_fold)
  k_with "execs cons Assign" => ((with_reducible show wpAny _ _ (execs (Stmt.Assign _ _ ⟨1222, _, _, _⟩ :: _) _) _ _ _); refine wpAny_execs_cons (with_toks ?_))
  k_with "execs cons Assign" => ((with_reducible show wpAny _ _ (execs (Stmt.Assign _ _ ⟨1223, _, _, _⟩ :: _) _) _ _ _); (first | (k_dflt (rename Obj.IsDictOf _ _ (strPairs _) => hd9; rename (_ ≠ _ ∧ _ ≠ _) => o19); (k_dflt (refine' post _ _ _ _ _ _ [(_, objOf hd9)] _ _ _ _ _ ?ya ?yt (fr_ps ?yF ?yk) ?yN; (case yF => k_asm); (case yk => (repeat (first | exact List.forall_mem_nil _ | (refine' all_cons ?zA9 ?_; (case zA9 => with_unfolding_all rfl))))); (case yN => first | exact News.nil | (refine' news_sub ?yq1 ?yq2; (case yq1 => k_asm); (case yq2 => (repeat (first | exact List.forall_mem_nil _ | (refine' sub_cons ?zA9 ?_; (case zA9 => k_mem))))))); (case ya => exact errIs_some ⟨_, _, hd9⟩ o19.1 (by with_reducible assumption)); (case yt => first | assumption | omega | ((try dsimp only at *); omega)); done))) | (k_dflt (refine' post _ _ _ _ _ _ [] _ _ _ _ _ ?ya ?yt (fr_ps ?yF ?yk) ?yN; (case yF => k_asm); (case yk => (repeat (first | exact List.forall_mem_nil _ | (refine' all_cons ?zA9 ?_; (case zA9 => with_unfolding_all rfl))))); (case yN => first | exact News.nil | (refine' news_sub ?yq1 ?yq2; (case yq1 => k_asm); (case yq2 => (repeat (first | exact List.forall_mem_nil _ | (refine' sub_cons ?zA9 ?_; (case zA9 => k_mem))))))); (case ya => exact errIs_none); (case yt => first | assumption | omega | ((try dsimp only at *); omega)); done))))
  k_steps
  all_goals (try ((with_reducible intro ht9); (try dsimp only at ht9); (try dsimp only); (try k_fold); k_steps))
end
theorem lines_LC0_1 : True := by
  (k_with "execs cons" => safely ((k_here; (with_reducible show wpAny _ _ _ _ _ (Shared.mk _ _ _ (_ + 1) _)); refine gen_toks ?_; intro tk9Qq htk9Qq)))
  (k_with "call ref" => safely ((k_here; (with_reducible show wpAny _ _ (call (Value.ref 762) _ _) _ _ _); (refine with_toks ?_); k_dflt (refine' mk_spec ?quBQ ?quFQ ?quXQ ?quTQ ?quAQ ?quhQ ?qufQ ?qukQ ?qudQ ?quuQ ?quNQ ?_; (case quAQ => exact rfl); (case quhQ => exact rfl); (case qufQ => exact rfl); (case qukQ => exact rfl); (case quBQ => k_asm); (case quFQ => k_asm); (case quXQ => k_asm); (case quTQ => k_asm); (case quNQ => k_asm); (case qudQ => k_room); (case quuQ => k_units); k_whole; intro h9Qq tk9Qq z9Qq zd9Qq x9Qq sd9Qq td9Qq K9Qq v9Qq Kx9Qq ud9Qq Z9Qq q1Qq q2Qq q3Qq q4Qq q5Qq q6Qq hat9Qq l9Qq off9Qq F9Qq N9Qq; intro ht9Qq; (try dsimp only at ht9Qq); (try dsimp only [tokLed, zdict7, sEnt] at N9Qq); (try k_sweep)))))
  trivial
namespace Zlaw_c0
noncomputable def P (prog : Program) (w : World) (p : Program) (loose : List Str) (mean : ExcName → Option Value) (mg : Str → Option Value) (mb : Str → Option Value) (h₀ : Heap) (L : Addr) (fa : Addr) (cd : Value) (s : Shared) (u : Str → Option Value) (Q : Flow → Shared → Prop) (E : Value → Shared → Prop) (l : Addr) (vs : List Value) (ns : List Int) (tx : Str) (x : Str) (it : Str) (iv : Str) (Tt : Int) (er : Nat) (t2 : Tok) (t3 : Tok) (t5 : Tok) (t6 : Tok) (t7 : Tok) (al : Value) (rest : List (Addr × Obj)) : Prop := ∀ {fname qual : Str} {params : Arguments} {body : List Stmt} {scope : Scope} {dV kV doc pm cdv fct foc : Value} {fan fod : Option Addr} {fosl : Array (Option Value)}
    (hl : (Mine.a.heap_1_39 w.params).lookup 779 = some ⟨foc, fod, .func (fnOf fname qual params body scope dV kV doc pm fan cdv fct), fosl⟩)
    (B : Below callerA h₀ [] h₀) (F : Fr h₀ L s.heap (kstB u [(Str.ofString "text", .str tx t2), (Str.ofString "ending", al), (Str.ofString "mended", .str x t3), (Str.ofString "taken", .int Tt t5), (Str.ofString "errors", .ref er), (Str.ofString "in_text", .str it t6), (Str.ofString "in_value", .str iv t7), (Str.ofString "script", .ref l)])) (X : (Mine.a.heap_1_39 w.params).In h₀) (T : Top p loose mean mg mb h₀) (N : News h₀ L s.heap rest) (htk0 : 0 < s.toks)
    
    (post : ∀ h' tk (m' : Str → Option Value) z zd x₀ sd td (K : Ks) (v : Sv) (Kx : Kt) (ud : Tok) (Z : Kz) (qn : Nat) t2 t3 t5 t6 t7, (zd < z) → (z < sd) → (sd < x₀) → (x₀ < K.mo) → (K.mo < td) → (td < K.ds) → (K.ds < Z.q) → (At tx v 0 0) → (OwnOff rest [z, zd, Z.q, x₀, sd, K.ds, td, K.mo]) → 0 < tk → Fr h₀ L h' (kstB m' [(Str.ofString "text", .str tx t2), (Str.ofString "ending", al), (Str.ofString "mended", .str x t3), (Str.ofString "taken", .int Tt t5), (Str.ofString "errors", .ref er), (Str.ofString "in_text", .str it t6), (Str.ofString "in_value", .str iv t7), (Str.ofString "script", .ref l), (Str.ofString "one", .ref z)]) → News h₀ L h' ((Z.q, listOf #[] qn) :: tokLed w z zd x₀ sd td K v Kx tx t2 0 ud (zdict w Z x₀ .none) rest) → wpAny (model prog w) (callerA.deeper (envOf qual scope L fa cd)) (execs (body.drop 14) (envOf qual scope L fa cd)) Q E { s with heap := h', toks := tk }), wpAny (model prog w) (callerA.deeper (envOf qual scope L fa cd)) (execs (body.drop 12) (envOf qual scope L fa cd)) Q E s
@[irreducible] noncomputable def c0 : Ld × Addr × (List Value) × (List Int) × Str × Str × Str × Str × Int × Nat × Tok × Tok × Tok × Tok × Tok × Value × (List (Addr × Obj)) := @Classical.epsilon _ (Nonempty.elim Ld.ne fun b => ⟨(b, 0, [], [], default, default, default, default, 0, 0, 0, 0, 0, 0, 0, .none, [])⟩) fun c => ¬ P (c.1.prog) (c.1.w) (c.1.p) (c.1.loose) (c.1.mean) (c.1.mg) (c.1.mb) (c.1.h₀) (c.1.L) (c.1.fa) (c.1.cd) (c.1.s) (c.1.u) (c.1.Q) (c.1.E) (c.2.1) (c.2.2.1) (c.2.2.2.1) (c.2.2.2.2.1) (c.2.2.2.2.2.1) (c.2.2.2.2.2.2.1) (c.2.2.2.2.2.2.2.1) (c.2.2.2.2.2.2.2.2.1) (c.2.2.2.2.2.2.2.2.2.1) (c.2.2.2.2.2.2.2.2.2.2.1) (c.2.2.2.2.2.2.2.2.2.2.2.1) (c.2.2.2.2.2.2.2.2.2.2.2.2.1) (c.2.2.2.2.2.2.2.2.2.2.2.2.2.1) (c.2.2.2.2.2.2.2.2.2.2.2.2.2.2.1) (c.2.2.2.2.2.2.2.2.2.2.2.2.2.2.2.1) (c.2.2.2.2.2.2.2.2.2.2.2.2.2.2.2.2)
@[irreducible] noncomputable def prog : Program := c0.1.prog
@[irreducible] noncomputable def w : World := c0.1.w
@[irreducible] noncomputable def p : Program := c0.1.p
@[irreducible] noncomputable def loose : List Str := c0.1.loose
@[irreducible] noncomputable def mean : ExcName → Option Value := c0.1.mean
@[irreducible] noncomputable def mg : Str → Option Value := c0.1.mg
@[irreducible] noncomputable def mb : Str → Option Value := c0.1.mb
@[irreducible] noncomputable def h₀ : Heap := c0.1.h₀
@[irreducible] noncomputable def L : Addr := c0.1.L
@[irreducible] noncomputable def fa : Addr := c0.1.fa
@[irreducible] noncomputable def cd : Value := c0.1.cd
@[irreducible] noncomputable def s : Shared := c0.1.s
@[irreducible] noncomputable def u : Str → Option Value := c0.1.u
@[irreducible] noncomputable def Q : Flow → Shared → Prop := c0.1.Q
@[irreducible] noncomputable def E : Value → Shared → Prop := c0.1.E
@[irreducible] noncomputable def l : Addr := c0.2.1
@[irreducible] noncomputable def vs : List Value := c0.2.2.1
@[irreducible] noncomputable def ns : List Int := c0.2.2.2.1
@[irreducible] noncomputable def tx : Str := c0.2.2.2.2.1
@[irreducible] noncomputable def x : Str := c0.2.2.2.2.2.1
@[irreducible] noncomputable def it : Str := c0.2.2.2.2.2.2.1
@[irreducible] noncomputable def iv : Str := c0.2.2.2.2.2.2.2.1
@[irreducible] noncomputable def Tt : Int := c0.2.2.2.2.2.2.2.2.1
@[irreducible] noncomputable def er : Nat := c0.2.2.2.2.2.2.2.2.2.1
@[irreducible] noncomputable def t2 : Tok := c0.2.2.2.2.2.2.2.2.2.2.1
@[irreducible] noncomputable def t3 : Tok := c0.2.2.2.2.2.2.2.2.2.2.2.1
@[irreducible] noncomputable def t5 : Tok := c0.2.2.2.2.2.2.2.2.2.2.2.2.1
@[irreducible] noncomputable def t6 : Tok := c0.2.2.2.2.2.2.2.2.2.2.2.2.2.1
@[irreducible] noncomputable def t7 : Tok := c0.2.2.2.2.2.2.2.2.2.2.2.2.2.2.1
@[irreducible] noncomputable def al : Value := c0.2.2.2.2.2.2.2.2.2.2.2.2.2.2.2.1
@[irreducible] noncomputable def rest : List (Addr × Obj) := c0.2.2.2.2.2.2.2.2.2.2.2.2.2.2.2.2
theorem core {fname qual : Str} {params : Arguments} {body : List Stmt} {scope : Scope} {dV kV doc pm cdv fct foc : Value} {fan fod : Option Addr} {fosl : Array (Option Value)}
    (hl : (Mine.a.heap_1_39 w.params).lookup 779 = some ⟨foc, fod, .func (fnOf fname qual params body scope dV kV doc pm fan cdv fct), fosl⟩)
    (B : Below callerA h₀ [] h₀) (F : Fr h₀ L s.heap (kstB u [(Str.ofString "text", .str tx t2), (Str.ofString "ending", al), (Str.ofString "mended", .str x t3), (Str.ofString "taken", .int Tt t5), (Str.ofString "errors", .ref er), (Str.ofString "in_text", .str it t6), (Str.ofString "in_value", .str iv t7), (Str.ofString "script", .ref l)])) (X : (Mine.a.heap_1_39 w.params).In h₀) (T : Top p loose mean mg mb h₀) (N : News h₀ L s.heap rest) (htk0 : 0 < s.toks)
    
    (post : ∀ h' tk (m' : Str → Option Value) z zd x₀ sd td (K : Ks) (v : Sv) (Kx : Kt) (ud : Tok) (Z : Kz) (qn : Nat) t2 t3 t5 t6 t7, (zd < z) → (z < sd) → (sd < x₀) → (x₀ < K.mo) → (K.mo < td) → (td < K.ds) → (K.ds < Z.q) → (At tx v 0 0) → (OwnOff rest [z, zd, Z.q, x₀, sd, K.ds, td, K.mo]) → 0 < tk → Fr h₀ L h' (kstB m' [(Str.ofString "text", .str tx t2), (Str.ofString "ending", al), (Str.ofString "mended", .str x t3), (Str.ofString "taken", .int Tt t5), (Str.ofString "errors", .ref er), (Str.ofString "in_text", .str it t6), (Str.ofString "in_value", .str iv t7), (Str.ofString "script", .ref l), (Str.ofString "one", .ref z)]) → News h₀ L h' ((Z.q, listOf #[] qn) :: tokLed w z zd x₀ sd td K v Kx tx t2 0 ud (zdict w Z x₀ .none) rest) → wpAny (model prog w) (callerA.deeper (envOf qual scope L fa cd)) (execs (body.drop 14) (envOf qual scope L fa cd)) Q E { s with heap := h', toks := tk }) : wpAny (model prog w) (callerA.deeper (envOf qual scope L fa cd)) (execs (body.drop 12) (envOf qual scope L fa cd)) Q E s := by
  refine' seg_in hl ?hk ?_
  (case hk => k_is)
  rintro rfl rfl rfl rfl
  clear hl
  (try dsimp only [List.drop])
  (try dsimp only [kstB] at F)
  k_with "execs cons Assign" => ((with_reducible show wpAny _ _ (execs (Stmt.Assign _ _ ⟨1223, _, _, _⟩ :: _) _) _ _ _); refine wpAny_execs_cons (with_toks ?_))
  k_with "execs cons Expr" => ((with_reducible show wpAny _ _ (execs (Stmt.Expr _ ⟨1225, _, _, _⟩ :: _) _) _ _ _); (k_dflt (refine' post _ _ _ _ _ _ _ _ _ _ _ _ ⟨_, _, _, _, _, _, _, _, _, _, _⟩ _ _ _ _ _ _ ?ya ?yb ?yc ?yd ?ye ?yf ?yg ?yh ?yi ?yt (fr_ps ?yF ?yk) ?yN; (case yF => k_asm); (case yk => (repeat (first | exact List.forall_mem_nil _ | (refine' all_cons ?zA9 ?_; (case zA9 => with_unfolding_all rfl))))); (case yN => first | exact News.nil | (refine' news_sub ?yq1 ?yq2; (case yq1 => k_asm); (case yq2 => (repeat (first | exact List.forall_mem_nil _ | (refine' sub_cons ?zA9 ?_; (case zA9 => k_mem)) | exact (fun p hp => by (repeat (first | exact hp | refine List.mem_cons_of_mem _ ?_)))))))); (case ya => (first | assumption | exact adr_lt (by with_reducible assumption) (by k_mem) | fail "lt")); (case yb => (first | assumption | exact adr_lt (by with_reducible assumption) (by k_mem) | fail "lt")); (case yc => (first | assumption | exact adr_lt (by with_reducible assumption) (by k_mem) | fail "lt")); (case yd => (first | assumption | exact adr_lt (by with_reducible assumption) (by k_mem) | fail "lt")); (case ye => (first | assumption | exact adr_lt (by with_reducible assumption) (by k_mem) | fail "lt")); (case yf => (first | assumption | exact adr_lt (by with_reducible assumption) (by k_mem) | fail "lt")); (case yg => (first | assumption | exact adr_lt (by with_reducible assumption) (by k_mem) | fail "lt")); (case yh => assumption); (case yi => exact off8 (by with_reducible assumption) (by with_reducible assumption) (by with_reducible assumption) (by with_reducible assumption) (by with_reducible assumption) (by with_reducible assumption) (by with_reducible assumption) (adr_lt (by with_reducible assumption) (by k_mem))); (case yt => first | assumption | omega | ((try dsimp only at *); omega)); done)))
  k_steps
  all_goals (try ((with_reducible intro ht9); (try dsimp only at ht9); (try dsimp only); k_steps))
theorem all : ∀ c : Ld × Addr × (List Value) × (List Int) × Str × Str × Str × Str × Int × Nat × Tok × Tok × Tok × Tok × Tok × Value × (List (Addr × Obj)), P (c.1.prog) (c.1.w) (c.1.p) (c.1.loose) (c.1.mean) (c.1.mg) (c.1.mb) (c.1.h₀) (c.1.L) (c.1.fa) (c.1.cd) (c.1.s) (c.1.u) (c.1.Q) (c.1.E) (c.2.1) (c.2.2.1) (c.2.2.2.1) (c.2.2.2.2.1) (c.2.2.2.2.2.1) (c.2.2.2.2.2.2.1) (c.2.2.2.2.2.2.2.1) (c.2.2.2.2.2.2.2.2.1) (c.2.2.2.2.2.2.2.2.2.1) (c.2.2.2.2.2.2.2.2.2.2.1) (c.2.2.2.2.2.2.2.2.2.2.2.1) (c.2.2.2.2.2.2.2.2.2.2.2.2.1) (c.2.2.2.2.2.2.2.2.2.2.2.2.2.1) (c.2.2.2.2.2.2.2.2.2.2.2.2.2.2.1) (c.2.2.2.2.2.2.2.2.2.2.2.2.2.2.2.1) (c.2.2.2.2.2.2.2.2.2.2.2.2.2.2.2.2) := by with_unfolding_all exact eps_all (Nonempty.elim Ld.ne fun b => ⟨(b, 0, [], [], default, default, default, default, 0, 0, 0, 0, 0, 0, 0, .none, [])⟩) (P := fun c : Ld × Addr × (List Value) × (List Int) × Str × Str × Str × Str × Int × Nat × Tok × Tok × Tok × Tok × Tok × Value × (List (Addr × Obj)) => P (c.1.prog) (c.1.w) (c.1.p) (c.1.loose) (c.1.mean) (c.1.mg) (c.1.mb) (c.1.h₀) (c.1.L) (c.1.fa) (c.1.cd) (c.1.s) (c.1.u) (c.1.Q) (c.1.E) (c.2.1) (c.2.2.1) (c.2.2.2.1) (c.2.2.2.2.1) (c.2.2.2.2.2.1) (c.2.2.2.2.2.2.1) (c.2.2.2.2.2.2.2.1) (c.2.2.2.2.2.2.2.2.1) (c.2.2.2.2.2.2.2.2.2.1) (c.2.2.2.2.2.2.2.2.2.2.1) (c.2.2.2.2.2.2.2.2.2.2.2.1) (c.2.2.2.2.2.2.2.2.2.2.2.2.1) (c.2.2.2.2.2.2.2.2.2.2.2.2.2.1) (c.2.2.2.2.2.2.2.2.2.2.2.2.2.2.1) (c.2.2.2.2.2.2.2.2.2.2.2.2.2.2.2.1) (c.2.2.2.2.2.2.2.2.2.2.2.2.2.2.2.2)) @core
end Zlaw_c0
theorem law_c0 {prog : Program} {w : World} {p : Program} {loose : List Str} {mean : ExcName → Option Value} {mg mb : Str → Option Value}
    {h₀ : Heap} {L fa : Addr} {cd : Value} {s : Shared} {u : Str → Option Value} {Q : Flow → Shared → Prop} {E : Value → Shared → Prop}
    {fname qual : Str} {params : Arguments} {body : List Stmt} {scope : Scope} {dV kV doc pm cdv ct oc : Value} {an od : Option Addr} {osl : Array (Option Value)}
    {l : Addr} {vs : List Value} {ns : List Int} {tx x it iv : Str} {Tt : Int} {er : Nat} {t2 t3 t5 t6 t7 : Tok} {al : Value} {rest : List (Addr × Obj)}
    (hl : (Mine.a.heap_1_39 w.params).lookup 779 = some ⟨oc, od, .func (fnOf fname qual params body scope dV kV doc pm an cdv ct), osl⟩)
    (B : Below callerA h₀ [] h₀) (F : Fr h₀ L s.heap (kstB u [(Str.ofString "text", .str tx t2), (Str.ofString "ending", al), (Str.ofString "mended", .str x t3), (Str.ofString "taken", .int Tt t5), (Str.ofString "errors", .ref er), (Str.ofString "in_text", .str it t6), (Str.ofString "in_value", .str iv t7), (Str.ofString "script", .ref l)])) (X : (Mine.a.heap_1_39 w.params).In h₀) (T : Top p loose mean mg mb h₀) (N : News h₀ L s.heap rest) (htk0 : 0 < s.toks)
    
    (post : ∀ h' tk (m' : Str → Option Value) z zd x₀ sd td (K : Ks) (v : Sv) (Kx : Kt) (ud : Tok) (Z : Kz) (qn : Nat) t2 t3 t5 t6 t7, (zd < z) → (z < sd) → (sd < x₀) → (x₀ < K.mo) → (K.mo < td) → (td < K.ds) → (K.ds < Z.q) → (At tx v 0 0) → (OwnOff rest [z, zd, Z.q, x₀, sd, K.ds, td, K.mo]) → 0 < tk → Fr h₀ L h' (kstB m' [(Str.ofString "text", .str tx t2), (Str.ofString "ending", al), (Str.ofString "mended", .str x t3), (Str.ofString "taken", .int Tt t5), (Str.ofString "errors", .ref er), (Str.ofString "in_text", .str it t6), (Str.ofString "in_value", .str iv t7), (Str.ofString "script", .ref l), (Str.ofString "one", .ref z)]) → News h₀ L h' ((Z.q, listOf #[] qn) :: tokLed w z zd x₀ sd td K v Kx tx t2 0 ud (zdict w Z x₀ .none) rest) → wpAny (model prog w) (callerA.deeper (envOf qual scope L fa cd)) (execs (body.drop 14) (envOf qual scope L fa cd)) Q E { s with heap := h', toks := tk }) : wpAny (model prog w) (callerA.deeper (envOf qual scope L fa cd)) (execs (body.drop 12) (envOf qual scope L fa cd)) Q E s := by
  exact Zlaw_c0.all ⟨⟨prog, w, p, loose, mean, mg, mb, h₀, L, fa, cd, s, u, Q, E⟩, l, vs, ns, tx, x, it, iv, Tt, er, t2, t3, t5, t6, t7, al, rest⟩ hl B F X T N htk0  post
theorem lines_LC1_1 : True := by
  (k_with "call ref" => safely ((k_here; (with_reducible show wpAny _ _ (call (Value.ref 283) _ _) _ _ _); (refine with_toks ?_); k_dflt (refine' ce_text (i := 0) ?quBQ ?quFQ ?quXQ ?quTQ ?quAQ ?quhQ ?qufQ ?qukQ ?qudQ ?quuQ ?quNQ ?qp0Q ?qp1Q ?qo1Q ?qo2Q ?qo3Q ?qo4Q ?qp3Q ?qhoffQ ?qhqQ ?qhalQ ?qhnumQ ?qhxQ ?qhokQ ?qhatQ ?_; (case quAQ => exact rfl); (case quhQ => exact rfl); (case qufQ => exact rfl); (case qukQ => exact rfl); (case quBQ => k_asm); (case quFQ => k_asm); (case quXQ => k_asm); (case quTQ => k_asm); (case quNQ => k_asm); (case qudQ => k_room); (case quuQ => k_units); (case qp0Q => with_reducible assumption); (case qp1Q => with_reducible assumption); (case qo1Q => with_reducible assumption); (case qo2Q => with_reducible assumption); (case qo3Q => with_reducible assumption); (case qo4Q => with_reducible assumption); (case qp3Q => with_reducible assumption); (case qhoffQ => with_reducible assumption); (case qhqQ => decide); (case qhalQ => exact hLaw.end_); (case qhnumQ => exact hLaw.num); (case qhxQ => exact Nat.lt_of_le_of_lt hLaw.len (by decide)); (case qhokQ => exact hLaw.ok); (case qhatQ => with_reducible assumption); k_whole; intro h9Qq tk9Qq T9Qq b9Qq f9Qq out9Qq tks9Qq qi9Qq D29Qq o29Qq n9Qq v9Qq d9Qq ud9Qq hce9Qq hat9Qq htk9Qq hto9Qq hnm9Qq F9Qq N9Qq; intro ht9Qq; (obtain ⟨e1Qq, e2Qq, e3Qq⟩ := hLaw.ce hce9Qq); (subst e1Qq); (subst e2Qq); (replace e3Qq := e3Qq.trans (if_neg Bool.false_ne_true)); (subst e3Qq); (try dsimp only at ht9Qq); (try k_sweep)))))
  trivial
namespace Zlaw_c1
noncomputable def P (prog : Program) (w : World) (p : Program) (loose : List Str) (mean : ExcName → Option Value) (mg : Str → Option Value) (mb : Str → Option Value) (h₀ : Heap) (L : Addr) (fa : Addr) (cd : Value) (s : Shared) (u : Str → Option Value) (Q : Flow → Shared → Prop) (E : Value → Shared → Prop) (l : Addr) (vs : List Value) (ns : List Int) (tx : Str) (x : Str) (it : Str) (iv : Str) (Tn : Nat) (fo : Option Str) (er : Nat) (t2 : Tok) (t3 : Tok) (t5 : Tok) (t6 : Tok) (t7 : Tok) (al : Value) (rest : List (Addr × Obj)) (z : Nat) (zd : Nat) (x₀ : Nat) (sd : Nat) (td : Nat) (qn : Nat) (Z : Kz) (K : Ks) (v : Sv) (Kx : Kt) (ud : Tok) (d : Int) : Prop := ∀ {fname qual : Str} {params : Arguments} {body : List Stmt} {scope : Scope} {dV kV doc pm cdv fct foc : Value} {fan fod : Option Addr} {fosl : Array (Option Value)}
    (hl : (Mine.a.heap_1_39 w.params).lookup 779 = some ⟨foc, fod, .func (fnOf fname qual params body scope dV kV doc pm fan cdv fct), fosl⟩)
    (B : Below callerA h₀ [] h₀) (F : Fr h₀ L s.heap (kstB u [(Str.ofString "text", .str tx t2), (Str.ofString "ending", al), (Str.ofString "mended", .str x t3), (Str.ofString "taken", .int (Tn : Int) t5), (Str.ofString "errors", .ref er), (Str.ofString "in_text", .str it t6), (Str.ofString "in_value", .str iv t7), (Str.ofString "script", .ref l), (Str.ofString "one", .ref z)])) (X : (Mine.a.heap_1_39 w.params).In h₀) (T : Top p loose mean mg mb h₀) (N : News h₀ L s.heap ((Z.q, listOf #[] qn) :: tokLed w z zd x₀ sd td K v Kx tx t2 d ud (zdict w Z x₀ .none) rest)) (htk0 : 0 < s.toks)
    (hLaw : LawIs tx x al Tn fo it iv) (hat : At tx v d 0) (p0 : zd < z) (p1 : z < sd) (o1 : sd < x₀) (o2 : x₀ < K.mo) (o3 : K.mo < td) (o4 : td < K.ds) (p3 : K.ds < Z.q) (hoff : OwnOff rest [z, zd, Z.q, x₀, sd, K.ds, td, K.mo])
    (post : ∀ h' tk (m' : Str → Option Value) tks qi D2 o2 n' v' d' ud' t2 t3 t5 t6 t7, (At tx v' d' Tn) → (TkIs prog w #[] Z.q [] fo tks qi) → (TokIs prog w o2 1 it) → ((D2 == sysModules) = false) → 0 < tk → Fr h₀ L h' (kstB m' [(Str.ofString "text", .str tx t2), (Str.ofString "ending", al), (Str.ofString "mended", .str x t3), (Str.ofString "taken", .int (Tn : Int) t5), (Str.ofString "errors", .ref er), (Str.ofString "in_text", .str it t6), (Str.ofString "in_value", .str iv t7), (Str.ofString "script", .ref l), (Str.ofString "one", .ref z)]) → News h₀ L h' ((Z.q, listOf (qi.push (.ref D2)) n') :: tokLed w z zd x₀ sd td K v' Kx tx t2 d' ud' (zdict w Z x₀ .none) ((D2, o2) :: (tks ++ rest))) → wpAny (model prog w) (callerA.deeper (envOf qual scope L fa cd)) (execs (body.drop 15) (envOf qual scope L fa cd)) Q E { s with heap := h', toks := tk }), wpAny (model prog w) (callerA.deeper (envOf qual scope L fa cd)) (execs (body.drop 14) (envOf qual scope L fa cd)) Q E s
@[irreducible] noncomputable def c0 : Ld × Addr × (List Value) × (List Int) × Str × Str × Str × Str × Nat × (Option Str) × Nat × Tok × Tok × Tok × Tok × Tok × Value × (List (Addr × Obj)) × Nat × Nat × Nat × Nat × Nat × Nat × Kz × Ks × Sv × Kt × Tok × Int := @Classical.epsilon _ (Nonempty.elim Ld.ne fun b => ⟨(b, 0, [], [], default, default, default, default, 0, none, 0, 0, 0, 0, 0, 0, .none, [], 0, 0, 0, 0, 0, 0, ⟨0,0,0,0,0,0,0,0,0,0,0⟩, ⟨0,0,0,0,0,0,0,0,0,0,0,0,0,0⟩, ⟨default,0,0,0,0,.none,0,0,0,0,0⟩, ⟨0,0⟩, 0, 0)⟩) fun c => ¬ P (c.1.prog) (c.1.w) (c.1.p) (c.1.loose) (c.1.mean) (c.1.mg) (c.1.mb) (c.1.h₀) (c.1.L) (c.1.fa) (c.1.cd) (c.1.s) (c.1.u) (c.1.Q) (c.1.E) (c.2.1) (c.2.2.1) (c.2.2.2.1) (c.2.2.2.2.1) (c.2.2.2.2.2.1) (c.2.2.2.2.2.2.1) (c.2.2.2.2.2.2.2.1) (c.2.2.2.2.2.2.2.2.1) (c.2.2.2.2.2.2.2.2.2.1) (c.2.2.2.2.2.2.2.2.2.2.1) (c.2.2.2.2.2.2.2.2.2.2.2.1) (c.2.2.2.2.2.2.2.2.2.2.2.2.1) (c.2.2.2.2.2.2.2.2.2.2.2.2.2.1) (c.2.2.2.2.2.2.2.2.2.2.2.2.2.2.1) (c.2.2.2.2.2.2.2.2.2.2.2.2.2.2.2.1) (c.2.2.2.2.2.2.2.2.2.2.2.2.2.2.2.2.1) (c.2.2.2.2.2.2.2.2.2.2.2.2.2.2.2.2.2.1) (c.2.2.2.2.2.2.2.2.2.2.2.2.2.2.2.2.2.2.1) (c.2.2.2.2.2.2.2.2.2.2.2.2.2.2.2.2.2.2.2.1) (c.2.2.2.2.2.2.2.2.2.2.2.2.2.2.2.2.2.2.2.2.1) (c.2.2.2.2.2.2.2.2.2.2.2.2.2.2.2.2.2.2.2.2.2.1) (c.2.2.2.2.2.2.2.2.2.2.2.2.2.2.2.2.2.2.2.2.2.2.1) (c.2.2.2.2.2.2.2.2.2.2.2.2.2.2.2.2.2.2.2.2.2.2.2.1) (c.2.2.2.2.2.2.2.2.2.2.2.2.2.2.2.2.2.2.2.2.2.2.2.2.1) (c.2.2.2.2.2.2.2.2.2.2.2.2.2.2.2.2.2.2.2.2.2.2.2.2.2.1) (c.2.2.2.2.2.2.2.2.2.2.2.2.2.2.2.2.2.2.2.2.2.2.2.2.2.2.1) (c.2.2.2.2.2.2.2.2.2.2.2.2.2.2.2.2.2.2.2.2.2.2.2.2.2.2.2.1) (c.2.2.2.2.2.2.2.2.2.2.2.2.2.2.2.2.2.2.2.2.2.2.2.2.2.2.2.2.1) (c.2.2.2.2.2.2.2.2.2.2.2.2.2.2.2.2.2.2.2.2.2.2.2.2.2.2.2.2.2)
@[irreducible] noncomputable def prog : Program := c0.1.prog
@[irreducible] noncomputable def w : World := c0.1.w
@[irreducible] noncomputable def p : Program := c0.1.p
@[irreducible] noncomputable def loose : List Str := c0.1.loose
@[irreducible] noncomputable def mean : ExcName → Option Value := c0.1.mean
@[irreducible] noncomputable def mg : Str → Option Value := c0.1.mg
@[irreducible] noncomputable def mb : Str → Option Value := c0.1.mb
@[irreducible] noncomputable def h₀ : Heap := c0.1.h₀
@[irreducible] noncomputable def L : Addr := c0.1.L
@[irreducible] noncomputable def fa : Addr := c0.1.fa
@[irreducible] noncomputable def cd : Value := c0.1.cd
@[irreducible] noncomputable def s : Shared := c0.1.s
@[irreducible] noncomputable def u : Str → Option Value := c0.1.u
@[irreducible] noncomputable def Q : Flow → Shared → Prop := c0.1.Q
@[irreducible] noncomputable def E : Value → Shared → Prop := c0.1.E
@[irreducible] noncomputable def l : Addr := c0.2.1
@[irreducible] noncomputable def vs : List Value := c0.2.2.1
@[irreducible] noncomputable def ns : List Int := c0.2.2.2.1
@[irreducible] noncomputable def tx : Str := c0.2.2.2.2.1
@[irreducible] noncomputable def x : Str := c0.2.2.2.2.2.1
@[irreducible] noncomputable def it : Str := c0.2.2.2.2.2.2.1
@[irreducible] noncomputable def iv : Str := c0.2.2.2.2.2.2.2.1
@[irreducible] noncomputable def Tn : Nat := c0.2.2.2.2.2.2.2.2.1
@[irreducible] noncomputable def fo : Option Str := c0.2.2.2.2.2.2.2.2.2.1
@[irreducible] noncomputable def er : Nat := c0.2.2.2.2.2.2.2.2.2.2.1
@[irreducible] noncomputable def t2 : Tok := c0.2.2.2.2.2.2.2.2.2.2.2.1
@[irreducible] noncomputable def t3 : Tok := c0.2.2.2.2.2.2.2.2.2.2.2.2.1
@[irreducible] noncomputable def t5 : Tok := c0.2.2.2.2.2.2.2.2.2.2.2.2.2.1
@[irreducible] noncomputable def t6 : Tok := c0.2.2.2.2.2.2.2.2.2.2.2.2.2.2.1
@[irreducible] noncomputable def t7 : Tok := c0.2.2.2.2.2.2.2.2.2.2.2.2.2.2.2.1
@[irreducible] noncomputable def al : Value := c0.2.2.2.2.2.2.2.2.2.2.2.2.2.2.2.2.1
@[irreducible] noncomputable def rest : List (Addr × Obj) := c0.2.2.2.2.2.2.2.2.2.2.2.2.2.2.2.2.2.1
@[irreducible] noncomputable def z : Nat := c0.2.2.2.2.2.2.2.2.2.2.2.2.2.2.2.2.2.2.1
@[irreducible] noncomputable def zd : Nat := c0.2.2.2.2.2.2.2.2.2.2.2.2.2.2.2.2.2.2.2.1
@[irreducible] noncomputable def x₀ : Nat := c0.2.2.2.2.2.2.2.2.2.2.2.2.2.2.2.2.2.2.2.2.1
@[irreducible] noncomputable def sd : Nat := c0.2.2.2.2.2.2.2.2.2.2.2.2.2.2.2.2.2.2.2.2.2.1
@[irreducible] noncomputable def td : Nat := c0.2.2.2.2.2.2.2.2.2.2.2.2.2.2.2.2.2.2.2.2.2.2.1
@[irreducible] noncomputable def qn : Nat := c0.2.2.2.2.2.2.2.2.2.2.2.2.2.2.2.2.2.2.2.2.2.2.2.1
@[irreducible] noncomputable def Z : Kz := c0.2.2.2.2.2.2.2.2.2.2.2.2.2.2.2.2.2.2.2.2.2.2.2.2.1
@[irreducible] noncomputable def K : Ks := c0.2.2.2.2.2.2.2.2.2.2.2.2.2.2.2.2.2.2.2.2.2.2.2.2.2.1
@[irreducible] noncomputable def v : Sv := c0.2.2.2.2.2.2.2.2.2.2.2.2.2.2.2.2.2.2.2.2.2.2.2.2.2.2.1
@[irreducible] noncomputable def Kx : Kt := c0.2.2.2.2.2.2.2.2.2.2.2.2.2.2.2.2.2.2.2.2.2.2.2.2.2.2.2.1
@[irreducible] noncomputable def ud : Tok := c0.2.2.2.2.2.2.2.2.2.2.2.2.2.2.2.2.2.2.2.2.2.2.2.2.2.2.2.2.1
@[irreducible] noncomputable def d : Int := c0.2.2.2.2.2.2.2.2.2.2.2.2.2.2.2.2.2.2.2.2.2.2.2.2.2.2.2.2.2
theorem core {fname qual : Str} {params : Arguments} {body : List Stmt} {scope : Scope} {dV kV doc pm cdv fct foc : Value} {fan fod : Option Addr} {fosl : Array (Option Value)}
    (hl : (Mine.a.heap_1_39 w.params).lookup 779 = some ⟨foc, fod, .func (fnOf fname qual params body scope dV kV doc pm fan cdv fct), fosl⟩)
    (B : Below callerA h₀ [] h₀) (F : Fr h₀ L s.heap (kstB u [(Str.ofString "text", .str tx t2), (Str.ofString "ending", al), (Str.ofString "mended", .str x t3), (Str.ofString "taken", .int (Tn : Int) t5), (Str.ofString "errors", .ref er), (Str.ofString "in_text", .str it t6), (Str.ofString "in_value", .str iv t7), (Str.ofString "script", .ref l), (Str.ofString "one", .ref z)])) (X : (Mine.a.heap_1_39 w.params).In h₀) (T : Top p loose mean mg mb h₀) (N : News h₀ L s.heap ((Z.q, listOf #[] qn) :: tokLed w z zd x₀ sd td K v Kx tx t2 d ud (zdict w Z x₀ .none) rest)) (htk0 : 0 < s.toks)
    (hLaw : LawIs tx x al Tn fo it iv) (hat : At tx v d 0) (p0 : zd < z) (p1 : z < sd) (o1 : sd < x₀) (o2 : x₀ < K.mo) (o3 : K.mo < td) (o4 : td < K.ds) (p3 : K.ds < Z.q) (hoff : OwnOff rest [z, zd, Z.q, x₀, sd, K.ds, td, K.mo])
    (post : ∀ h' tk (m' : Str → Option Value) tks qi D2 o2 n' v' d' ud' t2 t3 t5 t6 t7, (At tx v' d' Tn) → (TkIs prog w #[] Z.q [] fo tks qi) → (TokIs prog w o2 1 it) → ((D2 == sysModules) = false) → 0 < tk → Fr h₀ L h' (kstB m' [(Str.ofString "text", .str tx t2), (Str.ofString "ending", al), (Str.ofString "mended", .str x t3), (Str.ofString "taken", .int (Tn : Int) t5), (Str.ofString "errors", .ref er), (Str.ofString "in_text", .str it t6), (Str.ofString "in_value", .str iv t7), (Str.ofString "script", .ref l), (Str.ofString "one", .ref z)]) → News h₀ L h' ((Z.q, listOf (qi.push (.ref D2)) n') :: tokLed w z zd x₀ sd td K v' Kx tx t2 d' ud' (zdict w Z x₀ .none) ((D2, o2) :: (tks ++ rest))) → wpAny (model prog w) (callerA.deeper (envOf qual scope L fa cd)) (execs (body.drop 15) (envOf qual scope L fa cd)) Q E { s with heap := h', toks := tk }) : wpAny (model prog w) (callerA.deeper (envOf qual scope L fa cd)) (execs (body.drop 14) (envOf qual scope L fa cd)) Q E s := by
  refine' seg_in hl ?hk ?_
  (case hk => k_is)
  rintro rfl rfl rfl rfl
  clear hl
  (try dsimp only [List.drop])
  (try dsimp only [kstB] at F)
  k_with "execs cons If" => ((with_reducible show wpAny _ _ (execs (Stmt.If _ _ _ ⟨1226, _, _, _⟩ :: _) _) _ _ _); (k_dflt (refine' post _ _ _ _ _ _ _ _ _ _ _ _ _ _ _ _ ?ya ?yb ?yc ?yd ?yt (fr_ps ?yF ?yk) ?yN; (case yF => k_asm); (case yk => (repeat (first | exact List.forall_mem_nil _ | (refine' all_cons ?zA9 ?_; (case zA9 => with_unfolding_all rfl))))); (case yN => first | exact News.nil | with_reducible assumption | (refine' news_sub ?yq1 ?yq2; (case yq1 => k_asm); (case yq2 => k_mem))); (case ya => exact at_zero (by with_reducible assumption)); (case yb => with_reducible assumption); (case yc => with_reducible assumption); (case yd => with_reducible assumption); (case yt => first | assumption | omega | ((try dsimp only at *); omega)); done)))
  k_steps
  all_goals (try ((with_reducible intro ht9); (try dsimp only at ht9); (try dsimp only); k_steps))
theorem all : ∀ c : Ld × Addr × (List Value) × (List Int) × Str × Str × Str × Str × Nat × (Option Str) × Nat × Tok × Tok × Tok × Tok × Tok × Value × (List (Addr × Obj)) × Nat × Nat × Nat × Nat × Nat × Nat × Kz × Ks × Sv × Kt × Tok × Int, P (c.1.prog) (c.1.w) (c.1.p) (c.1.loose) (c.1.mean) (c.1.mg) (c.1.mb) (c.1.h₀) (c.1.L) (c.1.fa) (c.1.cd) (c.1.s) (c.1.u) (c.1.Q) (c.1.E) (c.2.1) (c.2.2.1) (c.2.2.2.1) (c.2.2.2.2.1) (c.2.2.2.2.2.1) (c.2.2.2.2.2.2.1) (c.2.2.2.2.2.2.2.1) (c.2.2.2.2.2.2.2.2.1) (c.2.2.2.2.2.2.2.2.2.1) (c.2.2.2.2.2.2.2.2.2.2.1) (c.2.2.2.2.2.2.2.2.2.2.2.1) (c.2.2.2.2.2.2.2.2.2.2.2.2.1) (c.2.2.2.2.2.2.2.2.2.2.2.2.2.1) (c.2.2.2.2.2.2.2.2.2.2.2.2.2.2.1) (c.2.2.2.2.2.2.2.2.2.2.2.2.2.2.2.1) (c.2.2.2.2.2.2.2.2.2.2.2.2.2.2.2.2.1) (c.2.2.2.2.2.2.2.2.2.2.2.2.2.2.2.2.2.1) (c.2.2.2.2.2.2.2.2.2.2.2.2.2.2.2.2.2.2.1) (c.2.2.2.2.2.2.2.2.2.2.2.2.2.2.2.2.2.2.2.1) (c.2.2.2.2.2.2.2.2.2.2.2.2.2.2.2.2.2.2.2.2.1) (c.2.2.2.2.2.2.2.2.2.2.2.2.2.2.2.2.2.2.2.2.2.1) (c.2.2.2.2.2.2.2.2.2.2.2.2.2.2.2.2.2.2.2.2.2.2.1) (c.2.2.2.2.2.2.2.2.2.2.2.2.2.2.2.2.2.2.2.2.2.2.2.1) (c.2.2.2.2.2.2.2.2.2.2.2.2.2.2.2.2.2.2.2.2.2.2.2.2.1) (c.2.2.2.2.2.2.2.2.2.2.2.2.2.2.2.2.2.2.2.2.2.2.2.2.2.1) (c.2.2.2.2.2.2.2.2.2.2.2.2.2.2.2.2.2.2.2.2.2.2.2.2.2.2.1) (c.2.2.2.2.2.2.2.2.2.2.2.2.2.2.2.2.2.2.2.2.2.2.2.2.2.2.2.1) (c.2.2.2.2.2.2.2.2.2.2.2.2.2.2.2.2.2.2.2.2.2.2.2.2.2.2.2.2.1) (c.2.2.2.2.2.2.2.2.2.2.2.2.2.2.2.2.2.2.2.2.2.2.2.2.2.2.2.2.2) := by with_unfolding_all exact eps_all (Nonempty.elim Ld.ne fun b => ⟨(b, 0, [], [], default, default, default, default, 0, none, 0, 0, 0, 0, 0, 0, .none, [], 0, 0, 0, 0, 0, 0, ⟨0,0,0,0,0,0,0,0,0,0,0⟩, ⟨0,0,0,0,0,0,0,0,0,0,0,0,0,0⟩, ⟨default,0,0,0,0,.none,0,0,0,0,0⟩, ⟨0,0⟩, 0, 0)⟩) (P := fun c : Ld × Addr × (List Value) × (List Int) × Str × Str × Str × Str × Nat × (Option Str) × Nat × Tok × Tok × Tok × Tok × Tok × Value × (List (Addr × Obj)) × Nat × Nat × Nat × Nat × Nat × Nat × Kz × Ks × Sv × Kt × Tok × Int => P (c.1.prog) (c.1.w) (c.1.p) (c.1.loose) (c.1.mean) (c.1.mg) (c.1.mb) (c.1.h₀) (c.1.L) (c.1.fa) (c.1.cd) (c.1.s) (c.1.u) (c.1.Q) (c.1.E) (c.2.1) (c.2.2.1) (c.2.2.2.1) (c.2.2.2.2.1) (c.2.2.2.2.2.1) (c.2.2.2.2.2.2.1) (c.2.2.2.2.2.2.2.1) (c.2.2.2.2.2.2.2.2.1) (c.2.2.2.2.2.2.2.2.2.1) (c.2.2.2.2.2.2.2.2.2.2.1) (c.2.2.2.2.2.2.2.2.2.2.2.1) (c.2.2.2.2.2.2.2.2.2.2.2.2.1) (c.2.2.2.2.2.2.2.2.2.2.2.2.2.1) (c.2.2.2.2.2.2.2.2.2.2.2.2.2.2.1) (c.2.2.2.2.2.2.2.2.2.2.2.2.2.2.2.1) (c.2.2.2.2.2.2.2.2.2.2.2.2.2.2.2.2.1) (c.2.2.2.2.2.2.2.2.2.2.2.2.2.2.2.2.2.1) (c.2.2.2.2.2.2.2.2.2.2.2.2.2.2.2.2.2.2.1) (c.2.2.2.2.2.2.2.2.2.2.2.2.2.2.2.2.2.2.2.1) (c.2.2.2.2.2.2.2.2.2.2.2.2.2.2.2.2.2.2.2.2.1) (c.2.2.2.2.2.2.2.2.2.2.2.2.2.2.2.2.2.2.2.2.2.1) (c.2.2.2.2.2.2.2.2.2.2.2.2.2.2.2.2.2.2.2.2.2.2.1) (c.2.2.2.2.2.2.2.2.2.2.2.2.2.2.2.2.2.2.2.2.2.2.2.1) (c.2.2.2.2.2.2.2.2.2.2.2.2.2.2.2.2.2.2.2.2.2.2.2.2.1) (c.2.2.2.2.2.2.2.2.2.2.2.2.2.2.2.2.2.2.2.2.2.2.2.2.2.1) (c.2.2.2.2.2.2.2.2.2.2.2.2.2.2.2.2.2.2.2.2.2.2.2.2.2.2.1) (c.2.2.2.2.2.2.2.2.2.2.2.2.2.2.2.2.2.2.2.2.2.2.2.2.2.2.2.1) (c.2.2.2.2.2.2.2.2.2.2.2.2.2.2.2.2.2.2.2.2.2.2.2.2.2.2.2.2.1) (c.2.2.2.2.2.2.2.2.2.2.2.2.2.2.2.2.2.2.2.2.2.2.2.2.2.2.2.2.2)) @core
end Zlaw_c1
theorem law_c1 {prog : Program} {w : World} {p : Program} {loose : List Str} {mean : ExcName → Option Value} {mg mb : Str → Option Value}
    {h₀ : Heap} {L fa : Addr} {cd : Value} {s : Shared} {u : Str → Option Value} {Q : Flow → Shared → Prop} {E : Value → Shared → Prop}
    {fname qual : Str} {params : Arguments} {body : List Stmt} {scope : Scope} {dV kV doc pm cdv ct oc : Value} {an od : Option Addr} {osl : Array (Option Value)}
    {l : Addr} {vs : List Value} {ns : List Int} {tx x it iv : Str} {Tn : Nat} {fo : Option Str} {er : Nat} {t2 t3 t5 t6 t7 : Tok} {al : Value} {rest : List (Addr × Obj)} {z zd x₀ sd td qn : Nat} {Z : Kz} {K : Ks} {v : Sv} {Kx : Kt} {ud : Tok} {d : Int}
    (hl : (Mine.a.heap_1_39 w.params).lookup 779 = some ⟨oc, od, .func (fnOf fname qual params body scope dV kV doc pm an cdv ct), osl⟩)
    (B : Below callerA h₀ [] h₀) (F : Fr h₀ L s.heap (kstB u [(Str.ofString "text", .str tx t2), (Str.ofString "ending", al), (Str.ofString "mended", .str x t3), (Str.ofString "taken", .int (Tn : Int) t5), (Str.ofString "errors", .ref er), (Str.ofString "in_text", .str it t6), (Str.ofString "in_value", .str iv t7), (Str.ofString "script", .ref l), (Str.ofString "one", .ref z)])) (X : (Mine.a.heap_1_39 w.params).In h₀) (T : Top p loose mean mg mb h₀) (N : News h₀ L s.heap ((Z.q, listOf #[] qn) :: tokLed w z zd x₀ sd td K v Kx tx t2 d ud (zdict w Z x₀ .none) rest)) (htk0 : 0 < s.toks)
    (hLaw : LawIs tx x al Tn fo it iv) (hat : At tx v d 0) (p0 : zd < z) (p1 : z < sd) (o1 : sd < x₀) (o2 : x₀ < K.mo) (o3 : K.mo < td) (o4 : td < K.ds) (p3 : K.ds < Z.q) (hoff : OwnOff rest [z, zd, Z.q, x₀, sd, K.ds, td, K.mo])
    (post : ∀ h' tk (m' : Str → Option Value) tks qi D2 o2 n' v' d' ud' t2 t3 t5 t6 t7, (At tx v' d' Tn) → (TkIs prog w #[] Z.q [] fo tks qi) → (TokIs prog w o2 1 it) → ((D2 == sysModules) = false) → 0 < tk → Fr h₀ L h' (kstB m' [(Str.ofString "text", .str tx t2), (Str.ofString "ending", al), (Str.ofString "mended", .str x t3), (Str.ofString "taken", .int (Tn : Int) t5), (Str.ofString "errors", .ref er), (Str.ofString "in_text", .str it t6), (Str.ofString "in_value", .str iv t7), (Str.ofString "script", .ref l), (Str.ofString "one", .ref z)]) → News h₀ L h' ((Z.q, listOf (qi.push (.ref D2)) n') :: tokLed w z zd x₀ sd td K v' Kx tx t2 d' ud' (zdict w Z x₀ .none) ((D2, o2) :: (tks ++ rest))) → wpAny (model prog w) (callerA.deeper (envOf qual scope L fa cd)) (execs (body.drop 15) (envOf qual scope L fa cd)) Q E { s with heap := h', toks := tk }) : wpAny (model prog w) (callerA.deeper (envOf qual scope L fa cd)) (execs (body.drop 14) (envOf qual scope L fa cd)) Q E s := by
  exact Zlaw_c1.all ⟨⟨prog, w, p, loose, mean, mg, mb, h₀, L, fa, cd, s, u, Q, E⟩, l, vs, ns, tx, x, it, iv, Tn, fo, er, t2, t3, t5, t6, t7, al, rest, z, zd, x₀, sd, td, qn, Z, K, v, Kx, ud, d⟩ hl B F X T N htk0 hLaw hat p0 p1 o1 o2 o3 o4 p3 hoff post
theorem lines_LC2_1 : True := by
  (k_with "binaryOp Add ref ref" => safely ((k_here; (with_reducible show wpAny _ _ (binaryOp _ (Value.ref _) (Value.ref _)) _ _ _); k_dflt (refine' kmk_add_lit ?qFQ ?qNQ ?qaQ ?qbQ ?qeQ ?_ ?qzQ; (case qFQ => k_asm); (case qNQ => k_asm); (case qaQ => exact News.isList (by k_asm) (by k_mem)); (case qbQ => exact News.isList (by k_asm) (by k_mem)); (case qeQ => exact rfl); (case qzQ => exact errs_fit her); k_whole); intro DpQq hpQq FpQq NpQq l1Qq; (try k_lt l1Qq); (try k_sweep))))
  (k_with "compareOp NotEq ref ref" => safely ((k_here; (with_reducible show wpAny _ _ (compareOp CmpOp.NotEq (Value.ref _) (Value.ref _)) _ _ _); k_dflt (refine' queue_tk ?qNQ ?qhqQ ?qhrQ ?qhtkQ ?qherQ ?qe2Q ?qhkQ ?qheQ ?qp2Q ?qpnQ ?qhtoQ ?qhdQ ?qm2Q ?qmnQ ?qhlQ ?qhuQ ?_; (case qNQ => k_asm); (case qhqQ => k_mem); (case qhrQ => k_mem); (case qhtkQ => with_reducible assumption); (case qherQ => with_reducible assumption); (case qe2Q => rfl); (case qhkQ => (exact fun pQq hpQq => by (repeat (first | exact hk9 pQq hpQq | refine List.mem_cons_of_mem _ ?_)))); (case qheQ => (exact fun pQq hpQq => by (repeat (first | exact he9 pQq hpQq | refine List.mem_cons_of_mem _ ?_)))); (case qp2Q => k_mem); (case qpnQ => k_mem); (case qhtoQ => with_reducible assumption); (case qhdQ => k_asm); (case qm2Q => with_reducible assumption); (case qmnQ => with_reducible assumption); (case qhlQ => exact Nat.lt_of_le_of_lt (Nat.zero_le _) p3); (case qhuQ => k_units)))))
  trivial
theorem news_ends {h₀ h : Heap} {L : Addr} {a b c d e f g i j k : Addr × Obj} {tks tE : List (Addr × Obj)} (N : News h₀ L h (a :: b :: c :: d :: e :: f :: g :: i :: j :: (tks ++ k :: tE))) : News h₀ L h (k :: a :: b :: c :: d :: e :: f :: g :: i :: j :: (tks ++ tE)) := news_sub N fun p hp => by
  rcases List.mem_cons.mp hp with rfl | hp
  · repeat (first | refine List.mem_append_right _ (.head _) | refine List.mem_cons_of_mem _ ?_)
  · exact (((List.sublist_cons_self k tE).append_left tks).append_left [a, b, c, d, e, f, g, i, j]).subset hp
theorem law_c2 {prog : Program} {w : World} {p : Program} {loose : List Str} {mean : ExcName → Option Value} {mg mb : Str → Option Value}
    {h₀ : Heap} {L fa : Addr} {cd : Value} {s : Shared} {u : Str → Option Value} {Q : Flow → Shared → Prop} {E : Value → Shared → Prop}
    {fname qual : Str} {params : Arguments} {body : List Stmt} {scope : Scope} {dV kV doc pm cdv ct oc : Value} {an od : Option Addr} {osl : Array (Option Value)}
    {l : Addr} {vs : List Value} {ns : List Int} {tx x it iv : Str} {Tn : Nat} {fo : Option Str} {t2 t3 t5 t6 t7 : Tok} {al : Value} {z zd x₀ sd td nq er n D2 : Nat} {Z : Kz} {K : Ks} {v : Sv} {Kx : Kt} {ud : Tok} {d : Int} {qi : Array Value} {o2 : Obj} {tks tE : List (Addr × Obj)} {es : List Value}
    (hl : (Mine.a.heap_1_39 w.params).lookup 779 = some ⟨oc, od, .func (fnOf fname qual params body scope dV kV doc pm an cdv ct), osl⟩)
    (B : Below callerA h₀ [] h₀) (F : Fr h₀ L s.heap (kstB u [(Str.ofString "text", .str tx t2), (Str.ofString "ending", al), (Str.ofString "mended", .str x t3), (Str.ofString "taken", .int (Tn : Int) t5), (Str.ofString "errors", .ref er), (Str.ofString "in_text", .str it t6), (Str.ofString "in_value", .str iv t7), (Str.ofString "script", .ref l), (Str.ofString "one", .ref z)])) (X : (Mine.a.heap_1_39 w.params).In h₀) (T : Top p loose mean mg mb h₀) (N : News h₀ L s.heap ((Z.q, listOf (qi.push (.ref D2)) nq) :: tokLed w z zd x₀ sd td K v Kx tx t2 d ud (zdict w Z x₀ .none) ((D2, o2) :: (tks ++ ((er, listOf es.toArray n) :: tE))))) (htk0 : 0 < s.toks)
    (htk : TkIs prog w #[] Z.q [] fo tks qi) (hto : TokIs prog w o2 1 it) (hnm2 : (D2 == sysModules) = false) (p3 : K.ds < Z.q) (her : ErrIs prog w fo er es tE)
    (post : ∀ h' tk (m' : Str → Option Value) t2 t3 t5 t6 t7, (True) → 0 < tk → Fr h₀ L h' (kstB m' [(Str.ofString "text", .str tx t2), (Str.ofString "ending", al), (Str.ofString "mended", .str x t3), (Str.ofString "taken", .int (Tn : Int) t5), (Str.ofString "errors", .ref er), (Str.ofString "in_text", .str it t6), (Str.ofString "in_value", .str iv t7), (Str.ofString "script", .ref l), (Str.ofString "one", .ref z)]) → News h₀ L h' (tokLed w z zd x₀ sd td K v Kx tx t2 d ud (zdict w Z x₀ .none) ((er, listOf es.toArray n) :: tE)) → wpAny (model prog w) (callerA.deeper (envOf qual scope L fa cd)) (execs (body.drop 16) (envOf qual scope L fa cd)) Q E { s with heap := h', toks := tk }) : wpAny (model prog w) (callerA.deeper (envOf qual scope L fa cd)) (execs (body.drop 15) (envOf qual scope L fa cd)) Q E s := by
  refine' seg_in hl ?hk ?_
  (case hk => k_is)
  rintro rfl rfl rfl rfl
  clear hl
  (try dsimp only [List.drop])
  (try dsimp only [kstB] at F)
  k_with "execs cons If" => ((with_reducible show wpAny _ _ (execs (Stmt.If _ _ _ ⟨1226, _, _, _⟩ :: _) _) _ _ _); refine wpAny_execs_cons (with_toks ?_))
  k_with "execs cons If" => ((with_reducible show wpAny _ _ (execs (Stmt.If _ _ _ ⟨1228, _, _, _⟩ :: _) _) _ _ _); (k_dflt (refine' post _ _ _ _ _ _ _ _ ?ya ?yt (fr_ps ?yF ?yk) ?yN; (case yF => k_asm); (case yk => (repeat (first | exact List.forall_mem_nil _ | (refine' all_cons ?zA9 ?_; (case zA9 => with_unfolding_all rfl))))); (case yN => first | exact News.nil | (refine' news_sub ?yq1 ?yq2; (case yq1 => k_asm); (case yq2 => (repeat (first | exact List.forall_mem_nil _ | (refine' sub_cons ?zA9 ?_; (case zA9 => k_mem)) | exact (fun p hp => by (repeat (first | exact hp | exact he9 p hp | refine List.mem_cons_of_mem _ ?_)))))))); (case ya => trivial); (case yt => first | assumption | omega | ((try dsimp only at *); omega)); done)))
  have hk9 : ∀ p ∈ tks, p ∈ tks ++ tE := fun p hp => List.mem_append_left _ hp
  have he9 : ∀ p ∈ tE, p ∈ tks ++ tE := fun p hp => List.mem_append_right _ hp
  replace N := news_ends N
  generalize tks ++ tE = rest9 at hk9 he9 N
  (try k_fold)
  k_steps
  all_goals (try ((with_reducible intro ht9); (try dsimp only at ht9); (try dsimp only); (try k_fold); k_steps))
theorem lines_LC3_1 : True := by
  (k_with "compareOp NotEq ref ref" => safely ((k_here; (with_reducible show wpAny _ _ (compareOp CmpOp.NotEq (Value.ref _) (Value.ref _)) _ _ _); k_dflt (refine' tup2_ne ?qNQ ?qhaQ ?qhbQ ?qhuQ ?_; (case qNQ => k_asm); (case qhaQ => k_mem); (case qhbQ => k_mem); (case qhuQ => k_units)); (with_reducible rename News _ _ _ _ => lN9Qq); (have lN8Qq := news_tail (news_tail lN9Qq)); clear lN9Qq)))
  (k_with "compareOp NotEq str str" => safely ((k_here; (refine ne_same (rest_same hLaw (by with_reducible assumption)) ?_))))
  (k_with "compareOp Eq ref ref" => safely ((k_here; (with_reducible show wpAny _ _ (compareOp CmpOp.Eq (Value.ref _) (Value.ref _)) _ _ _); k_dflt (refine' tup2_eq ?qNQ ?qhaQ ?qhbQ ?qhuQ ?_; (case qNQ => k_asm); (case qhaQ => k_mem); (case qhbQ => k_mem); (case qhuQ => k_units)); (with_reducible rename News _ _ _ _ => lN9Qq); (have lN8Qq := news_tail (news_tail lN9Qq)); clear lN9Qq)))
  (k_with "compareOp Eq str str" => safely ((k_here; (refine eq_same (rest_same hLaw (by with_reducible assumption)) ?_))))
  (k_with "call ref" => safely ((k_here; (with_reducible show wpAny _ _ (call (Value.ref 126) _ _) _ _ _); (refine with_toks ?_); k_dflt (refine' place_at (i := Tn) ?quBQ ?quFQ ?quXQ ?quTQ ?quAQ ?quhQ ?qufQ ?qukQ ?qudQ ?quuQ ?quNQ ?qo1Q ?qo2Q ?qo3Q ?_; (case quAQ => exact rfl); (case quhQ => exact rfl); (case qufQ => exact rfl); (case qukQ => exact rfl); (case quBQ => k_asm); (case quFQ => k_asm); (case quXQ => k_asm); (case quTQ => k_asm); (case quNQ => exact news_sub (by k_asm) (by (repeat (first | exact List.forall_mem_nil _ | (refine' sub_cons ?qzA9Q ?_; (case qzA9Q => k_mem)))))); (case qudQ => k_room); (case quuQ => k_units); (case qo1Q => with_reducible assumption); (case qo2Q => with_reducible assumption); (case qo3Q => exact hLaw.line); k_whole; intro D9Qq h9Qq tk9Qq t9Qq u9Qq a9Qq b9Qq ha9Qq hb9Qq hD9Qq lx9Qq ls9Qq F9Qq N9Qq K9Qq; intro ht9Qq; (have N9pQq := news_nextc (by k_asm) K9Qq N9Qq (by (repeat (first | exact Rest.nil | exact Rest.none | (refine Rest.own (by assumption) ?_; (repeat (first | exact List.forall_mem_nil _ | (refine' sub_cons ?qzA9Q ?_; (case qzA9Q => k_mem))))) | (apply Rest.skip; (focus first | exact mem_0 | exact mem_1 | exact mem_2 | exact mem_3 | exact mem_4 | exact mem_5 | exact mem_6)) | (apply Rest.keep; (focus k_all))))) (by first | exact Cat.nil | exact (Cat.cons Cat.nil) | exact (Cat.cons (Cat.cons Cat.nil)) | exact (Cat.cons (Cat.cons (Cat.cons Cat.nil))) | exact (Cat.cons (Cat.cons (Cat.cons (Cat.cons Cat.nil)))) | exact (Cat.cons (Cat.cons (Cat.cons (Cat.cons (Cat.cons Cat.nil))))) | exact (Cat.cons (Cat.cons (Cat.cons (Cat.cons (Cat.cons (Cat.cons Cat.nil)))))) | exact (Cat.cons (Cat.cons (Cat.cons (Cat.cons (Cat.cons (Cat.cons (Cat.cons Cat.nil))))))) | exact (Cat.cons (Cat.cons (Cat.cons (Cat.cons (Cat.cons (Cat.cons (Cat.cons (Cat.cons Cat.nil)))))))))); clear N9Qq K9Qq; (try dsimp only at ht9Qq); (try k_sweep); (subst ha9Qq); (subst hb9Qq)))))
  (k_with "call ref" => safely ((k_here; (with_reducible show wpAny _ _ (call (Value.ref 156) _ _) _ _ _); (refine with_toks ?_); k_dflt (refine' cu_rest (i := Tn) ?quBQ ?quFQ ?quXQ ?quTQ ?quAQ ?quhQ ?qufQ ?qukQ ?qudQ ?quuQ ?quNQ ?qo1Q ?qo2Q ?qo3Q ?qo4Q ?qo5Q ?qo6Q ?qo7Q ?qo8Q ?qo9Q ?_; (case quAQ => exact rfl); (case quhQ => exact rfl); (case qufQ => exact rfl); (case qukQ => exact rfl); (case quBQ => k_asm); (case quFQ => k_asm); (case quXQ => k_asm); (case quTQ => k_asm); (case quNQ => exact news_sub (by k_asm) (by (repeat (first | exact List.forall_mem_nil _ | (refine' sub_cons ?qzA9Q ?_; (case qzA9Q => k_mem)))))); (case qudQ => k_room); (case quuQ => k_units); (case qo1Q => exact News.isTup (by k_asm) (by k_mem)); (case qo2Q => (simp only [List.mem_cons, List.not_mem_nil, or_false, not_or]; refine ⟨?qqaQ, ?qqbQ, ?qqcQ, ?qqdQ, ?qqeQ⟩; (case qqaQ => k_ne); (case qqbQ => k_ne); (case qqcQ => k_ne); (case qqdQ => k_ne); (case qqeQ => k_ne))); (case qo3Q => with_reducible assumption); (case qo4Q => with_reducible assumption); (case qo5Q => with_reducible assumption); (case qo6Q => with_reducible assumption); (case qo7Q => exact Nat.lt_of_le_of_lt hLaw.len (by decide)); (case qo8Q => exact hLaw.ok); (case qo9Q => with_reducible assumption); k_whole; intro h9Qq tk9Qq t9Qq y9Qq v9Qq d9Qq ud9Qq hy9Qq F9Qq N9Qq K9Qq; intro ht9Qq; (have N9pQq := news_nextc (by k_asm) K9Qq N9Qq (by (repeat (first | exact Rest.nil | exact Rest.none | (refine Rest.own (by assumption) ?_; (repeat (first | exact List.forall_mem_nil _ | (refine' sub_cons ?qzA9Q ?_; (case qzA9Q => k_mem))))) | (apply Rest.skip; (focus first | exact mem_0 | exact mem_1 | exact mem_2 | exact mem_3 | exact mem_4 | exact mem_5 | exact mem_6)) | (apply Rest.keep; (focus k_all))))) (by first | exact Cat.nil | exact (Cat.cons Cat.nil) | exact (Cat.cons (Cat.cons Cat.nil)) | exact (Cat.cons (Cat.cons (Cat.cons Cat.nil))) | exact (Cat.cons (Cat.cons (Cat.cons (Cat.cons Cat.nil)))) | exact (Cat.cons (Cat.cons (Cat.cons (Cat.cons (Cat.cons Cat.nil))))) | exact (Cat.cons (Cat.cons (Cat.cons (Cat.cons (Cat.cons (Cat.cons Cat.nil)))))) | exact (Cat.cons (Cat.cons (Cat.cons (Cat.cons (Cat.cons (Cat.cons (Cat.cons Cat.nil))))))) | exact (Cat.cons (Cat.cons (Cat.cons (Cat.cons (Cat.cons (Cat.cons (Cat.cons (Cat.cons Cat.nil)))))))))); clear N9Qq K9Qq; (try dsimp only at ht9Qq); (try k_sweep); (subst hy9Qq)))))
  trivial
namespace Zlaw_c3
noncomputable def P (prog : Program) (w : World) (p : Program) (loose : List Str) (mean : ExcName → Option Value) (mg : Str → Option Value) (mb : Str → Option Value) (h₀ : Heap) (L : Addr) (fa : Addr) (cd : Value) (s : Shared) (u : Str → Option Value) (Q : Flow → Shared → Prop) (E : Value → Shared → Prop) (l : Addr) (vs : List Value) (ns : List Int) (tx : Str) (x : Str) (it : Str) (iv : Str) (Tn : Nat) (fo : Option Str) (er : Nat) (t2 : Tok) (t3 : Tok) (t5 : Tok) (t6 : Tok) (t7 : Tok) (al : Value) (rest : List (Addr × Obj)) (z : Nat) (zd : Nat) (x₀ : Nat) (sd : Nat) (td : Nat) (nq : Nat) (Z : Kz) (K : Ks) (v : Sv) (Kx : Kt) (ud : Tok) (d : Int) : Prop := ∀ {fname qual : Str} {params : Arguments} {body : List Stmt} {scope : Scope} {dV kV doc pm cdv fct foc : Value} {fan fod : Option Addr} {fosl : Array (Option Value)}
    (hl : (Mine.a.heap_1_39 w.params).lookup 779 = some ⟨foc, fod, .func (fnOf fname qual params body scope dV kV doc pm fan cdv fct), fosl⟩)
    (B : Below callerA h₀ [] h₀) (F : Fr h₀ L s.heap (kstB u [(Str.ofString "text", .str tx t2), (Str.ofString "ending", al), (Str.ofString "mended", .str x t3), (Str.ofString "taken", .int (Tn : Int) t5), (Str.ofString "errors", .ref er), (Str.ofString "in_text", .str it t6), (Str.ofString "in_value", .str iv t7), (Str.ofString "script", .ref l), (Str.ofString "one", .ref z)])) (X : (Mine.a.heap_1_39 w.params).In h₀) (T : Top p loose mean mg mb h₀) (N : News h₀ L s.heap (tokLed w z zd x₀ sd td K v Kx tx t2 d ud (zdict w Z x₀ .none) rest)) (htk0 : 0 < s.toks)
    (hLaw : LawIs tx x al Tn fo it iv) (hat : At tx v d Tn) (p0 : zd < z) (p1 : z < sd) (o1 : sd < x₀) (o2 : x₀ < K.mo) (o3 : K.mo < td) (o4 : td < K.ds) (p3 : K.ds < Z.q) (hoff : OwnOff rest [z, zd, Z.q, x₀, sd, K.ds, td, K.mo])
    (post : ∀ h' tk (m' : Str → Option Value) t2 t3 t5 t6 t7, (True) → 0 < tk → Fr h₀ L h' (kstB m' [(Str.ofString "text", .str tx t2), (Str.ofString "ending", al), (Str.ofString "mended", .str x t3), (Str.ofString "taken", .int (Tn : Int) t5), (Str.ofString "errors", .ref er), (Str.ofString "in_text", .str it t6), (Str.ofString "in_value", .str iv t7), (Str.ofString "script", .ref l)]) → News h₀ L h' rest → wpAny (model prog w) (callerA.deeper (envOf qual scope L fa cd)) (execs (body.drop 17) (envOf qual scope L fa cd)) Q E { s with heap := h', toks := tk }), wpAny (model prog w) (callerA.deeper (envOf qual scope L fa cd)) (execs (body.drop 16) (envOf qual scope L fa cd)) Q E s
@[irreducible] noncomputable def c0 : Ld × Addr × (List Value) × (List Int) × Str × Str × Str × Str × Nat × (Option Str) × Nat × Tok × Tok × Tok × Tok × Tok × Value × (List (Addr × Obj)) × Nat × Nat × Nat × Nat × Nat × Nat × Kz × Ks × Sv × Kt × Tok × Int := @Classical.epsilon _ (Nonempty.elim Ld.ne fun b => ⟨(b, 0, [], [], default, default, default, default, 0, none, 0, 0, 0, 0, 0, 0, .none, [], 0, 0, 0, 0, 0, 0, ⟨0,0,0,0,0,0,0,0,0,0,0⟩, ⟨0,0,0,0,0,0,0,0,0,0,0,0,0,0⟩, ⟨default,0,0,0,0,.none,0,0,0,0,0⟩, ⟨0,0⟩, 0, 0)⟩) fun c => ¬ P (c.1.prog) (c.1.w) (c.1.p) (c.1.loose) (c.1.mean) (c.1.mg) (c.1.mb) (c.1.h₀) (c.1.L) (c.1.fa) (c.1.cd) (c.1.s) (c.1.u) (c.1.Q) (c.1.E) (c.2.1) (c.2.2.1) (c.2.2.2.1) (c.2.2.2.2.1) (c.2.2.2.2.2.1) (c.2.2.2.2.2.2.1) (c.2.2.2.2.2.2.2.1) (c.2.2.2.2.2.2.2.2.1) (c.2.2.2.2.2.2.2.2.2.1) (c.2.2.2.2.2.2.2.2.2.2.1) (c.2.2.2.2.2.2.2.2.2.2.2.1) (c.2.2.2.2.2.2.2.2.2.2.2.2.1) (c.2.2.2.2.2.2.2.2.2.2.2.2.2.1) (c.2.2.2.2.2.2.2.2.2.2.2.2.2.2.1) (c.2.2.2.2.2.2.2.2.2.2.2.2.2.2.2.1) (c.2.2.2.2.2.2.2.2.2.2.2.2.2.2.2.2.1) (c.2.2.2.2.2.2.2.2.2.2.2.2.2.2.2.2.2.1) (c.2.2.2.2.2.2.2.2.2.2.2.2.2.2.2.2.2.2.1) (c.2.2.2.2.2.2.2.2.2.2.2.2.2.2.2.2.2.2.2.1) (c.2.2.2.2.2.2.2.2.2.2.2.2.2.2.2.2.2.2.2.2.1) (c.2.2.2.2.2.2.2.2.2.2.2.2.2.2.2.2.2.2.2.2.2.1) (c.2.2.2.2.2.2.2.2.2.2.2.2.2.2.2.2.2.2.2.2.2.2.1) (c.2.2.2.2.2.2.2.2.2.2.2.2.2.2.2.2.2.2.2.2.2.2.2.1) (c.2.2.2.2.2.2.2.2.2.2.2.2.2.2.2.2.2.2.2.2.2.2.2.2.1) (c.2.2.2.2.2.2.2.2.2.2.2.2.2.2.2.2.2.2.2.2.2.2.2.2.2.1) (c.2.2.2.2.2.2.2.2.2.2.2.2.2.2.2.2.2.2.2.2.2.2.2.2.2.2.1) (c.2.2.2.2.2.2.2.2.2.2.2.2.2.2.2.2.2.2.2.2.2.2.2.2.2.2.2.1) (c.2.2.2.2.2.2.2.2.2.2.2.2.2.2.2.2.2.2.2.2.2.2.2.2.2.2.2.2.1) (c.2.2.2.2.2.2.2.2.2.2.2.2.2.2.2.2.2.2.2.2.2.2.2.2.2.2.2.2.2)
@[irreducible] noncomputable def prog : Program := c0.1.prog
@[irreducible] noncomputable def w : World := c0.1.w
@[irreducible] noncomputable def p : Program := c0.1.p
@[irreducible] noncomputable def loose : List Str := c0.1.loose
@[irreducible] noncomputable def mean : ExcName → Option Value := c0.1.mean
@[irreducible] noncomputable def mg : Str → Option Value := c0.1.mg
@[irreducible] noncomputable def mb : Str → Option Value := c0.1.mb
@[irreducible] noncomputable def h₀ : Heap := c0.1.h₀
@[irreducible] noncomputable def L : Addr := c0.1.L
@[irreducible] noncomputable def fa : Addr := c0.1.fa
@[irreducible] noncomputable def cd : Value := c0.1.cd
@[irreducible] noncomputable def s : Shared := c0.1.s
@[irreducible] noncomputable def u : Str → Option Value := c0.1.u
@[irreducible] noncomputable def Q : Flow → Shared → Prop := c0.1.Q
@[irreducible] noncomputable def E : Value → Shared → Prop := c0.1.E
@[irreducible] noncomputable def l : Addr := c0.2.1
@[irreducible] noncomputable def vs : List Value := c0.2.2.1
@[irreducible] noncomputable def ns : List Int := c0.2.2.2.1
@[irreducible] noncomputable def tx : Str := c0.2.2.2.2.1
@[irreducible] noncomputable def x : Str := c0.2.2.2.2.2.1
@[irreducible] noncomputable def it : Str := c0.2.2.2.2.2.2.1
@[irreducible] noncomputable def iv : Str := c0.2.2.2.2.2.2.2.1
@[irreducible] noncomputable def Tn : Nat := c0.2.2.2.2.2.2.2.2.1
@[irreducible] noncomputable def fo : Option Str := c0.2.2.2.2.2.2.2.2.2.1
@[irreducible] noncomputable def er : Nat := c0.2.2.2.2.2.2.2.2.2.2.1
@[irreducible] noncomputable def t2 : Tok := c0.2.2.2.2.2.2.2.2.2.2.2.1
@[irreducible] noncomputable def t3 : Tok := c0.2.2.2.2.2.2.2.2.2.2.2.2.1
@[irreducible] noncomputable def t5 : Tok := c0.2.2.2.2.2.2.2.2.2.2.2.2.2.1
@[irreducible] noncomputable def t6 : Tok := c0.2.2.2.2.2.2.2.2.2.2.2.2.2.2.1
@[irreducible] noncomputable def t7 : Tok := c0.2.2.2.2.2.2.2.2.2.2.2.2.2.2.2.1
@[irreducible] noncomputable def al : Value := c0.2.2.2.2.2.2.2.2.2.2.2.2.2.2.2.2.1
@[irreducible] noncomputable def rest : List (Addr × Obj) := c0.2.2.2.2.2.2.2.2.2.2.2.2.2.2.2.2.2.1
@[irreducible] noncomputable def z : Nat := c0.2.2.2.2.2.2.2.2.2.2.2.2.2.2.2.2.2.2.1
@[irreducible] noncomputable def zd : Nat := c0.2.2.2.2.2.2.2.2.2.2.2.2.2.2.2.2.2.2.2.1
@[irreducible] noncomputable def x₀ : Nat := c0.2.2.2.2.2.2.2.2.2.2.2.2.2.2.2.2.2.2.2.2.1
@[irreducible] noncomputable def sd : Nat := c0.2.2.2.2.2.2.2.2.2.2.2.2.2.2.2.2.2.2.2.2.2.1
@[irreducible] noncomputable def td : Nat := c0.2.2.2.2.2.2.2.2.2.2.2.2.2.2.2.2.2.2.2.2.2.2.1
@[irreducible] noncomputable def nq : Nat := c0.2.2.2.2.2.2.2.2.2.2.2.2.2.2.2.2.2.2.2.2.2.2.2.1
@[irreducible] noncomputable def Z : Kz := c0.2.2.2.2.2.2.2.2.2.2.2.2.2.2.2.2.2.2.2.2.2.2.2.2.1
@[irreducible] noncomputable def K : Ks := c0.2.2.2.2.2.2.2.2.2.2.2.2.2.2.2.2.2.2.2.2.2.2.2.2.2.1
@[irreducible] noncomputable def v : Sv := c0.2.2.2.2.2.2.2.2.2.2.2.2.2.2.2.2.2.2.2.2.2.2.2.2.2.2.1
@[irreducible] noncomputable def Kx : Kt := c0.2.2.2.2.2.2.2.2.2.2.2.2.2.2.2.2.2.2.2.2.2.2.2.2.2.2.2.1
@[irreducible] noncomputable def ud : Tok := c0.2.2.2.2.2.2.2.2.2.2.2.2.2.2.2.2.2.2.2.2.2.2.2.2.2.2.2.2.1
@[irreducible] noncomputable def d : Int := c0.2.2.2.2.2.2.2.2.2.2.2.2.2.2.2.2.2.2.2.2.2.2.2.2.2.2.2.2.2
theorem core {fname qual : Str} {params : Arguments} {body : List Stmt} {scope : Scope} {dV kV doc pm cdv fct foc : Value} {fan fod : Option Addr} {fosl : Array (Option Value)}
    (hl : (Mine.a.heap_1_39 w.params).lookup 779 = some ⟨foc, fod, .func (fnOf fname qual params body scope dV kV doc pm fan cdv fct), fosl⟩)
    (B : Below callerA h₀ [] h₀) (F : Fr h₀ L s.heap (kstB u [(Str.ofString "text", .str tx t2), (Str.ofString "ending", al), (Str.ofString "mended", .str x t3), (Str.ofString "taken", .int (Tn : Int) t5), (Str.ofString "errors", .ref er), (Str.ofString "in_text", .str it t6), (Str.ofString "in_value", .str iv t7), (Str.ofString "script", .ref l), (Str.ofString "one", .ref z)])) (X : (Mine.a.heap_1_39 w.params).In h₀) (T : Top p loose mean mg mb h₀) (N : News h₀ L s.heap (tokLed w z zd x₀ sd td K v Kx tx t2 d ud (zdict w Z x₀ .none) rest)) (htk0 : 0 < s.toks)
    (hLaw : LawIs tx x al Tn fo it iv) (hat : At tx v d Tn) (p0 : zd < z) (p1 : z < sd) (o1 : sd < x₀) (o2 : x₀ < K.mo) (o3 : K.mo < td) (o4 : td < K.ds) (p3 : K.ds < Z.q) (hoff : OwnOff rest [z, zd, Z.q, x₀, sd, K.ds, td, K.mo])
    (post : ∀ h' tk (m' : Str → Option Value) t2 t3 t5 t6 t7, (True) → 0 < tk → Fr h₀ L h' (kstB m' [(Str.ofString "text", .str tx t2), (Str.ofString "ending", al), (Str.ofString "mended", .str x t3), (Str.ofString "taken", .int (Tn : Int) t5), (Str.ofString "errors", .ref er), (Str.ofString "in_text", .str it t6), (Str.ofString "in_value", .str iv t7), (Str.ofString "script", .ref l)]) → News h₀ L h' rest → wpAny (model prog w) (callerA.deeper (envOf qual scope L fa cd)) (execs (body.drop 17) (envOf qual scope L fa cd)) Q E { s with heap := h', toks := tk }) : wpAny (model prog w) (callerA.deeper (envOf qual scope L fa cd)) (execs (body.drop 16) (envOf qual scope L fa cd)) Q E s := by
  refine' seg_in hl ?hk ?_
  (case hk => k_is)
  rintro rfl rfl rfl rfl
  clear hl
  (try dsimp only [List.drop])
  (try dsimp only [kstB] at F)
  have hxl9 := law_len hLaw
  have htl9 := hat.le
  have hml9 := mm_len tx
  dsimp only [tokLed] at N
  have q_0_2 : @LT.lt Nat _ zd sd := Nat.lt_trans p0 p1
  have q_0_3 : @LT.lt Nat _ zd x₀ := Nat.lt_trans q_0_2 o1
  have q_0_4 : @LT.lt Nat _ zd K.mo := Nat.lt_trans q_0_3 o2
  have q_0_5 : @LT.lt Nat _ zd td := Nat.lt_trans q_0_4 o3
  have q_0_6 : @LT.lt Nat _ zd K.ds := Nat.lt_trans q_0_5 o4
  have q_1_3 : @LT.lt Nat _ z x₀ := Nat.lt_trans p1 o1
  have q_1_4 : @LT.lt Nat _ z K.mo := Nat.lt_trans q_1_3 o2
  have q_1_5 : @LT.lt Nat _ z td := Nat.lt_trans q_1_4 o3
  have q_1_6 : @LT.lt Nat _ z K.ds := Nat.lt_trans q_1_5 o4
  have q_2_4 : @LT.lt Nat _ sd K.mo := Nat.lt_trans o1 o2
  have q_2_5 : @LT.lt Nat _ sd td := Nat.lt_trans q_2_4 o3
  have q_2_6 : @LT.lt Nat _ sd K.ds := Nat.lt_trans q_2_5 o4
  have q_3_5 : @LT.lt Nat _ x₀ td := Nat.lt_trans o2 o3
  have q_3_6 : @LT.lt Nat _ x₀ K.ds := Nat.lt_trans q_3_5 o4
  have q_4_6 : @LT.lt Nat _ K.mo K.ds := Nat.lt_trans o3 o4
  k_with "execs cons If" => ((with_reducible show wpAny _ _ (execs (Stmt.If _ _ _ ⟨1228, _, _, _⟩ :: _) _) _ _ _); refine wpAny_execs_cons (with_toks ?_))
  k_with "execs cons Assign" => ((with_reducible show wpAny _ _ (execs (Stmt.Assign _ _ ⟨1230, _, _, _⟩ :: _) _) _ _ _); (k_dflt (refine' post _ _ _ _ _ _ _ _ ?ya ?yt (fr_ps ?yF ?yk) ?yN; (case yF => k_asm); (case yk => (repeat (first | exact List.forall_mem_nil _ | (refine' all_cons ?zA9 ?_; (case zA9 => with_unfolding_all rfl))))); (case yN => first | exact News.nil | (refine' news_sub ?yq1 ?yq2; (case yq1 => k_asm); (case yq2 => (repeat (first | exact List.forall_mem_nil _ | (refine' sub_cons ?zA9 ?_; (case zA9 => k_mem)) | exact (fun p hp => by (repeat (first | exact hp | refine List.mem_cons_of_mem _ ?_)))))))); (case ya => trivial); (case yt => first | assumption | omega | ((try dsimp only at *); omega)); done)))
  k_steps
  all_goals (try ((with_reducible intro ht9); (try dsimp only at ht9); (try dsimp only); k_steps))
theorem all : ∀ c : Ld × Addr × (List Value) × (List Int) × Str × Str × Str × Str × Nat × (Option Str) × Nat × Tok × Tok × Tok × Tok × Tok × Value × (List (Addr × Obj)) × Nat × Nat × Nat × Nat × Nat × Nat × Kz × Ks × Sv × Kt × Tok × Int, P (c.1.prog) (c.1.w) (c.1.p) (c.1.loose) (c.1.mean) (c.1.mg) (c.1.mb) (c.1.h₀) (c.1.L) (c.1.fa) (c.1.cd) (c.1.s) (c.1.u) (c.1.Q) (c.1.E) (c.2.1) (c.2.2.1) (c.2.2.2.1) (c.2.2.2.2.1) (c.2.2.2.2.2.1) (c.2.2.2.2.2.2.1) (c.2.2.2.2.2.2.2.1) (c.2.2.2.2.2.2.2.2.1) (c.2.2.2.2.2.2.2.2.2.1) (c.2.2.2.2.2.2.2.2.2.2.1) (c.2.2.2.2.2.2.2.2.2.2.2.1) (c.2.2.2.2.2.2.2.2.2.2.2.2.1) (c.2.2.2.2.2.2.2.2.2.2.2.2.2.1) (c.2.2.2.2.2.2.2.2.2.2.2.2.2.2.1) (c.2.2.2.2.2.2.2.2.2.2.2.2.2.2.2.1) (c.2.2.2.2.2.2.2.2.2.2.2.2.2.2.2.2.1) (c.2.2.2.2.2.2.2.2.2.2.2.2.2.2.2.2.2.1) (c.2.2.2.2.2.2.2.2.2.2.2.2.2.2.2.2.2.2.1) (c.2.2.2.2.2.2.2.2.2.2.2.2.2.2.2.2.2.2.2.1) (c.2.2.2.2.2.2.2.2.2.2.2.2.2.2.2.2.2.2.2.2.1) (c.2.2.2.2.2.2.2.2.2.2.2.2.2.2.2.2.2.2.2.2.2.1) (c.2.2.2.2.2.2.2.2.2.2.2.2.2.2.2.2.2.2.2.2.2.2.1) (c.2.2.2.2.2.2.2.2.2.2.2.2.2.2.2.2.2.2.2.2.2.2.2.1) (c.2.2.2.2.2.2.2.2.2.2.2.2.2.2.2.2.2.2.2.2.2.2.2.2.1) (c.2.2.2.2.2.2.2.2.2.2.2.2.2.2.2.2.2.2.2.2.2.2.2.2.2.1) (c.2.2.2.2.2.2.2.2.2.2.2.2.2.2.2.2.2.2.2.2.2.2.2.2.2.2.1) (c.2.2.2.2.2.2.2.2.2.2.2.2.2.2.2.2.2.2.2.2.2.2.2.2.2.2.2.1) (c.2.2.2.2.2.2.2.2.2.2.2.2.2.2.2.2.2.2.2.2.2.2.2.2.2.2.2.2.1) (c.2.2.2.2.2.2.2.2.2.2.2.2.2.2.2.2.2.2.2.2.2.2.2.2.2.2.2.2.2) := by with_unfolding_all exact eps_all (Nonempty.elim Ld.ne fun b => ⟨(b, 0, [], [], default, default, default, default, 0, none, 0, 0, 0, 0, 0, 0, .none, [], 0, 0, 0, 0, 0, 0, ⟨0,0,0,0,0,0,0,0,0,0,0⟩, ⟨0,0,0,0,0,0,0,0,0,0,0,0,0,0⟩, ⟨default,0,0,0,0,.none,0,0,0,0,0⟩, ⟨0,0⟩, 0, 0)⟩) (P := fun c : Ld × Addr × (List Value) × (List Int) × Str × Str × Str × Str × Nat × (Option Str) × Nat × Tok × Tok × Tok × Tok × Tok × Value × (List (Addr × Obj)) × Nat × Nat × Nat × Nat × Nat × Nat × Kz × Ks × Sv × Kt × Tok × Int => P (c.1.prog) (c.1.w) (c.1.p) (c.1.loose) (c.1.mean) (c.1.mg) (c.1.mb) (c.1.h₀) (c.1.L) (c.1.fa) (c.1.cd) (c.1.s) (c.1.u) (c.1.Q) (c.1.E) (c.2.1) (c.2.2.1) (c.2.2.2.1) (c.2.2.2.2.1) (c.2.2.2.2.2.1) (c.2.2.2.2.2.2.1) (c.2.2.2.2.2.2.2.1) (c.2.2.2.2.2.2.2.2.1) (c.2.2.2.2.2.2.2.2.2.1) (c.2.2.2.2.2.2.2.2.2.2.1) (c.2.2.2.2.2.2.2.2.2.2.2.1) (c.2.2.2.2.2.2.2.2.2.2.2.2.1) (c.2.2.2.2.2.2.2.2.2.2.2.2.2.1) (c.2.2.2.2.2.2.2.2.2.2.2.2.2.2.1) (c.2.2.2.2.2.2.2.2.2.2.2.2.2.2.2.1) (c.2.2.2.2.2.2.2.2.2.2.2.2.2.2.2.2.1) (c.2.2.2.2.2.2.2.2.2.2.2.2.2.2.2.2.2.1) (c.2.2.2.2.2.2.2.2.2.2.2.2.2.2.2.2.2.2.1) (c.2.2.2.2.2.2.2.2.2.2.2.2.2.2.2.2.2.2.2.1) (c.2.2.2.2.2.2.2.2.2.2.2.2.2.2.2.2.2.2.2.2.1) (c.2.2.2.2.2.2.2.2.2.2.2.2.2.2.2.2.2.2.2.2.2.1) (c.2.2.2.2.2.2.2.2.2.2.2.2.2.2.2.2.2.2.2.2.2.2.1) (c.2.2.2.2.2.2.2.2.2.2.2.2.2.2.2.2.2.2.2.2.2.2.2.1) (c.2.2.2.2.2.2.2.2.2.2.2.2.2.2.2.2.2.2.2.2.2.2.2.2.1) (c.2.2.2.2.2.2.2.2.2.2.2.2.2.2.2.2.2.2.2.2.2.2.2.2.2.1) (c.2.2.2.2.2.2.2.2.2.2.2.2.2.2.2.2.2.2.2.2.2.2.2.2.2.2.1) (c.2.2.2.2.2.2.2.2.2.2.2.2.2.2.2.2.2.2.2.2.2.2.2.2.2.2.2.1) (c.2.2.2.2.2.2.2.2.2.2.2.2.2.2.2.2.2.2.2.2.2.2.2.2.2.2.2.2.1) (c.2.2.2.2.2.2.2.2.2.2.2.2.2.2.2.2.2.2.2.2.2.2.2.2.2.2.2.2.2)) @core
end Zlaw_c3
theorem law_c3 {prog : Program} {w : World} {p : Program} {loose : List Str} {mean : ExcName → Option Value} {mg mb : Str → Option Value}
    {h₀ : Heap} {L fa : Addr} {cd : Value} {s : Shared} {u : Str → Option Value} {Q : Flow → Shared → Prop} {E : Value → Shared → Prop}
    {fname qual : Str} {params : Arguments} {body : List Stmt} {scope : Scope} {dV kV doc pm cdv ct oc : Value} {an od : Option Addr} {osl : Array (Option Value)}
    {l : Addr} {vs : List Value} {ns : List Int} {tx x it iv : Str} {Tn : Nat} {fo : Option Str} {er : Nat} {t2 t3 t5 t6 t7 : Tok} {al : Value} {rest : List (Addr × Obj)} {z zd x₀ sd td nq : Nat} {Z : Kz} {K : Ks} {v : Sv} {Kx : Kt} {ud : Tok} {d : Int}
    (hl : (Mine.a.heap_1_39 w.params).lookup 779 = some ⟨oc, od, .func (fnOf fname qual params body scope dV kV doc pm an cdv ct), osl⟩)
    (B : Below callerA h₀ [] h₀) (F : Fr h₀ L s.heap (kstB u [(Str.ofString "text", .str tx t2), (Str.ofString "ending", al), (Str.ofString "mended", .str x t3), (Str.ofString "taken", .int (Tn : Int) t5), (Str.ofString "errors", .ref er), (Str.ofString "in_text", .str it t6), (Str.ofString "in_value", .str iv t7), (Str.ofString "script", .ref l), (Str.ofString "one", .ref z)])) (X : (Mine.a.heap_1_39 w.params).In h₀) (T : Top p loose mean mg mb h₀) (N : News h₀ L s.heap (tokLed w z zd x₀ sd td K v Kx tx t2 d ud (zdict w Z x₀ .none) rest)) (htk0 : 0 < s.toks)
    (hLaw : LawIs tx x al Tn fo it iv) (hat : At tx v d Tn) (p0 : zd < z) (p1 : z < sd) (o1 : sd < x₀) (o2 : x₀ < K.mo) (o3 : K.mo < td) (o4 : td < K.ds) (p3 : K.ds < Z.q) (hoff : OwnOff rest [z, zd, Z.q, x₀, sd, K.ds, td, K.mo])
    (post : ∀ h' tk (m' : Str → Option Value) t2 t3 t5 t6 t7, (True) → 0 < tk → Fr h₀ L h' (kstB m' [(Str.ofString "text", .str tx t2), (Str.ofString "ending", al), (Str.ofString "mended", .str x t3), (Str.ofString "taken", .int (Tn : Int) t5), (Str.ofString "errors", .ref er), (Str.ofString "in_text", .str it t6), (Str.ofString "in_value", .str iv t7), (Str.ofString "script", .ref l)]) → News h₀ L h' rest → wpAny (model prog w) (callerA.deeper (envOf qual scope L fa cd)) (execs (body.drop 17) (envOf qual scope L fa cd)) Q E { s with heap := h', toks := tk }) : wpAny (model prog w) (callerA.deeper (envOf qual scope L fa cd)) (execs (body.drop 16) (envOf qual scope L fa cd)) Q E s := by
  exact Zlaw_c3.all ⟨⟨prog, w, p, loose, mean, mg, mb, h₀, L, fa, cd, s, u, Q, E⟩, l, vs, ns, tx, x, it, iv, Tn, fo, er, t2, t3, t5, t6, t7, al, rest, z, zd, x₀, sd, td, nq, Z, K, v, Kx, ud, d⟩ hl B F X T N htk0 hLaw hat p0 p1 o1 o2 o3 o4 p3 hoff post
theorem off11 {zd z sd x mo td ds q e1 e2 e3 : Nat} {rest : List (Addr × Obj)} (l : AdrLt zd (rest.map (·.1))) (q1 : zd < z) (q2 : z < sd) (q3 : sd < x) (q4 : x < mo) (q5 : mo < td) (q6 : td < ds) (q7 : ds < q) (r1 : q < e1) (r2 : e1 < e3) (r3 : e3 < e2) : OwnOff rest [z, zd, q, x, sd, ds, td, mo, e1, e2, e3] := ownOff_lt l (by
  have a := Nat.lt_trans q1 q2
  have b := Nat.lt_trans a q3
  have c := Nat.lt_trans b q4
  have d := Nat.lt_trans c q5
  have e := Nat.lt_trans d q6
  have f := Nat.lt_trans e q7
  have g := Nat.lt_trans f r1
  have h := Nat.lt_trans g r2
  have i := Nat.lt_trans h r3
  exact all_cons (Nat.le_of_lt q1) (all_cons (Nat.le_refl _) (all_cons (Nat.le_of_lt f) (all_cons (Nat.le_of_lt b) (all_cons (Nat.le_of_lt a) (all_cons (Nat.le_of_lt e) (all_cons (Nat.le_of_lt d) (all_cons (Nat.le_of_lt c) (all_cons (Nat.le_of_lt g) (all_cons (Nat.le_of_lt i) (all_cons (Nat.le_of_lt h) (List.forall_mem_nil _))))))))))))
namespace Zlaw_d0
noncomputable def P (prog : Program) (w : World) (p : Program) (loose : List Str) (mean : ExcName → Option Value) (mg : Str → Option Value) (mb : Str → Option Value) (h₀ : Heap) (L : Addr) (fa : Addr) (cd : Value) (s : Shared) (u : Str → Option Value) (Q : Flow → Shared → Prop) (E : Value → Shared → Prop) (l : Addr) (vs : List Value) (ns : List Int) (tx : Str) (x : Str) (it : Str) (iv : Str) (Tt : Int) (er : Nat) (t2 : Tok) (t3 : Tok) (t5 : Tok) (t6 : Tok) (t7 : Tok) (al : Value) (rest : List (Addr × Obj)) : Prop := ∀ {fname qual : Str} {params : Arguments} {body : List Stmt} {scope : Scope} {dV kV doc pm cdv fct foc : Value} {fan fod : Option Addr} {fosl : Array (Option Value)}
    (hl : (Mine.a.heap_1_39 w.params).lookup 779 = some ⟨foc, fod, .func (fnOf fname qual params body scope dV kV doc pm fan cdv fct), fosl⟩)
    (B : Below callerA h₀ [] h₀) (F : Fr h₀ L s.heap (kstB u [(Str.ofString "text", .str tx t2), (Str.ofString "ending", al), (Str.ofString "mended", .str x t3), (Str.ofString "taken", .int Tt t5), (Str.ofString "errors", .ref er), (Str.ofString "in_text", .str it t6), (Str.ofString "in_value", .str iv t7), (Str.ofString "script", .ref l)])) (X : (Mine.a.heap_1_39 w.params).In h₀) (T : Top p loose mean mg mb h₀) (N : News h₀ L s.heap rest) (htk0 : 0 < s.toks)
    
    (post : ∀ h' tk (m' : Str → Option Value) z zd x₀ sd td (K : Ks) (v : Sv) (Kx : Kt) (ud : Tok) (Z : Kz) (qn : Nat) e0 e1 e2 e3 ne nf ng (un uv ua ub : Tok) (oc : Obj) t2 t3 t5 t6 t7, (zd < z) → (z < sd) → (sd < x₀) → (x₀ < K.mo) → (K.mo < td) → (td < K.ds) → (K.ds < Z.q) → (At tx v 0 0) → (Z.q < e1) → (e1 < e3) → (e3 < e2) → (e1 < e0) → (e0 < e3) → (oc.IsDictOf (PySem.strKind prog w) [(Str.ofString "data", .ref e2)]) → ((e1 == sysModules) = false) → (OwnOff rest [z, zd, Z.q, x₀, sd, K.ds, td, K.mo, e1, e2, e3]) → 0 < tk → Fr h₀ L h' (kstB m' [(Str.ofString "text", .str tx t2), (Str.ofString "ending", al), (Str.ofString "mended", .str x t3), (Str.ofString "taken", .int Tt t5), (Str.ofString "errors", .ref er), (Str.ofString "in_text", .str it t6), (Str.ofString "in_value", .str iv t7), (Str.ofString "script", .ref l), (Str.ofString "two", .ref z)]) → News h₀ L h' ((Z.q, listOf #[] qn) :: tokLed w z zd x₀ sd td K v Kx tx t2 0 ud (zdict w Z x₀ (.ref e1)) ((e1, oc) :: (e2, listOf #[.ref e0, .ref e3] ne) :: (e3, listOf #[.str (Str.ofString "b") un, .str (Str.ofString "y") uv] nf) :: ((e0, listOf #[.str (Str.ofString "a") ua, .str (Str.ofString "x") ub] ng) :: rest))) → wpAny (model prog w) (callerA.deeper (envOf qual scope L fa cd)) (execs (body.drop 20) (envOf qual scope L fa cd)) Q E { s with heap := h', toks := tk }), wpAny (model prog w) (callerA.deeper (envOf qual scope L fa cd)) (execs (body.drop 17) (envOf qual scope L fa cd)) Q E s
@[irreducible] noncomputable def c0 : Ld × Addr × (List Value) × (List Int) × Str × Str × Str × Str × Int × Nat × Tok × Tok × Tok × Tok × Tok × Value × (List (Addr × Obj)) := @Classical.epsilon _ (Nonempty.elim Ld.ne fun b => ⟨(b, 0, [], [], default, default, default, default, 0, 0, 0, 0, 0, 0, 0, .none, [])⟩) fun c => ¬ P (c.1.prog) (c.1.w) (c.1.p) (c.1.loose) (c.1.mean) (c.1.mg) (c.1.mb) (c.1.h₀) (c.1.L) (c.1.fa) (c.1.cd) (c.1.s) (c.1.u) (c.1.Q) (c.1.E) (c.2.1) (c.2.2.1) (c.2.2.2.1) (c.2.2.2.2.1) (c.2.2.2.2.2.1) (c.2.2.2.2.2.2.1) (c.2.2.2.2.2.2.2.1) (c.2.2.2.2.2.2.2.2.1) (c.2.2.2.2.2.2.2.2.2.1) (c.2.2.2.2.2.2.2.2.2.2.1) (c.2.2.2.2.2.2.2.2.2.2.2.1) (c.2.2.2.2.2.2.2.2.2.2.2.2.1) (c.2.2.2.2.2.2.2.2.2.2.2.2.2.1) (c.2.2.2.2.2.2.2.2.2.2.2.2.2.2.1) (c.2.2.2.2.2.2.2.2.2.2.2.2.2.2.2.1) (c.2.2.2.2.2.2.2.2.2.2.2.2.2.2.2.2)
@[irreducible] noncomputable def prog : Program := c0.1.prog
@[irreducible] noncomputable def w : World := c0.1.w
@[irreducible] noncomputable def p : Program := c0.1.p
@[irreducible] noncomputable def loose : List Str := c0.1.loose
@[irreducible] noncomputable def mean : ExcName → Option Value := c0.1.mean
@[irreducible] noncomputable def mg : Str → Option Value := c0.1.mg
@[irreducible] noncomputable def mb : Str → Option Value := c0.1.mb
@[irreducible] noncomputable def h₀ : Heap := c0.1.h₀
@[irreducible] noncomputable def L : Addr := c0.1.L
@[irreducible] noncomputable def fa : Addr := c0.1.fa
@[irreducible] noncomputable def cd : Value := c0.1.cd
@[irreducible] noncomputable def s : Shared := c0.1.s
@[irreducible] noncomputable def u : Str → Option Value := c0.1.u
@[irreducible] noncomputable def Q : Flow → Shared → Prop := c0.1.Q
@[irreducible] noncomputable def E : Value → Shared → Prop := c0.1.E
@[irreducible] noncomputable def l : Addr := c0.2.1
@[irreducible] noncomputable def vs : List Value := c0.2.2.1
@[irreducible] noncomputable def ns : List Int := c0.2.2.2.1
@[irreducible] noncomputable def tx : Str := c0.2.2.2.2.1
@[irreducible] noncomputable def x : Str := c0.2.2.2.2.2.1
@[irreducible] noncomputable def it : Str := c0.2.2.2.2.2.2.1
@[irreducible] noncomputable def iv : Str := c0.2.2.2.2.2.2.2.1
@[irreducible] noncomputable def Tt : Int := c0.2.2.2.2.2.2.2.2.1
@[irreducible] noncomputable def er : Nat := c0.2.2.2.2.2.2.2.2.2.1
@[irreducible] noncomputable def t2 : Tok := c0.2.2.2.2.2.2.2.2.2.2.1
@[irreducible] noncomputable def t3 : Tok := c0.2.2.2.2.2.2.2.2.2.2.2.1
@[irreducible] noncomputable def t5 : Tok := c0.2.2.2.2.2.2.2.2.2.2.2.2.1
@[irreducible] noncomputable def t6 : Tok := c0.2.2.2.2.2.2.2.2.2.2.2.2.2.1
@[irreducible] noncomputable def t7 : Tok := c0.2.2.2.2.2.2.2.2.2.2.2.2.2.2.1
@[irreducible] noncomputable def al : Value := c0.2.2.2.2.2.2.2.2.2.2.2.2.2.2.2.1
@[irreducible] noncomputable def rest : List (Addr × Obj) := c0.2.2.2.2.2.2.2.2.2.2.2.2.2.2.2.2
theorem core {fname qual : Str} {params : Arguments} {body : List Stmt} {scope : Scope} {dV kV doc pm cdv fct foc : Value} {fan fod : Option Addr} {fosl : Array (Option Value)}
    (hl : (Mine.a.heap_1_39 w.params).lookup 779 = some ⟨foc, fod, .func (fnOf fname qual params body scope dV kV doc pm fan cdv fct), fosl⟩)
    (B : Below callerA h₀ [] h₀) (F : Fr h₀ L s.heap (kstB u [(Str.ofString "text", .str tx t2), (Str.ofString "ending", al), (Str.ofString "mended", .str x t3), (Str.ofString "taken", .int Tt t5), (Str.ofString "errors", .ref er), (Str.ofString "in_text", .str it t6), (Str.ofString "in_value", .str iv t7), (Str.ofString "script", .ref l)])) (X : (Mine.a.heap_1_39 w.params).In h₀) (T : Top p loose mean mg mb h₀) (N : News h₀ L s.heap rest) (htk0 : 0 < s.toks)
    
    (post : ∀ h' tk (m' : Str → Option Value) z zd x₀ sd td (K : Ks) (v : Sv) (Kx : Kt) (ud : Tok) (Z : Kz) (qn : Nat) e0 e1 e2 e3 ne nf ng (un uv ua ub : Tok) (oc : Obj) t2 t3 t5 t6 t7, (zd < z) → (z < sd) → (sd < x₀) → (x₀ < K.mo) → (K.mo < td) → (td < K.ds) → (K.ds < Z.q) → (At tx v 0 0) → (Z.q < e1) → (e1 < e3) → (e3 < e2) → (e1 < e0) → (e0 < e3) → (oc.IsDictOf (PySem.strKind prog w) [(Str.ofString "data", .ref e2)]) → ((e1 == sysModules) = false) → (OwnOff rest [z, zd, Z.q, x₀, sd, K.ds, td, K.mo, e1, e2, e3]) → 0 < tk → Fr h₀ L h' (kstB m' [(Str.ofString "text", .str tx t2), (Str.ofString "ending", al), (Str.ofString "mended", .str x t3), (Str.ofString "taken", .int Tt t5), (Str.ofString "errors", .ref er), (Str.ofString "in_text", .str it t6), (Str.ofString "in_value", .str iv t7), (Str.ofString "script", .ref l), (Str.ofString "two", .ref z)]) → News h₀ L h' ((Z.q, listOf #[] qn) :: tokLed w z zd x₀ sd td K v Kx tx t2 0 ud (zdict w Z x₀ (.ref e1)) ((e1, oc) :: (e2, listOf #[.ref e0, .ref e3] ne) :: (e3, listOf #[.str (Str.ofString "b") un, .str (Str.ofString "y") uv] nf) :: ((e0, listOf #[.str (Str.ofString "a") ua, .str (Str.ofString "x") ub] ng) :: rest))) → wpAny (model prog w) (callerA.deeper (envOf qual scope L fa cd)) (execs (body.drop 20) (envOf qual scope L fa cd)) Q E { s with heap := h', toks := tk }) : wpAny (model prog w) (callerA.deeper (envOf qual scope L fa cd)) (execs (body.drop 17) (envOf qual scope L fa cd)) Q E s := by
  refine' seg_in hl ?hk ?_
  (case hk => k_is)
  rintro rfl rfl rfl rfl
  clear hl
  (try dsimp only [List.drop])
  (try dsimp only [kstB] at F)
  k_with "execs cons Assign" => ((with_reducible show wpAny _ _ (execs (Stmt.Assign _ _ ⟨1230, _, _, _⟩ :: _) _) _ _ _); refine wpAny_execs_cons (with_toks ?_))
  k_with "execs cons Expr" => ((with_reducible show wpAny _ _ (execs (Stmt.Expr _ ⟨1233, _, _, _⟩ :: _) _) _ _ _); (k_dflt (refine' post _ _ _ _ _ _ _ _ _ _ _ _ ⟨_, _, _, _, _, _, _, _, _, _, _⟩ _ _ _ _ _ _ _ _ _ _ _ _ _ _ _ _ _ _ ?ya ?yb ?yc ?yd ?ye ?yf ?yg ?yh ?yi ?yj ?yk9 ?yl ?ym ?yn ?yo ?yp ?yt (fr_ps ?yF ?yk) ?yN; (case yF => k_asm); (case yk => (repeat (first | exact List.forall_mem_nil _ | (refine' all_cons ?zA9 ?_; (case zA9 => with_unfolding_all rfl))))); (case yN => first | exact News.nil | (refine' news_sub ?yq1 ?yq2; (case yq1 => k_asm); (case yq2 => (repeat (first | exact List.forall_mem_nil _ | (refine' sub_cons ?zA9 ?_; (case zA9 => k_mem)) | exact (fun p hp => by (repeat (first | exact hp | refine List.mem_cons_of_mem _ ?_)))))))); (case ya => (first | assumption | exact adr_lt (by with_reducible assumption) (by k_mem) | fail "lt")); (case yb => (first | assumption | exact adr_lt (by with_reducible assumption) (by k_mem) | fail "lt")); (case yc => (first | assumption | exact adr_lt (by with_reducible assumption) (by k_mem) | fail "lt")); (case yd => (first | assumption | exact adr_lt (by with_reducible assumption) (by k_mem) | fail "lt")); (case ye => (first | assumption | exact adr_lt (by with_reducible assumption) (by k_mem) | fail "lt")); (case yf => (first | assumption | exact adr_lt (by with_reducible assumption) (by k_mem) | fail "lt")); (case yg => (first | assumption | exact adr_lt (by with_reducible assumption) (by k_mem) | fail "lt")); (case yh => assumption); (case yi => (first | assumption | exact adr_lt (by with_reducible assumption) (by k_mem) | fail "lt")); (case yj => (first | assumption | exact adr_lt (by with_reducible assumption) (by k_mem) | fail "lt")); (case yk9 => (first | assumption | exact adr_lt (by with_reducible assumption) (by k_mem) | fail "lt")); (case yl => (first | assumption | exact adr_lt (by with_reducible assumption) (by k_mem) | fail "lt")); (case ym => (first | assumption | exact adr_lt (by with_reducible assumption) (by k_mem) | fail "lt")); (case yn => ((with_reducible rename Obj.IsDictOf _ _ (strPairs _) => hd9); exact hd9)); (case yo => with_reducible assumption); (case yp => exact off11 (by with_reducible assumption) (by with_reducible assumption) (by with_reducible assumption) (by with_reducible assumption) (by with_reducible assumption) (by with_reducible assumption) (by with_reducible assumption) (by first | with_reducible assumption | exact adr_lt (by with_reducible assumption) (by k_mem) | fail "lt") (by first | with_reducible assumption | exact adr_lt (by with_reducible assumption) (by k_mem) | fail "lt") (by first | with_reducible assumption | exact adr_lt (by with_reducible assumption) (by k_mem) | fail "lt") (by first | with_reducible assumption | exact adr_lt (by with_reducible assumption) (by k_mem) | fail "lt")); (case yt => first | assumption | omega | ((try dsimp only at *); omega)); done)))
  k_steps
  all_goals (try ((with_reducible intro ht9); (try dsimp only at ht9); (try dsimp only); k_steps))
theorem all : ∀ c : Ld × Addr × (List Value) × (List Int) × Str × Str × Str × Str × Int × Nat × Tok × Tok × Tok × Tok × Tok × Value × (List (Addr × Obj)), P (c.1.prog) (c.1.w) (c.1.p) (c.1.loose) (c.1.mean) (c.1.mg) (c.1.mb) (c.1.h₀) (c.1.L) (c.1.fa) (c.1.cd) (c.1.s) (c.1.u) (c.1.Q) (c.1.E) (c.2.1) (c.2.2.1) (c.2.2.2.1) (c.2.2.2.2.1) (c.2.2.2.2.2.1) (c.2.2.2.2.2.2.1) (c.2.2.2.2.2.2.2.1) (c.2.2.2.2.2.2.2.2.1) (c.2.2.2.2.2.2.2.2.2.1) (c.2.2.2.2.2.2.2.2.2.2.1) (c.2.2.2.2.2.2.2.2.2.2.2.1) (c.2.2.2.2.2.2.2.2.2.2.2.2.1) (c.2.2.2.2.2.2.2.2.2.2.2.2.2.1) (c.2.2.2.2.2.2.2.2.2.2.2.2.2.2.1) (c.2.2.2.2.2.2.2.2.2.2.2.2.2.2.2.1) (c.2.2.2.2.2.2.2.2.2.2.2.2.2.2.2.2) := by with_unfolding_all exact eps_all (Nonempty.elim Ld.ne fun b => ⟨(b, 0, [], [], default, default, default, default, 0, 0, 0, 0, 0, 0, 0, .none, [])⟩) (P := fun c : Ld × Addr × (List Value) × (List Int) × Str × Str × Str × Str × Int × Nat × Tok × Tok × Tok × Tok × Tok × Value × (List (Addr × Obj)) => P (c.1.prog) (c.1.w) (c.1.p) (c.1.loose) (c.1.mean) (c.1.mg) (c.1.mb) (c.1.h₀) (c.1.L) (c.1.fa) (c.1.cd) (c.1.s) (c.1.u) (c.1.Q) (c.1.E) (c.2.1) (c.2.2.1) (c.2.2.2.1) (c.2.2.2.2.1) (c.2.2.2.2.2.1) (c.2.2.2.2.2.2.1) (c.2.2.2.2.2.2.2.1) (c.2.2.2.2.2.2.2.2.1) (c.2.2.2.2.2.2.2.2.2.1) (c.2.2.2.2.2.2.2.2.2.2.1) (c.2.2.2.2.2.2.2.2.2.2.2.1) (c.2.2.2.2.2.2.2.2.2.2.2.2.1) (c.2.2.2.2.2.2.2.2.2.2.2.2.2.1) (c.2.2.2.2.2.2.2.2.2.2.2.2.2.2.1) (c.2.2.2.2.2.2.2.2.2.2.2.2.2.2.2.1) (c.2.2.2.2.2.2.2.2.2.2.2.2.2.2.2.2)) @core
end Zlaw_d0
theorem law_d0 {prog : Program} {w : World} {p : Program} {loose : List Str} {mean : ExcName → Option Value} {mg mb : Str → Option Value}
    {h₀ : Heap} {L fa : Addr} {cd : Value} {s : Shared} {u : Str → Option Value} {Q : Flow → Shared → Prop} {E : Value → Shared → Prop}
    {fname qual : Str} {params : Arguments} {body : List Stmt} {scope : Scope} {dV kV doc pm cdv ct oc : Value} {an od : Option Addr} {osl : Array (Option Value)}
    {l : Addr} {vs : List Value} {ns : List Int} {tx x it iv : Str} {Tt : Int} {er : Nat} {t2 t3 t5 t6 t7 : Tok} {al : Value} {rest : List (Addr × Obj)}
    (hl : (Mine.a.heap_1_39 w.params).lookup 779 = some ⟨oc, od, .func (fnOf fname qual params body scope dV kV doc pm an cdv ct), osl⟩)
    (B : Below callerA h₀ [] h₀) (F : Fr h₀ L s.heap (kstB u [(Str.ofString "text", .str tx t2), (Str.ofString "ending", al), (Str.ofString "mended", .str x t3), (Str.ofString "taken", .int Tt t5), (Str.ofString "errors", .ref er), (Str.ofString "in_text", .str it t6), (Str.ofString "in_value", .str iv t7), (Str.ofString "script", .ref l)])) (X : (Mine.a.heap_1_39 w.params).In h₀) (T : Top p loose mean mg mb h₀) (N : News h₀ L s.heap rest) (htk0 : 0 < s.toks)
    
    (post : ∀ h' tk (m' : Str → Option Value) z zd x₀ sd td (K : Ks) (v : Sv) (Kx : Kt) (ud : Tok) (Z : Kz) (qn : Nat) e0 e1 e2 e3 ne nf ng (un uv ua ub : Tok) (oc : Obj) t2 t3 t5 t6 t7, (zd < z) → (z < sd) → (sd < x₀) → (x₀ < K.mo) → (K.mo < td) → (td < K.ds) → (K.ds < Z.q) → (At tx v 0 0) → (Z.q < e1) → (e1 < e3) → (e3 < e2) → (e1 < e0) → (e0 < e3) → (oc.IsDictOf (PySem.strKind prog w) [(Str.ofString "data", .ref e2)]) → ((e1 == sysModules) = false) → (OwnOff rest [z, zd, Z.q, x₀, sd, K.ds, td, K.mo, e1, e2, e3]) → 0 < tk → Fr h₀ L h' (kstB m' [(Str.ofString "text", .str tx t2), (Str.ofString "ending", al), (Str.ofString "mended", .str x t3), (Str.ofString "taken", .int Tt t5), (Str.ofString "errors", .ref er), (Str.ofString "in_text", .str it t6), (Str.ofString "in_value", .str iv t7), (Str.ofString "script", .ref l), (Str.ofString "two", .ref z)]) → News h₀ L h' ((Z.q, listOf #[] qn) :: tokLed w z zd x₀ sd td K v Kx tx t2 0 ud (zdict w Z x₀ (.ref e1)) ((e1, oc) :: (e2, listOf #[.ref e0, .ref e3] ne) :: (e3, listOf #[.str (Str.ofString "b") un, .str (Str.ofString "y") uv] nf) :: ((e0, listOf #[.str (Str.ofString "a") ua, .str (Str.ofString "x") ub] ng) :: rest))) → wpAny (model prog w) (callerA.deeper (envOf qual scope L fa cd)) (execs (body.drop 20) (envOf qual scope L fa cd)) Q E { s with heap := h', toks := tk }) : wpAny (model prog w) (callerA.deeper (envOf qual scope L fa cd)) (execs (body.drop 17) (envOf qual scope L fa cd)) Q E s := by
  exact Zlaw_d0.all ⟨⟨prog, w, p, loose, mean, mg, mb, h₀, L, fa, cd, s, u, Q, E⟩, l, vs, ns, tx, x, it, iv, Tt, er, t2, t3, t5, t6, t7, al, rest⟩ hl B F X T N htk0  post
theorem lines_LD1_1 : True := by
  (k_with "call ref" => safely ((k_here; (with_reducible show wpAny _ _ (call (Value.ref 283) _ _) _ _ _); (refine with_toks ?_); k_dflt (refine' ce_attr (i := 0) ?quBQ ?quFQ ?quXQ ?quTQ ?quAQ ?quhQ ?qufQ ?qukQ ?qudQ ?quuQ ?quNQ ?qp0Q ?qp1Q ?qo1Q ?qo2Q ?qo3Q ?qo4Q ?qp3Q ?qhoffQ ?qr1Q ?qr2Q ?qr3Q ?qhvlQ ?qhocQ ?qhqQ ?qhalQ ?qhnumQ ?qhxQ ?qhokQ ?qhatQ ?_; (case quAQ => exact rfl); (case quhQ => exact rfl); (case qufQ => exact rfl); (case qukQ => exact rfl); (case quBQ => k_asm); (case quFQ => k_asm); (case quXQ => k_asm); (case quTQ => k_asm); (case quNQ => k_asm); (case qudQ => k_room); (case quuQ => k_units); (case qp0Q => with_reducible assumption); (case qp1Q => with_reducible assumption); (case qo1Q => with_reducible assumption); (case qo2Q => with_reducible assumption); (case qo3Q => with_reducible assumption); (case qo4Q => with_reducible assumption); (case qp3Q => with_reducible assumption); (case qhoffQ => with_reducible assumption); (case qr1Q => with_reducible assumption); (case qr2Q => with_reducible assumption); (case qr3Q => with_reducible assumption); (case qhvlQ => decide +kernel); (case qhocQ => with_reducible assumption); (case qhqQ => decide); (case qhalQ => exact hLaw.end_); (case qhnumQ => exact hLaw.num); (case qhxQ => exact Nat.lt_of_le_of_lt hLaw.len (by decide)); (case qhokQ => exact hLaw.ok); (case qhatQ => with_reducible assumption); k_whole; intro h9Qq tk9Qq T9Qq b9Qq f9Qq out9Qq tks9Qq qi9Qq n9Qq nf9Qq v9Qq d9Qq ud9Qq uz9Qq hce9Qq hat9Qq htk9Qq F9Qq N9Qq; intro ht9Qq; (obtain ⟨e1Qq, e2Qq, e3Qq⟩ := hLaw.ce hce9Qq); (subst e1Qq); (subst e2Qq); (replace e3Qq := e3Qq.trans (if_pos rfl)); (subst e3Qq); (try dsimp only at ht9Qq); (try k_sweep)))))
  trivial
namespace Zlaw_d1
noncomputable def P (prog : Program) (w : World) (p : Program) (loose : List Str) (mean : ExcName → Option Value) (mg : Str → Option Value) (mb : Str → Option Value) (h₀ : Heap) (L : Addr) (fa : Addr) (cd : Value) (s : Shared) (u : Str → Option Value) (Q : Flow → Shared → Prop) (E : Value → Shared → Prop) (l : Addr) (vs : List Value) (ns : List Int) (tx : Str) (x : Str) (it : Str) (iv : Str) (Tn : Nat) (fo : Option Str) (er : Nat) (t2 : Tok) (t3 : Tok) (t5 : Tok) (t6 : Tok) (t7 : Tok) (al : Value) (rest : List (Addr × Obj)) (z : Nat) (zd : Nat) (x₀ : Nat) (sd : Nat) (td : Nat) (qn : Nat) (Z : Kz) (K : Ks) (v : Sv) (Kx : Kt) (ud : Tok) (d : Int) (e0 : Nat) (e1 : Nat) (e2 : Nat) (e3 : Nat) (ne : Nat) (nf : Nat) (un : Tok) (uv : Tok) (ocd : Obj) : Prop := ∀ {fname qual : Str} {params : Arguments} {body : List Stmt} {scope : Scope} {dV kV doc pm cdv fct foc : Value} {fan fod : Option Addr} {fosl : Array (Option Value)}
    (hl : (Mine.a.heap_1_39 w.params).lookup 779 = some ⟨foc, fod, .func (fnOf fname qual params body scope dV kV doc pm fan cdv fct), fosl⟩)
    (B : Below callerA h₀ [] h₀) (F : Fr h₀ L s.heap (kstB u [(Str.ofString "text", .str tx t2), (Str.ofString "ending", al), (Str.ofString "mended", .str x t3), (Str.ofString "taken", .int (Tn : Int) t5), (Str.ofString "errors", .ref er), (Str.ofString "in_text", .str it t6), (Str.ofString "in_value", .str iv t7), (Str.ofString "script", .ref l), (Str.ofString "two", .ref z)])) (X : (Mine.a.heap_1_39 w.params).In h₀) (T : Top p loose mean mg mb h₀) (N : News h₀ L s.heap ((Z.q, listOf #[] qn) :: tokLed w z zd x₀ sd td K v Kx tx t2 d ud (zdict w Z x₀ (.ref e1)) ((e1, ocd) :: (e2, listOf #[.ref e0, .ref e3] ne) :: (e3, listOf #[.str (Str.ofString "b") un, .str (Str.ofString "y") uv] nf) :: rest))) (htk0 : 0 < s.toks)
    (hLaw : LawIs tx x al Tn fo it iv) (hat : At tx v d 0) (p0 : zd < z) (p1 : z < sd) (o1 : sd < x₀) (o2 : x₀ < K.mo) (o3 : K.mo < td) (o4 : td < K.ds) (p3 : K.ds < Z.q) (hoff : OwnOff rest [z, zd, Z.q, x₀, sd, K.ds, td, K.mo, e1, e2, e3]) (r1 : Z.q < e1) (r2 : e1 < e3) (r3 : e3 < e2) (hoc : ocd.IsDictOf (PySem.strKind prog w) [(Str.ofString "data", .ref e2)])
    (post : ∀ h' tk (m' : Str → Option Value) tks qi n' nf' v' d' ud' uz t2 t3 t5 t6 t7, (At tx v' d' Tn) → (TkIs prog w #[] Z.q [(e1, ocd), (e2, listOf #[.ref e0, .ref e3] ne), (e3, listOf #[.str (Str.ofString "b") un, .str (Str.ofString "y") uv] nf)] fo tks qi) → 0 < tk → Fr h₀ L h' (kstB m' [(Str.ofString "text", .str tx t2), (Str.ofString "ending", al), (Str.ofString "mended", .str x t3), (Str.ofString "taken", .int (Tn : Int) t5), (Str.ofString "errors", .ref er), (Str.ofString "in_text", .str it t6), (Str.ofString "in_value", .str iv t7), (Str.ofString "script", .ref l), (Str.ofString "two", .ref z)]) → News h₀ L h' ((Z.q, listOf qi n') :: tokLed w z zd x₀ sd td K v' Kx tx t2 d' ud' (zdict w Z x₀ (.ref e1)) ((e1, ocd) :: (e2, listOf #[.ref e0, .ref e3] ne) :: (e3, listOf #[.str (Str.ofString "b") un, .str ((Str.ofString "y") ++ iv) uz] nf') :: (tks ++ rest))) → wpAny (model prog w) (callerA.deeper (envOf qual scope L fa cd)) (execs (body.drop 21) (envOf qual scope L fa cd)) Q E { s with heap := h', toks := tk }), wpAny (model prog w) (callerA.deeper (envOf qual scope L fa cd)) (execs (body.drop 20) (envOf qual scope L fa cd)) Q E s
@[irreducible] noncomputable def c0 : Ld × Addr × (List Value) × (List Int) × Str × Str × Str × Str × Nat × (Option Str) × Nat × Tok × Tok × Tok × Tok × Tok × Value × (List (Addr × Obj)) × Nat × Nat × Nat × Nat × Nat × Nat × Kz × Ks × Sv × Kt × Tok × Int × Nat × Nat × Nat × Nat × Nat × Nat × Tok × Tok × Obj := @Classical.epsilon _ (Nonempty.elim Ld.ne fun b => ⟨(b, 0, [], [], default, default, default, default, 0, none, 0, 0, 0, 0, 0, 0, .none, [], 0, 0, 0, 0, 0, 0, ⟨0,0,0,0,0,0,0,0,0,0,0⟩, ⟨0,0,0,0,0,0,0,0,0,0,0,0,0,0⟩, ⟨default,0,0,0,0,.none,0,0,0,0,0⟩, ⟨0,0⟩, 0, 0, 0, 0, 0, 0, 0, 0, 0, 0, ⟨.none, none, .func default, #[]⟩)⟩) fun c => ¬ P (c.1.prog) (c.1.w) (c.1.p) (c.1.loose) (c.1.mean) (c.1.mg) (c.1.mb) (c.1.h₀) (c.1.L) (c.1.fa) (c.1.cd) (c.1.s) (c.1.u) (c.1.Q) (c.1.E) (c.2.1) (c.2.2.1) (c.2.2.2.1) (c.2.2.2.2.1) (c.2.2.2.2.2.1) (c.2.2.2.2.2.2.1) (c.2.2.2.2.2.2.2.1) (c.2.2.2.2.2.2.2.2.1) (c.2.2.2.2.2.2.2.2.2.1) (c.2.2.2.2.2.2.2.2.2.2.1) (c.2.2.2.2.2.2.2.2.2.2.2.1) (c.2.2.2.2.2.2.2.2.2.2.2.2.1) (c.2.2.2.2.2.2.2.2.2.2.2.2.2.1) (c.2.2.2.2.2.2.2.2.2.2.2.2.2.2.1) (c.2.2.2.2.2.2.2.2.2.2.2.2.2.2.2.1) (c.2.2.2.2.2.2.2.2.2.2.2.2.2.2.2.2.1) (c.2.2.2.2.2.2.2.2.2.2.2.2.2.2.2.2.2.1) (c.2.2.2.2.2.2.2.2.2.2.2.2.2.2.2.2.2.2.1) (c.2.2.2.2.2.2.2.2.2.2.2.2.2.2.2.2.2.2.2.1) (c.2.2.2.2.2.2.2.2.2.2.2.2.2.2.2.2.2.2.2.2.1) (c.2.2.2.2.2.2.2.2.2.2.2.2.2.2.2.2.2.2.2.2.2.1) (c.2.2.2.2.2.2.2.2.2.2.2.2.2.2.2.2.2.2.2.2.2.2.1) (c.2.2.2.2.2.2.2.2.2.2.2.2.2.2.2.2.2.2.2.2.2.2.2.1) (c.2.2.2.2.2.2.2.2.2.2.2.2.2.2.2.2.2.2.2.2.2.2.2.2.1) (c.2.2.2.2.2.2.2.2.2.2.2.2.2.2.2.2.2.2.2.2.2.2.2.2.2.1) (c.2.2.2.2.2.2.2.2.2.2.2.2.2.2.2.2.2.2.2.2.2.2.2.2.2.2.1) (c.2.2.2.2.2.2.2.2.2.2.2.2.2.2.2.2.2.2.2.2.2.2.2.2.2.2.2.1) (c.2.2.2.2.2.2.2.2.2.2.2.2.2.2.2.2.2.2.2.2.2.2.2.2.2.2.2.2.1) (c.2.2.2.2.2.2.2.2.2.2.2.2.2.2.2.2.2.2.2.2.2.2.2.2.2.2.2.2.2.1) (c.2.2.2.2.2.2.2.2.2.2.2.2.2.2.2.2.2.2.2.2.2.2.2.2.2.2.2.2.2.2.1) (c.2.2.2.2.2.2.2.2.2.2.2.2.2.2.2.2.2.2.2.2.2.2.2.2.2.2.2.2.2.2.2.1) (c.2.2.2.2.2.2.2.2.2.2.2.2.2.2.2.2.2.2.2.2.2.2.2.2.2.2.2.2.2.2.2.2.1) (c.2.2.2.2.2.2.2.2.2.2.2.2.2.2.2.2.2.2.2.2.2.2.2.2.2.2.2.2.2.2.2.2.2.1) (c.2.2.2.2.2.2.2.2.2.2.2.2.2.2.2.2.2.2.2.2.2.2.2.2.2.2.2.2.2.2.2.2.2.2.1) (c.2.2.2.2.2.2.2.2.2.2.2.2.2.2.2.2.2.2.2.2.2.2.2.2.2.2.2.2.2.2.2.2.2.2.2.1) (c.2.2.2.2.2.2.2.2.2.2.2.2.2.2.2.2.2.2.2.2.2.2.2.2.2.2.2.2.2.2.2.2.2.2.2.2.1) (c.2.2.2.2.2.2.2.2.2.2.2.2.2.2.2.2.2.2.2.2.2.2.2.2.2.2.2.2.2.2.2.2.2.2.2.2.2.1) (c.2.2.2.2.2.2.2.2.2.2.2.2.2.2.2.2.2.2.2.2.2.2.2.2.2.2.2.2.2.2.2.2.2.2.2.2.2.2)
@[irreducible] noncomputable def prog : Program := c0.1.prog
@[irreducible] noncomputable def w : World := c0.1.w
@[irreducible] noncomputable def p : Program := c0.1.p
@[irreducible] noncomputable def loose : List Str := c0.1.loose
@[irreducible] noncomputable def mean : ExcName → Option Value := c0.1.mean
@[irreducible] noncomputable def mg : Str → Option Value := c0.1.mg
@[irreducible] noncomputable def mb : Str → Option Value := c0.1.mb
@[irreducible] noncomputable def h₀ : Heap := c0.1.h₀
@[irreducible] noncomputable def L : Addr := c0.1.L
@[irreducible] noncomputable def fa : Addr := c0.1.fa
@[irreducible] noncomputable def cd : Value := c0.1.cd
@[irreducible] noncomputable def s : Shared := c0.1.s
@[irreducible] noncomputable def u : Str → Option Value := c0.1.u
@[irreducible] noncomputable def Q : Flow → Shared → Prop := c0.1.Q
@[irreducible] noncomputable def E : Value → Shared → Prop := c0.1.E
@[irreducible] noncomputable def l : Addr := c0.2.1
@[irreducible] noncomputable def vs : List Value := c0.2.2.1
@[irreducible] noncomputable def ns : List Int := c0.2.2.2.1
@[irreducible] noncomputable def tx : Str := c0.2.2.2.2.1
@[irreducible] noncomputable def x : Str := c0.2.2.2.2.2.1
@[irreducible] noncomputable def it : Str := c0.2.2.2.2.2.2.1
@[irreducible] noncomputable def iv : Str := c0.2.2.2.2.2.2.2.1
@[irreducible] noncomputable def Tn : Nat := c0.2.2.2.2.2.2.2.2.1
@[irreducible] noncomputable def fo : Option Str := c0.2.2.2.2.2.2.2.2.2.1
@[irreducible] noncomputable def er : Nat := c0.2.2.2.2.2.2.2.2.2.2.1
@[irreducible] noncomputable def t2 : Tok := c0.2.2.2.2.2.2.2.2.2.2.2.1
@[irreducible] noncomputable def t3 : Tok := c0.2.2.2.2.2.2.2.2.2.2.2.2.1
@[irreducible] noncomputable def t5 : Tok := c0.2.2.2.2.2.2.2.2.2.2.2.2.2.1
@[irreducible] noncomputable def t6 : Tok := c0.2.2.2.2.2.2.2.2.2.2.2.2.2.2.1
@[irreducible] noncomputable def t7 : Tok := c0.2.2.2.2.2.2.2.2.2.2.2.2.2.2.2.1
@[irreducible] noncomputable def al : Value := c0.2.2.2.2.2.2.2.2.2.2.2.2.2.2.2.2.1
@[irreducible] noncomputable def rest : List (Addr × Obj) := c0.2.2.2.2.2.2.2.2.2.2.2.2.2.2.2.2.2.1
@[irreducible] noncomputable def z : Nat := c0.2.2.2.2.2.2.2.2.2.2.2.2.2.2.2.2.2.2.1
@[irreducible] noncomputable def zd : Nat := c0.2.2.2.2.2.2.2.2.2.2.2.2.2.2.2.2.2.2.2.1
@[irreducible] noncomputable def x₀ : Nat := c0.2.2.2.2.2.2.2.2.2.2.2.2.2.2.2.2.2.2.2.2.1
@[irreducible] noncomputable def sd : Nat := c0.2.2.2.2.2.2.2.2.2.2.2.2.2.2.2.2.2.2.2.2.2.1
@[irreducible] noncomputable def td : Nat := c0.2.2.2.2.2.2.2.2.2.2.2.2.2.2.2.2.2.2.2.2.2.2.1
@[irreducible] noncomputable def qn : Nat := c0.2.2.2.2.2.2.2.2.2.2.2.2.2.2.2.2.2.2.2.2.2.2.2.1
@[irreducible] noncomputable def Z : Kz := c0.2.2.2.2.2.2.2.2.2.2.2.2.2.2.2.2.2.2.2.2.2.2.2.2.1
@[irreducible] noncomputable def K : Ks := c0.2.2.2.2.2.2.2.2.2.2.2.2.2.2.2.2.2.2.2.2.2.2.2.2.2.1
@[irreducible] noncomputable def v : Sv := c0.2.2.2.2.2.2.2.2.2.2.2.2.2.2.2.2.2.2.2.2.2.2.2.2.2.2.1
@[irreducible] noncomputable def Kx : Kt := c0.2.2.2.2.2.2.2.2.2.2.2.2.2.2.2.2.2.2.2.2.2.2.2.2.2.2.2.1
@[irreducible] noncomputable def ud : Tok := c0.2.2.2.2.2.2.2.2.2.2.2.2.2.2.2.2.2.2.2.2.2.2.2.2.2.2.2.2.1
@[irreducible] noncomputable def d : Int := c0.2.2.2.2.2.2.2.2.2.2.2.2.2.2.2.2.2.2.2.2.2.2.2.2.2.2.2.2.2.1
@[irreducible] noncomputable def e0 : Nat := c0.2.2.2.2.2.2.2.2.2.2.2.2.2.2.2.2.2.2.2.2.2.2.2.2.2.2.2.2.2.2.1
@[irreducible] noncomputable def e1 : Nat := c0.2.2.2.2.2.2.2.2.2.2.2.2.2.2.2.2.2.2.2.2.2.2.2.2.2.2.2.2.2.2.2.1
@[irreducible] noncomputable def e2 : Nat := c0.2.2.2.2.2.2.2.2.2.2.2.2.2.2.2.2.2.2.2.2.2.2.2.2.2.2.2.2.2.2.2.2.1
@[irreducible] noncomputable def e3 : Nat := c0.2.2.2.2.2.2.2.2.2.2.2.2.2.2.2.2.2.2.2.2.2.2.2.2.2.2.2.2.2.2.2.2.2.1
@[irreducible] noncomputable def ne : Nat := c0.2.2.2.2.2.2.2.2.2.2.2.2.2.2.2.2.2.2.2.2.2.2.2.2.2.2.2.2.2.2.2.2.2.2.1
@[irreducible] noncomputable def nf : Nat := c0.2.2.2.2.2.2.2.2.2.2.2.2.2.2.2.2.2.2.2.2.2.2.2.2.2.2.2.2.2.2.2.2.2.2.2.1
@[irreducible] noncomputable def un : Tok := c0.2.2.2.2.2.2.2.2.2.2.2.2.2.2.2.2.2.2.2.2.2.2.2.2.2.2.2.2.2.2.2.2.2.2.2.2.1
@[irreducible] noncomputable def uv : Tok := c0.2.2.2.2.2.2.2.2.2.2.2.2.2.2.2.2.2.2.2.2.2.2.2.2.2.2.2.2.2.2.2.2.2.2.2.2.2.1
@[irreducible] noncomputable def ocd : Obj := c0.2.2.2.2.2.2.2.2.2.2.2.2.2.2.2.2.2.2.2.2.2.2.2.2.2.2.2.2.2.2.2.2.2.2.2.2.2.2
theorem core {fname qual : Str} {params : Arguments} {body : List Stmt} {scope : Scope} {dV kV doc pm cdv fct foc : Value} {fan fod : Option Addr} {fosl : Array (Option Value)}
    (hl : (Mine.a.heap_1_39 w.params).lookup 779 = some ⟨foc, fod, .func (fnOf fname qual params body scope dV kV doc pm fan cdv fct), fosl⟩)
    (B : Below callerA h₀ [] h₀) (F : Fr h₀ L s.heap (kstB u [(Str.ofString "text", .str tx t2), (Str.ofString "ending", al), (Str.ofString "mended", .str x t3), (Str.ofString "taken", .int (Tn : Int) t5), (Str.ofString "errors", .ref er), (Str.ofString "in_text", .str it t6), (Str.ofString "in_value", .str iv t7), (Str.ofString "script", .ref l), (Str.ofString "two", .ref z)])) (X : (Mine.a.heap_1_39 w.params).In h₀) (T : Top p loose mean mg mb h₀) (N : News h₀ L s.heap ((Z.q, listOf #[] qn) :: tokLed w z zd x₀ sd td K v Kx tx t2 d ud (zdict w Z x₀ (.ref e1)) ((e1, ocd) :: (e2, listOf #[.ref e0, .ref e3] ne) :: (e3, listOf #[.str (Str.ofString "b") un, .str (Str.ofString "y") uv] nf) :: rest))) (htk0 : 0 < s.toks)
    (hLaw : LawIs tx x al Tn fo it iv) (hat : At tx v d 0) (p0 : zd < z) (p1 : z < sd) (o1 : sd < x₀) (o2 : x₀ < K.mo) (o3 : K.mo < td) (o4 : td < K.ds) (p3 : K.ds < Z.q) (hoff : OwnOff rest [z, zd, Z.q, x₀, sd, K.ds, td, K.mo, e1, e2, e3]) (r1 : Z.q < e1) (r2 : e1 < e3) (r3 : e3 < e2) (hoc : ocd.IsDictOf (PySem.strKind prog w) [(Str.ofString "data", .ref e2)])
    (post : ∀ h' tk (m' : Str → Option Value) tks qi n' nf' v' d' ud' uz t2 t3 t5 t6 t7, (At tx v' d' Tn) → (TkIs prog w #[] Z.q [(e1, ocd), (e2, listOf #[.ref e0, .ref e3] ne), (e3, listOf #[.str (Str.ofString "b") un, .str (Str.ofString "y") uv] nf)] fo tks qi) → 0 < tk → Fr h₀ L h' (kstB m' [(Str.ofString "text", .str tx t2), (Str.ofString "ending", al), (Str.ofString "mended", .str x t3), (Str.ofString "taken", .int (Tn : Int) t5), (Str.ofString "errors", .ref er), (Str.ofString "in_text", .str it t6), (Str.ofString "in_value", .str iv t7), (Str.ofString "script", .ref l), (Str.ofString "two", .ref z)]) → News h₀ L h' ((Z.q, listOf qi n') :: tokLed w z zd x₀ sd td K v' Kx tx t2 d' ud' (zdict w Z x₀ (.ref e1)) ((e1, ocd) :: (e2, listOf #[.ref e0, .ref e3] ne) :: (e3, listOf #[.str (Str.ofString "b") un, .str ((Str.ofString "y") ++ iv) uz] nf') :: (tks ++ rest))) → wpAny (model prog w) (callerA.deeper (envOf qual scope L fa cd)) (execs (body.drop 21) (envOf qual scope L fa cd)) Q E { s with heap := h', toks := tk }) : wpAny (model prog w) (callerA.deeper (envOf qual scope L fa cd)) (execs (body.drop 20) (envOf qual scope L fa cd)) Q E s := by
  refine' seg_in hl ?hk ?_
  (case hk => k_is)
  rintro rfl rfl rfl rfl
  clear hl
  (try dsimp only [List.drop])
  (try dsimp only [kstB] at F)
  k_with "execs cons If" => ((with_reducible show wpAny _ _ (execs (Stmt.If _ _ _ ⟨1234, _, _, _⟩ :: _) _) _ _ _); (k_dflt (refine' post _ _ _ _ _ _ _ _ _ _ _ _ _ _ _ _ ?ya ?yb ?yt (fr_ps ?yF ?yk) ?yN; (case yF => k_asm); (case yk => (repeat (first | exact List.forall_mem_nil _ | (refine' all_cons ?zA9 ?_; (case zA9 => with_unfolding_all rfl))))); (case yN => first | exact News.nil | with_reducible assumption | (refine' news_sub ?yq1 ?yq2; (case yq1 => k_asm); (case yq2 => k_mem))); (case ya => exact at_zero (by with_reducible assumption)); (case yb => with_reducible assumption); (case yt => first | assumption | omega | ((try dsimp only at *); omega)); done)))
  k_steps
  all_goals (try ((with_reducible intro ht9); (try dsimp only at ht9); (try dsimp only); k_steps))
theorem all : ∀ c : Ld × Addr × (List Value) × (List Int) × Str × Str × Str × Str × Nat × (Option Str) × Nat × Tok × Tok × Tok × Tok × Tok × Value × (List (Addr × Obj)) × Nat × Nat × Nat × Nat × Nat × Nat × Kz × Ks × Sv × Kt × Tok × Int × Nat × Nat × Nat × Nat × Nat × Nat × Tok × Tok × Obj, P (c.1.prog) (c.1.w) (c.1.p) (c.1.loose) (c.1.mean) (c.1.mg) (c.1.mb) (c.1.h₀) (c.1.L) (c.1.fa) (c.1.cd) (c.1.s) (c.1.u) (c.1.Q) (c.1.E) (c.2.1) (c.2.2.1) (c.2.2.2.1) (c.2.2.2.2.1) (c.2.2.2.2.2.1) (c.2.2.2.2.2.2.1) (c.2.2.2.2.2.2.2.1) (c.2.2.2.2.2.2.2.2.1) (c.2.2.2.2.2.2.2.2.2.1) (c.2.2.2.2.2.2.2.2.2.2.1) (c.2.2.2.2.2.2.2.2.2.2.2.1) (c.2.2.2.2.2.2.2.2.2.2.2.2.1) (c.2.2.2.2.2.2.2.2.2.2.2.2.2.1) (c.2.2.2.2.2.2.2.2.2.2.2.2.2.2.1) (c.2.2.2.2.2.2.2.2.2.2.2.2.2.2.2.1) (c.2.2.2.2.2.2.2.2.2.2.2.2.2.2.2.2.1) (c.2.2.2.2.2.2.2.2.2.2.2.2.2.2.2.2.2.1) (c.2.2.2.2.2.2.2.2.2.2.2.2.2.2.2.2.2.2.1) (c.2.2.2.2.2.2.2.2.2.2.2.2.2.2.2.2.2.2.2.1) (c.2.2.2.2.2.2.2.2.2.2.2.2.2.2.2.2.2.2.2.2.1) (c.2.2.2.2.2.2.2.2.2.2.2.2.2.2.2.2.2.2.2.2.2.1) (c.2.2.2.2.2.2.2.2.2.2.2.2.2.2.2.2.2.2.2.2.2.2.1) (c.2.2.2.2.2.2.2.2.2.2.2.2.2.2.2.2.2.2.2.2.2.2.2.1) (c.2.2.2.2.2.2.2.2.2.2.2.2.2.2.2.2.2.2.2.2.2.2.2.2.1) (c.2.2.2.2.2.2.2.2.2.2.2.2.2.2.2.2.2.2.2.2.2.2.2.2.2.1) (c.2.2.2.2.2.2.2.2.2.2.2.2.2.2.2.2.2.2.2.2.2.2.2.2.2.2.1) (c.2.2.2.2.2.2.2.2.2.2.2.2.2.2.2.2.2.2.2.2.2.2.2.2.2.2.2.1) (c.2.2.2.2.2.2.2.2.2.2.2.2.2.2.2.2.2.2.2.2.2.2.2.2.2.2.2.2.1) (c.2.2.2.2.2.2.2.2.2.2.2.2.2.2.2.2.2.2.2.2.2.2.2.2.2.2.2.2.2.1) (c.2.2.2.2.2.2.2.2.2.2.2.2.2.2.2.2.2.2.2.2.2.2.2.2.2.2.2.2.2.2.1) (c.2.2.2.2.2.2.2.2.2.2.2.2.2.2.2.2.2.2.2.2.2.2.2.2.2.2.2.2.2.2.2.1) (c.2.2.2.2.2.2.2.2.2.2.2.2.2.2.2.2.2.2.2.2.2.2.2.2.2.2.2.2.2.2.2.2.1) (c.2.2.2.2.2.2.2.2.2.2.2.2.2.2.2.2.2.2.2.2.2.2.2.2.2.2.2.2.2.2.2.2.2.1) (c.2.2.2.2.2.2.2.2.2.2.2.2.2.2.2.2.2.2.2.2.2.2.2.2.2.2.2.2.2.2.2.2.2.2.1) (c.2.2.2.2.2.2.2.2.2.2.2.2.2.2.2.2.2.2.2.2.2.2.2.2.2.2.2.2.2.2.2.2.2.2.2.1) (c.2.2.2.2.2.2.2.2.2.2.2.2.2.2.2.2.2.2.2.2.2.2.2.2.2.2.2.2.2.2.2.2.2.2.2.2.1) (c.2.2.2.2.2.2.2.2.2.2.2.2.2.2.2.2.2.2.2.2.2.2.2.2.2.2.2.2.2.2.2.2.2.2.2.2.2.1) (c.2.2.2.2.2.2.2.2.2.2.2.2.2.2.2.2.2.2.2.2.2.2.2.2.2.2.2.2.2.2.2.2.2.2.2.2.2.2) := by with_unfolding_all exact eps_all (Nonempty.elim Ld.ne fun b => ⟨(b, 0, [], [], default, default, default, default, 0, none, 0, 0, 0, 0, 0, 0, .none, [], 0, 0, 0, 0, 0, 0, ⟨0,0,0,0,0,0,0,0,0,0,0⟩, ⟨0,0,0,0,0,0,0,0,0,0,0,0,0,0⟩, ⟨default,0,0,0,0,.none,0,0,0,0,0⟩, ⟨0,0⟩, 0, 0, 0, 0, 0, 0, 0, 0, 0, 0, ⟨.none, none, .func default, #[]⟩)⟩) (P := fun c : Ld × Addr × (List Value) × (List Int) × Str × Str × Str × Str × Nat × (Option Str) × Nat × Tok × Tok × Tok × Tok × Tok × Value × (List (Addr × Obj)) × Nat × Nat × Nat × Nat × Nat × Nat × Kz × Ks × Sv × Kt × Tok × Int × Nat × Nat × Nat × Nat × Nat × Nat × Tok × Tok × Obj => P (c.1.prog) (c.1.w) (c.1.p) (c.1.loose) (c.1.mean) (c.1.mg) (c.1.mb) (c.1.h₀) (c.1.L) (c.1.fa) (c.1.cd) (c.1.s) (c.1.u) (c.1.Q) (c.1.E) (c.2.1) (c.2.2.1) (c.2.2.2.1) (c.2.2.2.2.1) (c.2.2.2.2.2.1) (c.2.2.2.2.2.2.1) (c.2.2.2.2.2.2.2.1) (c.2.2.2.2.2.2.2.2.1) (c.2.2.2.2.2.2.2.2.2.1) (c.2.2.2.2.2.2.2.2.2.2.1) (c.2.2.2.2.2.2.2.2.2.2.2.1) (c.2.2.2.2.2.2.2.2.2.2.2.2.1) (c.2.2.2.2.2.2.2.2.2.2.2.2.2.1) (c.2.2.2.2.2.2.2.2.2.2.2.2.2.2.1) (c.2.2.2.2.2.2.2.2.2.2.2.2.2.2.2.1) (c.2.2.2.2.2.2.2.2.2.2.2.2.2.2.2.2.1) (c.2.2.2.2.2.2.2.2.2.2.2.2.2.2.2.2.2.1) (c.2.2.2.2.2.2.2.2.2.2.2.2.2.2.2.2.2.2.1) (c.2.2.2.2.2.2.2.2.2.2.2.2.2.2.2.2.2.2.2.1) (c.2.2.2.2.2.2.2.2.2.2.2.2.2.2.2.2.2.2.2.2.1) (c.2.2.2.2.2.2.2.2.2.2.2.2.2.2.2.2.2.2.2.2.2.1) (c.2.2.2.2.2.2.2.2.2.2.2.2.2.2.2.2.2.2.2.2.2.2.1) (c.2.2.2.2.2.2.2.2.2.2.2.2.2.2.2.2.2.2.2.2.2.2.2.1) (c.2.2.2.2.2.2.2.2.2.2.2.2.2.2.2.2.2.2.2.2.2.2.2.2.1) (c.2.2.2.2.2.2.2.2.2.2.2.2.2.2.2.2.2.2.2.2.2.2.2.2.2.1) (c.2.2.2.2.2.2.2.2.2.2.2.2.2.2.2.2.2.2.2.2.2.2.2.2.2.2.1) (c.2.2.2.2.2.2.2.2.2.2.2.2.2.2.2.2.2.2.2.2.2.2.2.2.2.2.2.1) (c.2.2.2.2.2.2.2.2.2.2.2.2.2.2.2.2.2.2.2.2.2.2.2.2.2.2.2.2.1) (c.2.2.2.2.2.2.2.2.2.2.2.2.2.2.2.2.2.2.2.2.2.2.2.2.2.2.2.2.2.1) (c.2.2.2.2.2.2.2.2.2.2.2.2.2.2.2.2.2.2.2.2.2.2.2.2.2.2.2.2.2.2.1) (c.2.2.2.2.2.2.2.2.2.2.2.2.2.2.2.2.2.2.2.2.2.2.2.2.2.2.2.2.2.2.2.1) (c.2.2.2.2.2.2.2.2.2.2.2.2.2.2.2.2.2.2.2.2.2.2.2.2.2.2.2.2.2.2.2.2.1) (c.2.2.2.2.2.2.2.2.2.2.2.2.2.2.2.2.2.2.2.2.2.2.2.2.2.2.2.2.2.2.2.2.2.1) (c.2.2.2.2.2.2.2.2.2.2.2.2.2.2.2.2.2.2.2.2.2.2.2.2.2.2.2.2.2.2.2.2.2.2.1) (c.2.2.2.2.2.2.2.2.2.2.2.2.2.2.2.2.2.2.2.2.2.2.2.2.2.2.2.2.2.2.2.2.2.2.2.1) (c.2.2.2.2.2.2.2.2.2.2.2.2.2.2.2.2.2.2.2.2.2.2.2.2.2.2.2.2.2.2.2.2.2.2.2.2.1) (c.2.2.2.2.2.2.2.2.2.2.2.2.2.2.2.2.2.2.2.2.2.2.2.2.2.2.2.2.2.2.2.2.2.2.2.2.2.1) (c.2.2.2.2.2.2.2.2.2.2.2.2.2.2.2.2.2.2.2.2.2.2.2.2.2.2.2.2.2.2.2.2.2.2.2.2.2.2)) @core
end Zlaw_d1
theorem law_d1 {prog : Program} {w : World} {p : Program} {loose : List Str} {mean : ExcName → Option Value} {mg mb : Str → Option Value}
    {h₀ : Heap} {L fa : Addr} {cd : Value} {s : Shared} {u : Str → Option Value} {Q : Flow → Shared → Prop} {E : Value → Shared → Prop}
    {fname qual : Str} {params : Arguments} {body : List Stmt} {scope : Scope} {dV kV doc pm cdv ct oc : Value} {an od : Option Addr} {osl : Array (Option Value)}
    {l : Addr} {vs : List Value} {ns : List Int} {tx x it iv : Str} {Tn : Nat} {fo : Option Str} {er : Nat} {t2 t3 t5 t6 t7 : Tok} {al : Value} {rest : List (Addr × Obj)} {z zd x₀ sd td qn : Nat} {Z : Kz} {K : Ks} {v : Sv} {Kx : Kt} {ud : Tok} {d : Int} {e0 e1 e2 e3 ne nf : Nat} {un uv : Tok} {ocd : Obj}
    (hl : (Mine.a.heap_1_39 w.params).lookup 779 = some ⟨oc, od, .func (fnOf fname qual params body scope dV kV doc pm an cdv ct), osl⟩)
    (B : Below callerA h₀ [] h₀) (F : Fr h₀ L s.heap (kstB u [(Str.ofString "text", .str tx t2), (Str.ofString "ending", al), (Str.ofString "mended", .str x t3), (Str.ofString "taken", .int (Tn : Int) t5), (Str.ofString "errors", .ref er), (Str.ofString "in_text", .str it t6), (Str.ofString "in_value", .str iv t7), (Str.ofString "script", .ref l), (Str.ofString "two", .ref z)])) (X : (Mine.a.heap_1_39 w.params).In h₀) (T : Top p loose mean mg mb h₀) (N : News h₀ L s.heap ((Z.q, listOf #[] qn) :: tokLed w z zd x₀ sd td K v Kx tx t2 d ud (zdict w Z x₀ (.ref e1)) ((e1, ocd) :: (e2, listOf #[.ref e0, .ref e3] ne) :: (e3, listOf #[.str (Str.ofString "b") un, .str (Str.ofString "y") uv] nf) :: rest))) (htk0 : 0 < s.toks)
    (hLaw : LawIs tx x al Tn fo it iv) (hat : At tx v d 0) (p0 : zd < z) (p1 : z < sd) (o1 : sd < x₀) (o2 : x₀ < K.mo) (o3 : K.mo < td) (o4 : td < K.ds) (p3 : K.ds < Z.q) (hoff : OwnOff rest [z, zd, Z.q, x₀, sd, K.ds, td, K.mo, e1, e2, e3]) (r1 : Z.q < e1) (r2 : e1 < e3) (r3 : e3 < e2) (hoc : ocd.IsDictOf (PySem.strKind prog w) [(Str.ofString "data", .ref e2)])
    (post : ∀ h' tk (m' : Str → Option Value) tks qi n' nf' v' d' ud' uz t2 t3 t5 t6 t7, (At tx v' d' Tn) → (TkIs prog w #[] Z.q [(e1, ocd), (e2, listOf #[.ref e0, .ref e3] ne), (e3, listOf #[.str (Str.ofString "b") un, .str (Str.ofString "y") uv] nf)] fo tks qi) → 0 < tk → Fr h₀ L h' (kstB m' [(Str.ofString "text", .str tx t2), (Str.ofString "ending", al), (Str.ofString "mended", .str x t3), (Str.ofString "taken", .int (Tn : Int) t5), (Str.ofString "errors", .ref er), (Str.ofString "in_text", .str it t6), (Str.ofString "in_value", .str iv t7), (Str.ofString "script", .ref l), (Str.ofString "two", .ref z)]) → News h₀ L h' ((Z.q, listOf qi n') :: tokLed w z zd x₀ sd td K v' Kx tx t2 d' ud' (zdict w Z x₀ (.ref e1)) ((e1, ocd) :: (e2, listOf #[.ref e0, .ref e3] ne) :: (e3, listOf #[.str (Str.ofString "b") un, .str ((Str.ofString "y") ++ iv) uz] nf') :: (tks ++ rest))) → wpAny (model prog w) (callerA.deeper (envOf qual scope L fa cd)) (execs (body.drop 21) (envOf qual scope L fa cd)) Q E { s with heap := h', toks := tk }) : wpAny (model prog w) (callerA.deeper (envOf qual scope L fa cd)) (execs (body.drop 20) (envOf qual scope L fa cd)) Q E s := by
  exact Zlaw_d1.all ⟨⟨prog, w, p, loose, mean, mg, mb, h₀, L, fa, cd, s, u, Q, E⟩, l, vs, ns, tx, x, it, iv, Tn, fo, er, t2, t3, t5, t6, t7, al, rest, z, zd, x₀, sd, td, qn, Z, K, v, Kx, ud, d, e0, e1, e2, e3, ne, nf, un, uv, ocd⟩ hl B F X T N htk0 hLaw hat p0 p1 o1 o2 o3 o4 p3 hoff r1 r2 r3 hoc post
theorem lines_LD2_1 : True := by
  (k_with "compareOp NotEq ref ref" => safely ((k_here; (with_reducible show wpAny _ _ (compareOp CmpOp.NotEq (Value.ref _) (Value.ref _)) _ _ _); k_dflt (first | (refine' queue_tk0 ?qNQ ?qhqQ ?qhrQ ?qhtkQ ?qherQ ?qe2Q ?qhkQ ?qheQ ?qhlQ ?qhuQ ?_; (case qNQ => k_asm); (case qhqQ => k_mem); (case qhrQ => k_mem); (case qhtkQ => with_reducible assumption); (case qherQ => with_reducible assumption); (case qe2Q => rfl); (case qhkQ => (exact fun pQq hpQq => by (repeat (first | exact hk9 pQq hpQq | refine List.mem_cons_of_mem _ ?_)))); (case qheQ => (exact fun pQq hpQq => by (repeat (first | exact he9 pQq hpQq | refine List.mem_cons_of_mem _ ?_)))); (case qhlQ => exact Nat.lt_of_le_of_lt (Nat.zero_le _) p3); (case qhuQ => k_units)) | (refine' nest_ne ?qNQ ?qp1Q ?qp2Q ?qh1Q ?qh2Q ?qy1Q ?qy2Q ?qp3Q ?qp4Q ?qe1Q ?qe2Q ?qp5Q ?qp6Q ?qe3Q ?qe4Q ?qp7Q ?qp8Q ?qe5Q ?qe6Q ?qhuQ ?_; (case qNQ => k_asm); (case qp1Q => k_mem); (case qp2Q => k_mem); (case qh1Q => k_asm); (case qh2Q => k_asm); (case qy1Q => with_reducible assumption); (case qy2Q => with_reducible assumption); (case qp3Q => k_mem); (case qp4Q => k_mem); (case qe1Q => rfl); (case qe2Q => rfl); (case qp5Q => k_mem); (case qp6Q => k_mem); (case qe3Q => rfl); (case qe4Q => rfl); (case qp7Q => k_mem); (case qp8Q => k_mem); (case qe5Q => rfl); (case qe6Q => rfl); (case qhuQ => k_units)) | fail "cmp"))))
  trivial
theorem news_ends2 {h₀ h : Heap} {L : Addr} {a b c d e f g i j k l y r : Addr × Obj} {tks tE : List (Addr × Obj)} (N : News h₀ L h (a :: b :: c :: d :: e :: f :: g :: i :: j :: k :: l :: (tks ++ y :: r :: tE))) : News h₀ L h (y :: r :: a :: b :: c :: j :: k :: l :: d :: e :: f :: g :: i :: (tks ++ tE)) := news_sub N fun p hp => by
  have hh : ∀ n, [y, r, a, b, c, j, k, l, d, e, f, g, i][n]? = some p → p ∈ a :: b :: c :: d :: e :: f :: g :: i :: j :: k :: l :: (tks ++ y :: r :: tE) := fun n hn => by
    have hm : p ∈ [y, r, a, b, c, j, k, l, d, e, f, g, i] := List.mem_of_getElem? hn
    simp only [List.mem_cons, List.mem_append, List.not_mem_nil, or_false] at hm ⊢
    rcases hm with h | h | h | h | h | h | h | h | h | h | h | h | h <;> simp only [h, true_or, or_true]
  rcases List.mem_append.mp (show p ∈ [y, r, a, b, c, j, k, l, d, e, f, g, i] ++ (tks ++ tE) from hp) with h | h
  · obtain ⟨n, _, hn⟩ := List.getElem_of_mem h
    exact hh n (by rw [List.getElem?_eq_getElem (by assumption), hn])
  · exact (((((List.sublist_cons_self r tE).cons y).append_left tks)).append_left [a, b, c, d, e, f, g, i, j, k, l]).subset (List.mem_append_right _ h)
theorem law_d2 {prog : Program} {w : World} {p : Program} {loose : List Str} {mean : ExcName → Option Value} {mg mb : Str → Option Value}
    {h₀ : Heap} {L fa : Addr} {cd : Value} {s : Shared} {u : Str → Option Value} {Q : Flow → Shared → Prop} {E : Value → Shared → Prop}
    {fname qual : Str} {params : Arguments} {body : List Stmt} {scope : Scope} {dV kV doc pm cdv ct oc : Value} {an od : Option Addr} {osl : Array (Option Value)}
    {l : Addr} {vs : List Value} {ns : List Int} {tx x it iv : Str} {Tn : Nat} {fo : Option Str} {t2 t3 t5 t6 t7 : Tok} {al : Value} {z zd x₀ sd td nq er n : Nat} {Z : Kz} {K : Ks} {v : Sv} {Kx : Kt} {ud : Tok} {d : Int} {qi : Array Value} {tks tE : List (Addr × Obj)} {es : List Value} {e0 e1 e2 e3 ne nf ng ng0 : Nat} {un uv uz ua ub : Tok} {ocd : Obj}
    (hl : (Mine.a.heap_1_39 w.params).lookup 779 = some ⟨oc, od, .func (fnOf fname qual params body scope dV kV doc pm an cdv ct), osl⟩)
    (B : Below callerA h₀ [] h₀) (F : Fr h₀ L s.heap (kstB u [(Str.ofString "text", .str tx t2), (Str.ofString "ending", al), (Str.ofString "mended", .str x t3), (Str.ofString "taken", .int (Tn : Int) t5), (Str.ofString "errors", .ref er), (Str.ofString "in_text", .str it t6), (Str.ofString "in_value", .str iv t7), (Str.ofString "script", .ref l), (Str.ofString "two", .ref z)])) (X : (Mine.a.heap_1_39 w.params).In h₀) (T : Top p loose mean mg mb h₀) (N : News h₀ L s.heap ((Z.q, listOf qi nq) :: tokLed w z zd x₀ sd td K v Kx tx t2 d ud (zdict w Z x₀ (.ref e1)) ((e1, ocd) :: (e2, listOf #[.ref e0, .ref e3] ne) :: (e3, listOf #[.str (Str.ofString "b") un, .str ((Str.ofString "y") ++ iv) uz] nf) :: (tks ++ ((e0, listOf #[.str (Str.ofString "a") ua, .str (Str.ofString "x") ub] ng) :: ((er, listOf es.toArray n) :: tE)))))) (htk0 : 0 < s.toks)
    (htk : TkIs prog w #[] Z.q [(e1, ocd), (e2, listOf #[.ref e0, .ref e3] ne), (e3, listOf #[.str (Str.ofString "b") un, .str (Str.ofString "y") uv] ng0)] fo tks qi) (p3 : K.ds < Z.q) (her : ErrIs prog w fo er es tE) (hoc : ocd.IsDictOf (PySem.strKind prog w) [(Str.ofString "data", .ref e2)]) (hme : (e1 == sysModules) = false) (hiv : iv.length < 1100)
    (post : ∀ h' tk (m' : Str → Option Value) t2 t3 t5 t6 t7, (True) → 0 < tk → Fr h₀ L h' (kstB m' [(Str.ofString "text", .str tx t2), (Str.ofString "ending", al), (Str.ofString "mended", .str x t3), (Str.ofString "taken", .int (Tn : Int) t5), (Str.ofString "errors", .ref er), (Str.ofString "in_text", .str it t6), (Str.ofString "in_value", .str iv t7), (Str.ofString "script", .ref l), (Str.ofString "two", .ref z)]) → News h₀ L h' (tokLed w z zd x₀ sd td K v Kx tx t2 d ud (zdict w Z x₀ (.ref e1)) []) → wpAny (model prog w) (callerA.deeper (envOf qual scope L fa cd)) (execs (body.drop 22) (envOf qual scope L fa cd)) Q E { s with heap := h', toks := tk }) : wpAny (model prog w) (callerA.deeper (envOf qual scope L fa cd)) (execs (body.drop 21) (envOf qual scope L fa cd)) Q E s := by
  refine' seg_in hl ?hk ?_
  (case hk => k_is)
  rintro rfl rfl rfl rfl
  clear hl
  (try dsimp only [List.drop])
  (try dsimp only [kstB] at F)
  k_with "execs cons If" => ((with_reducible show wpAny _ _ (execs (Stmt.If _ _ _ ⟨1234, _, _, _⟩ :: _) _) _ _ _); refine wpAny_execs_cons (with_toks ?_))
  k_with "execs cons Return" => ((with_reducible show wpAny _ _ (execs (Stmt.Return _ ⟨1236, _, _, _⟩ :: _) _) _ _ _); (k_dflt (refine' post _ _ _ _ _ _ _ _ ?ya ?yt (fr_ps ?yF ?yk) ?yN; (case yF => k_asm); (case yk => (repeat (first | exact List.forall_mem_nil _ | (refine' all_cons ?zA9 ?_; (case zA9 => with_unfolding_all rfl))))); (case yN => first | exact News.nil | (refine' news_sub ?yq1 ?yq2; (case yq1 => k_asm); (case yq2 => (repeat (first | exact List.forall_mem_nil _ | (refine' sub_cons ?zA9 ?_; (case zA9 => k_mem)) | exact (fun p hp => by (repeat (first | exact hp | refine List.mem_cons_of_mem _ ?_)))))))); (case ya => trivial); (case yt => first | assumption | omega | ((try dsimp only at *); omega)); done)))
  have hk9 : ∀ p ∈ tks, p ∈ tks ++ tE := fun p hp => List.mem_append_left _ hp
  have he9 : ∀ p ∈ tE, p ∈ tks ++ tE := fun p hp => List.mem_append_right _ hp
  replace N := news_ends2 N
  generalize tks ++ tE = rest9 at hk9 he9 N
  (try k_fold)
  k_steps
  all_goals (try ((with_reducible intro ht9); (try dsimp only at ht9); (try dsimp only); (try k_fold); k_steps))
theorem law_d3 {prog : Program} {w : World} {p : Program} {loose : List Str} {mean : ExcName → Option Value} {mg mb : Str → Option Value}
    {h₀ : Heap} {L fa : Addr} {cd : Value} {s : Shared} {u : Str → Option Value} {Q : Flow → Shared → Prop} {E : Value → Shared → Prop}
    {fname qual : Str} {params : Arguments} {body : List Stmt} {scope : Scope} {dV kV doc pm cdv ct oc : Value} {an od : Option Addr} {osl : Array (Option Value)}
    {l : Addr} {vs : List Value} {ns : List Int} {tx x it iv : Str} {Tn : Nat} {fo : Option Str} {er : Nat} {t2 t3 t5 t6 t7 : Tok} {al : Value} {z zd x₀ sd td nq : Nat} {Z : Kz} {K : Ks} {v : Sv} {Kx : Kt} {ud : Tok} {d : Int} {e1 : Nat}
    (hl : (Mine.a.heap_1_39 w.params).lookup 779 = some ⟨oc, od, .func (fnOf fname qual params body scope dV kV doc pm an cdv ct), osl⟩)
    (B : Below callerA h₀ [] h₀) (F : Fr h₀ L s.heap (kstB u [(Str.ofString "text", .str tx t2), (Str.ofString "ending", al), (Str.ofString "mended", .str x t3), (Str.ofString "taken", .int (Tn : Int) t5), (Str.ofString "errors", .ref er), (Str.ofString "in_text", .str it t6), (Str.ofString "in_value", .str iv t7), (Str.ofString "script", .ref l), (Str.ofString "two", .ref z)])) (X : (Mine.a.heap_1_39 w.params).In h₀) (T : Top p loose mean mg mb h₀) (N : News h₀ L s.heap (tokLed w z zd x₀ sd td K v Kx tx t2 d ud (zdict w Z x₀ (.ref e1)) [])) (htk0 : 0 < s.toks)
    (hLaw : LawIs tx x al Tn fo it iv) (hat : At tx v d Tn) (p0 : zd < z) (p1 : z < sd) (o1 : sd < x₀) (o2 : x₀ < K.mo) (o3 : K.mo < td) (o4 : td < K.ds) (p3 : K.ds < Z.q)
    (post : ∀ h' tk (m' : Str → Option Value), 0 < tk → Fr h₀ L h' m' → News h₀ L h' [] → Q (.ret (.bool true)) { s with heap := h', toks := tk }) : wpAny (model prog w) (callerA.deeper (envOf qual scope L fa cd)) (execs (body.drop 22) (envOf qual scope L fa cd)) Q E s := by
  refine' seg_in hl ?hk ?_
  (case hk => k_is)
  rintro rfl rfl rfl rfl
  clear hl
  (try dsimp only [List.drop])
  (try dsimp only [kstB] at F)
  have hxl9 := law_len hLaw
  have htl9 := hat.le
  have hml9 := mm_len tx
  dsimp only [tokLed] at N
  have q_0_2 : @LT.lt Nat _ zd sd := Nat.lt_trans p0 p1
  have q_0_3 : @LT.lt Nat _ zd x₀ := Nat.lt_trans q_0_2 o1
  have q_0_4 : @LT.lt Nat _ zd K.mo := Nat.lt_trans q_0_3 o2
  have q_0_5 : @LT.lt Nat _ zd td := Nat.lt_trans q_0_4 o3
  have q_0_6 : @LT.lt Nat _ zd K.ds := Nat.lt_trans q_0_5 o4
  have q_1_3 : @LT.lt Nat _ z x₀ := Nat.lt_trans p1 o1
  have q_1_4 : @LT.lt Nat _ z K.mo := Nat.lt_trans q_1_3 o2
  have q_1_5 : @LT.lt Nat _ z td := Nat.lt_trans q_1_4 o3
  have q_1_6 : @LT.lt Nat _ z K.ds := Nat.lt_trans q_1_5 o4
  have q_2_4 : @LT.lt Nat _ sd K.mo := Nat.lt_trans o1 o2
  have q_2_5 : @LT.lt Nat _ sd td := Nat.lt_trans q_2_4 o3
  have q_2_6 : @LT.lt Nat _ sd K.ds := Nat.lt_trans q_2_5 o4
  have q_3_5 : @LT.lt Nat _ x₀ td := Nat.lt_trans o2 o3
  have q_3_6 : @LT.lt Nat _ x₀ K.ds := Nat.lt_trans q_3_5 o4
  have q_4_6 : @LT.lt Nat _ K.mo K.ds := Nat.lt_trans o3 o4
  (try k_fold)
  k_with "execs cons Return" => ((with_reducible show wpAny _ _ (execs (Stmt.Return _ ⟨1236, _, _, _⟩ :: _) _) _ _ _); refine wpAny_execs_cons (with_toks ?_))
  k_steps
  all_goals (try ((with_reducible intro ht9); (try dsimp only at ht9); (try dsimp only); (try k_fold); k_steps))
  all_goals first
    | (refine' post _ _ _ ?yt ?yF News.nil; (case yF => k_asm); (case yt => first | assumption | omega | ((try dsimp only at *); omega)))
section
local macro_rules | `(tactic| omega) => `(tactic| lia)
theorem num_line {tx : Str} {j : Nat} (h : NumIs tx j) {n : Nat} (hn : n ≤ 2) : ∀ c ∈ (MM tx).take n, c ≠ 10 := by
  intro c hc
  obtain ⟨i, hi⟩ := List.mem_iff_getElem?.mp hc
  rw [List.getElem?_take] at hi
  split at hi
  · rename_i q
    have : i = 0 ∨ i = 1 := by omega
    rcases this with rfl | rfl
    · rw [h.h0] at hi
      have := Option.some.inj hi
      omega
    · exact (h.h1 c hi).2.2
  · cases hi
theorem mm_is (tx : Str) : (mendS tx).cps.toList = MM tx := rfl
theorem law_facts {tx tx0 b : Str} {W : Int} {T : Nat} {al : Value} {it iv : Str} {fo : Option Str} (hW : 0 ≤ W) (hal : EndIs al)
    (h0 : tx0.length ≤ 36) (h0c : ∀ c ∈ tx0.cps.toList, okc c ∧ c ≠ 35) (hA : (W < 3 ∧ ∃ k, k < 8 ∧ tx = numS W.toNat k) ∨ (¬ W < 3 ∧ tx = tx0))
    (hm : MatchIs (mendS tx).cps.toList T b.cps.toList) (hI : InIs (mendS tx) b (taken1 W T) (fault1 W (mendS tx) b al) it iv fo) : ∃ Tn : Nat, taken1 W T = (Tn : Int) ∧ LawIs tx (mendS tx) al Tn fo it iv := by
  rcases hA with ⟨hW3, k, hk, rfl⟩ | ⟨hW3, rfl⟩
  · have hj : W.toNat < 3 := by omega
    have hn := num_is hj hk
    have hT : taken1 W T = ((if W.toNat = 0 then 1 else 2 : Nat) : Int) := by
      unfold taken1
      rw [if_pos hW3]
      by_cases q : W = 0
      · rw [if_pos q, if_pos (by omega)]; rfl
      · rw [if_neg q, if_neg (by omega)]; rfl
    have hf : fault1 W (mendS (numS W.toNat k)) b al = some (Str.ofString "expected-numeric-entity") := if_pos hW3
    rw [hT, hf] at hI
    exact ⟨_, hT, mm_is _, hn.len, hn.ok, hal, fun _ => num_no hn, num_line hn (by split <;> omega), fun hc => num_law hn hj (mm_is _) hal hm rfl hI hc⟩
  · have hT : taken1 W T = (T : Int) := if_neg hW3
    have hf : fault1 W (mendS tx) b al = if noB (mendS tx) b al = true then some (Str.ofString "expected-named-entity") else none := if_neg hW3
    rw [hT, hf] at hI
    have h35 : ∀ c ∈ MM tx, c ≠ 35 := fun c hc => by
      rcases mend_mem tx c hc with rfl | q
      · decide
      · exact (h0c c q).2
    have hx : TextIs (mendS tx) (MM tx) := ⟨rfl, fun c hc => ⟨by
      rcases mend_mem tx c hc with rfl | q
      · exact .inr (.inr (.inl rfl))
      · exact (h0c c q).1, mend_no13 tx c hc⟩⟩
    exact ⟨T, hT, mm_is _, h0, fun c hc => (h0c c hc).1, hal, fun h => absurd rfl (h35 35 (List.mem_of_getElem? h)), fun c hc => by rw [hm.ht] at hc; exact taken_no10 (MM tx) c hc, fun hc => ce_law hx h35 hal hm hI hc⟩
theorem taken1_le {W : Int} {T : Nat} (h : T ≤ 1000) : 0 ≤ taken1 W T ∧ taken1 W T ≤ 1000 := by
  unfold taken1
  split
  · split <;> omega
  · omega
theorem in_len {x b : Str} {T : Int} {f : Option Str} {it iv : Str} {f' : Option Str} (h : InIs x b T f it iv f') (hx : x.length ≤ 36) (hb : (entV b).length ≤ 2) : iv.length < 1100 := by
  have h1 : (amp1 x T).length ≤ 37 := by
    have := Txt.slice_le x none (some T)
    unfold amp1
    rw [Str.length_append, show (Str.ofString "&").length = 1 by decide +kernel]
    omega
  have h2 : (rest1 x b T).length ≤ 38 := by
    have := Txt.slice_le x (some (b.length : Int)) (some T)
    unfold rest1
    rw [Str.length_append]
    omega
  cases h with
  | none _ => omega
  | semi _ _ => omega
  | free _ _ _ => omega
  | glue _ _ _ _ => omega
/-- what the law's reader gives is a name, or nothing -/
theorem best_name {w : World} {r : List Nat} {T : Nat} {b : Str} (h : MatchIs r T b.cps.toList) : b = Str.ofString "" ∨ ((b == Str.ofString "") = false ∧ 1 ≤ b.length ∧ (entV b).length ≤ 2 ∧ ∃ u, nsIn (Mine.a.heap_1_39 w.params) 43 b = some (some (.str (entV b) u))) := by
  by_cases hb : b.cps.toList = []
  · exact .inl (b_nil hb)
  · have hin := match_in h hb
    rw [mk_list] at hin
    obtain ⟨u, hu⟩ := ent_ns w.params hin
    exact .inr ⟨b_one hb, by rw [← len_list]; exact List.length_pos_iff.mpr hb, (ent_len hin).2.1, u, hu⟩
theorem off_cons {e0 : Nat} {o : Obj} {rest : List (Addr × Obj)} {adr : List Addr} (h : OwnOff rest adr) (k : ∀ a ∈ adr, @Ne Nat e0 a) : OwnOff ((e0, o) :: rest) adr := fun p hp a ha => by
  rcases List.mem_cons.mp hp with rfl | hp
  · exact k a ha
  · exact h p hp a ha
theorem off_e0 {zd z sd x mo td ds q e0 e1 e2 e3 : Nat} {o : Obj} {rest : List (Addr × Obj)} (h : OwnOff rest [z, zd, q, x, sd, ds, td, mo, e1, e2, e3]) (q1 : zd < z) (q2 : z < sd) (q3 : sd < x) (q4 : x < mo) (q5 : mo < td) (q6 : td < ds) (q7 : ds < q) (r1 : q < e1) (r3 : e3 < e2) (r4 : e1 < e0) (r5 : e0 < e3) : OwnOff ((e0, o) :: rest) [z, zd, q, x, sd, ds, td, mo, e1, e2, e3] := by
  have a := Nat.lt_trans r1 r4
  have b := Nat.lt_trans q7 a
  have c := Nat.lt_trans q6 b
  have d := Nat.lt_trans q5 c
  have e := Nat.lt_trans q4 d
  have f := Nat.lt_trans q3 e
  have g := Nat.lt_trans q2 f
  have i := Nat.lt_trans q1 g
  exact off_cons h (all_cons (Nat.ne_of_gt g) (all_cons (Nat.ne_of_gt i) (all_cons (Nat.ne_of_gt a) (all_cons (Nat.ne_of_gt e) (all_cons (Nat.ne_of_gt f) (all_cons (Nat.ne_of_gt b) (all_cons (Nat.ne_of_gt c) (all_cons (Nat.ne_of_gt d) (all_cons (Nat.ne_of_gt r4) (all_cons (Nat.ne_of_lt (Nat.lt_trans r5 r3)) (all_cons (Nat.ne_of_lt r5) (List.forall_mem_nil _))))))))))))
theorem ent_small {b : Str} (h : b = Str.ofString "" ∨ (entV b).length ≤ 2) : (entV b).length ≤ 2 := by
  rcases h with rfl | h
  · decide +kernel
  · exact h
theorem law_run {prog : Program} {w : World} {p : Program} {loose : List Str} {mean : ExcName → Option Value} {mg mb : Str → Option Value}
    {h₀ : Heap} {L fa : Addr} {cd : Value} {s : Shared} {u : Str → Option Value} {Q : Flow → Shared → Prop} {E : Value → Shared → Prop}
    {fname qual : Str} {params : Arguments} {body : List Stmt} {scope : Scope} {dV kV doc pm cdv ct oc : Value} {an od : Option Addr} {osl : Array (Option Value)}
    {l : Addr} {vs : List Value} {ns : List Int}
    (hl : (Mine.a.heap_1_39 w.params).lookup 779 = some ⟨oc, od, .func (fnOf fname qual params body scope dV kV doc pm an cdv ct), osl⟩)
    (B : Below callerA h₀ [] h₀) (F : Fr h₀ L s.heap (kstB u [(Str.ofString "script", .ref l)])) (X : (Mine.a.heap_1_39 w.params).In h₀) (T : Top p loose mean mg mb h₀) (N : News h₀ L s.heap []) (htk0 : 0 < s.toks)
    (hL : h₀.IsList l vs.toArray) (hI : IntsAre vs ns) (hn : ns.length ≤ 63)
    (post : ∀ h' tk (m' : Str → Option Value), 0 < tk → Fr h₀ L h' m' → News h₀ L h' [] → Q (.ret (.bool true)) { s with heap := h', toks := tk }) : wpAny (model prog w) (callerA.deeper (envOf qual scope L fa cd)) (execs (body.drop 0) (envOf qual scope L fa cd)) Q E s := by
  have hW : 0 ≤ ns.sum.fmod 20 := Int.fmod_nonneg_of_pos _ (by decide)
  refine law_a1 hl B F X T N htk0 hL hI hn ?_
  intro h1 tk1 m1 tx0 _ _ hx0 hc0 z1 F1 N1
  refine law_a2 hl B F1 X T N1 z1 hL hI hn ?_
  intro h2 tk2 m2 tx _ _ hA z2 F2 N2
  refine law_a3 hl B F2 X T N2 z2 hL hI hn ?_
  intro h3 tk3 m3 al _ _ hal z3 F3 N3
  have hx : tx.length ≤ 36 := by
    rcases hA with ⟨q, k, hk, e⟩ | ⟨_, e⟩
    · rw [e]; exact (num_is (by omega) hk).len
    · rw [e]; exact hx0
  refine law_a4 hl B F3 X T N3 z3 hL hI hn hx hal ?_
  intro h4 tk4 m4 b Tm _ _ _ _ _ hm hb z4 F4 N4
  have hmx : (mendS tx).length ≤ 36 := Nat.le_trans (mend_len tx) hx
  have hTm : Tm ≤ 1000 := by
    have := taken_le (mendS tx).cps.toList
    rw [← hm.ht, len_list] at this
    omega
  refine law_b1 (Tn := Tm) hl B F4 X T N4 z4 hL hI hn hmx hal hb hTm ?_
  intro h5 tk5 m5 Tt fls n5 fl _ _ _ _ hTt hfa z5 F5 N5
  subst hTt
  have hbe := best_name (w := w) hm
  obtain ⟨hT0, hT1⟩ := taken1_le (W := ns.sum.fmod 20) hTm
  refine law_b2 hl B F5 X T N5 z5 hL hI hn hmx hb hT0 hT1 hbe hfa ?_
  intro h6 tk6 m6 fo fls' it iv n6 fl' _ _ _ _ _ hin hfo z6 F6 N6
  have hiv := in_len hin hmx (ent_small (hbe.imp id (·.2.2.1)))
  obtain ⟨Tn, hTn, hLaw⟩ := law_facts hW hal hx0 hc0 hA hm hin
  rw [hTn] at F6
  refine law_b4 (vs := vs) (ns := ns) hl B F6 X T N6 z6 hfo ?_
  intro h7 tk7 m7 n7 er es tE _ _ _ _ _ her z7 F7 N7
  refine law_c0 (vs := vs) (ns := ns) hl B F7 X T N7 z7 ?_
  intro h8 tk8 m8 z zd x₀ sd td K v Kx ud Z qn _ _ _ _ _ p0 p1 o1 o2 o3 o4 p3 hat hoff z8 F8 N8
  refine law_c1 (vs := vs) (ns := ns) hl B F8 X T N8 z8 hLaw hat p0 p1 o1 o2 o3 o4 p3 hoff ?_
  intro h9 tk9 m9 tks qi D2 o2' nq v' d' ud' _ _ _ _ _ hat2 htk hto hnm z9 F9 N9
  refine law_c2 (vs := vs) (ns := ns) hl B F9 X T N9 z9 htk hto hnm p3 her ?_
  intro h10 tk10 m10 _ _ _ _ _ _ z10 F10 N10
  refine law_c3 (nq := 0) (vs := vs) (ns := ns) hl B F10 X T N10 z10 hLaw hat2 p0 p1 o1 o2 o3 o4 p3 hoff ?_
  intro h11 tk11 m11 _ _ _ _ _ _ z11 F11 N11
  refine law_d0 (vs := vs) (ns := ns) hl B F11 X T N11 z11 ?_
  intro h12 tk12 m12 z zd x₀ sd td K v Kx ud Z qn e0 e1 e2 e3 ne nf ng un uv ua ub ocd _ _ _ _ _ p0 p1 o1 o2 o3 o4 p3 hat r1 r2 r3 r4 r5 hoc hme hoff z12 F12 N12
  refine law_d1 (vs := vs) (ns := ns) hl B F12 X T N12 z12 hLaw hat p0 p1 o1 o2 o3 o4 p3 (off_e0 hoff p0 p1 o1 o2 o3 o4 p3 r1 r3 r4 r5) r1 r2 r3 hoc ?_
  intro h13 tk13 m13 tks qi nq nf' v' d' ud' uz _ _ _ _ _ hat2 htk z13 F13 N13
  refine law_d2 (vs := vs) (ns := ns) hl B F13 X T N13 z13 htk p3 her hoc hme hiv ?_
  intro h14 tk14 m14 _ _ _ _ _ _ z14 F14 N14
  exact law_d3 (nq := 0) (vs := vs) (ns := ns) hl B F14 X T N14 z14 hLaw hat2 p0 p1 o1 o2 o3 o4 p3 post
end
theorem law1 : PySem.Challenge.rw_ru0004_01.Holds := Mine.a._proof_1_1438 ⟨by
  k_go0
  with_reducible (rename Below _ _ _ _ => zB; rename Fr _ _ _ _ => zF; rename Frag.In _ _ => zX; rename Top _ _ _ _ _ _ => zT; rename News _ _ _ _ => zN; rename PySem.Heap.IsList _ _ _ => zL; rename IntsAre _ _ => zI; rename ¬ _ < _ => zn)
  refine' law_run ?hl zB (fr_ps zF ?hF) zX zT zN ?hk zL zI ?hn ?_
  (case hl => k_is)
  (case hF => (repeat (first | exact List.forall_mem_nil _ | (refine' all_cons ?zA9 ?_; (case zA9 => with_unfolding_all rfl)))))
  (case hk => (simp only [List.length_cons]; omega))
  (case hn => omega)
  clear zF zN
  intro h' tk' m' ht' F' N'
  k_steps⟩
end Mine
theorem PySem.Challenge.cw_ru0004_01_holds : PySem.Challenge.rw_ru0004_01.Holds := by
  exact Mine.law1
