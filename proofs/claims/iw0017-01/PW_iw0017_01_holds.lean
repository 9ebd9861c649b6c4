import PyProof.Rows.All
import Wide.All
import OpenK.AllK
import Wide.FinOn
import PySem.Challenge.RW_iw0017_01
open PySem PySem.W PyProof.Rows PySem.Spec PySem.Calls
set_option Elab.async false
set_option maxRecDepth 100000
namespace Mine
theorem same_names : @PySem.W.namesOk = @PySem.W.namesOk := rfl
name_quick tw13145125596335152023 for PySem.W.namesOk by same_names
name_quick tw16494616584097029746 for PySem.W.namesOk by same_names
name_quick tw15560500314895047343 for PySem.W.namesOk by same_names
name_quick tw3093977132361051618 for PySem.W.namesOk by same_names
name_quick tw16644606511662114574 for PySem.W.namesOk by same_names
name_quick tw4011157648589011858 for PySem.W.namesOk by same_names
name_quick tw17057272898397164401 for PySem.W.namesOk by same_names
name_quick tw607167704815816724 for PySem.W.namesOk by same_names
name_quick tw3424931102881643321 for PySem.W.namesOk by same_names
name_quick tw6434138532213402376 for PySem.W.namesOk by same_names
name_quick tw8424611434330503625 for PySem.W.namesOk by same_names
name_quick tw11838138170533393997 for PySem.W.namesOk by same_names
name_quick tw15900120412870309639 for PySem.W.namesOk by same_names
name_quick tw5189142188285759775 for PySem.W.namesOk by same_names
name_quick tw7250012664060256230 for PySem.W.namesOk by same_names
name_quick tw10938465397075749097 for PySem.W.namesOk by same_names
name_quick tw9951705424602377420 for PySem.W.namesOk by same_names
name_quick tw16697116713213952808 for PySem.W.namesOk by same_names
name_quick tw716658179208862652 for PySem.W.namesOk by same_names
name_quick tw1218959903707654005 for PySem.W.namesOk by same_names
name_quick tw16406328271908756883 for PySem.W.namesOk by same_names
name_quick tw11994158751524154303 for PySem.W.namesOk by same_names
name_quick tw13759679279233594173 for PySem.W.namesOk by same_names
name_quick tw8620020772036689432 for PySem.W.namesOk by same_names
name_quick tw17532440430192770315 for PySem.W.namesOk by same_names
name_quick tw3118938333895590913 for PySem.W.namesOk by same_names
name_quick tw14834023430324568649 for PySem.W.namesOk by same_names
name_quick tw7365555872484859036 for PySem.W.namesOk by same_names
name_quick tw13016732220969518872 for PySem.W.namesOk by same_names
name_quick tw6380047634161181297 for PySem.W.namesOk by same_names
name_quick tw10996506086634736982 for PySem.W.namesOk by same_names
name_quick tw14714103240675001986 for PySem.W.namesOk by same_names
name_quick tw6448080314894763839 for PySem.W.namesOk by same_names
name_quick tw6059929106960060952 for PySem.W.namesOk by same_names
name_quick tw9787396351842916947 for PySem.W.namesOk by same_names
name_quick tw4434333111790514575 for PySem.W.namesOk by same_names
name_quick tw6722154040420286063 for PySem.W.namesOk by same_names
name_quick tw5976474108018559520 for PySem.W.namesOk by same_names
name_quick tw14778209649434054790 for PySem.W.namesOk by same_names
name_quick tw13180171748994924942 for PySem.W.namesOk by same_names
name_quick tw8703263022893421829 for PySem.W.namesOk by same_names
name_quick tw1355338860687761863 for PySem.W.namesOk by same_names
name_quick tw392140993173905013 for PySem.W.namesOk by same_names
name_quick tw5396446701170858492 for PySem.W.namesOk by same_names
name_quick tw16413264400604254196 for PySem.W.namesOk by same_names
name_quick tw16339471991904476338 for PySem.W.namesOk by same_names
name_quick tw17863021456227041891 for PySem.W.namesOk by same_names
name_quick tw16350708796919097252 for PySem.W.namesOk by same_names
name_quick tw7094674258960923220 for PySem.W.namesOk by same_names
name_quick tw12224578244612797663 for PySem.W.namesOk by same_names
name_quick tw17280976486791472633 for PySem.W.namesOk by same_names
name_quick tw17476080006546285661 for PySem.W.namesOk by same_names
name_quick tw2948108419219029167 for PySem.W.namesOk by same_names
name_quick tw4275521005467322725 for PySem.W.namesOk by same_names
name_quick tw13678640442995254988 for PySem.W.namesOk by same_names
name_quick tw18260038339965228139 for PySem.W.namesOk by same_names
name_quick tw4797165386629745026 for PySem.W.namesOk by same_names
name_quick tw9759809726879904816 for PySem.W.namesOk by same_names
name_quick tw18340240734955500558 for PySem.W.namesOk by same_names
name_quick tw13814175508184223724 for PySem.W.namesOk by same_names
name_quick tw4224760802259116069 for PySem.W.namesOk by same_names
name_quick tw1139862187096482527 for PySem.W.namesOk by same_names
name_quick tw10887116778572429059 for PySem.W.namesOk by same_names
name_quick tw17730428716208468724 for PySem.W.namesOk by same_names
name_quick tw14386061602966655976 for PySem.W.namesOk by same_names
name_quick tw15894407043143930727 for PySem.W.namesOk by same_names
name_quick tw3131671291697673992 for PySem.W.namesOk by same_names
name_quick tw17988542015724977305 for PySem.W.namesOk by same_names
name_quick tw4407734736301137906 for PySem.W.namesOk by same_names
name_quick tw11519604305632133818 for PySem.W.namesOk by same_names
name_quick tw3292988265063385152 for PySem.W.namesOk by same_names
name_quick tw15323854079317868165 for PySem.W.namesOk by same_names
name_quick tw15902184279288820625 for PySem.W.namesOk by same_names
name_quick tw10500077913531017323 for PySem.W.namesOk by same_names
name_quick tw8537084889766193716 for PySem.W.namesOk by same_names
name_quick tw1184552218554016812 for PySem.W.namesOk by same_names
name_quick tw11495947367809530248 for PySem.W.namesOk by same_names
name_quick tw1291980286583624508 for PySem.W.namesOk by same_names
name_quick tw8119918657739134586 for PySem.W.namesOk by same_names
name_quick tw10424941004445345732 for PySem.W.namesOk by same_names
name_quick tw17341736924252097559 for PySem.W.namesOk by same_names
name_quick tw8459811325457737761 for PySem.W.namesOk by same_names
name_quick tw4090926877573551719 for PySem.W.namesOk by same_names
name_quick tw10939839348159177617 for PySem.W.namesOk by same_names
name_quick tw6929956602132211858 for PySem.W.namesOk by same_names
name_quick tw219737044198020058 for PySem.W.namesOk by same_names
name_quick tw16049961110935095269 for PySem.W.namesOk by same_names
name_quick tw5925582254088234700 for PySem.W.namesOk by same_names
name_quick tw17001327861769816259 for PySem.W.namesOk by same_names
name_quick tw7504490480230193789 for PySem.W.namesOk by same_names
name_quick tw3766158894648301139 for PySem.W.namesOk by same_names
name_quick tw5721027456603625697 for PySem.W.namesOk by same_names
name_quick tw11270796479367742343 for PySem.W.namesOk by same_names
name_quick tw14305139224198610471 for PySem.W.namesOk by same_names
name_quick tw14971970265804392439 for PySem.W.namesOk by same_names
name_quick tw6426273055680023932 for PySem.W.namesOk by same_names
name_quick tw2378363196638174374 for PySem.W.namesOk by same_names
name_quick tw17434858337260393937 for PySem.W.namesOk by same_names
name_quick tw11317593695737139937 for PySem.W.namesOk by same_names
name_quick tw2401699919119007470 for PySem.W.namesOk by same_names
name_quick tw18101931140130867144 for PySem.W.namesOk by same_names
name_quick tw2611137233208623240 for PySem.W.namesOk by same_names
name_quick tw13512673800721320934 for PySem.W.namesOk by same_names
name_quick tw8708707556590381134 for PySem.W.namesOk by same_names
name_quick tw9529234661008812162 for PySem.W.namesOk by same_names
name_quick tw13987355940573415152 for PySem.W.namesOk by same_names
name_quick tw9948023125614773506 for PySem.W.namesOk by same_names
name_quick tw16349804527192203551 for PySem.W.namesOk by same_names
name_quick tw5529568453561195837 for PySem.W.namesOk by same_names
name_quick tw3355348695024010778 for PySem.W.namesOk by same_names
name_quick tw12809422525583811893 for PySem.W.namesOk by same_names
name_quick tw1333364371103165705 for PySem.W.namesOk by same_names
name_quick tw5758256569797452207 for PySem.W.namesOk by same_names
name_quick tw3577408171920636059 for PySem.W.namesOk by same_names
name_quick tw12329403913580668285 for PySem.W.namesOk by same_names
name_quick tw1962928258387122110 for PySem.W.namesOk by same_names
name_quick tw16439824349840649037 for PySem.W.namesOk by same_names
name_quick tw470574548607681690 for PySem.W.namesOk by same_names
name_quick tw1419416864934026935 for PySem.W.namesOk by same_names
name_quick tw11740888236361828772 for PySem.W.namesOk by same_names
name_quick tw4978915544186085027 for PySem.W.namesOk by same_names
name_quick tw8719427161674164953 for PySem.W.namesOk by same_names
name_quick tw15542503528162795033 for PySem.W.namesOk by same_names
name_quick tw8603108125212654177 for PySem.W.namesOk by same_names
name_quick tw3209381107111851631 for PySem.W.namesOk by same_names
name_quick tw12734952128020822468 for PySem.W.namesOk by same_names
name_quick tw9821368406582625841 for PySem.W.namesOk by same_names
name_quick tw15376083050721069600 for PySem.W.namesOk by same_names
name_quick tw17532718790514356516 for PySem.W.namesOk by same_names
name_quick tw7783732958741208154 for PySem.W.namesOk by same_names
name_quick tw2627984346626558326 for PySem.W.namesOk by same_names
name_quick tw13809362725867891129 for PySem.W.namesOk by same_names
name_quick tw17069979004554194336 for PySem.W.namesOk by same_names
name_quick tw11462045893675790159 for PySem.W.namesOk by same_names
name_quick tw5032809538720368765 for PySem.W.namesOk by same_names
name_quick tw13314330512976039754 for PySem.W.namesOk by same_names
name_quick tw5345256250457102556 for PySem.W.namesOk by same_names
name_quick tw6817277305950994716 for PySem.W.namesOk by same_names
name_quick tw10227693086864044499 for PySem.W.namesOk by same_names
name_quick tw6909570525239066004 for PySem.W.namesOk by same_names
name_quick tw10487160056961263569 for PySem.W.namesOk by same_names
name_quick tw11957962974430299695 for PySem.W.namesOk by same_names
name_quick tw17101871299007795629 for PySem.W.namesOk by same_names
name_quick tw13335737130258781183 for PySem.W.namesOk by same_names
name_quick tw17000458434675057986 for PySem.W.namesOk by same_names
name_quick tw17517737089405305841 for PySem.W.namesOk by same_names
name_quick tw2711585505577850959 for PySem.W.namesOk by same_names
name_quick tw14323765505736481980 for PySem.W.namesOk by same_names
name_quick tw15980859228951719591 for PySem.W.namesOk by same_names
name_quick tw3527409393049130627 for PySem.W.namesOk by same_names
name_quick tw13615603153576403970 for PySem.W.namesOk by same_names
name_quick tw11625766737575182897 for PySem.W.namesOk by same_names
name_quick tw6550987210724342151 for PySem.W.namesOk by same_names
name_quick tw8349773391988994195 for PySem.W.namesOk by same_names
name_quick tw441327347791068078 for PySem.W.namesOk by same_names
name_quick tw8693227569615203950 for PySem.W.namesOk by same_names
name_quick tw9800571698397750058 for PySem.W.namesOk by same_names
name_quick tw11707433790658880453 for PySem.W.namesOk by same_names
name_quick tw8579058602437062094 for PySem.W.namesOk by same_names
name_quick tw3362959441861295915 for PySem.W.namesOk by same_names
name_quick tw14896874001708588922 for PySem.W.namesOk by same_names
name_quick tw3972328310683599613 for PySem.W.namesOk by same_names
name_quick tw667198328695590252 for PySem.W.namesOk by same_names
name_quick tw6019396324639902685 for PySem.W.namesOk by same_names
name_quick tw12095823642532355627 for PySem.W.namesOk by same_names
name_quick tw4775785305629353868 for PySem.W.namesOk by same_names
name_quick tw14537914154153760125 for PySem.W.namesOk by same_names
name_quick tw2354101950205528012 for PySem.W.namesOk by same_names
name_quick tw14108194823987119177 for PySem.W.namesOk by same_names
name_quick tw14311459727803291754 for PySem.W.namesOk by same_names
name_quick tw136631920214876835 for PySem.W.namesOk by same_names
name_quick tw912392155897948271 for PySem.W.namesOk by same_names
name_quick tw15112985482279097393 for PySem.W.namesOk by same_names
name_quick tw7299303143086499733 for PySem.W.namesOk by same_names
name_quick tw7581352650102555174 for PySem.W.namesOk by same_names
name_quick tw13981391230805400906 for PySem.W.namesOk by same_names
name_quick tw8017206721242287953 for PySem.W.namesOk by same_names
name_quick tw15195428891847259777 for PySem.W.namesOk by same_names
name_quick tw608726401823008365 for PySem.W.namesOk by same_names
name_quick tw4936483359421988267 for PySem.W.namesOk by same_names
name_quick tw13002492023102617099 for PySem.W.namesOk by same_names
name_quick tw14433975572909055671 for PySem.W.namesOk by same_names
name_quick tw1749818173716722547 for PySem.W.namesOk by same_names
name_quick tw3891137856419664920 for PySem.W.namesOk by same_names
name_quick tw7496433998918960881 for PySem.W.namesOk by same_names
name_quick tw2283851925072248500 for PySem.W.namesOk by same_names
name_quick tw13915792640404377917 for PySem.W.namesOk by same_names
name_quick tw7619357645376055252 for PySem.W.namesOk by same_names
name_quick tw13254397897704925713 for PySem.W.namesOk by same_names
name_quick tw12726346659333912481 for PySem.W.namesOk by same_names
name_quick tw2599325451414397859 for PySem.W.namesOk by same_names
name_quick tw6363645014702824404 for PySem.W.namesOk by same_names
name_quick tw1156252341971683116 for PySem.W.namesOk by same_names
name_quick tw3442601649717412197 for PySem.W.namesOk by same_names
name_quick tw3436264866546951355 for PySem.W.namesOk by same_names
name_quick tw4075660801711882420 for PySem.W.namesOk by same_names
name_quick tw5565278806992967083 for PySem.W.namesOk by same_names
name_quick tw6967401301877209104 for PySem.W.namesOk by same_names
name_quick tw17520869792638436183 for PySem.W.namesOk by same_names
name_quick tw11796506867022685745 for PySem.W.namesOk by same_names
name_quick tw13471461260053382970 for PySem.W.namesOk by same_names
name_quick tw10073347824450446311 for PySem.W.namesOk by same_names
name_quick tw1258299570235058372 for PySem.W.namesOk by same_names
name_quick tw13912434898499826684 for PySem.W.namesOk by same_names
name_quick tw7009043117176579089 for PySem.W.namesOk by same_names
name_quick tw17274371674624000324 for PySem.W.namesOk by same_names
name_quick tw1503297043503765363 for PySem.W.namesOk by same_names
name_quick tw43969757491396457 for PySem.W.namesOk by same_names
name_quick tw11445135464325071761 for PySem.W.namesOk by same_names
name_quick tw5268983451555188008 for PySem.W.namesOk by same_names
name_quick tw11985326045990495214 for PySem.W.namesOk by same_names
name_quick tw16176465441171805009 for PySem.W.namesOk by same_names
name_quick tw14821650378409806113 for PySem.W.namesOk by same_names
name_quick tw3152983702415266003 for PySem.W.namesOk by same_names
name_quick tw2422670821966735624 for PySem.W.namesOk by same_names
name_quick tw7286323032743288035 for PySem.W.namesOk by same_names
name_quick tw282004115355043989 for PySem.W.namesOk by same_names
name_quick tw1886563365779066154 for PySem.W.namesOk by same_names
name_quick tw2862820112641550484 for PySem.W.namesOk by same_names
name_quick tw932993149863042379 for PySem.W.namesOk by same_names
name_quick tw16531745337717519161 for PySem.W.namesOk by same_names
name_quick tw7232422423428716515 for PySem.W.namesOk by same_names
name_quick tw1829445100760108279 for PySem.W.namesOk by same_names
name_quick tw12450158673883907302 for PySem.W.namesOk by same_names
name_quick tw17024950926791866790 for PySem.W.namesOk by same_names
name_quick tw17730448691065144110 for PySem.W.namesOk by same_names
name_quick tw16593013826814733010 for PySem.W.namesOk by same_names
name_quick tw4071324889030633612 for PySem.W.namesOk by same_names
name_quick tw10015664371746657536 for PySem.W.namesOk by same_names
name_quick tw6213141578215901147 for PySem.W.namesOk by same_names
name_quick tw10528696920762540405 for PySem.W.namesOk by same_names
name_quick tw900395245841561262 for PySem.W.namesOk by same_names
name_quick tw12635297910168745909 for PySem.W.namesOk by same_names
name_quick tw16752143609539240740 for PySem.W.namesOk by same_names
name_quick tw9979284746773624096 for PySem.W.namesOk by same_names
name_quick tw8595292554425487202 for PySem.W.namesOk by same_names
name_quick tw16869277618539721502 for PySem.W.namesOk by same_names
name_quick tw17244072584429378644 for PySem.W.namesOk by same_names
name_quick tw682011567655089306 for PySem.W.namesOk by same_names
name_quick tw14126943448341045398 for PySem.W.namesOk by same_names
name_quick tw16741492637210864865 for PySem.W.namesOk by same_names
name_quick tw9763268239775435451 for PySem.W.namesOk by same_names
name_quick tw15480198773659482676 for PySem.W.namesOk by same_names
name_quick tw13900631225919944168 for PySem.W.namesOk by same_names
name_quick tw17537794083376710389 for PySem.W.namesOk by same_names
name_quick tw11108263761283441063 for PySem.W.namesOk by same_names
name_quick tw3264259588550801142 for PySem.W.namesOk by same_names
name_quick tw2460228577881660442 for PySem.W.namesOk by same_names
name_quick tw3820604794100220378 for PySem.W.namesOk by same_names
name_quick tw18213545369034332514 for PySem.W.namesOk by same_names
name_quick tw11892598404827812706 for PySem.W.namesOk by same_names
name_quick tw9862997608875712007 for PySem.W.namesOk by same_names
name_quick tw5882768191206486792 for PySem.W.namesOk by same_names
name_quick tw9407582987413476825 for PySem.W.namesOk by same_names
name_quick tw6654550962395885724 for PySem.W.namesOk by same_names
name_quick tw18416463498863911781 for PySem.W.namesOk by same_names
name_quick tw2902314222560053993 for PySem.W.namesOk by same_names
name_quick tw2905824091091238844 for PySem.W.namesOk by same_names
name_quick tw12022618010286034681 for PySem.W.namesOk by same_names
name_quick tw15034313371233782410 for PySem.W.namesOk by same_names
name_quick tw662354867322794072 for PySem.W.namesOk by same_names
name_quick tw10352308551163946355 for PySem.W.namesOk by same_names
name_quick tw11863081143760314161 for PySem.W.namesOk by same_names
name_quick tw1735497430108182060 for PySem.W.namesOk by same_names
name_quick tw8727135674562949291 for PySem.W.namesOk by same_names
name_quick tw16643706677886111943 for PySem.W.namesOk by same_names
name_quick tw5200128776193632040 for PySem.W.namesOk by same_names
name_quick tw6789855027759293466 for PySem.W.namesOk by same_names
name_quick tw5732905514179830355 for PySem.W.namesOk by same_names
name_quick tw6679490504615227074 for PySem.W.namesOk by same_names
name_quick tw18056578402003937789 for PySem.W.namesOk by same_names
name_quick tw8488268690174267210 for PySem.W.namesOk by same_names
name_quick tw6792406925840432001 for PySem.W.namesOk by same_names
name_quick tw10042830170769951172 for PySem.W.namesOk by same_names
name_quick tw11817470609975844035 for PySem.W.namesOk by same_names
name_quick tw5902227825499142635 for PySem.W.namesOk by same_names
name_quick tw387338674003428930 for PySem.W.namesOk by same_names
name_quick tw8376441433122354887 for PySem.W.namesOk by same_names
name_quick tw14530364306720264245 for PySem.W.namesOk by same_names
name_quick tw1041845030581493396 for PySem.W.namesOk by same_names
name_quick tw9787463984185863102 for PySem.W.namesOk by same_names
name_quick tw5076957145309523181 for PySem.W.namesOk by same_names
name_quick tw17913803186225011329 for PySem.W.namesOk by same_names
name_quick tw11186114360453789277 for PySem.W.namesOk by same_names
name_quick tw1574873078441994576 for PySem.W.namesOk by same_names
name_quick tw951843321253372498 for PySem.W.namesOk by same_names
name_quick tw11310463157757771331 for PySem.W.namesOk by same_names
name_quick tw17828083071136270317 for PySem.W.namesOk by same_names
name_quick tw1620339239838986703 for PySem.W.namesOk by same_names
name_quick tw1772237422875290029 for PySem.W.namesOk by same_names
name_quick tw5068434257544371817 for PySem.W.namesOk by same_names
name_quick tw11452132507678324671 for PySem.W.namesOk by same_names
name_quick tw6662432510661729299 for PySem.W.namesOk by same_names
name_quick tw12635813782599140982 for PySem.W.namesOk by same_names
name_quick tw14553827428707814869 for PySem.W.namesOk by same_names
name_quick tw4748654258956052638 for PySem.W.namesOk by same_names
name_quick tw5697894365363955025 for PySem.W.namesOk by same_names
name_quick tw16296994325663420285 for PySem.W.namesOk by same_names
name_quick tw4278798014809849964 for PySem.W.namesOk by same_names
name_quick tw2193789692954389824 for PySem.W.namesOk by same_names
name_quick tw12945451867199242903 for PySem.W.namesOk by same_names
name_quick tw757081541053455785 for PySem.W.namesOk by same_names
name_quick tw16018607276475445134 for PySem.W.namesOk by same_names
name_quick tw15490439104401381959 for PySem.W.namesOk by same_names
name_quick tw3315324234476444515 for PySem.W.namesOk by same_names
name_quick tw4921902886906138986 for PySem.W.namesOk by same_names
name_quick tw17552769576498331613 for PySem.W.namesOk by same_names
name_quick tw11964429278604863157 for PySem.W.namesOk by same_names
name_quick tw4681523508651956083 for PySem.W.namesOk by same_names
name_quick tw17300597898927385350 for PySem.W.namesOk by same_names
name_quick tw9626621113073979434 for PySem.W.namesOk by same_names
name_quick tw7892128664451923741 for PySem.W.namesOk by same_names
name_quick tw9315938663221665524 for PySem.W.namesOk by same_names
name_quick tw11644210207450386103 for PySem.W.namesOk by same_names
name_quick tw7276740287692124622 for PySem.W.namesOk by same_names
name_quick tw17888162413812561239 for PySem.W.namesOk by same_names
name_quick tw14973007898608030118 for PySem.W.namesOk by same_names
name_quick tw11130039905162102590 for PySem.W.namesOk by same_names
name_quick tw2951486255847992690 for PySem.W.namesOk by same_names
name_quick tw13789449189825218787 for PySem.W.namesOk by same_names
name_quick tw9136488742655976645 for PySem.W.namesOk by same_names
name_quick tw8796240567053077481 for PySem.W.namesOk by same_names
name_quick tw15450981722951097364 for PySem.W.namesOk by same_names
name_quick tw17804436615005485693 for PySem.W.namesOk by same_names
name_quick tw1092655722715705105 for PySem.W.namesOk by same_names
name_quick tw13141144453892091621 for PySem.W.namesOk by same_names
name_quick tw4552823106982906706 for PySem.W.namesOk by same_names
name_quick tw15168306246750427876 for PySem.W.namesOk by same_names
name_quick tw4870499906242370311 for PySem.W.namesOk by same_names
name_quick tw14979626087600564940 for PySem.W.namesOk by same_names
name_quick tw16432479971616331241 for PySem.W.namesOk by same_names
name_quick tw17352973434858128600 for PySem.W.namesOk by same_names
name_quick tw930746551332336609 for PySem.W.namesOk by same_names
name_quick tw8989982439271903415 for PySem.W.namesOk by same_names
name_quick tw7323676302269181137 for PySem.W.namesOk by same_names
name_quick tw1638017585896720355 for PySem.W.namesOk by same_names
name_quick tw1204117194425446250 for PySem.W.namesOk by same_names
name_quick tw15278061642289888581 for PySem.W.namesOk by same_names
name_quick tw7397068168572129948 for PySem.W.namesOk by same_names
name_quick tw12488000419048109807 for PySem.W.namesOk by same_names
name_quick tw6714822604882049554 for PySem.W.namesOk by same_names
name_quick tw1402947280878808549 for PySem.W.namesOk by same_names
name_quick tw11161088081135249708 for PySem.W.namesOk by same_names
name_quick tw8032284361305108907 for PySem.W.namesOk by same_names
name_quick tw14210447440969649564 for PySem.W.namesOk by same_names
name_quick tw1401972060568974870 for PySem.W.namesOk by same_names
name_quick tw16947794391021106201 for PySem.W.namesOk by same_names
name_quick tw17774800907425398282 for PySem.W.namesOk by same_names
name_quick tw11729385059970357855 for PySem.W.namesOk by same_names
name_quick tw6711915476519705758 for PySem.W.namesOk by same_names
name_quick tw2039238271031011813 for PySem.W.namesOk by same_names
name_quick tw3636048126100218174 for PySem.W.namesOk by same_names
name_quick tw9219426015542480343 for PySem.W.namesOk by same_names
name_quick tw17975652961387846372 for PySem.W.namesOk by same_names
name_quick tw7269565832213808900 for PySem.W.namesOk by same_names
name_quick tw4172830789200971933 for PySem.W.namesOk by same_names
name_quick tw4558998842232669794 for PySem.W.namesOk by same_names
name_quick tw12832477231654346042 for PySem.W.namesOk by same_names
name_quick tw16172888661194304596 for PySem.W.namesOk by same_names
name_quick tw9305782018832362445 for PySem.W.namesOk by same_names
name_quick tw7275051467321613617 for PySem.W.namesOk by same_names
name_quick tw14420389602138693270 for PySem.W.namesOk by same_names
name_quick tw8075568018651887793 for PySem.W.namesOk by same_names
name_quick tw17672482021469178181 for PySem.W.namesOk by same_names
name_quick tw9673203406766833760 for PySem.W.namesOk by same_names
name_quick tw13236226663087606529 for PySem.W.namesOk by same_names
name_quick tw7035115661146626270 for PySem.W.namesOk by same_names
name_quick tw12659028871203227004 for PySem.W.namesOk by same_names
name_quick tw6434265647005701932 for PySem.W.namesOk by same_names
name_quick tw505943868828395459 for PySem.W.namesOk by same_names
name_quick tw5111356299099525756 for PySem.W.namesOk by same_names
name_quick tw151948405760981731 for PySem.W.namesOk by same_names
name_quick tw5349121933718820234 for PySem.W.namesOk by same_names
name_quick tw8753696776887207221 for PySem.W.namesOk by same_names
name_quick tw11788150170368784547 for PySem.W.namesOk by same_names
name_quick tw9501820088010722379 for PySem.W.namesOk by same_names
name_quick tw16942194440817826258 for PySem.W.namesOk by same_names
name_quick tw16979880578912567463 for PySem.W.namesOk by same_names
name_quick tw11682084944484805031 for PySem.W.namesOk by same_names
name_quick tw1706496860858754268 for PySem.W.namesOk by same_names
name_quick tw4527066259768149269 for PySem.W.namesOk by same_names
name_quick tw14023627001141898710 for PySem.W.namesOk by same_names
name_quick tw10010936943081839664 for PySem.W.namesOk by same_names
name_quick tw12371321757623732685 for PySem.W.namesOk by same_names
name_quick tw14073706353221006472 for PySem.W.namesOk by same_names
name_quick tw2447775223705975068 for PySem.W.namesOk by same_names
name_quick tw15742981410569661332 for PySem.W.namesOk by same_names
name_quick tw4636218855388986860 for PySem.W.namesOk by same_names
name_quick tw2001226814458364393 for PySem.W.namesOk by same_names
name_quick tw11636919720809706868 for PySem.W.namesOk by same_names
name_quick tw10833955939284561965 for PySem.W.namesOk by same_names
name_quick tw704327219915372674 for PySem.W.namesOk by same_names
name_quick tw9151444980202551346 for PySem.W.namesOk by same_names
name_quick tw6122645084068987007 for PySem.W.namesOk by same_names
name_quick tw721709456127091705 for PySem.W.namesOk by same_names
name_quick tw17964007177503468958 for PySem.W.namesOk by same_names
name_quick tw15806122291839087668 for PySem.W.namesOk by same_names
name_quick tw13215998728584607739 for PySem.W.namesOk by same_names
name_quick tw183835017167291270 for PySem.W.namesOk by same_names
name_quick tw16417370028952169744 for PySem.W.namesOk by same_names
name_quick tw9564595351457756722 for PySem.W.namesOk by same_names
name_quick tw11420187438672877268 for PySem.W.namesOk by same_names
name_quick tw15263041282635125899 for PySem.W.namesOk by same_names
name_quick tw14884601019740666482 for PySem.W.namesOk by same_names
name_quick tw9236875199018929784 for PySem.W.namesOk by same_names
name_quick tw17394056326795013819 for PySem.W.namesOk by same_names
name_quick tw9011979029575296479 for PySem.W.namesOk by same_names
name_quick tw16874561944515371726 for PySem.W.namesOk by same_names
name_quick tw1617757218408452269 for PySem.W.namesOk by same_names
name_quick tw17765544955259793912 for PySem.W.namesOk by same_names
name_quick tw2859041830047134086 for PySem.W.namesOk by same_names
name_quick tw15562837088269578035 for PySem.W.namesOk by same_names
name_quick tw12290603225136948437 for PySem.W.namesOk by same_names
name_quick tw5518745428033880147 for PySem.W.namesOk by same_names
name_quick tw7198390536060210744 for PySem.W.namesOk by same_names
name_quick tw14223099787259518943 for PySem.W.namesOk by same_names
name_quick tw11543547407058413889 for PySem.W.namesOk by same_names
name_quick tw13642483538084851733 for PySem.W.namesOk by same_names
name_quick tw3698559305507148144 for PySem.W.namesOk by same_names
name_quick tw10948738476641704880 for PySem.W.namesOk by same_names
name_quick tw10470071008263537045 for PySem.W.namesOk by same_names
name_quick tw2719445374943340272 for PySem.W.namesOk by same_names
name_quick tw9908251947323293946 for PySem.W.namesOk by same_names
name_quick tw4904739604578439355 for PySem.W.namesOk by same_names
name_quick tw14333388528381170442 for PySem.W.namesOk by same_names
name_quick tw3105397867545767578 for PySem.W.namesOk by same_names
name_quick tw11333186260410459676 for PySem.W.namesOk by same_names
name_quick tw12813236842856870187 for PySem.W.namesOk by same_names
name_quick tw12392613427281201732 for PySem.W.namesOk by same_names
name_quick tw12981051755390344553 for PySem.W.namesOk by same_names
name_quick tw9458956999447867950 for PySem.W.namesOk by same_names
name_quick tw12233582284571471492 for PySem.W.namesOk by same_names
name_quick tw16414604833108395602 for PySem.W.namesOk by same_names
name_quick tw8098380416015320538 for PySem.W.namesOk by same_names
name_quick tw14209830616999942402 for PySem.W.namesOk by same_names
name_quick tw12835720964997663042 for PySem.W.namesOk by same_names
name_quick tw15066959818950650227 for PySem.W.namesOk by same_names
name_quick tw7650934615059315214 for PySem.W.namesOk by same_names
name_quick tw7401281599722004195 for PySem.W.namesOk by same_names
name_quick tw12393455550290869266 for PySem.W.namesOk by same_names
name_quick tw8047484207015712433 for PySem.W.namesOk by same_names
name_quick tw1708024556718086227 for PySem.W.namesOk by same_names
name_quick tw4658958612460137192 for PySem.W.namesOk by same_names
name_quick tw15823609455315575823 for PySem.W.namesOk by same_names
name_quick tw17018628822417861297 for PySem.W.namesOk by same_names
name_quick tw12177639751122801600 for PySem.W.namesOk by same_names
name_quick tw10670733350059645105 for PySem.W.namesOk by same_names
name_quick tw16792545251062261874 for PySem.W.namesOk by same_names
name_quick tw4575980220486274672 for PySem.W.namesOk by same_names
name_quick tw3327986453032591115 for PySem.W.namesOk by same_names
name_quick tw18126140380344562322 for PySem.W.namesOk by same_names
name_quick tw17846936440860909165 for PySem.W.namesOk by same_names
name_quick tw15475462885187679331 for PySem.W.namesOk by same_names
name_quick tw2478078296215019888 for PySem.W.namesOk by same_names
name_quick tw18211773271919218964 for PySem.W.namesOk by same_names
name_quick tw558745408833754511 for PySem.W.namesOk by same_names
name_quick tw17000155066101142889 for PySem.W.namesOk by same_names
name_quick tw7140130562030077042 for PySem.W.namesOk by same_names
name_quick tw2315820567201803617 for PySem.W.namesOk by same_names
name_quick tw15919542637913265678 for PySem.W.namesOk by same_names
name_quick tw6245536207120538393 for PySem.W.namesOk by same_names
name_quick tw2922074901204462755 for PySem.W.namesOk by same_names
name_quick tw11306939235166856333 for PySem.W.namesOk by same_names
name_quick tw11459640794349981006 for PySem.W.namesOk by same_names
name_quick tw6587116730350146372 for PySem.W.namesOk by same_names
name_quick tw3282434896037501709 for PySem.W.namesOk by same_names
name_quick tw16145008321745377990 for PySem.W.namesOk by same_names
name_quick tw5770868932273138760 for PySem.W.namesOk by same_names
name_quick tw1377046205977697930 for PySem.W.namesOk by same_names
name_quick tw12429978231107022823 for PySem.W.namesOk by same_names
name_quick tw17827458813498177553 for PySem.W.namesOk by same_names
name_quick tw17279654841073493023 for PySem.W.namesOk by same_names
name_quick tw9931943479562821362 for PySem.W.namesOk by same_names
name_quick tw878741703135273975 for PySem.W.namesOk by same_names
name_quick tw10317580896714288900 for PySem.W.namesOk by same_names
name_quick tw6980452841517184909 for PySem.W.namesOk by same_names
name_quick tw3386650904741475044 for PySem.W.namesOk by same_names
name_quick tw6090905460779295987 for PySem.W.namesOk by same_names
name_quick tw16548257151911338427 for PySem.W.namesOk by same_names
name_quick tw14214133299417103183 for PySem.W.namesOk by same_names
name_quick tw10205541121877940668 for PySem.W.namesOk by same_names
name_quick tw6004533443673955352 for PySem.W.namesOk by same_names
name_quick tw2664551874359636763 for PySem.W.namesOk by same_names
name_quick tw17111948838632640456 for PySem.W.namesOk by same_names
name_quick tw11707371222683016368 for PySem.W.namesOk by same_names
name_quick tw6589095468515690095 for PySem.W.namesOk by same_names
name_quick tw383695940523520267 for PySem.W.namesOk by same_names
name_quick tw8224813933742928703 for PySem.W.namesOk by same_names
name_quick tw2660918139993853925 for PySem.W.namesOk by same_names
name_quick tw10007627690174824804 for PySem.W.namesOk by same_names
name_quick tw12825359941727978080 for PySem.W.namesOk by same_names
name_quick tw1763209079605825380 for PySem.W.namesOk by same_names
name_quick tw9285146279643344392 for PySem.W.namesOk by same_names
name_quick tw460243522976405022 for PySem.W.namesOk by same_names
name_quick tw2670528217467546775 for PySem.W.namesOk by same_names
name_quick tw1055568401681811165 for PySem.W.namesOk by same_names
name_quick tw3039592710220408265 for PySem.W.namesOk by same_names
name_quick tw17497748084772794779 for PySem.W.namesOk by same_names
name_quick tw4319705520415482375 for PySem.W.namesOk by same_names
name_quick tw11667535773385585968 for PySem.W.namesOk by same_names
name_quick tw12237943961548833269 for PySem.W.namesOk by same_names
name_quick tw10942035263794033107 for PySem.W.namesOk by same_names
name_quick tw9676229304581654039 for PySem.W.namesOk by same_names
name_quick tw11853533878840232495 for PySem.W.namesOk by same_names
name_quick tw11588390666370768167 for PySem.W.namesOk by same_names
name_quick tw3619232141914619222 for PySem.W.namesOk by same_names
name_quick tw6683783046931543321 for PySem.W.namesOk by same_names
name_quick tw10379131730601215995 for PySem.W.namesOk by same_names
name_quick tw2968979199505139716 for PySem.W.namesOk by same_names
name_quick tw1370275717833778536 for PySem.W.namesOk by same_names
name_quick tw15766043655864335149 for PySem.W.namesOk by same_names
name_quick tw8400853705098224536 for PySem.W.namesOk by same_names
name_quick tw7802139600951554647 for PySem.W.namesOk by same_names
name_quick tw14168537005229113720 for PySem.W.namesOk by same_names
name_quick tw15007238320947547705 for PySem.W.namesOk by same_names
name_quick tw18345786424863182364 for PySem.W.namesOk by same_names
name_quick tw7098571738820278039 for PySem.W.namesOk by same_names
name_quick tw14112274594779413971 for PySem.W.namesOk by same_names
name_quick tw16349216596472256690 for PySem.W.namesOk by same_names
name_quick tw389472881494512206 for PySem.W.namesOk by same_names
name_quick tw11790162104776037713 for PySem.W.namesOk by same_names
name_quick tw5823794197072137003 for PySem.W.namesOk by same_names
name_quick tw4302124980754421698 for PySem.W.namesOk by same_names
name_quick tw11013792430000457035 for PySem.W.namesOk by same_names
name_quick tw10314498396905981064 for PySem.W.namesOk by same_names
name_quick tw18350638575300117064 for PySem.W.namesOk by same_names
name_quick tw10323183001455561277 for PySem.W.namesOk by same_names
name_quick tw14326252917377295143 for PySem.W.namesOk by same_names
name_quick tw17344680358763864322 for PySem.W.namesOk by same_names
name_quick tw7581816359482902497 for PySem.W.namesOk by same_names
name_quick tw4933834842325187142 for PySem.W.namesOk by same_names
name_quick tw10706342367453228570 for PySem.W.namesOk by same_names
name_quick tw4980102563643897964 for PySem.W.namesOk by same_names
name_quick tw9594665118957945026 for PySem.W.namesOk by same_names
name_quick tw7299951869573292228 for PySem.W.namesOk by same_names
name_quick tw4679858250743294509 for PySem.W.namesOk by same_names
name_quick tw4405960384096086239 for PySem.W.namesOk by same_names
name_quick tw9396933662098498411 for PySem.W.namesOk by same_names
name_quick tw5248340912204065574 for PySem.W.namesOk by same_names
name_quick tw12850107946570832962 for PySem.W.namesOk by same_names
name_quick tw9300948228871686676 for PySem.W.namesOk by same_names
name_quick tw15663404670287596823 for PySem.W.namesOk by same_names
name_quick tw7745614565497352828 for PySem.W.namesOk by same_names
name_quick tw9674257727999782656 for PySem.W.namesOk by same_names
name_quick tw117213463901210413 for PySem.W.namesOk by same_names
name_quick tw7483462131439158144 for PySem.W.namesOk by same_names
name_quick tw5135500740108067664 for PySem.W.namesOk by same_names
name_quick tw8450942572126056277 for PySem.W.namesOk by same_names
name_quick tw10045867985992453528 for PySem.W.namesOk by same_names
set_option maxRecDepth 100000 in
set_option maxHeartbeats 8000000 in
open_top hd for PySem.Challenge.rw_iw0017_01
end Mine

namespace Mine

structure Cx (k : Nat) (w : World) (p : Program) (loose : List Str) (mean : ExcName → Option Value) (mg mb : Str → Option Value) (base h₀ : Heap) (outer : List Env) (A₀ A : Around) (env : Env) (L : Addr) (m : Str → Option Value) (news : List (Addr × Obj)) (h : Heap) : Prop where
  B : Below A₀ base outer h₀
  F : Fr h₀ L h m
  X : (hd.heap_39 w.params).In h₀
  N : News h₀ L h news
  T : Top p loose mean mg mb h₀
  fr : A.frames = some (env :: outer)
  fa : env.frame = some L
  fk : env.scope.kind = .function
  hh : A.handled = none
  room : A.depth + k < 900
  units : A.units + 8 * k < 5000

theorem Cx.mono {k k' : Nat} {w : World} {p : Program} {loose : List Str} {mean : ExcName → Option Value} {mg mb : Str → Option Value} {base h₀ : Heap} {outer : List Env} {A₀ A : Around} {env : Env} {L : Addr} {m : Str → Option Value} {news : List (Addr × Obj)} {h : Heap}
    (C : Cx k w p loose mean mg mb base h₀ outer A₀ A env L m news h) (hk : k' ≤ k) : Cx k' w p loose mean mg mb base h₀ outer A₀ A env L m news h :=
  ⟨C.B, C.F, C.X, C.N, C.T, C.fr, C.fa, C.fk, C.hh, Nat.lt_of_le_of_lt (Nat.add_le_add_left hk _) C.room, Nat.lt_of_le_of_lt (Nat.add_le_add_left (Nat.mul_le_mul_left 8 hk) _) C.units⟩

def takeF (ns : List Int) (k many : Int) : Int :=
  if 0 < ns.length then (ns.getD (k.fmod ns.length).toNat 0 + 7 * k * k.fdiv ns.length).fmod many else (13 * k + 5).fmod many
theorem takeF_lo (ns : List Int) (k : Int) {many : Int} (h : 0 < many) : 0 ≤ takeF ns k many := by
  unfold takeF; split <;> exact fmod_lo _ h
theorem takeF_hi (ns : List Int) (k : Int) {many : Int} (h : 0 < many) : takeF ns k many < many := by
  unfold takeF; split <;> exact fmod_hi _ h

section
variable {w : World} {p : Program} {loose : List Str} {mean : ExcName → Option Value} {mg mb : Str → Option Value}
  {base h₀ : Heap} {outer : List Env} {A₀ A : Around} {env : Env} {L : Addr} {m : Str → Option Value} {news : List (Addr × Obj)} {s : Shared} {R : Result → Shared → Prop}

set_option maxRecDepth 100000 in
set_option maxHeartbeats 8000000 in
theorem take_ok {l : Addr} {vs : List Value} {ns : List Int} {k many : Int} {tk tm : Tok}
    (C : Cx 2 w p loose mean mg mb base h₀ outer A₀ A env L m news s.heap)
    (hL : base.IsList l vs.toArray) (hI : IntsAre vs ns) (hlen : ns.length ≤ 63) (h0 : 0 ≤ k) (hk63 : k ≤ 63) (hm : 1 ≤ many) (hm' : many < 2 ^ 40)
    (h : ∀ tr h' tk', Fr h₀ L h' m → News h₀ L h' news → R (.ok (.ret (.int (takeF ns k many) tr))) { s with heap := h', toks := tk' }) :
    codeAny (model PySem.Challenge.rw_iw0017_01.row.prog w) A (.call (.ref 341) ⟨[.ref l, .int k tk, .int many tm], []⟩) R s := by
  obtain ⟨B, F, X, N, T, fr, fa, fk, hh, room, units⟩ := C
  revert X; k_fill; intro X
  refine' code_def (binds := [(Str.ofString "script", .ref l), (Str.ofString "k", .int k tk), (Str.ofString "many", .int many tm)]) B F X N T fr fa fk ?ho ?hcd ?hroom ?hbind ?hloc ?_ ?c2 ?c3 ?c4 ?c5
  case ho => k_dflt k_is
  case hcd => k_dflt k_is
  case hroom => exact Nat.lt_trans (by omega) (show 900 < recursionLimit from by decide)
  case hbind => exact BindsTo.of_eq rfl
  case hloc => exact locs rfl
  case c2 => exact rfl
  case c3 => exact rfl
  case c4 => exact rfl
  case c5 => decide
  intro g' L' h' FG' F' N' B' X' T'
  k_lift B'
  k_fold
  clear B F X N T
  k_steps
  · unfold takeF at h; rw [if_pos (by assumption)] at h
    exact leaveK_ F' N' fun F N => h _ _ _ F N
  · unfold takeF at h; rw [if_neg (by assumption)] at h
    exact leaveK_ F' N' fun F N => h _ _ _ F N
end
end Mine

namespace Mine
open Sem (wp)

section
variable {prog : Program} {w : World} {M : Model} {A : Around} {E : Value → Shared → Prop} {h : Heap} {g : Array GenState} {d : Drawn} {t : Nat} {os : OsState}
variable {nm q : Str} {C N : Addr} {bs bm : List Value} {hdct : Bool} {sn : List Str} {sub : List Value} {ab : Bool} {col : Option Bool} {dd : Option Addr} {k0 k1 k2 k3 k5 : Option Value} {B newId initId : String}

theorem kw_checkArgs {C : Addr} {rest : List Value} {kw : List (Str × Value)} :
    Bind.checkArgs "Exception.__new__" ⟨.any, "Exception", "Exception", .cls, [⟨"args", .varPos, false⟩, ⟨"kwargs", .varKw, false⟩]⟩ ⟨.ref C :: rest, kw⟩ = pure () := by
  unfold Bind.checkArgs
  cases kw with
  | nil => rfl
  | cons x r => rfl
theorem kw_check_new (F : ExcBaseFacts B newId initId bm) (eB : B = "Exception") (eN : newId = "Exception.__new__") {rest : List Value} {kw : List (Str × Value)} {Q : Unit → Shared → Prop} (hC : h.get? C = some (excClassObj nm q C N bs bm hdct sn sub ab col dd k0 k1 k2 k3 k5 newId))
    (hq : Q () ⟨h, g, d, t, os⟩) : wpAny M A (checkBuiltinCall newId ⟨.ref C :: rest, kw⟩) Q E ⟨h, g, d, t, os⟩ := by
  have hB : (Value.ref C :: bm).contains (.type B) = true := by rw [List.contains_cons, F.hasB, Bool.or_true]
  simp only [checkBuiltinCall, F.newKind, F.newSplit, F.newRow]
  subst eB eN
  rw [kw_checkArgs]
  repeat (first | refine wpAny_loadPart_at hC ?_ | (refine wpAny_isSubtype_exc hC ?_; rw [hB]) | refine wpAny_staticBase_exc hC ?_ | refine wpAny_madeBy_exc hC ?_ | simp only [bne_self_eq_false, Bool.false_eq_true, if_false] | wp_step)
  exact hq

theorem kw_new {R : Result → Shared → Prop} (F : ExcBaseFacts B newId initId bm) {rest : List Value} {kw : List (Str × Value)} (hC : h.get? C = some (excClassObj nm q C N bs bm hdct sn sub ab col dd k0 k1 k2 k3 k5 newId))
    (hq : R (.ok (.ret (.ref (h.objs.size + 1)))) ⟨(h.push { cls := .type "tuple", data := .seq rest.toArray }).push
      { cls := .ref C, data := .fields #[.ref h.objs.size, .none, .none, .none, .bool false, .none] }, g, d, t, os⟩) (hrest : rest.length ≤ sizeLine) :
    codeAny (model prog w) A (.builtin newId ⟨.ref C :: rest, kw⟩) R ⟨h, g, d, t, os⟩ := by
  have hends := F.ends
  have h1 : (Value.ref C :: bm).contains (.type B) = true := by rw [List.contains_cons, F.hasB, Bool.or_true]
  have h2 : (Value.ref C :: bm).contains (.type "AttributeError") = false := by rw [List.contains_cons, F.noAttr]; rfl
  have h3 : (Value.ref C :: bm).contains (.type "NameError") = false := by rw [List.contains_cons, F.noName]; rfl
  refine codeAny_builtinAt F.entry ?_
  unfold Builtin.«BaseException.__new__»
  refine PySem.wpAt_bind ?_
  show PySem.wpAt _ _ _ (stack >>= _) _ _ _
  refine PySem.wpAt_bind (PySem.wpAt_stack fun p below => PySem.wpAt_of_wpAny ?_)
  wp_walk
  refine PySem.wpAt_of_wpAny ?_
  rw [F.owner]
  repeat (first | with_reducible refine wpAny_madeHere_exc F.canon hC ?_ | with_reducible refine wpAny_loadPart_at hC ?_ | (with_reducible refine wpAny_isSubtype_exc hC ?_; first | rw [h1] | rw [h2] | rw [h3]) | wp_step)
  show R _ _
  rw [Heap.size_push]
  exact hq

theorem kw_type_call (F : ExcBaseFacts B newId initId bm) (eB : B = "Exception") (eN : newId = "Exception.__new__") {mN : Str → Option Value} {rest : List Value} {kw : List (Str × Value)} {fI : Addr} {oI : Obj} {Q : Fin → Shared → Prop}
    (hC : h.get? C = some (excClassObj nm q C N bs bm hdct sn sub ab col dd k0 k1 k2 k3 k5 newId)) (hn : h.Ns N mN) (hi : mN "__init__" = some (.ref fI))
    (hfI : h.get? fI = some oI) (hfc : oI.cls = .type "function")
    (hq : ∀ h' e, Heap.MadeExcOf h h' e (.ref C) rest →
      wpAny (model prog w) A (call (.ref fI) (.ref e :: rest) kw) (fun r s' => r = .none ∧ Q (.done (.ret (.ref e))) s') E ⟨h', g, d, t, os⟩) (hrest : rest.length ≤ sizeLine) :
    wpAny (model prog w) A (Builtin.«type.__call__» ⟨.ref C :: rest, kw⟩) Q E ⟨h, g, d, t, os⟩ := by
  repeat (first | with_reducible refine wpAny_loadPart_at hC ?_ | with_reducible refine wpAny_madeBy_exc hC ?_ | wp_step)
  refine codeAny_call_builtin_code (Code.quiet_builtin _ F.quiet) (kw_check_new F eB eN hC ?_)
  refine kw_new F hC ?_ hrest
  show wpAny _ _ _ _ _ _
  have c1 := Heap.get?_push_of_some { cls := .ref C, data := .fields #[.ref h.objs.size, .none, .none, .none, .bool false, .none] }
    (Heap.get?_push_of_some { cls := .type "tuple", data := .seq rest.toArray } hC)
  have c2 := Heap.get?_push_of_some { cls := .ref C, data := .fields #[.ref h.objs.size, .none, .none, .none, .bool false, .none] }
    (Heap.get?_push_of_some { cls := .type "tuple", data := .seq rest.toArray } hfI)
  have c3 : ((h.push { cls := .type "tuple", data := .seq rest.toArray }).push { cls := .ref C, data := .fields #[.ref h.objs.size, .none, .none, .none, .bool false, .none] }).Ns N mN :=
    let ⟨o, es, ep, e, r⟩ := hn; ⟨o, es, ep, Heap.get?_push_of_some _ (Heap.get?_push_of_some _ e), r⟩
  have hget : ((h.push { cls := .type "tuple", data := .seq rest.toArray }).push
      { cls := .ref C, data := .fields #[.ref h.objs.size, .none, .none, .none, .bool false, .none] }).get? (h.objs.size + 1) = some
      { cls := .ref C, data := .fields #[.ref h.objs.size, .none, .none, .none, .bool false, .none] } := by heap_get
  have hcC : (Value.ref C :: bm).contains (.ref C) = true := by simp
  unfold isInstance
  repeat (first | with_reducible refine wpAny_loadPart_at hget ?_ | (with_reducible refine wpAny_isSubtype_exc c1 ?_; rw [hcC]) | wp_step)
  show wpAny _ _ (typeLookup (.ref C) _) _ _ _
  refine wpAny_typeLookup_exc c1 c3 F.mroIs F.init.lookup ?_
  rw [hi]
  refine wpAny_holding (wpAny_bind ?_)
  unfold bindSpecial
  refine wpAny_bind (wpAny_typeOf (T := "function") ⟨_, c2, hfc⟩ ?_)
  rw [if_pos (by decide)]
  refine wpAny_pure (wpAny_bind (wpAny_mono (hq _ (h.objs.size + 1) ⟨fun b o hb => Heap.get?_push_of_some _ (Heap.get?_push_of_some _ hb), Heap.get?_none_of_le (Nat.le_succ _), h.objs.size, hget, Heap.get?_none_of_le (Nat.le_refl _), ?_⟩) (fun r s' hr => ?_) fun _ _ x => x))
  · exact Heap.get?_push_of_some _ (Heap.get?_push_at rfl rfl)
  · obtain ⟨rfl, hQ⟩ := hr
    wp_walk
    exact hQ

theorem kw_check_type_call {rest : List Value} {kw : List (Str × Value)} {Q : Unit → Shared → Prop} (hC : h.get? C = some (excClassObj nm q C N bs bm hdct sn sub ab col dd k0 k1 k2 k3 k5 newId))
    (hq : Q () ⟨h, g, d, t, os⟩) : wpAny M A (checkBuiltinCall "type.__call__" ⟨.ref C :: rest, kw⟩) Q E ⟨h, g, d, t, os⟩ := by
  have f3 := tc_sub
  have hT : (⟨h, g, d, t, os⟩ : Shared).TypeIs (.ref C) "type" := ⟨_, hC, rfl⟩
  simp only [checkBuiltinCall, tc_kind, tc_split]
  repeat (any_goals (first | assumption | with_reducible refine wpAny_loadPart_at hC ?_ | with_reducible refine wpAny_onRaise ?_ | with_reducible refine wpAny_map ?_ | wp_step))

theorem kw_call (F : ExcBaseFacts B newId initId bm) (eB : B = "Exception") (eN : newId = "Exception.__new__") {mN : Str → Option Value} {rest : List Value} {kw : List (Str × Value)} {fI : Addr} {oI : Obj} {Q : Value → Shared → Prop}
    (hC : h.get? C = some (excClassObj nm q C N bs bm hdct sn sub ab col dd k0 k1 k2 k3 k5 newId)) (hn : h.Ns N mN) (hi : mN "__init__" = some (.ref fI))
    (hfI : h.get? fI = some oI) (hfc : oI.cls = .type "function")
    (hq : ∀ h' e, Heap.MadeExcOf h h' e (.ref C) rest →
      wpAny (model prog w) (A.under (.builtin "type.__call__" ⟨.ref C :: rest, kw⟩)) (call (.ref fI) (.ref e :: rest) kw) (fun r s' => r = .none ∧ Q (.ref e) s') E ⟨h', g, d, t, os⟩) (hrest : rest.length ≤ sizeLine) :
    wpAny (model prog w) A (call (.ref C) rest kw) Q E ⟨h, g, d, t, os⟩ := by
  have f1 := tc_lookup
  have f2 := tc_bind (.ref C)
  have hT : (⟨h, g, d, t, os⟩ : Shared).TypeIs (.ref C) "type" := ⟨_, hC, rfl⟩
  refine wpAny_call (codeAny_of_tree ?_)
  show wpAny _ _ (callAny (.ref C) _) _ _ _
  repeat (any_goals (first | assumption | with_reducible refine wpAny_loadPart_at hC ?_ | wp_step))
  refine ⟨rfl, ?_⟩
  refine codeAny_call_builtin_at (Code.quiet_builtin _ (by decide +kernel)) entry_typeCall (kw_check_type_call hC (kw_type_call F eB eN hC hn hi hfI hfc (fun h' e hm => ?_) hrest))
  exact hq h' e hm
end
end Mine

namespace Mine
open Sem (wp)

theorem wd_slot : Slot "wrapper_descriptor" "__get__" "wrapper_descriptor.__get__" :=
  .of (owner := "wrapper_descriptor") (n := "__get__") (by rw [typeLookup_type, builtinLookup_eq_fast]; kernel_rfl) (by decide +kernel) (by decide +kernel) (by decide +kernel)
    (by first | exact .inl (by decide +kernel) | exact .inr (by decide +kernel)) (by rw [isSubtype_type]; kernel_rfl)
theorem wd_entry : entryFor table "wrapper_descriptor.__get__" = some Builtin.«wrapper_descriptor.__get__» := entryFor_of_tree (by kernel_rfl)
theorem wd_args (a b c : Value) : argsOk "wrapper_descriptor.__get__" ⟨[a, b, c], []⟩ := by unfold argsOk; kernel_rfl
theorem wd_type : typeOf (.builtin "Exception.__init__") = pure (.type "wrapper_descriptor") := by kernel_rfl
theorem wd_owner : (".".intercalate ("Exception.__init__".cutAt '.').dropLast) = "Exception" := by
  have e0 : "Exception.__init__".cutAt '.' = ["Exception", "__init__"] := by first | rfl | decide +kernel
  rw [e0]; decide +kernel

section
variable {prog : Program} {w : World} {M : Model} {A : Around} {E : Value → Shared → Prop} {h : Heap} {g : Array GenState} {d : Drawn} {t : Nat} {os : OsState}
variable {nm q : Str} {C N : Addr} {bs bm : List Value} {hdct : Bool} {sn : List Str} {sub : List Value} {ab : Bool} {col : Option Bool} {dd : Option Addr} {k0 k1 k2 k3 k5 : Option Value} {newId : String}

set_option maxHeartbeats 4000000 in
theorem sup_ga {so e : Addr} {oe : Obj} {K : Frag} {tk : Tok} {Q : Fin → Shared → Prop}
    (hC : h.get? C = some (excClassObj nm q C N bs bm hdct sn sub ab col dd k0 k1 k2 k3 k5 newId)) (hb : bm.contains (.type "Exception") = true)
    (hso : h.get? so = some { cls := .type "super", dict := none, data := .fields #[.ref C, .ref e, .ref C], slots := #[] }) (hno : Looks (model prog w) h (opaqueClassAbove (.ref C)) none)
    (X : K.In h) (hf : alongIn K "__init__" bm = some (some (.builtin "Exception.__init__"))) (he : h.get? e = some oe) (hec : oe.cls = .ref C) (hxC : e ≠ C)
    (hq : Q (.done (.ret (.ref h.objs.size))) ⟨h.push { cls := .type "method-wrapper", data := .fields #[.builtin "Exception.__init__", .ref e] }, g, d, t, os⟩) :
    wpAny (model prog w) A (Builtin.«super.__getattribute__» ⟨[.ref so, .str "__init__" tk], []⟩) Q E ⟨h, g, d, t, os⟩ := by
  have hlk := wd_slot.lookup
  have hne : (Value.ref e == Value.ref C) = false := by simp [hxC]
  have hT : (⟨h, g, d, t, os⟩ : Shared).TypeIs (.builtin "Exception.__init__") "wrapper_descriptor" := wd_type
  have hty := wd_type
  have hcB : (Value.ref C :: bm).contains (.type (".".intercalate ("Exception.__init__".cutAt '.').dropLast)) = true := by rw [wd_owner, List.contains_cons, hb]; rfl
  have hl : ((Value.ref C :: bm).dropWhile (· != .ref C)).drop 1 = bm := by simp [List.dropWhile]
  have hn : (("__init__" : Str) == ("__class__" : Str)) = false := by decide
  have hdt : ({ cls := .type "super", dict := none, data := .fields #[.ref C, .ref e, .ref C], slots := #[] } : Obj).data = .fields #[.ref C, .ref e, .ref C] := rfl
  have f0 : (#[.ref C, .ref e, .ref C] : Array Value)[0]? = some (.ref C) := rfl
  have f1 : (#[.ref C, .ref e, .ref C] : Array Value)[1]? = some (.ref e) := rfl
  have f2 : (#[.ref C, .ref e, .ref C] : Array Value)[2]? = some (.ref C) := rfl
  unfold Builtin.«super.__getattribute__»
  repeat (first
    | (with_reducible refine wpAny_field hso hdt f0 ?_) | (with_reducible refine wpAny_field hso hdt f1 ?_) | (with_reducible refine wpAny_field hso hdt f2 ?_)
    | (with_reducible refine ks_wpAny_notOpaque hno ?_)
    | (with_reducible refine wpAny_mroOf_exc hC ?_; rw [hl])
    | (refine ks_forIn_along X (fun _ _ => rfl) rfl ?_ hf)
    | (with_reducible refine wpAny_of_eq hty ?_)
    | (with_reducible refine wpAny_call_entry wd_slot hT wd_entry ?_ (wd_args _ _ _))
    | (with_reducible refine wpAny_loadPart_at he ?_; rw [hec])
    | (with_reducible refine wpAny_isSubtype_exc hC ?_; rw [hcB])
    | (with_reducible refine ⟨_, rfl, ?_⟩)
    | (simp only [hn, hne, Bool.or_false, Bool.false_eq_true, if_false])
    | wp_step
    | dsimp only)
  all_goals exact hq
end
end Mine

namespace Mine
open Sem (wp)

section
variable {prog : Program} {w : World} {M : Model} {A : Around} {E : Value → Shared → Prop} {h : Heap} {g : Array GenState} {d : Drawn} {t : Nat} {os : OsState}
variable {nm q : Str} {C N : Addr} {bs bm : List Value} {hdct : Bool} {sn : List Str} {sub : List Value} {ab : Bool} {col : Option Bool} {dd : Option Addr} {k0 k1 k2 k3 k5 : Option Value} {newId : String}

theorem sup_method {so e : Addr} {oe : Obj} {K : Frag} {pl : Sem Bool} {Q : Value × List Value → Shared → Prop}
    (hC : h.get? C = some (excClassObj nm q C N bs bm hdct sn sub ab col dd k0 k1 k2 k3 k5 newId)) (hb : bm.contains (.type "Exception") = true)
    (hso : h.get? so = some { cls := .type "super", dict := none, data := .fields #[.ref C, .ref e, .ref C], slots := #[] }) (hno : Looks (model prog w) h (opaqueClassAbove (.ref C)) none)
    (X : K.In h) (hf : alongIn K "__init__" bm = some (some (.builtin "Exception.__init__"))) (he : h.get? e = some oe) (hec : oe.cls = .ref C) (hxC : e ≠ C)
    (hq : Q (.ref h.objs.size, []) ⟨h.push { cls := .type "method-wrapper", data := .fields #[.builtin "Exception.__init__", .ref e] }, g, d, t + 1, os⟩) :
    wpAny (model prog w) A (getMethod (.ref so) "__init__" pl) Q E ⟨h, g, d, t, os⟩ := by
  have hlk := F.ks_slot_super_ga.lookup
  have hcan := F.ks_canon_super_ga
  have hT : ∀ t', (⟨h, g, d, t', os⟩ : Shared).TypeIs (.ref so) "super" := fun _ => ⟨_, hso, rfl⟩
  unfold getMethod
  refine wpAny_bind (wpAny_specialOf (hT _) hlk ?_)
  show wpAny _ _ (if (Manifest.canonical "super.__getattribute__" != "object.__getattribute__") = true then _ else _) _ _ _
  rw [if_pos hcan]
  unfold getAttr getAttrBy
  refine wpAny_bind (wpAny_bind (wpAny_mkText (wpAny_holding (wpAny_bind (wpAny_typeOf (hT _) (wpAny_bind (wpAny_of_eq hlk ?_)))))))
  show wpAny _ _ (getAttrByItsOwn (.ref so) (.str "__init__" t) (.type "super") (.builtin "super.__getattribute__") true false) _ _ _
  unfold getAttrByItsOwn hookBefore callGetattribute boundAndCalled
  refine wpAny_bind (wpAny_of_eq (show (if onTheHeap (.type "super") then typeLookup (.type "super") "__getattr__" else pure none) = pure none from rfl) ?_)
  refine wpAny_bind (wpAny_attempt (wpAny_holding ?_))
  show wpAny _ _ (bindSpecial (.builtin "super.__getattribute__") (.ref so) >>= _) _ _ _
  refine wpAny_bind (wpAny_of_eq (F.ks_slot_super_ga.bind _) ?_)
  refine wpAny_mono (Q := fun v s' => v = .ref h.objs.size ∧ s' = ⟨h.push { cls := .type "method-wrapper", data := .fields #[.builtin "Exception.__init__", .ref e] }, g, d, t + 1, os⟩) (E := fun _ _ => False)
    (wpAny_call_entry F.ks_slot_super_ga (hT _) F.ks_entry_super_ga (sup_ga hC hb hso hno X hf he hec hxC ⟨_, rfl, rfl, rfl⟩) (F.ks_gaArgs_super _ _)) (fun v s' hv => ?_) fun _ _ z => z.elim
  obtain ⟨rfl, rfl⟩ := hv
  exact wpAny_pure (wpAny_pure hq)

set_option maxHeartbeats 4000000 in
theorem mw_check {e : Addr} {oe : Obj} {rest : List Value} {Q : Unit → Shared → Prop}
    (hC : h.get? C = some (excClassObj nm q C N bs bm hdct sn sub ab col dd k0 k1 k2 k3 k5 newId)) (he : h.get? e = some oe) (hec : oe.cls = .ref C) (hq : Q () ⟨h, g, d, t, os⟩) :
    wpAny M A (checkBoundCall "Exception.__init__" ⟨.ref e :: rest, []⟩) Q E ⟨h, g, d, t, os⟩ := by
  have f1 := F.excBase_Exception.initRow
  have f2 := F.excBase_Exception.initKind
  have hshort := F.excBase_Exception.noStar
  simp only [checkBoundCall, f1, f2]
  repeat (first | (with_reducible refine wpAny_loadPart_at he ?_; rw [hec]) | with_reducible refine wpAny_loadPart_at hC ?_ | wp_step)
  refine wpAny_onRaise ?_
  rw [show ∀ (a b : String) (n : Nat), Bind.check ⟨.positional, "*", "Exception", .self, [⟨"args", .varPos, false⟩]⟩ a b n (List.map (fun x => x.fst) ({ pos := Value.ref e :: rest } : Args).kw) = pure () from
    fun a b n => check_star_args _ _ _ _ _ _]
  exact wpAny_pure hq

set_option maxHeartbeats 4000000 in
theorem mw_call {mw e : Addr} {oe : Obj} {vs : Array Value} {msg : Value} {t0 : Addr} {Q : Value → Shared → Prop}
    (hC : h.get? C = some (excClassObj nm q C N bs bm hdct sn sub ab col dd k0 k1 k2 k3 k5 newId))
    (hm : h.get? mw = some { cls := .type "method-wrapper", data := .fields #[.builtin "Exception.__init__", .ref e] })
    (he : h.get? e = some oe) (hec : oe.cls = .ref C) (hed : oe.data = .fields vs) (h0 : vs[0]? = some (.ref t0))
    (hq : ∀ h', (∀ b o, b ≠ e → h.get? b = some o → h'.get? b = some o) → h.get? h.objs.size = none → h'.get? h.objs.size = some { cls := .type "tuple", data := .seq #[msg] } → h'.get? e = some { oe with data := .fields (vs.setIfInBounds 0 (.ref h.objs.size)) } →
      Q .none ⟨h', g, d, t, os⟩) :
    wpAny (model prog w) A (call (.ref mw) [msg]) Q E ⟨h, g, d, t, os⟩ := by
  refine wpAny_call (codeAny_of_tree ?_)
  show wpAny _ _ (callAny (.ref mw) _) _ _ _
  unfold callAny
  refine wpAny_bind (wpAny_load hm ?_)
  show wpAny _ _ (checkBoundCall "Exception.__init__" ⟨[.ref e, msg], []⟩ >>= _) _ _ _
  refine wpAny_bind (mw_check hC he hec ?_)
  refine wpAny_pure ⟨Code.quiet_builtin _ (by decide +kernel), codeAny_builtin F.excBase_Exception.initEntry ?_⟩
  have hne : e ≠ h.objs.size := Nat.ne_of_lt (Heap.lt_size he)
  have he1 := Heap.get?_push_of_some (h := h) { cls := .type "tuple", data := .seq [msg].toArray } he
  obtain ⟨oc, od, odt, osl⟩ := oe
  dsimp only at hec hed
  subst hec hed
  unfold Builtin.«BaseException.__init__»
  repeat (first | (with_reducible refine wpAny_newObj_type ?_ (by size_fits)) | wp_step)
  rw [h0]
  refine wpAny_pure ?_
  have hd1 : ({ cls := .ref C, dict := od, data := .fields vs, slots := osl } : Obj).data = .fields vs := rfl
  refine wpAny_bind (wpAny_setField he1 hd1 (Array.getElem?_eq_some_iff.mp h0).1 ?_)
  show wpAny _ _ (letGo [Value.ref t0]) _ _ _
  refine wpAny_letGo ?_
  refine wpAny_pure ?_
  refine hq _ (fun b o hb e1 => ?_) (Heap.get?_none_of_le (Nat.le_refl _)) ?_ ?_
  · exact (Heap.get?_update_other _ _ (Ne.symm hb)).trans (Heap.get?_push_of_some _ e1)
  · exact (Heap.get?_update_other _ _ hne).trans (Heap.get?_push_size _ rfl)
  · exact Heap.get?_update_self _ he1 rfl
end
end Mine

namespace Mine

theorem ns_of {K : Frag} {h : Heap} {a : Addr} {mg : Str → Option Value} {n : Str} {r : Option Value} (X : K.In h) (G : h.Ns a mg) (e : nsIn K a n = some r) : mg n = r := by
  obtain ⟨o, es, ep, ho, hd, _, hf⟩ := G
  unfold nsIn at e
  split at e
  · rename_i c d es' n' sl q
    have := X _ _ q
    rw [ho] at this
    cases this
    cases hd
    rw [← hf]
    unfold nsFind findBy
    rw [← Array.find?_toList]
    split at e
    · rename_i en he
      cases e
      rw [he]; rfl
    · rename_i he
      split at e
      · cases e
      · cases e
        rw [he]; rfl
  · cases e

def X41 (h : Heap) : Prop := ∃ nm q sub k0 k1 k2 k3 k5 mN, h.get? 41 = some (excClassObj nm q 41 40 [.type "Exception"] [.type "Exception", .type "BaseException", .type "object"] true [] sub false none none k0 k1 k2 k3 k5 "Exception.__new__") ∧
  h.Ns 40 mN ∧ mN "__init__" = some (.ref 38) ∧ mN "errno" = none ∧ mN "__setattr__" = none ∧ mN "__getattribute__" = none ∧ mN "__getattr__" = none

set_option maxHeartbeats 2000000 in
theorem x41_of {w : World} {h : Heap} (X : (hd.heap_39 w.params).In h) (hrow : PySem.Challenge.rw_iw0017_01.row.prog = PySem.Challenge.rw_iw0017_01.row.prog) : X41 h := by
  revert X hrow; k_fill; intro X _
  have h40 : ∃ es n, (hd.heap_39 w.params).lookup 40 = some ⟨.type "dict", none, .dict es n, #[]⟩ ∧ StrKeys es := by
    refine ⟨_, _, by k_dflt k_is, ?_⟩
    intro e he
    simp only [List.mem_toArray, List.mem_cons, List.not_mem_nil, or_false] at he
    rcases he with rfl | rfl | rfl | rfl | rfl | rfl <;> exact ⟨_, _, rfl⟩
  obtain ⟨es, n, hl, hs⟩ := h40
  have G : h.Ns 40 (nsFind es) := ⟨_, _, _, X _ _ hl, rfl, hs, fun _ => rfl⟩
  refine ⟨_, _, _, _, _, _, _, _, nsFind es, X _ _ (by k_dflt k_is), G, ?_, ?_, ?_, ?_, ?_⟩
  · exact ns_of X G (by k_dflt k_is)
  · exact ns_of X G (by k_dflt k_is)
  · exact ns_of X G (by k_dflt k_is)
  · exact ns_of X G (by k_dflt k_is)
  · exact ns_of X G (by k_dflt k_is)
end Mine

namespace Mine
open Builtin Builtin.ObjectAttr

section
variable {prog : Program} {w : World} {A : Around} {E : Value → Shared → Prop} {h : Heap} {g : Array GenState} {d : Drawn} {t : Nat} {os : OsState}
variable {nm q : Str} {C N x : Addr} {bs bm : List Value} {sn : List Str} {sub : List Value} {ab : Bool} {col : Option Bool} {dd : Option Addr} {k0 k1 k2 k3 k5 : Option Value} {B newId sa owner : String}
  {mN : Str → Option Value} {name : Str} {v : Value}

def Stored (w : World) (h : Heap) (x : Addr) (o : Obj) (name : Str) (v : Value) (h' : Heap) : Prop :=
  (∀ b ob, b ≠ x → h.get? b = some ob → h'.get? b = some ob) ∧ h'.get? x = some { o with dict := some h.objs.size } ∧
  ∃ tk, h'.get? h.objs.size = some (dictOf [⟨PyData.keyHash w.params name, .str name tk, v⟩] 1)

set_option maxHeartbeats 2000000 in
theorem st_entry {tk : Tok} {o : Obj} {vs : Array Value} {Q : PySem.Fin → Shared → Prop} (SF : StoreFacts B bm sa owner)
    (hC : h.get? C = some (excClassObj nm q C N bs bm true sn sub ab col dd k0 k1 k2 k3 k5 newId)) (hn : h.Ns N mN) (hna : mN name = none)
    (hB : typeLookup (.type B) name = pure none) (hx : h.get? x = some o) (hc : o.cls = .ref C) (hdn : o.dict = none) (hda : o.data = .fields vs)
    (hq : ∀ h' tk', Stored w h x o name v h' → Q (.done (.ret .none)) ⟨h', g, d, tk', os⟩) :
    wpAny (model prog w) A (Builtin.«object.__setattr__» ⟨[.ref x, .str name tk, v], []⟩) Q E ⟨h, g, d, t, os⟩ := by
  have hpass := SF.passes (.ref x)
  unfold Builtin.«object.__setattr__»
  repeat (first | rw [refuse_eq] | (rw [refuseLoop_ref, hpass]) | (with_reducible refine wpAny_loadPart_at hx ?_; rw [hc]) | with_reducible refine wpAny_mroOf_exc hC ?_ | (with_reducible refine wpAny_typeLookup_exc hC hn SF.mro hB ?_; rw [hna]) | wp_step)
  rw [hdn, if_neg (by simp [typeHasDict]), hda]
  have hx1 : (h.push { cls := .type "dict", data := .dict #[] }).get? x = some o := Heap.get?_push_of_some _ hx
  have hxs : x ≠ h.objs.size := Nat.ne_of_lt (Heap.lt_size hx)
  refine wpAny_bind (wpAny_alloc' ?_)
  refine wpAny_bind (wpAny_update' hx1 ?_)
  refine wpAny_pure ?_
  have hgd : ((h.push { cls := .type "dict", data := .dict #[] }).update x fun o => { cls := o.cls, dict := some h.objs.size, data := o.data, slots := o.slots }).get? h.objs.size
      = some { cls := .type "dict", data := .dict #[] } :=
    (Heap.get?_update_ne _ _ _ _ hxs.symm).trans (Heap.get?_push_at rfl rfl)
  show wpAny _ _ (storeInDict h.objs.size (.str name tk) name v) _ _ _
  unfold storeInDict newKeyGuard
  refine wpAny_bind (wpAny_pure (wpAny_bind ?_))
  unfold nsSet
  refine wpAny_bind (wpAny_bind (wpAny_askSetting (wpAny_pure (wpAny_bind (wpAny_mkText (wpAny_bind (wpAny_loadPart hgd ?_)))))))
  dsimp only
  rw [show aRefKeyMayBeTheName name #[] = false from by rw [aRefKeyMayBeTheName_at]; simp]
  refine wpAny_updatePart hgd ?_
  have hpn : ∀ tk', Obj.putName name (PyData.keyHash w.params name) (.str name tk') v (dictOf [] 0) = dictOf [⟨PyData.keyHash w.params name, .str name tk', v⟩] 1 := fun tk' => by
    rw [putName_dict]; simp [putL, putN]
  have hfin := Heap.get?_update_self (Obj.putName name (PyData.keyHash w.params name) (.str name t) v) hgd (by
    show (Obj.putName name (PyData.keyHash w.params name) (.str name t) v (dictOf [] 0)).isFreed = false
    rw [hpn]; rfl)
  refine wpAny_bind (wpAny_lookBehind hfin ?_ ?_)
  · show (Obj.putName name (PyData.keyHash w.params name) (.str name t) v (dictOf [] 0)).data.pastItsLine = none
    rw [hpn]; exact pastItsLine_dict (by rw [sizeLine_eq]; exact Nat.le_of_ble_eq_true rfl)
  · refine wpAny_pure (hq _ _ ⟨fun b ob hb e => ?_, ?_, t, ?_⟩)
    · refine (Heap.get?_update_other _ _ (Nat.ne_of_gt (Heap.lt_size e))).trans ((Heap.get?_update_other _ _ (Ne.symm hb)).trans (Heap.get?_push_of_some _ e))
    · refine (Heap.get?_update_other _ _ hxs.symm).trans (Heap.get?_update_self _ hx1 ?_)
      obtain ⟨oc, od, odt, osl⟩ := o
      cases hda; rfl
    · refine hfin.trans ?_
      show some (Obj.putName name (PyData.keyHash w.params name) (.str name t) v (dictOf [] 0)) = _
      rw [hpn]

theorem st_attr {o : Obj} {vs : Array Value} {Q : Unit → Shared → Prop} (SF : StoreFacts B bm sa owner)
    (hC : h.get? C = some (excClassObj nm q C N bs bm true sn sub ab col dd k0 k1 k2 k3 k5 newId)) (hn : h.Ns N mN) (hns : mN "__setattr__" = none) (hna : mN name = none)
    (hB : typeLookup (.type B) name = pure none) (hx : h.get? x = some o) (hc : o.cls = .ref C) (hdn : o.dict = none) (hda : o.data = .fields vs)
    (hq : ∀ h' tk', Stored w h x o name v h' → Q () ⟨h', g, d, tk', os⟩) :
    wpAny (model prog w) A (setAttr (.ref x) name v) Q E ⟨h, g, d, t, os⟩ := by
  have f3 := SF.slot.bind (.ref x)
  unfold setAttr callSpecial? specialOf
  repeat (any_goals (first | assumption | (with_reducible refine wpAny_loadPart_at hx ?_; rw [hc]) | (with_reducible refine wpAny_typeLookup_exc hC hn SF.mro SF.slot.lookup ?_; rw [hns]) | wp_step))
  refine codeAny_call_builtin SF.slot.plain SF.entry (wpAny_check_sa SF hC hx hc (st_entry SF hC hn hna hB hx hc hdn hda fun h' tk' S => ?_))
  repeat (any_goals (first | assumption | wp_step))
  exact hq h' tk' S
end
end Mine

namespace Mine

section
variable {w : World} {p : Program} {loose : List Str} {mean : ExcName → Option Value} {mg mb : Str → Option Value}
  {base h₀ : Heap} {outer : List Env} {A₀ A : Around} {env : Env} {L : Addr} {m : Str → Option Value} {news : List (Addr × Obj)} {s : Shared} {R : Result → Shared → Prop}

theorem callWith_mw {M : Model} {E : Value → Shared → Prop} {mw a : Addr} {pos : Pos} {e₀ : PySem.Expr} {rest : List PySem.Expr} {Q : Value → Shared → Prop}
    (h : wpAny M A (spliced (backTo pos (starEach (e₀ :: rest) env))) (fun vs s₁ => s₁.heap.get? mw = some { cls := .type "method-wrapper", data := .fields #[.builtin "Exception.__init__", .ref a] } ∧ wpAny M A (call (.ref mw) vs) Q E s₁) E s)
    (he : starEach (e₀ :: rest) env = (false, eval e₀ env) :: starEach rest env := by rfl) (hplain : (backTo pos (starEach rest env)).any (·.1) = false := by rfl) :
    wpAny M A (callWith pos (.ref mw) [] (backTo pos (starEach (e₀ :: rest) env)) []) Q E s := by
  rw [he] at h ⊢
  refine callWith_of (P := fun hh => hh.get? mw = some { cls := .type "method-wrapper", data := .fields #[.builtin "Exception.__init__", .ref a] }) (by show ((false || (backTo pos (starEach rest env)).any (·.1)) || false) = false; rw [hplain]; rfl) (fun hh hm => ⟨.machine, .inr (.inl rfl), ?_⟩) (evalArgs_plain h)
  exact (Looks.ld (part := none) hm).andThen .now

theorem fr_but {g h h' : Heap} {L e : Addr} {m : Str → Option Value} (F : Fr g L h m) (hg : g.get? e = none) (hL : e ≠ L) (k : ∀ b o, b ≠ e → h.get? b = some o → h'.get? b = some o) : Fr g L h' m :=
  ⟨F.ns.at' fun o q => k _ o (Ne.symm hL) q, fun b o q => k b o (fun z => by rw [z, hg] at q; cases q) (F.keep b o q), F.above⟩
theorem news_but {g h h' : Heap} {L e : Addr} {news : List (Addr × Obj)} (N : News g L h news) (hne : ∀ p ∈ news, p.1 ≠ e) (k : ∀ b o, b ≠ e → h.get? b = some o → h'.get? b = some o) : News g L h' news :=
  fun p hp => ⟨k _ _ (hne p hp) (N p hp).1, (N p hp).2⟩
theorem news_cons {g h : Heap} {L e : Addr} {o : Obj} {news : List (Addr × Obj)} (N : News g L h news) (ho : h.get? e = some o) (hL : e ≠ L) (hg : g.get? e = none) : News g L h ((e, o) :: news) := fun p hp => by
  rcases List.mem_cons.mp hp with rfl | hp
  · exact ⟨ho, hL, hg⟩
  · exact N p hp

abbrev excObj (d t1 : Addr) : Obj := { cls := .ref 41, dict := some d, data := .fields #[.ref t1, .none, .none, .none, .bool false, .none] }
abbrev errDict (w : World) (tk : Tok) (v : Value) : Obj := dictOf [⟨PyData.keyHash w.params (Str.ofString "errno"), .str (Str.ofString "errno") tk, v⟩] 1
abbrev excRaw (t0 : Addr) : Obj := { cls := .ref 41, data := .fields #[.ref t0, .none, .none, .none, .bool false, .none] }

set_option maxHeartbeats 2000000 in
theorem init_body {e t0 : Addr} {msg v : Value} {args : Args}
    (C : Cx 2 w p loose mean mg mb base h₀ outer A₀ A env L m ((e, excRaw t0) :: news) s.heap)
    (hef : ∀ q ∈ news, q.1 ≠ e)
    (hbind : ∀ {fd : FuncData}, (hd.heap_39 w.params).lookup 38 = some ⟨.type "function", none, .func fd, #[]⟩ → BindsTo s fd args [(Str.ofString "self", .ref e), (Str.ofString "msg", msg), (Str.ofString "errno", v)])
    (h : ∀ h' tk' d t1 tk, Fr h₀ L h' m → News h₀ L h' ((e, excObj d t1) :: (d, errDict w tk v) :: news) → e < d → (∀ q ∈ news, q.1 < d) → R (.ok (.ret .none)) { s with heap := h', toks := tk' }) :
    codeAny (model PySem.Challenge.rw_iw0017_01.row.prog w) A (.call (.ref 38) args) R s := by
  obtain ⟨B, F, X, N, T, fr, fa, fk, hh, room, units⟩ := C
  revert X; k_fill; intro X
  refine' ks_code_super (binds := [(Str.ofString "self", .ref e), (Str.ofString "msg", msg), (Str.ofString "errno", v)]) B F X N T fr fa fk ?ho ?hcd ?hroom ?hbind ?hloc ?_ ?c5 ?c2 ?c3 ?c4
  case ho => k_dflt k_is
  case hcd => k_dflt k_is
  case hroom => exact Nat.lt_trans (by omega) (show 900 < recursionLimit from by decide)
  case hbind => exact hbind (by k_dflt k_is)
  case hloc => exact locs rfl
  case c2 => exact rfl
  case c3 => exact rfl
  case c4 => exact rfl
  case c5 => decide
  intro g' L' h' FG' F' N' B' X' T' lt
  clear B F X N T
  k_lt lt
  refine ks_wpAt_execs_cons (ks_wpAt_Expr_any (ks_wpAt_MethodCall ?_))
  have I : InstAt h' e (excRaw t0) 41 none := ⟨(N' _ (.head _)).1, rfl, rfl, trivial⟩
  k_dflt (refine ks_node F' X' N' T' (by k_is) (by rfl) (by rfl) I (by k_is) (by rfl) (by first | rfl | decide +kernel) (by k_is) (by k_is) (by k_is) (by k_is) (by decide) (by rfl) (by rfl) (by rfl) (by rfl) (by decide +kernel) (by first | boot_by_name | rfl | kernel_rfl) ?_)
  intro so h2 F2 N2 l2
  k_lt l2
  have X2 : (hd.heap_39 w.params).In h2 := X'.keeps F2.keep
  have x41 := x41_of X2 rfl
  have ne41 : e ≠ 41 := fun z => by
    have := X2 41 _ (by k_dflt k_is)
    rw [← z, (N2 _ (.tail _ (.head _))).1] at this; cases this
  obtain ⟨nm, q, sub, k0, k1, k2, k3, k5, mN, hC, hN, n1, n2, n3, n4, n5⟩ := x41
  refine sup_method hC (by decide) (N2 _ (.head _)).1 (looks_opaque X2 (by k_dflt k_is)) X2 (by kernel_rfl) (N2 _ (.tail _ (.head _))).1 rfl ne41 ?_
  dsimp only
  have F3 := F2.push { cls := .type "method-wrapper", data := .fields #[.builtin "Exception.__init__", .ref e] }
  have N3 := News.push F2 N2 { cls := .type "method-wrapper", data := .fields #[.builtin "Exception.__init__", .ref e] }
  refine callWith_mw (a := e) ?_
  k_fold
  k_steps
  · exact (N3 _ (.head _)).1
  · have gE := (N3 _ (.tail _ (.tail _ (.head _)))).2.2
    have eL := (N3 _ (.tail _ (.tail _ (.head _)))).2.1
    have hC3 := Heap.get?_push_of_some { cls := .type "method-wrapper", data := .fields #[.builtin "Exception.__init__", .ref e] } hC
    refine mw_call hC3 (N3 _ (.head _)).1 (N3 _ (.tail _ (.tail _ (.head _)))).1 rfl rfl rfl fun h4 k4 _ ht4 he4 => ?_
    have F4 := fr_but F3 gE eL k4
    have N4 := news_cons (news_but (fun p hp => N3 p (.tail _ (.tail _ (.tail _ hp)))) hef k4) he4 eL gE
    have hC4 := k4 _ _ (Ne.symm ne41) hC3
    have hN4 : h4.Ns 40 mN := (hN.push _).at' fun o q => k4 _ o (fun z => by
      have := X2 40 _ (by k_dflt k_is)
      rw [z, (N2 _ (.tail _ (.head _))).1] at this; cases this) q
    clear F' F2 F3 N' N2 N3 hC hC3 hN I k4
    show PySem.wpAt _ _ _ (execs _ _) _ _ _
    refine PySem.wpAt_of_wpAny ?_
    k_fold
    k_steps
    refine st_attr PySem.F.store_Exception hC4 hN4 n3 n2 (by rw [typeLookup_type, builtinLookup_eq_fast]; kernel_rfl) he4 rfl rfl rfl fun h5 tk5 S => ?_
    obtain ⟨k5', he5, tkd, hd5⟩ := S
    have F5 := fr_but F4 gE eL k5'
    have hsz : g'.get? h4.objs.size = none := by
      cases z : g'.get? h4.objs.size with
      | none => rfl
      | some o => exact absurd (Heap.lt_size (F4.keep _ _ z)) (Nat.lt_irrefl _)
    have hLs : h4.objs.size ≠ L' := Nat.ne_of_gt F4.ns.lt
    have N5 := news_cons (news_cons (news_but (fun p hp => N4 p (.tail _ hp)) hef k5') hd5 hLs hsz) he5 eL gE
    show wpAny _ _ (execs [] _) _ _ _
    refine wpAny_execs_nil ?_
    exact leaveK_ F5 N5 fun F N => h _ _ _ _ _ F N (Heap.lt_size he4) fun q hq => Heap.lt_size (N4 q (.tail _ hq)).1
end
end Mine

namespace Mine

section
variable {w : World} {p : Program} {loose : List Str} {mean : ExcName → Option Value} {mg mb : Str → Option Value}
  {base h₀ : Heap} {outer : List Env} {A₀ A : Around} {env : Env} {L : Addr} {m : Str → Option Value} {news : List (Addr × Obj)} {s : Shared}

theorem mk_weight (msg : Value) (kw : List (Str × Value)) : (Code.builtin "type.__call__" ⟨[.ref 41, msg], kw⟩).weight = 1 := rfl
set_option maxHeartbeats 2000000 in
theorem exc_new {msg v : Value} {kw : List (Str × Value)} {Q E : Value → Shared → Prop} (C : Cx 5 w p loose mean mg mb base h₀ outer A₀ A env L m news s.heap)
    (hbind : ∀ {e : Addr} {s' : Shared} {fd : FuncData}, (hd.heap_39 w.params).In s'.heap → (hd.heap_39 w.params).lookup 38 = some ⟨.type "function", none, .func fd, #[]⟩ → BindsTo s' fd ⟨[.ref e, msg], kw⟩ [(Str.ofString "self", .ref e), (Str.ofString "msg", msg), (Str.ofString "errno", v)])
    (h : ∀ h' tk' e d t1 tk, Fr h₀ L h' m → News h₀ L h' ((e, excObj d t1) :: (d, errDict w tk v) :: news) → e < d → (∀ q ∈ news, q.1 ≠ e) → (∀ q ∈ news, q.1 < d) → Q (.ref e) { s with heap := h', toks := tk' }) :
    wpAny (model PySem.Challenge.rw_iw0017_01.row.prog w) A (call (.ref 41) [msg] kw) Q E s := by
  obtain ⟨B, F, X, N, T, fr, fa, fk, hh, room, units⟩ := C
  revert X; k_fill; intro X
  have Xs := X.keeps F.keep
  obtain ⟨nm, q, sub, k0, k1, k2, k3, k5, mN, hC, hN, n1, n2, n3, n4, n5⟩ := x41_of Xs rfl
  have hf : ∃ fd, (hd.heap_39 w.params).lookup 38 = some ⟨.type "function", none, .func fd, #[]⟩ := ⟨_, by k_dflt k_is⟩
  obtain ⟨fd, hf⟩ := hf
  obtain ⟨hp, g, d, t, os⟩ := s
  refine kw_call PySem.F.excBase_Exception rfl rfl hC hN n1 (Xs _ _ hf) rfl (fun h' e M => ?_) (by rw [sizeLine_eq]; exact Nat.le_of_ble_eq_true rfl)
  obtain ⟨t0, he, ht0, htt⟩ := M.there
  have F1 : Fr h₀ L h' m := F.keeps M.keeps
  have gE : h₀.get? e = none := by
    cases z : h₀.get? e with
    | none => rfl
    | some o => have := F.keep _ _ z; rw [M.new] at this; cases this
  have eL : e ≠ L := fun z => by
    obtain ⟨o, _, _, ho, _⟩ := F.ns
    have := M.new; rw [z, ho] at this; cases this
  have nE : ∀ q ∈ news, q.1 ≠ e := fun q hq z => by
    have := (N q hq).1; rw [z, M.new] at this; cases this
  have N1 : News h₀ L h' ((e, excRaw t0) :: news) := news_cons (fun p hp => ⟨M.keeps _ _ (N p hp).1, (N p hp).2⟩) he eL gE
  have C' : Cx 2 w p loose mean mg mb base h₀ outer A₀ (A.under (.builtin "type.__call__" ⟨[.ref 41, msg], kw⟩)) env L m ((e, excRaw t0) :: news) h' :=
    ⟨B, F1, X, N1, T, fr, fa, fk, hh, by
      show A.depth + (Code.builtin "type.__call__" ⟨[.ref 41, msg], kw⟩).weight + 2 < 900
      rw [mk_weight]; omega, by
      show A.units + (Code.builtin "type.__call__" ⟨[.ref 41, msg], kw⟩).cUnits + 8 * 2 < 5000
      have : (Code.builtin "type.__call__" ⟨[.ref 41, msg], kw⟩).cUnits ≤ 10 := Nat.le_of_ble_eq_true rfl
      omega⟩
  refine wpAny_call (init_body (s := ⟨h', g, d, t, os⟩) C' nE (fun hl => hbind (X.keeps F1.keep) hl) fun h'' tk' d t1 tk F2 N2 l1 l2 => ⟨rfl, h _ _ _ _ _ _ F2 N2 l1 nE l2⟩)
end
end Mine

namespace Mine

set_option maxHeartbeats 2000000 in
theorem bind_kw {w : World} {s' : Shared} {fd : FuncData} {e : Addr} {msg v : Value} (X : (hd.heap_39 w.params).In s'.heap)
    (hl : (hd.heap_39 w.params).lookup 38 = some ⟨.type "function", none, .func fd, #[]⟩) (hr : PySem.Challenge.rw_iw0017_01.row.prog = PySem.Challenge.rw_iw0017_01.row.prog) :
    BindsTo s' fd ⟨[.ref e, msg], [(Str.ofString "errno", v)]⟩ [(Str.ofString "self", .ref e), (Str.ofString "msg", msg), (Str.ofString "errno", v)] := by
  revert X hl hr; k_fill; intro X hl _
  have h2 : ∃ fd', (hd.heap_39 w.params).lookup 38 = some ⟨.type "function", none, .func fd', #[]⟩ ∧
      BindsTo s' fd' ⟨[.ref e, msg], [(Str.ofString "errno", v)]⟩ [(Str.ofString "self", .ref e), (Str.ofString "msg", msg), (Str.ofString "errno", v)] :=
    ⟨_, by k_dflt k_is, by k_dflt (exact binds_K X rfl (by k_is) rfl rfl rfl)⟩
  obtain ⟨fd', h3, h4⟩ := h2
  have h5 := hl.symm.trans h3
  simp only [Option.some.injEq, Obj.mk.injEq, Data.func.injEq, true_and, and_true] at h5
  rw [h5]; exact h4
set_option maxHeartbeats 2000000 in
theorem bind_no {w : World} {s' : Shared} {fd : FuncData} {e : Addr} {msg : Value} (X : (hd.heap_39 w.params).In s'.heap)
    (hl : (hd.heap_39 w.params).lookup 38 = some ⟨.type "function", none, .func fd, #[]⟩) (hr : PySem.Challenge.rw_iw0017_01.row.prog = PySem.Challenge.rw_iw0017_01.row.prog) :
    BindsTo s' fd ⟨[.ref e, msg], []⟩ [(Str.ofString "self", .ref e), (Str.ofString "msg", msg), (Str.ofString "errno", .none)] := by
  revert X hl hr; k_fill; intro X hl _
  have h2 : ∃ fd', (hd.heap_39 w.params).lookup 38 = some ⟨.type "function", none, .func fd', #[]⟩ ∧
      BindsTo s' fd' ⟨[.ref e, msg], []⟩ [(Str.ofString "self", .ref e), (Str.ofString "msg", msg), (Str.ofString "errno", .none)] :=
    ⟨_, by k_dflt k_is, by k_dflt (exact binds_K X rfl (by k_is) rfl rfl rfl)⟩
  obtain ⟨fd', h3, h4⟩ := h2
  have h5 := hl.symm.trans h3
  simp only [Option.some.injEq, Obj.mk.injEq, Data.func.injEq, true_and, and_true] at h5
  rw [h5]; exact h4

section
variable {M : Model} {A : Around} {E : Value → Shared → Prop} {s : Shared} {env : Env}
set_option maxHeartbeats 2000000 in
theorem raise_made {x : Sem Value} {Q : Flow → Shared → Prop} (hh : A.handled = none)
    (h : wpAny M A x (fun v s₁ => ∃ e d t1, v = .ref e ∧ X41 s₁.heap ∧ s₁.heap.get? e = some (excObj d t1) ∧ E (.ref e) s₁) E s) :
    wpAny M A (raiseStmt env (some x) none) Q E s := by
  unfold raiseStmt
  refine wpAny_bind (wpAny_mono h (fun v s₁ h₁ => ?_) fun _ _ x => x)
  obtain ⟨e, d, t1, rfl, ⟨nm, q, sub, k0, k1, k2, k3, k5, mN, hC, _⟩, he, hE⟩ := h₁
  have hcB : (Value.ref 41 :: [Value.type "Exception", Value.type "BaseException", Value.type "object"]).contains (.type "BaseException") = true := by decide
  obtain ⟨hp, g, dr, tk, os⟩ := s₁
  repeat (first | with_reducible refine wpAny_loadPart_at he ?_ | with_reducible refine wpAny_loadPart_at hC ?_ | (with_reducible refine wpAny_isSubtype_exc hC ?_; rw [hcB]) | wp_step)
  exact wpAny_raiseNew_none hh hE
theorem Raise_made {e₀ : PySem.Expr} {pos : Pos} {Q : Flow → Shared → Prop} (hh : A.handled = none)
    (h : wpAny M A (eval e₀ env) (fun v s₁ => ∃ e d t1, v = .ref e ∧ X41 s₁.heap ∧ s₁.heap.get? e = some (excObj d t1) ∧ E (.ref e) s₁) E s) :
    wpAny M A (exec (.Raise (some e₀) none pos) env) Q E s := by
  rw [arm_exec_Raise]
  refine wpAny_bind (wpAny_standAt ?_)
  show wpAny _ _ (raiseStmt env (some (do let v ← eval e₀ env; standAt pos; pure v)) none) _ _ _
  exact raise_made hh (wpAny_bind (wpAny_mono h (fun v s₁ h₁ => wpAny_bind (wpAny_standAt (wpAny_pure h₁))) fun _ _ x => x))
end
end Mine

namespace Mine

structure Fly (B h : Heap) (l : List Env) (e d : Addr) (fl : Value) : Prop where
  stays : B.StaysIn h
  eB : B.get? e = none
  frames : h.FunFrames B l
  tr : ∃ vs, h.get? e = some { cls := .ref 41, dict := some d, data := .fields vs } ∧ 1 < vs.size ∧
    (vs[1]? = some .none ∨ ∃ T oT ts, vs[1]? = some (.ref T) ∧ B.get? T = none ∧ T ≠ e ∧ h.get? T = some oT ∧ oT.data = .fields ts ∧ ts[3]? = some fl)

section
variable {M : Model} {A : Around} {E : Value → Shared → Prop} {s : Shared} {B : Heap} {env : Env} {outer : List Env} {L e d : Addr}

theorem rec_ne {h : Heap} {a b : Addr} {o oa : Obj} {ts : Array Value} (ha : h.get? a = some oa) (hd : oa.data = .fields ts) (hb : h.get? b = some o) (hn : ∀ vs, o.data ≠ .fields vs) : b ≠ a := fun q => by
  rw [q, ha] at hb
  cases hb
  exact hn ts hd

theorem fly_entry {vs : Array Value} {head : Value} {hadNext : Bool} {Q : Unit → Shared → Prop}
    (hfr : A.frames = some (env :: outer)) (hf : env.frame = some L) (st : B.StaysIn s.heap) (eB : B.get? e = none) (fs : s.heap.FunFrames B (env :: outer))
    (he : s.heap.get? e = some { cls := .ref 41, dict := some d, data := .fields vs }) (hsz : 1 < vs.size)
    (hq : ∀ h', Fly B h' (env :: outer) e d (rawInt L) → s.heap.UpToSlots h' → Q () { s with heap := h' }) :
    wpAny M A (do let a ← frameOf env; let pl ← entryPlaceOf L hadNext; let b ← EntryCells.newEntry head a .none (rawInt L) .none pl; setField (.ref e) 1 b) Q E s := by
  have enf : e ∉ (env :: outer).filterMap (·.frame) := fun hm => by
    obtain ⟨_, o, ho, hnf⟩ := fs.mem hm
    rw [he] at ho; cases ho; exact hnf vs rfl
  refine wpAny_bind (wpAny_frameOf_fun hfr fs hf fun h1 s1 => ?_)
  refine wpAny_bind (wpAny_entryPlaceOf fun pl hpl => ?_)
  unfold EntryCells.newEntry newFields
  refine wpAny_bind (wpAny_newObj_type ?_ (hpl.sizeOk5 _ _ _ _ _))
  have e1 : h1.get? e = some { cls := .ref 41, dict := some d, data := .fields vs } := (s1.2.1 e enf).trans he
  have st1 : B.StaysIn h1 := fun b o hb => (s1.2.1 b fun hm => by rw [(fs.mem hm).1] at hb; cases hb).trans (st b o hb)
  generalize hrec : ({ cls := .type "traceback", dict := none, data := .fields ([head, .ref L, .none, rawInt L, .none] ++ (if pl.isEmpty then List.replicate 6 Value.none else pl)).toArray } : Obj) = tb
  have htb : ∃ ts, tb.data = .fields ts ∧ ts[3]? = some (rawInt L) := by
    subst hrec
    exact ⟨_, rfl, by first | (simp; done) | (rcases hpl with rfl | ⟨_, _, _, _, _, _, _, rfl⟩ <;> simp)⟩
  have hfr' : tb.isFreed = false := by subst hrec; rfl
  obtain ⟨ts, ht1, ht2⟩ := htb
  have e2 := Heap.get?_push_of_some (h := h1) tb e1
  have Te : h1.objs.size ≠ e := Nat.ne_of_gt (Heap.lt_size e1)
  have hd2 : ({ cls := .ref 41, dict := some d, data := .fields vs } : Obj).data = .fields vs := rfl
  refine wpAny_setField e2 hd2 hsz (hq _ ⟨fun b o hb => ?_, eB, ?_, ?_⟩ ?_)
  · exact (Heap.get?_update_other _ _ (fun z => by rw [← z, eB] at hb; cases hb)).trans (Heap.get?_push_of_some _ (st1 b o hb))
  · refine fs.of_keeps fun b o hb hn => ?_
    obtain ⟨sl, hs⟩ := s1.2.2 b o hb
    exact ⟨_, (Heap.get?_update_other _ _ (Ne.symm (rec_ne he rfl hb hn))).trans (Heap.get?_push_of_some _ hs), rfl⟩
  · refine ⟨vs.setIfInBounds 1 (.ref h1.objs.size), Heap.get?_update_self _ e2 rfl, by simpa using hsz, .inr ⟨h1.objs.size, tb, ts, by simp [hsz], ?_, Te, ?_, ht1, ht2⟩⟩
    · cases z : B.get? h1.objs.size with
      | none => rfl
      | some o => exact absurd (Heap.lt_size (st1 _ _ z)) (Nat.lt_irrefl _)
    · exact (Heap.get?_update_other _ _ (Ne.symm Te)).trans (Heap.get?_push_size _ hfr')
  · intro b o hb hn
    obtain ⟨sl, hs⟩ := s1.2.2 b o hb
    exact ⟨sl, (Heap.get?_update_other _ _ (Ne.symm (rec_ne he rfl hb hn))).trans (Heap.get?_push_of_some _ hs)⟩

theorem fly_note {Q : Unit → Shared → Prop} (hfr : A.frames = some (env :: outer)) (hf : env.frame = some L) (hfl : Fly B s.heap (env :: outer) e d .none)
    (hq : ∀ h', Fly B h' (env :: outer) e d (rawInt L) → s.heap.UpToSlots h' → Q () { s with heap := h' }) : wpAny M A (noteFrame (.ref e) env) Q E s := by
  obtain ⟨st, eB, fs, vs, he, hsz, h1 | ⟨T, oT, ts, h1, hTB, hTe, hT, hTd, h3⟩⟩ := hfl
  · unfold noteFrame
    simp only [hf]
    refine wpAny_bind (wpAny_field he rfl h1 ?_)
    rw [if_neg (by decide)]
    exact fly_entry hfr hf st eB fs he hsz hq
  · unfold noteFrame
    simp only [hf]
    refine wpAny_bind (wpAny_field he rfl h1 ?_)
    rw [if_pos (show (Value.ref T != Value.none) = true from by simp)]
    refine wpAny_bind (wpAny_field hT hTd h3 ?_)
    rw [if_neg (show ¬ ((Value.none == rawInt L) = true) from by simp [rawInt])]
    refine wpAny_bind (wpAny_setField hT hTd (Array.getElem?_eq_some_iff.mp h3).1 ?_)
    have other : ∀ b, b ≠ T → (s.heap.update T (Obj.mapFields (·.setIfInBounds 3 Value.none))).get? b = s.heap.get? b := fun b hb => Heap.get?_update_other _ _ (Ne.symm hb)
    refine fly_entry hfr hf (fun b o hb => (other b fun z => by rw [z, hTB] at hb; cases hb).trans (st b o hb)) eB (fs.of_keeps fun b o hb hn => ⟨o, (other b (rec_ne hT hTd hb hn)).trans hb, rfl⟩)
      ((other e (Ne.symm hTe)).trans he) hsz fun h' F' U' => hq h' F' fun b o hb hn => U' b o ((other b (rec_ne hT hTd hb hn)).trans hb) hn

theorem fly_clear {l : List Env} {fl : Value} {Q : Unit → Shared → Prop} (hfl : Fly B s.heap l e d fl)
    (hq : ∀ h', Fly B h' l e d .none → s.heap.UpToSlots h' → Q () { s with heap := h' }) : wpAny M A (setFlight (.ref e) none) Q E s := by
  obtain ⟨st, eB, fs, vs, he, hsz, h1 | ⟨T, oT, ts, h1, hTB, hTe, hT, hTd, h3⟩⟩ := hfl
  · unfold setFlight
    refine wpAny_bind (wpAny_field he rfl h1 ?_)
    rw [if_neg (by decide)]
    exact wpAny_pure (hq s.heap ⟨st, eB, fs, vs, he, hsz, .inl h1⟩ (Heap.UpToSlots.refl _))
  · have hs3 : 3 < ts.size := (Array.getElem?_eq_some_iff.mp h3).1
    unfold setFlight
    refine wpAny_bind (wpAny_field he rfl h1 ?_)
    rw [if_pos (show (Value.ref T != Value.none) = true from by simp)]
    have other : ∀ b, b ≠ T → (s.heap.update T (Obj.mapFields (·.setIfInBounds 3 ((none : Option Addr).elim Value.none fun f => rawInt f)))).get? b = s.heap.get? b := fun b hb => Heap.get?_update_other _ _ (Ne.symm hb)
    refine wpAny_setField hT hTd hs3 (hq _ ⟨fun b o hb => (other b fun z => by rw [z, hTB] at hb; cases hb).trans (st b o hb), eB, fs.of_keeps fun b o hb hn => ⟨o, (other b (rec_ne hT hTd hb hn)).trans hb, rfl⟩,
      vs, (other e (Ne.symm hTe)).trans he, hsz, .inr ⟨T, _, _, h1, hTB, hTe, Heap.get?_update_self _ hT (Obj.isFreed_of_fields (Obj.data_mapFields hTd _)), Obj.data_mapFields hTd _, by simp [hs3]⟩⟩
      fun b o hb hn => ⟨o.slots, (other b (rec_ne hT hTd hb hn)).trans hb⟩)

theorem fly_leave {Q : Unit → Shared → Prop} (hfr : A.frames = some (env :: outer)) (hf : env.frame = some L) (hfl : Fly B s.heap (env :: outer) e d .none)
    (hq : ∀ h', Fly B h' outer e d .none → s.heap.UpToSlots h' → Q () { s with heap := h' }) : wpAny M A (leaving env (.ref e)) Q E s := by
  unfold leaving
  refine wpAny_bind (fly_note hfr hf hfl fun h1 F1 U1 => ?_)
  refine fly_clear F1 fun h2 F2 U2 => hq h2 ⟨F2.stays, F2.eB, F2.frames.2.2, F2.tr⟩ (U1.trans U2)
end
end Mine

namespace Mine

def volD (w : World) (t : Nat → Tok) (bpc ffc kind : Int) (fat : Value) (ini ro : Bool) : List DictEntry :=
  [⟨PyData.keyHash w.params (Str.ofString "_fp"), .str (Str.ofString "_fp") (t 0), .none⟩,
   ⟨PyData.keyHash w.params (Str.ofString "_fp_offset"), .str (Str.ofString "_fp_offset") (t 1), .int 0 (t 21)⟩,
   ⟨PyData.keyHash w.params (Str.ofString "_fat_size"), .str (Str.ofString "_fat_size") (t 2), .int 0 (t 22)⟩,
   ⟨PyData.keyHash w.params (Str.ofString "bpb_header"), .str (Str.ofString "bpb_header") (t 3), .none⟩,
   ⟨PyData.keyHash w.params (Str.ofString "root_dir"), .str (Str.ofString "root_dir") (t 4), .none⟩,
   ⟨PyData.keyHash w.params (Str.ofString "root_dir_sector"), .str (Str.ofString "root_dir_sector") (t 5), .int 0 (t 25)⟩,
   ⟨PyData.keyHash w.params (Str.ofString "root_dir_sectors"), .str (Str.ofString "root_dir_sectors") (t 6), .int 0 (t 26)⟩,
   ⟨PyData.keyHash w.params (Str.ofString "bytes_per_cluster"), .str (Str.ofString "bytes_per_cluster") (t 7), .int bpc (t 27)⟩,
   ⟨PyData.keyHash w.params (Str.ofString "first_data_sector"), .str (Str.ofString "first_data_sector") (t 8), .int 0 (t 28)⟩,
   ⟨PyData.keyHash w.params (Str.ofString "first_free_cluster"), .str (Str.ofString "first_free_cluster") (t 9), .int ffc (t 29)⟩,
   ⟨PyData.keyHash w.params (Str.ofString "fat_type"), .str (Str.ofString "fat_type") (t 10), .int kind (t 30)⟩,
   ⟨PyData.keyHash w.params (Str.ofString "fat"), .str (Str.ofString "fat") (t 11), fat⟩,
   ⟨PyData.keyHash w.params (Str.ofString "initialized"), .str (Str.ofString "initialized") (t 12), .bool ini⟩,
   ⟨PyData.keyHash w.params (Str.ofString "encoding"), .str (Str.ofString "encoding") (t 13), .str (Str.ofString "ibm437") (t 33)⟩,
   ⟨PyData.keyHash w.params (Str.ofString "is_read_only"), .str (Str.ofString "is_read_only") (t 14), .bool ro⟩,
   ⟨PyData.keyHash w.params (Str.ofString "lazy_load"), .str (Str.ofString "lazy_load") (t 15), .bool true⟩]

def Flown (w : World) (h₀ : Heap) (L : Addr) (m : Str → Option Value) (news : List (Addr × Obj)) (h' : Heap) (l : List Env) (v : Value) (e : Addr) : Prop :=
  ∃ B G d tk, Fly B h' l e d .none ∧ B.get? d = some (errDict w tk v) ∧ Fr h₀ L G m ∧ (∀ b o, G.get? b = some o → b ∉ l.filterMap (·.frame) → B.get? b = some o) ∧ G.UpToSlots h' ∧
    ∀ q ∈ news, B.get? q.1 = some q.2 ∧ G.get? q.1 = none

section
variable {M : Model} {A : Around} {E : Value → Shared → Prop} {w : World} {base h₀ g' h3 : Heap} {outer : List Env} {env : Env} {L L' a e d t1 : Addr} {m m' : Str → Option Value} {news more : List (Addr × Obj)} {name : Str} {scope : Scope} {cd : Value} {tk : Tok} {v : Value} {s : Shared} {Q : Unit → Shared → Prop}

theorem raise_out (B' : Below A base (env :: outer) g') (FG : Fr h₀ L g' m) (F3 : Fr g' L' s.heap m') (N3 : News g' L' s.heap ((e, excObj d t1) :: (d, errDict w tk v) :: news)) (hk : scope.kind = .function)
    (hde : d ≠ e) (hne : ∀ q ∈ news, q.1 ≠ e)
    (hq : ∀ h', Flown w h₀ L m news h' (env :: outer) v e → Q () { s with heap := h' }) :
    wpAny M (A.deeper (envOf name scope L' a cd)) (leaving (envOf name scope L' a cd) (.ref e)) Q E s := by
  have K := B'.push (name := name) (scope := scope) (a := a) (cd := cd) F3 hk
  have hfs : ∀ b ∈ (envOf name scope L' a cd :: env :: outer).filterMap (·.frame), b = L' ∨ b ∈ (env :: outer).filterMap (·.frame) := fun b hb => kts_mem hb
  have hold : ∀ q ∈ ((e, excObj d t1) :: (d, errDict w tk v) :: news), q.1 ∉ (envOf name scope L' a cd :: env :: outer).filterMap (·.frame) := fun q hq hm => by
    rcases hfs _ hm with z | z
    · exact (N3 q hq).2.1 z
    · obtain ⟨_, o, ho, _⟩ := B'.frames.mem z
      rw [(N3 q hq).2.2] at ho; cases ho
  have inB : ∀ b o, s.heap.get? b = some o → b ≠ e → b ∉ (envOf name scope L' a cd :: env :: outer).filterMap (·.frame) →
      (hideAll s.heap (e :: (envOf name scope L' a cd :: env :: outer).filterMap (·.frame))).get? b = some o := fun b o hb hbe hbn =>
    hideAll_get _ hb fun hm => by
      rcases List.mem_cons.mp hm with z | z
      · exact hbe z
      · exact hbn z
  refine fly_leave (B := hideAll s.heap (e :: (envOf name scope L' a cd :: env :: outer).filterMap (·.frame))) (d := d) K.stack rfl
    ⟨fun b o q => of_hideAll _ q, hideAll_none _ (.head _), funFrames_hide K.frames (fun env' he b hb => .tail _ (List.mem_filterMap.mpr ⟨env', he, hb⟩)), _, (N3 _ (.head _)).1, Nat.le_of_ble_eq_true rfl, .inl rfl⟩
    fun h' F' U' => hq h' ⟨_, g', d, tk, F', inB _ _ (N3 _ (.tail _ (.head _))).1 hde (hold _ (.tail _ (.head _))), FG, fun b o hb hbn => ?_, (Heap.UpToSlots.of_keeps F3.keep).trans U', fun q hq' => ⟨inB _ _ (N3 q (.tail _ (.tail _ hq'))).1 (hne q hq') (hold q (.tail _ (.tail _ hq'))), (N3 q (.tail _ (.tail _ hq'))).2.2⟩⟩
  refine inB b o (F3.keep b o hb) (fun z => ?_) fun hm => ?_
  · rw [z, (N3 _ (.head _)).2.2] at hb; cases hb
  · rcases hfs b hm with z | z
    · rw [z, kts_self F3] at hb; cases hb
    · exact hbn z

theorem flown_on (FG : Fr h₀ L g' m) (B' : Below A base (env :: outer) g') (hN : ∀ q ∈ news, q ∈ more ∧ g'.get? q.1 = none)
    (fl : Flown w g' L' m' more s.heap (envOf name scope L' a cd :: env :: outer) v e)
    (hq : ∀ h', Flown w h₀ L m news h' (env :: outer) v e → Q () { s with heap := h' }) :
    wpAny M (A.deeper (envOf name scope L' a cd)) (leaving (envOf name scope L' a cd) (.ref e)) Q E s := by
  obtain ⟨B, G, d, tk, hfl, hd, FL, hGB, hU, hn⟩ := fl
  refine fly_leave (Around.frames_deeper B'.stack) rfl hfl fun h' F' U' => hq h' ⟨B, g', d, tk, F', hd, FG, fun b o hb hbn => ?_, (Heap.UpToSlots.of_keeps FL.keep).trans (hU.trans U'), fun q hq' => ⟨(hn q (hN q hq').1).1, (hN q hq').2⟩⟩
  refine hGB b o (FL.keep b o hb) fun hm => ?_
  rcases kts_mem hm with z | z
  · rw [z, kts_self FL] at hb; cases hb
  · exact hbn z
end

section
variable {w : World} {p : Program} {loose : List Str} {mean : ExcName → Option Value} {mg mb : Str → Option Value}
  {base h₀ : Heap} {outer : List Env} {A₀ A : Around} {env : Env} {L : Addr} {m : Str → Option Value} {news rest : List (Addr × Obj)} {s : Shared} {R : Result → Shared → Prop}

set_option maxHeartbeats 2000000 in
theorem initck_ok {vol dv : Addr} {t : Nat → Tok} {bpc ffc kind : Int} {fat : Value} {ini ro : Bool} {n : Nat}
    (C : Cx 8 w p loose mean mg mb base h₀ outer A₀ A env L m ((vol, instObj 316 dv) :: (dv, dictOf (volD w t bpc ffc kind fat ini ro) n) :: rest) s.heap)
    (h : ini = true → ∀ h' tk', Fr h₀ L h' m → News h₀ L h' ((vol, instObj 316 dv) :: (dv, dictOf (volD w t bpc ffc kind fat ini ro) n) :: rest) → R (.ok (.ret .none)) { s with heap := h', toks := tk' })
    (h2 : ini = false → ∀ h' tk' e, Flown w h₀ L m ((vol, instObj 316 dv) :: (dv, dictOf (volD w t bpc ffc kind fat ini ro) n) :: rest) h' (env :: outer) .none e → R (.error (.ref e)) { s with heap := h', toks := tk' }) :
    codeAny (model PySem.Challenge.rw_iw0017_01.row.prog w) A (.call (.ref 65) ⟨[.ref vol], []⟩) R s := by
  obtain ⟨B, F, X, N, T, fr, fa, fk, hh, room, units⟩ := C
  revert X; k_fill; intro X
  refine' code_def (binds := [(Str.ofString "one", .ref vol)]) B F X N T fr fa fk ?ho ?hcd ?hroom ?hbind ?hloc ?_ ?c2 ?c3 ?c4 ?c5
  case ho => k_dflt k_is
  case hcd => k_dflt k_is
  case hroom => exact Nat.lt_trans (by omega) (show 900 < recursionLimit from by decide)
  case hbind => exact BindsTo.of_eq rfl
  case hloc => exact locs rfl
  case c2 => exact rfl
  case c3 => exact rfl
  case c4 => exact rfl
  case c5 => decide
  intro g' L' h' FG' F' N' B' X' T'
  k_lift B'
  k_fold
  k_steps
  · exact h (by cases ini <;> first | rfl | contradiction) _ _ (by assumption) (by assumption)
  · refine Raise_made (show (A.deeper _).handled = none from hh) ?_
    k_fold
    k_steps
    refine exc_new (v := .none) ⟨B', F', X', N', T', Around.frames_deeper B'.stack, rfl, rfl, hh, ?_, ?_⟩ (fun X hl => bind_no X hl rfl) ?_
    · show A.depth + 1 + 5 < 900
      omega
    · show A.units + 3 + 8 * 5 < 5000
      omega
    intro h3 tk3 e d t1 tke F3 N3 l1 l2 l3
    refine ⟨e, d, t1, rfl, x41_of (X'.keeps F3.keep) rfl, (N3 _ (.head _)).1, ?_⟩
    exact raise_out B' FG' F3 N3 rfl (Nat.ne_of_gt l1) l2 fun h4 fl => h2 (by cases ini <;> first | rfl | contradiction) _ _ _ fl
end
end Mine

namespace Mine

section
variable {w : World} {p : Program} {loose : List Str} {mean : ExcName → Option Value} {mg mb : Str → Option Value}
  {base h₀ : Heap} {outer : List Env} {A₀ A : Around} {env : Env} {L : Addr} {m : Str → Option Value} {news rest : List (Addr × Obj)} {s : Shared} {R : Result → Shared → Prop}

set_option maxHeartbeats 2000000 in
theorem rock_ok {vol dv : Addr} {t : Nat → Tok} {bpc ffc kind : Int} {fat : Value} {ini ro : Bool} {n : Nat}
    (C : Cx 8 w p loose mean mg mb base h₀ outer A₀ A env L m ((vol, instObj 316 dv) :: (dv, dictOf (volD w t bpc ffc kind fat ini ro) n) :: rest) s.heap)
    (h : ro = false → ∀ h' tk', Fr h₀ L h' m → News h₀ L h' ((vol, instObj 316 dv) :: (dv, dictOf (volD w t bpc ffc kind fat ini ro) n) :: rest) → R (.ok (.ret .none)) { s with heap := h', toks := tk' })
    (h2 : ro = true → ∀ h' tk' e tn, Flown w h₀ L m ((vol, instObj 316 dv) :: (dv, dictOf (volD w t bpc ffc kind fat ini ro) n) :: rest) h' (env :: outer) (.int 30 tn) e → R (.error (.ref e)) { s with heap := h', toks := tk' }) :
    codeAny (model PySem.Challenge.rw_iw0017_01.row.prog w) A (.call (.ref 72) ⟨[.ref vol], []⟩) R s := by
  obtain ⟨B, F, X, N, T, fr, fa, fk, hh, room, units⟩ := C
  revert X; k_fill; intro X
  refine' code_def (binds := [(Str.ofString "one", .ref vol)]) B F X N T fr fa fk ?ho ?hcd ?hroom ?hbind ?hloc ?_ ?c2 ?c3 ?c4 ?c5
  case ho => k_dflt k_is
  case hcd => k_dflt k_is
  case hroom => exact Nat.lt_trans (by omega) (show 900 < recursionLimit from by decide)
  case hbind => exact BindsTo.of_eq rfl
  case hloc => exact locs rfl
  case c2 => exact rfl
  case c3 => exact rfl
  case c4 => exact rfl
  case c5 => decide
  intro g' L' h' FG' F' N' B' X' T'
  k_lift B'
  k_fold
  k_steps
  · refine Raise_made (show (A.deeper _).handled = none from hh) ?_
    k_fold
    k_steps
    show wpAny _ _ (call (.ref 41) [_] [(Str.ofString "errno", .int 30 262)]) _ _ _
    refine exc_new (v := .int 30 262) ⟨B', F', X', N', T', Around.frames_deeper B'.stack, rfl, rfl, hh, ?_, ?_⟩ (fun X hl => bind_kw X hl rfl) ?_
    · show A.depth + 1 + 5 < 900
      omega
    · show A.units + 3 + 8 * 5 < 5000
      omega
    intro h3 tk3 e d t1 tke F3 N3 l1 l2 l3
    refine ⟨e, d, t1, rfl, x41_of (X'.keeps F3.keep) rfl, (N3 _ (.head _)).1, ?_⟩
    exact raise_out B' FG' F3 N3 rfl (Nat.ne_of_gt l1) l2 fun h4 fl => h2 (by cases ro <;> first | rfl | contradiction) _ _ _ _ fl
  · exact h (by cases ro <;> first | rfl | contradiction) _ _ (by assumption) (by assumption)
end
end Mine

namespace Mine

section
variable {w : World} {p : Program} {loose : List Str} {mean : ExcName → Option Value} {mg mb : Str → Option Value}
  {base h₀ : Heap} {outer : List Env} {A₀ A : Around} {env : Env} {L : Addr} {m : Str → Option Value} {news rest : List (Addr × Obj)} {s : Shared} {R : Result → Shared → Prop}
set_option maxHeartbeats 2000000 in
theorem calc_ok {vol dv : Addr} {t : Nat → Tok} {bpc ffc kind size : Int} {ts : Tok} {fat : Value} {ini ro : Bool} {n : Nat}
    (C : Cx 2 w p loose mean mg mb base h₀ outer A₀ A env L m ((vol, instObj 316 dv) :: (dv, dictOf (volD w t bpc ffc kind fat ini ro) n) :: rest) s.heap)
    (hb : 1 ≤ bpc) (hb2 : bpc < 1000000) (hs : 0 ≤ size) (hs2 : size < 1000000)
    (h : ∀ h' tk' tr, Fr h₀ L h' m → News h₀ L h' ((vol, instObj 316 dv) :: (dv, dictOf (volD w t bpc ffc kind fat ini ro) n) :: rest) → R (.ok (.ret (.int (-((-size).fdiv bpc)) tr))) { s with heap := h', toks := tk' }) :
    codeAny (model PySem.Challenge.rw_iw0017_01.row.prog w) A (.call (.ref 212) ⟨[.ref vol, .int size ts], []⟩) R s := by
  obtain ⟨B, F, X, N, T, fr, fa, fk, hh, room, units⟩ := C
  revert X; k_fill; intro X
  refine' code_def (binds := [(Str.ofString "self", .ref vol), (Str.ofString "size", .int size ts)]) B F X N T fr fa fk ?ho ?hcd ?hroom ?hbind ?hloc ?_ ?c2 ?c3 ?c4 ?c5
  case ho => k_dflt k_is
  case hcd => k_dflt k_is
  case hroom => exact Nat.lt_trans (by omega) (show 900 < recursionLimit from by decide)
  case hbind => k_dflt (exact binds_K (X.keeps F.keep) rfl (by k_is) rfl rfl rfl)
  case hloc => exact locs rfl
  case c2 => exact rfl
  case c3 => exact rfl
  case c4 => exact rfl
  case c5 => decide
  intro g' L' h' FG' F' N' B' X' T'
  k_lift B'
  k_fold
  k_steps
  exact h _ _ _ (by assumption) (by assumption)
end
end Mine

namespace Mine

structure It (prog : Program) (w : World) (A : Around) (I : Addr) (n : Nat) (P : Nat → Value → Prop) (St : Nat → Obj → Prop) (Side : Heap → Prop) : Prop where
  item : ∀ i (s : Shared) (Q : Option Value → Shared → Prop) (E : Value → Shared → Prop) (o : Obj), i < n → s.heap.get? I = some o → St i o → Side s.heap →
    (∀ v o' h' tk, P i v → St (i + 1) o' → h'.get? I = some o' → (∀ b ob, b ≠ I → s.heap.get? b = some ob → h'.get? b = some ob) → Q (some v) { s with heap := h', toks := tk }) → wpAny (model prog w) A (pyNext (.ref I)) Q E s
  done : ∀ (s : Shared) (Q : Option Value → Shared → Prop) (E : Value → Shared → Prop) (o : Obj), s.heap.get? I = some o → St n o → Side s.heap →
    (∀ h' tk, (∀ b ob, b ≠ I → s.heap.get? b = some ob → h'.get? b = some ob) → Q none { s with heap := h', toks := tk }) → wpAny (model prog w) A (pyNext (.ref I)) Q E s

def ListIt (l : Addr) (i : Nat) (o : Obj) : Prop := o.cls = .type "list_iterator" ∧ o.data = .fields #[.ref l, .int i 0]
theorem It.list {prog : Program} {w : World} {A : Around} (hh : A.handled = none) (I l : Addr) (items : Array Value) : It prog w A I items.size (fun i v => items[i]? = some v) (ListIt l) (fun h => h.IsList l items) where
  item := fun i s Q E o hi ho hst hs hQ => by
    refine wpAny_pyNext_list_item ⟨o, ho, hst.1, hst.2⟩ hs (x := items[i]) (by simp [hi]) fun h' hit' hs' => ?_
    obtain ⟨o', ho', hc', hd'⟩ := hit'
    exact hQ _ o' h' s.toks (by simp [hi]) ⟨hc', hd'⟩ ho' fun b ob hb e => hs'.extBut b ob hb e
  done := fun s Q E o ho hst hs hQ => wpAny_pyNext_list_end hh ⟨o, ho, hst.1, hst.2⟩ hs (by simp) fun h' he' => hQ h' s.toks fun b ob hb e => he' b ob hb e
theorem It.range {prog : Program} {w : World} {A : Around} (hh : A.handled = none) (I : Addr) (a : Int) (n : Nat) : It prog w A I n (fun i v => ∃ t, v = .int (a + i) t) (fun i o => ∀ (h : Heap) b, h.get? b = some o → IsRangeIter h b (a + (i : Nat)) ((n : Int) - (i : Nat)) 1) (fun _ => True) where
  item := fun i s Q E o hi ho hst _ hQ => by
    refine wpAny_pyNext_range_item (hst _ _ ho) (by omega) fun h' hit' hs' => ?_
    have e1 : a + ((i + 1 : Nat) : Int) = a + (i : Int) + 1 := by push_cast; rw [Int.add_assoc]
    have e2 : (n : Int) - ((i + 1 : Nat) : Int) = (n : Int) - (i : Int) - 1 := by push_cast; omega
    refine hQ _ _ h' _ ⟨_, rfl⟩ (fun h b hb => ?_) hit' fun b ob hb e => hs'.extBut b ob hb e
    rw [e1, e2]
    exact hb
  done := fun s Q E o ho hst _ hQ => wpAny_pyNext_range_end hh (hst _ _ ho) (by omega) fun h' he' => hQ h' s.toks fun b ob hb e => he' b ob hb e

def SameRest (s s' : Shared) : Prop := ∃ h tk g, s' = { s with heap := h, toks := tk, gens := g }
theorem SameRest.refl (s : Shared) : SameRest s s := ⟨s.heap, s.toks, s.gens, rfl⟩
theorem SameRest.trans {a b c : Shared} (x : SameRest a b) (y : SameRest b c) : SameRest a c := by
  obtain ⟨_, _, _, rfl⟩ := x
  obtain ⟨h, tk, g, rfl⟩ := y
  exact ⟨h, tk, g, rfl⟩

abbrev Inv := Nat → Heap → (Str → Option Value) → List (Addr × Obj) → Array GenState → Prop

def StepG (env : Env) (I : Addr) (io : Obj) (Jn : Heap → (Str → Option Value) → List (Addr × Obj) → Array GenState → Prop) (s₀ : Shared) (Q : Flow → Shared → Prop) (f : Flow) (s' : Shared) : Prop :=
  match f with
  | .ret v => Q (.ret v) s'
  | .brk => Q .next s'
  | _ => ∃ hb m₂ news₂, SameRest s₀ s' ∧ Fr hb env.locals s'.heap m₂ ∧ News hb env.locals s'.heap ((I, io) :: news₂) ∧ Jn hb m₂ news₂ s'.gens

def LoopG (prog : Program) (w : World) (A : Around) (env : Env) (x : Str) (body orelse : List Stmt) (Q : Flow → Shared → Prop) (E : Value → Shared → Prop) (it : Value) (s₂ : Shared) : Prop :=
  ∃ (I : Addr) (n : Nat) (P : Nat → Value → Prop) (St : Nat → Obj → Prop) (Side : Heap → Prop) (hb : Heap) (m : Str → Option Value) (news : List (Addr × Obj)) (io : Obj) (J : Inv),
    it = .ref I ∧ It prog w A I n P St Side ∧ Fr hb env.locals s₂.heap m ∧ News hb env.locals s₂.heap ((I, io) :: news) ∧ St 0 io ∧ J 0 hb m news s₂.gens ∧
    (∀ i hb' m' news' g h, J i hb' m' news' g → Fr hb' env.locals h m' → News hb' env.locals h news' → Side h) ∧
    (∀ i hb' m' news' g, J i hb' m' news' g → (∀ p ∈ news', p.1 ≠ I)) ∧
    (∀ i v hb' m₁ news₁ io₁ s₁, i < n → P i v → SameRest s₂ s₁ → J i hb' m₁ news₁ s₁.gens → Fr hb' env.locals s₁.heap (fun y => if y = x then some v else m₁ y) → News hb' env.locals s₁.heap ((I, io₁) :: news₁) →
      wpAny (model prog w) A (execs body env) (StepG env I io₁ (J (i + 1)) s₂ Q) E s₁) ∧
    ∀ hb' m₁ news₁ s₁, SameRest s₂ s₁ → J n hb' m₁ news₁ s₁.gens → Fr hb' env.locals s₁.heap m₁ → News hb' env.locals s₁.heap news₁ → wpAny (model prog w) A (execs orelse env) Q E s₁

section
variable {prog : Program} {w : World} {A : Around} {s : Shared} {env : Env}

theorem For_own {E : Value → Shared → Prop} {Q : Flow → Shared → Prop} {x : Str} {px pos : Pos} {iter : PySem.Expr} {body orelse : List Stmt} (hx : env.kindOf x = some .local)
    (hp : (env.scope.kind == .class || (env.scope.kind == .module && env.locals != env.globals)) = false)
    (h : wpAny (model prog w) A (eval iter env) (fun xv s₁ => wpAny (model prog w) A (pyIter xv) (fun it s₂ => LoopG prog w A env x body orelse Q E it s₂) E s₁) E s)
    (hs : ∀ x, foldedSetIterable iter env x = pure x := by intro _; rfl)
    (hE : PassesOwn (model prog w) A env E := by passes_own) :
    wpAny (model prog w) A (exec (.For (.Name x px) iter body orelse pos) env) Q E s := by
  refine wpAny_For (wpAny_mono h (fun xv s₁ h₁ => wpAny_mono h₁ (fun it s₂ h₂ => ?_) fun _ _ e => e) fun _ _ e => e) hs
  obtain ⟨I, n, P, St, Side, hb, m, news, io, J, rfl, W, F, N, hst, h0, hside, hoff, step, fin⟩ := h₂
  refine codeAny_forLoop
    (fun k s' => ∃ hb' m' news' io' i, SameRest s₂ s' ∧ St i io' ∧ Fr hb' env.locals s'.heap m' ∧ News hb' env.locals s'.heap ((I, io') :: news') ∧ J i hb' m' news' s'.gens ∧ i ≤ n ∧ k = n + 1 - i) ?_ (n + 1)
    ⟨hb, m, news, io, 0, SameRest.refl _, hst, F, N, h0, Nat.zero_le _, rfl⟩
  rintro k s' ⟨hb', m', news', io', i, sr, hst', F', N', hJ, hi, rfl⟩
  have nI := N' _ (.head _)
  have sideN : Side s'.heap := hside i hb' m' news' _ _ hJ F' fun p hp => N' p (.tail _ hp)
  have keepF : ∀ h₁ : Heap, (∀ b ob, b ≠ I → s'.heap.get? b = some ob → h₁.get? b = some ob) → Fr hb' env.locals h₁ m' ∧ News hb' env.locals h₁ news' := fun h₁ hk₁ =>
    ⟨⟨F'.ns.at' fun o e => hk₁ _ o (fun z => nI.2.1 z.symm) e, fun b o e => hk₁ b o (fun z => by have := nI.2.2; rw [← z, e] at this; cases this) (F'.keep b o e), F'.above⟩,
     fun p hp => ⟨hk₁ _ _ (hoff i hb' m' news' _ hJ p hp) (N' p (.tail _ hp)).1, (N' p (.tail _ hp)).2⟩⟩
  by_cases hlt : i < n
  · refine W.item i _ _ _ _ hlt nI.1 hst' sideN fun v o' h₁ tk₁ hP hst₁ ho₁ hk₁ => ?_
    obtain ⟨F₁, N₁⟩ := keepF h₁ hk₁
    refine wpAny_assign_Name (wpAny_storeName_local hx F₁.ns (fun h₂ hn₂ hs₂ => ?_) hp)
    have F₂ := F₁.set hn₂ hs₂
    have N₂ : News hb' env.locals h₂ ((I, o') :: news') := fun p hp => by
      rcases List.mem_cons.mp hp with rfl | hp
      · exact ⟨(hs₂.2 _ nI.2.1).trans ho₁, nI.2⟩
      · exact (N₁.set hs₂) p hp
    have sr₂ : SameRest s₂ { s' with heap := h₂, toks := tk₁ + 1 } := sr.trans ⟨h₂, tk₁ + 1, s'.gens, rfl⟩
    refine wpAny_passesOwn hE (wpAny_mono (step i v hb' m' news' o' _ hlt hP sr₂ hJ F₂ N₂) (fun f s₃ h₃ => ?_) fun _ _ e => e)
    cases f with
    | ret v => exact h₃
    | brk => exact h₃
    | cont =>
      obtain ⟨hb₃, m₃, news₃, sr₃, F₃, N₃, hJ₃⟩ := h₃
      exact ⟨n + 1 - (i + 1), by omega, hb₃, m₃, news₃, o', i + 1, sr₃, hst₁, F₃, N₃, hJ₃, hlt, rfl⟩
    | next =>
      obtain ⟨hb₃, m₃, news₃, sr₃, F₃, N₃, hJ₃⟩ := h₃
      exact ⟨n + 1 - (i + 1), by omega, hb₃, m₃, news₃, o', i + 1, sr₃, hst₁, F₃, N₃, hJ₃, hlt, rfl⟩
  · have hin : i = n := by omega
    subst hin
    refine W.done _ _ _ _ nI.1 hst' sideN fun h₁ tk₁ hk₁ => ?_
    obtain ⟨F₁, N₁⟩ := keepF h₁ hk₁
    have sr₂ : SameRest s₂ { s' with heap := h₁, toks := tk₁ } := sr.trans ⟨h₁, tk₁, s'.gens, rfl⟩
    exact wpAny_passesOwn hE (fin hb' m' news' { s' with heap := h₁, toks := tk₁ } sr₂ hJ F₁ N₁)
end
end Mine

namespace Mine

theorem Cx.sub {k : Nat} {w : World} {p : Program} {loose : List Str} {mean : ExcName → Option Value} {mg mb : Str → Option Value} {base g : Heap} {outer : List Env} {A : Around} {env : Env} {L a : Addr} {cd : Value} {name : Str} {scope : Scope} {m : Str → Option Value} {news : List (Addr × Obj)} {h : Heap}
    (room : A.depth + (k + 1) < 900) (units : A.units + 8 * (k + 1) < 5000) (hh : A.handled = none) (B : Below A base (env :: outer) g) (F : Fr g L h m) (X : (hd.heap_39 w.params).In g) (N : News g L h news) (T : Top p loose mean mg mb g)
    (hk : scope.kind = .function := by rfl) : Cx k w p loose mean mg mb base g (env :: outer) A (A.deeper (envOf name scope L a cd)) (envOf name scope L a cd) L m news h :=
  ⟨B, F, X, N, T, Around.frames_deeper B.stack, rfl, hk, hh, by show A.depth + 1 + k < 900; omega, by show A.units + 3 + 8 * k < 5000; omega⟩
theorem allLt_ne {d : Addr} : ∀ {l : List (Addr × Obj)}, AllLt d l → ∀ p ∈ l, p.1 ≠ d
  | [], _, _, hp => (nomatch hp)
  | q :: r, h, p, hp => by
    rcases List.mem_cons.mp hp with rfl | hp
    · exact Nat.ne_of_lt h.1
    · exact allLt_ne h.2 p hp
end Mine

namespace Mine

open PyProof.V
def endOf (kind : Int) : Int := if kind = 12 then 4095 else if kind = 16 then 65535 else 268435455
def badOf (kind : Int) : Int := if kind = 12 then 4087 else if kind = 16 then 65527 else 268435447
def KindOk (kind : Int) : Prop := kind = 12 ∨ kind = 16 ∨ kind = 32
def endsD : List (PyData × PyData) := [(.int 12, .int 4095), (.int 16, .int 65535), (.int 32, .int 268435455)]
def badsD : List (PyData × PyData) := [(.int 12, .int 4087), (.int 16, .int 65527), (.int 32, .int 268435447)]

section
variable {w : World} {p : Program} {loose : List Str} {mean : ExcName → Option Value} {mg mb : Str → Option Value}
  {base h₀ : Heap} {outer : List Env} {A₀ A : Around} {env : Env} {L : Addr} {m : Str → Option Value} {news rest : List (Addr × Obj)} {s : Shared} {R : Result → Shared → Prop}
set_option maxHeartbeats 2000000 in
theorem ends_ok
    (C : Cx 2 w p loose mean mg mb base h₀ outer A₀ A env L m news s.heap)
    (h : ∀ h' tk' D o kvs, Fr h₀ L h' m → News h₀ L h' ((D, o) :: news) → (∀ p ∈ news, p.1 < D) → (D == sysModules) = false → o.IsDictOf (intKind PySem.Challenge.rw_iw0017_01.row.prog w) kvs → FlatPairs PyData.int kvs endsD →
      R (.ok (.ret (.ref D))) { s with heap := h', toks := tk' }) :
    codeAny (model PySem.Challenge.rw_iw0017_01.row.prog w) A (.call (.ref 327) ⟨[], []⟩) R s := by
  obtain ⟨B, F, X, N, T, fr, fa, fk, hh, room, units⟩ := C
  revert X; k_fill; intro X
  refine' code_def (binds := []) B F X N T fr fa fk ?ho ?hcd ?hroom ?hbind ?hloc ?_ ?c2 ?c3 ?c4 ?c5
  case ho => k_dflt k_is
  case hcd => k_dflt k_is
  case hroom => exact Nat.lt_trans (by omega) (show 900 < recursionLimit from by decide)
  case hbind => exact BindsTo.of_eq rfl
  case hloc => exact locs rfl
  case c2 => exact rfl
  case c3 => exact rfl
  case c4 => exact rfl
  case c5 => decide
  intro g' L' h' FG' F' N' B' X' T'
  k_lift B'
  k_fold
  k_steps
  exact h _ _ _ _ _ (by assumption) (by assumption) (by assumption) (by assumption) (by assumption) (by assumption)
set_option maxHeartbeats 2000000 in
theorem bads_ok
    (C : Cx 2 w p loose mean mg mb base h₀ outer A₀ A env L m news s.heap)
    (h : ∀ h' tk' D o kvs, Fr h₀ L h' m → News h₀ L h' ((D, o) :: news) → (∀ p ∈ news, p.1 < D) → (D == sysModules) = false → o.IsDictOf (intKind PySem.Challenge.rw_iw0017_01.row.prog w) kvs → FlatPairs PyData.int kvs badsD →
      R (.ok (.ret (.ref D))) { s with heap := h', toks := tk' }) :
    codeAny (model PySem.Challenge.rw_iw0017_01.row.prog w) A (.call (.ref 334) ⟨[], []⟩) R s := by
  obtain ⟨B, F, X, N, T, fr, fa, fk, hh, room, units⟩ := C
  revert X; k_fill; intro X
  refine' code_def (binds := []) B F X N T fr fa fk ?ho ?hcd ?hroom ?hbind ?hloc ?_ ?c2 ?c3 ?c4 ?c5
  case ho => k_dflt k_is
  case hcd => k_dflt k_is
  case hroom => exact Nat.lt_trans (by omega) (show 900 < recursionLimit from by decide)
  case hbind => exact BindsTo.of_eq rfl
  case hloc => exact locs rfl
  case c2 => exact rfl
  case c3 => exact rfl
  case c4 => exact rfl
  case c5 => decide
  intro g' L' h' FG' F' N' B' X' T'
  k_lift B'
  k_fold
  k_steps
  exact h _ _ _ _ _ (by assumption) (by assumption) (by assumption) (by assumption) (by assumption) (by assumption)

theorem kind_sub {D : Addr} {o : Obj} {kvs : List (Int × Value)} {E : Value → Shared → Prop} {kind : Int} {tk : Tok} {value slice : PySem.Expr} {Q : Value → Shared → Prop} (hk : KindOk kind)
    (ho : s.heap.get? D = some o) (hs0 : (D == sysModules) = false) (hd : o.IsDictOf (intKind PySem.Challenge.rw_iw0017_01.row.prog w) kvs) (hf : FlatPairs PyData.int kvs endsD)
    (h : ∀ tr, Q (.int (endOf kind) tr) { s with toks := s.toks + 1 })
    (hs : subscripted slice false (.ref D) (.int kind tk) = operate [.ref D, .int kind tk] (getItem (.ref D) (.int kind tk)) := by with_unfolding_all rfl) :
    wpAny (model PySem.Challenge.rw_iw0017_01.row.prog w) A (subscriptTail value slice (.ref D) (.int kind tk)) Q E s := by
  have T : TabAt (intKind PySem.Challenge.rw_iw0017_01.row.prog w) PyData.int s.heap D endsD := TabAt.ofObj hs0 ho hd hf
  refine tab_tail T ?_ hs
  have key : ∃ dv, lookup (.int kind) endsD = some (.int dv) ∧ dv = endOf kind := by
    rcases hk with rfl | rfl | rfl <;> exact ⟨_, rfl, rfl⟩
  obtain ⟨dv, hl, rfl⟩ := key
  refine getItem_tab (k := kind) same_int (intKind_is _ _ _ _) T hl fun v hv => ?_
  obtain ⟨t, rfl⟩ := hv.int_inv
  exact h t
theorem kind_subB {D : Addr} {o : Obj} {kvs : List (Int × Value)} {E : Value → Shared → Prop} {kind : Int} {tk : Tok} {value slice : PySem.Expr} {Q : Value → Shared → Prop} (hk : KindOk kind)
    (ho : s.heap.get? D = some o) (hs0 : (D == sysModules) = false) (hd : o.IsDictOf (intKind PySem.Challenge.rw_iw0017_01.row.prog w) kvs) (hf : FlatPairs PyData.int kvs badsD)
    (h : ∀ tr, Q (.int (badOf kind) tr) { s with toks := s.toks + 1 })
    (hs : subscripted slice false (.ref D) (.int kind tk) = operate [.ref D, .int kind tk] (getItem (.ref D) (.int kind tk)) := by with_unfolding_all rfl) :
    wpAny (model PySem.Challenge.rw_iw0017_01.row.prog w) A (subscriptTail value slice (.ref D) (.int kind tk)) Q E s := by
  have T : TabAt (intKind PySem.Challenge.rw_iw0017_01.row.prog w) PyData.int s.heap D badsD := TabAt.ofObj hs0 ho hd hf
  refine tab_tail T ?_ hs
  have key : ∃ dv, lookup (.int kind) badsD = some (.int dv) ∧ dv = badOf kind := by
    rcases hk with rfl | rfl | rfl <;> exact ⟨_, rfl, rfl⟩
  obtain ⟨dv, hl, rfl⟩ := key
  refine getItem_tab (k := kind) same_int (intKind_is _ _ _ _) T hl fun v hv => ?_
  obtain ⟨t, rfl⟩ := hv.int_inv
  exact h t
end
end Mine

namespace Mine

open PyProof.V
structure Halt (q : Prop) : Prop where
  go : q
theorem nsub {h₀ h : Heap} {L : Addr} {news news' : List (Addr × Obj)} (N : News h₀ L h news) (hs : ∀ p ∈ news', p ∈ news) : News h₀ L h news' := fun p hp => N p (hs p hp)
theorem isList_of {h₀ h : Heap} {L D : Addr} {news : List (Addr × Obj)} {its : Array Value} {n : Nat} (N : News h₀ L h news) (hm : (D, listOf its n) ∈ news) : h.IsList D its := PySem.IsL.isList (N _ hm).1
section
variable {prog : Program} {w : World} {A : Around} {E : Value → Shared → Prop} {s : Shared} {h₀ : Heap} {L D : Addr} {m : Str → Option Value} {news : List (Addr × Obj)} {g : Obj → List (Addr × Obj)} {its : Array Value} {n : Nat}
theorem own_news {h : Heap} (f : Array Value → Array Value) (N : News h₀ L h news) (U : UpdF D (listOf its n) news g) : ∃ n', News h₀ L (h.update D (Obj.mapSeq f)) (g (listOf (f its) n')) := by
  obtain ⟨pre, post, rfl, hg, a, b⟩ := U.split
  exact ⟨_, (hg _).symm ▸ ki_turn f N a b rfl rfl⟩
theorem own_fr {h : Heap} (f : Array Value → Array Value) (F : Fr h₀ L h m) (N : News h₀ L h news) (U : UpdF D (listOf its n) news g) : Fr h₀ L (h.update D (Obj.mapSeq f)) m := by
  obtain ⟨pre, post, rfl, _, _, _⟩ := U.split
  have z := N (D, listOf its n) (List.mem_append.mpr (.inr (.head _)))
  exact F.change (Heap.SameBut.update ..) z.2.1 z.2.2
theorem UpdF.mem {o : Obj} (U : UpdF D o news g) : (D, o) ∈ news := by
  obtain ⟨pre, post, rfl, _, _, _⟩ := U.split
  exact List.mem_append.mpr (.inr (.head _))
theorem own_append {x : Value} {Q : Value → Shared → Prop} (F : Fr h₀ L s.heap m) (N : News h₀ L s.heap news) (U : UpdF D (listOf its n) news g) (hsz : its.size ≤ 1000)
    (h : ∀ h' n', Fr h₀ L h' m → News h₀ L h' (g (listOf (its.push x) n')) → Q .none { s with heap := h' }) : wpAny (model prog w) A (call (.builtin "list.append") [.ref D, x]) Q E s := by
  have hl := isList_of N (UpdF.mem U)
  have hz : its.size ≤ sizeLine := by rw [sizeLine_eq]; omega
  refine wpAny_call_entry slot_list_append hl.typeIs entry_list_append ?_ (args_list_append _ _)
  show wpAny _ _ (updateSeq D (·.push x) >>= fun _ => ret .none) _ _ s
  refine wpAny_bind ?_
  obtain ⟨n', N'⟩ := own_news (·.push x) N U
  refine wpAny_updateSeq (N _ (UpdF.mem U)).1 rfl (wpAny_pure ⟨.none, rfl, h _ n' (own_fr _ F N U) N'⟩)
theorem own_setItem {k : Int} {t : Tok} {x : Value} {Q : Unit → Shared → Prop} (F : Fr h₀ L s.heap m) (N : News h₀ L s.heap news) (U : UpdF D (listOf its n) news g) (h0 : 0 ≤ k) (h1 : k < its.size) (hsz : its.size ≤ 1000)
    (h : ∀ h' n', Fr h₀ L h' m → News h₀ L h' (g (listOf (its.setIfInBounds k.toNat x) n')) → Q () { s with heap := h' }) : wpAny (model prog w) A (setItem (.ref D) (.int k t) x) Q E s := by
  obtain ⟨n', N'⟩ := own_news (·.setIfInBounds k.toNat x) N U
  exact ki_setAt (N _ (UpdF.mem U)).1 h0 (by omega) h1 (h _ n' (own_fr _ F N U) N')
theorem own_item {k : Int} {t : Tok} {x : Value} {value slice : PySem.Expr} {Q : Value → Shared → Prop} (hl : s.heap.IsList D its) (h0 : 0 ≤ k) (hfit : k < 1000) (hx : its[k.toNat]? = some x) (h : Q x s)
    (hs : subscripted slice false (.ref D) (.int k t) = operate [.ref D, .int k t] (getItem (.ref D) (.int k t)) := by with_unfolding_all rfl) : wpAny (model prog w) A (subscriptTail value slice (.ref D) (.int k t)) Q E s :=
  tail_any hl.typeIs slot_list_getitem.lookup (wpAny_getItem_list hl h0 (by omega) hx h) hs
theorem own_len {Q : Value → Shared → Prop} (hl : s.heap.IsList D its) (hz : its.size ≤ 1000) (h : Q (.int its.size (s.toks + 1)) { s with toks := s.toks + 1 + 1 }) :
    wpAny (model prog w) A (call (.builtin "len") [.ref D]) Q E s := len_list hl (by omega) h
end
end Mine

namespace Mine

open PyProof.V
section
variable {prog : Program} {w : World} {A : Around} {E : Value → Shared → Prop} {s : Shared} {h₀ : Heap} {L D : Addr} {m : Str → Option Value} {news : List (Addr × Obj)} {g : Obj → List (Addr × Obj)} {vs : List Value} {xs : List Int} {n : Nat} {k x : Int} {t u : Tok}
theorem ol_append {Q : Value → Shared → Prop} (F : Fr h₀ L s.heap m) (N : News h₀ L s.heap news) (U : UpdF D (listOf vs.toArray n) news g) (hi : IntsAre vs xs) (hsz : xs.length ≤ 1000)
    (h : ∀ h' vs' n', Fr h₀ L h' m → News h₀ L h' (g (listOf vs'.toArray n')) → IntsAre vs' (xs ++ [x]) → Q .none { s with heap := h' }) : wpAny (model prog w) A (call (.builtin "list.append") [.ref D, .int x t]) Q E s := by
  have := IntsAre.length hi
  refine own_append F N U (by rw [List.size_toArray]; omega) fun h' n' F' N' => h h' (vs ++ [.int x t]) n' F' (by simpa using N') (hi.append (.cons x t .nil))
theorem ol_set {Q : Unit → Shared → Prop} (F : Fr h₀ L s.heap m) (N : News h₀ L s.heap news) (U : UpdF D (listOf vs.toArray n) news g) (hi : IntsAre vs xs) (h0 : 0 ≤ k) (h1 : k < xs.length) (hsz : xs.length ≤ 1000)
    (h : ∀ h' vs' n', Fr h₀ L h' m → News h₀ L h' (g (listOf vs'.toArray n')) → IntsAre vs' (xs.set k.toNat x) → Q () { s with heap := h' }) : wpAny (model prog w) A (setItem (.ref D) (.int k t) (.int x u)) Q E s := by
  have := IntsAre.length hi
  refine own_setItem F N U h0 (by rw [List.size_toArray]; omega) (by rw [List.size_toArray]; omega) fun h' n' F' N' => h h' (vs.set k.toNat (.int x u)) n' F' (by simpa using N') (ints_set hi _)
theorem ol_item {value slice : PySem.Expr} {Q : Value → Shared → Prop} (hl : s.heap.IsList D vs.toArray) (hi : IntsAre vs xs) (h0 : 0 ≤ k) (h1 : k < xs.length) (hsz : xs.length ≤ 1000) (h : ∀ t, Q (.int (xs.getD k.toNat 0) t) s)
    (hs : subscripted slice false (.ref D) (.int k t) = operate [.ref D, .int k t] (getItem (.ref D) (.int k t)) := by with_unfolding_all rfl) : wpAny (model prog w) A (subscriptTail value slice (.ref D) (.int k t)) Q E s := by
  have hj : k.toNat < xs.length := by omega
  obtain ⟨t', e⟩ := hi.get k.toNat _ (List.getElem?_eq_getElem hj)
  have := h t'
  rw [List.getD_eq_getElem?_getD, List.getElem?_eq_getElem hj] at this
  exact own_item hl h0 (by omega) (by simpa using e) this hs
theorem ol_len {Q : Value → Shared → Prop} (hl : s.heap.IsList D vs.toArray) (hi : IntsAre vs xs) (hz : xs.length ≤ 1000) (h : ∀ t tk, Q (.int xs.length t) { s with toks := tk }) :
    wpAny (model prog w) A (call (.builtin "len") [.ref D]) Q E s := by
  have hl' := IntsAre.length hi
  refine own_len hl (by rw [List.size_toArray]; omega) ?_
  rw [List.size_toArray, hl']
  exact h _ _
theorem own_copy {Q : Value → Shared → Prop} (F : Fr h₀ L s.heap m) (N : News h₀ L s.heap news) (hm : (D, listOf vs.toArray n) ∈ news) (hsz : vs.length ≤ 1000)
    (h : ∀ l h' tk', Fr h₀ L h' m → News h₀ L h' ((l, listOf vs.toArray 0) :: news) → (∀ p ∈ news, p.1 < l) → Q (.ref l) { s with heap := h', toks := tk' }) : wpAny (model prog w) A (call (.builtin "list.copy") [.ref D]) Q E s := by
  have hz : vs.toArray.size ≤ sizeLine := by rw [sizeLine_eq, List.size_toArray]; omega
  exact copy_list F N (isList_of N hm) (hsz := hz) fun h' F' N' => h _ h' _ F' N' fun p hp => Heap.lt_size (N p hp).1
theorem own_min {a b : Int} {t u : Tok} {Q : Value → Shared → Prop} (hh : A.handled = none) (F : Fr h₀ L s.heap m) (N : News h₀ L s.heap news)
    (h : ∀ h' tk tr, Fr h₀ L h' m → News h₀ L h' news → Q (.int (min a b) tr) { s with heap := h', toks := tk }) : wpAny (model prog w) A (call (.builtin "min") [.int a t, .int b u]) Q E s := by
  refine min_two_N hh F N fun h' tk F' N' => ?_
  have e : (if b < a then b else a) = min a b := by split <;> omega
  rw [e]
  exact h h' tk _ F' N'
theorem own_iadd {D2 : Addr} {n2 : Nat} {ws : List Value} {ys : List Int} {Q : Value → Shared → Prop} (F : Fr h₀ L s.heap m) (N : News h₀ L s.heap news) (U : UpdF D (listOf vs.toArray n) news g) (hm : (D2, listOf ws.toArray n2) ∈ news) (hi : IntsAre vs xs) (hj : IntsAre ws ys)
    (hsz : xs.length ≤ 1000) (hsz2 : ys.length ≤ 1000)
    (h : ∀ h' vs' n', Fr h₀ L h' m → News h₀ L h' (g (listOf vs'.toArray n')) → IntsAre vs' (xs ++ ys) → Q (.ref D) { s with heap := h' }) : wpAny (model prog w) A (inplaceOp .Add (.ref D) (.ref D2)) Q E s := by
  have l1 := IntsAre.length hi
  have l2 := IntsAre.length hj
  have hz : vs.toArray.size + ws.toArray.size ≤ sizeLine := by rw [sizeLine_eq, List.size_toArray, List.size_toArray]; omega
  have ho := (N _ (UpdF.mem U)).1
  have ho2 := (N _ hm).1
  have hT : s.TypeIs (.ref D) "list" := ⟨_, ho, rfl⟩
  have hT2 : s.TypeIs (.ref D2) "list" := ⟨_, ho2, rfl⟩
  have lk : typeLookup (.type "list") (dunderI "add") = pure (some (.builtin "list.__iadd__")) := PySem.F.slot_list_iadd.lookup
  unfold inplaceOp
  refine wpAny_holding ?_
  have hfi : fillsInplaceSlot (.type "list") "add" (Operator.Add == .Add) = pure false := by
    unfold fillsInplaceSlot
    show (typeLookup (.type "list") (dunderI "add") >>= fun fi => pure (fi.isSome && !isSeqSlot fi)) = pure false
    rw [lk]
    have : isSeqSlot (some (.builtin "list.__iadd__")) = true := by decide +kernel
    show (pure _ : Sem Bool) = pure false
    rw [this]
    rfl
  have hsi : seqSlot? (.type "list") (dunderI "add") = pure (some (.builtin "list.__iadd__")) := PySem.seqSlot_of lk (by decide +kernel)
  refine wpAny_bind (wpAny_typeOf hT (wpAny_bind (wpAny_of_eq hfi ?_)))
  show wpAny (model prog w) A (if false = true then _ else _) Q E s
  rw [if_neg Bool.false_ne_true]
  refine wpAny_bind (wpAny_binaryOp1_none (nm := "add") hT hT2 noFill_list_add ?_)
  refine wpAny_bind (wpAny_of_eq hsi ?_)
  obtain ⟨n', N'⟩ := own_news (· ++ ws.toArray) N U
  refine wpAny_bind (wpAny_rule (call_meets PySem.F.slot_list_iadd hT PySem.F.entry_list_iadd (PySem.F.args_list_iadd_2 _ _) (AutoSeq1.list___iadd___list_list_0 D vs.toArray n D2 ws.toArray n2 (extend_door hz) (by omega) (by omega)) ⟨ho, ho2, ?_⟩))
  exact h _ (vs ++ ws) n' (own_fr _ F N U) (by simpa using N') (hi.append hj)
end
end Mine

namespace Mine

open PyProof.V
theorem allLt_lt {d : Addr} : ∀ {l : List (Addr × Obj)}, AllLt d l → ∀ p ∈ l, p.1 < d
  | [], _, _, hp => (nomatch hp)
  | q :: r, h, p, hp => by
    rcases List.mem_cons.mp hp with rfl | hp
    · exact h.1
    · exact allLt_lt h.2 p hp
theorem names1 {m m₀ : Str → Option Value} {a : Str} (h : ∀ y, y ≠ a → m y = m₀ y) : ∃ o, m = fun y => if y = a then o else m₀ y :=
  ⟨m a, funext fun y => by by_cases e : y = a; · rw [if_pos e, e]
                           · rw [if_neg e, h y e]⟩
theorem names2 {m m₀ : Str → Option Value} {a b : Str} (h : ∀ y, y ≠ a → y ≠ b → m y = m₀ y) : ∃ o o', m = fun y => if y = a then o else if y = b then o' else m₀ y :=
  ⟨m a, m b, funext fun y => by by_cases e : y = a; · rw [if_pos e, e]
                                · by_cases e' : y = b; · rw [if_neg e, if_pos e', e']
                                  · rw [if_neg e, if_neg e', h y e e']⟩
theorem names3 {m m₀ : Str → Option Value} {a b c : Str} (h : ∀ y, y ≠ a → y ≠ b → y ≠ c → m y = m₀ y) : ∃ o o' o'', m = fun y => if y = a then o else if y = b then o' else if y = c then o'' else m₀ y :=
  ⟨m a, m b, m c, funext fun y => by by_cases e : y = a; · rw [if_pos e, e]
                                     · by_cases e' : y = b; · rw [if_neg e, if_pos e', e']
                                       · by_cases e'' : y = c; · rw [if_neg e, if_neg e', if_pos e'', e'']
                                         · rw [if_neg e, if_neg e', if_neg e'', h y e e' e'']⟩
section
variable {prog : Program} {w : World} {A : Around} {E : Value → Shared → Prop} {s : Shared} {env : Env} {x : Str} {body orelse : List Stmt} {Q : Flow → Shared → Prop} {hb : Heap} {m : Str → Option Value} {news : List (Addr × Obj)}
theorem StepG.rebase {I : Addr} {io : Obj} {Jn : Heap → (Str → Option Value) → List (Addr × Obj) → Array GenState → Prop} {s₀ s₁ : Shared} {f : Flow} {s' : Shared} (h : SameRest s₁ s₀) (k : StepG env I io Jn s₀ Q f s') : StepG env I io Jn s₁ Q f s' := by
  cases f with
  | ret v => exact k
  | brk => exact k
  | next => obtain ⟨a, b, c, d, e⟩ := k; exact ⟨a, b, c, h.trans d, e⟩
  | cont => obtain ⟨a, b, c, d, e⟩ := k; exact ⟨a, b, c, h.trans d, e⟩
theorem loop_list (J : Inv) {l : Addr} {items : Array Value} (hh : A.handled = none) (F : Fr hb env.locals s.heap m) (N : News hb env.locals s.heap news) (hl : s.heap.IsList l items) (J0 : J 0 hb m news s.gens)
    (hside : ∀ i hb' m' news' g h, J i hb' m' news' g → Fr hb' env.locals h m' → News hb' env.locals h news' → h.IsList l items)
    (hoff : ∀ i hb' m' news' g, J i hb' m' news' g → (∀ p ∈ news, p.1 < s.heap.objs.size) → ∀ p ∈ news', p.1 ≠ s.heap.objs.size)
    (step : ∀ I i v hb' m₁ news₁ io₁ hp tk g, I = s.heap.objs.size → items[i]? = some v → J i hb' m₁ news₁ g → Fr hb' env.locals hp (fun y => if y = x then some v else m₁ y) → News hb' env.locals hp ((I, io₁) :: news₁) →
      wpAny (model prog w) A (execs body env) (StepG env I io₁ (J (i + 1)) s Q) E { s with heap := hp, toks := tk, gens := g })
    (fin : ∀ hb' m₁ news₁ hp tk g, J items.size hb' m₁ news₁ g → Fr hb' env.locals hp m₁ → News hb' env.locals hp news₁ → wpAny (model prog w) A (execs orelse env) Q E { s with heap := hp, toks := tk, gens := g }) :
    wpAny (model prog w) A (pyIter (.ref l)) (fun it s₂ => LoopG prog w A env x body orelse Q E it s₂) E s := by
  have hlt : ∀ p ∈ news, p.1 < s.heap.objs.size := fun p hp => Heap.lt_size (N p hp).1
  refine wpAny_pyIter_list hl ⟨_, _, _, _, _, hb, m, news, _, J, rfl, It.list hh _ l items, F.push _, N.push F _, ⟨rfl, rfl⟩, J0, hside, fun i hb' m' news' g j => hoff i hb' m' news' g j hlt, ?_, ?_⟩
  · rintro i v hb' m₁ news₁ io₁ s₁ hi hv ⟨hp, tk, g, rfl⟩ hJ F₁ N₁
    exact wpAny_mono (step _ i v hb' m₁ news₁ io₁ hp tk g rfl hv hJ F₁ N₁) (fun f s' k => StepG.rebase ⟨_, _, _, rfl⟩ k) fun _ _ e => e
  · rintro hb' m₁ news₁ s₁ ⟨hp, tk, g, rfl⟩ hJ F₁ N₁
    exact fin hb' m₁ news₁ hp tk g hJ F₁ N₁
theorem loop_range (J : Inv) {r : Addr} {a b : Int} {t u v : Tok} (n : Nat) (hh : A.handled = none) (F : Fr hb env.locals s.heap m) (N : News hb env.locals s.heap news) (hr : IsRange s.heap r a b 1 t u v) (hn : n = (b - a).toNat)
    (ha : -1000000 ≤ a) (ha' : a ≤ 1000000) (hb0 : -1000000 ≤ b) (hb' : b ≤ 1000000) (J0 : J 0 hb m news s.gens)
    (hoff : ∀ i hb' m' news' g, J i hb' m' news' g → (∀ p ∈ news, p.1 < s.heap.objs.size) → ∀ p ∈ news', p.1 ≠ s.heap.objs.size)
    (step : ∀ I i t hb' m₁ news₁ io₁ hp tk g, I = s.heap.objs.size → i < n → J i hb' m₁ news₁ g → Fr hb' env.locals hp (fun y => if y = x then some (.int (a + (i : Nat)) t) else m₁ y) → News hb' env.locals hp ((I, io₁) :: news₁) →
      wpAny (model prog w) A (execs body env) (StepG env I io₁ (J (i + 1)) s Q) E { s with heap := hp, toks := tk, gens := g })
    (fin : ∀ hb' m₁ news₁ hp tk g, J n hb' m₁ news₁ g → Fr hb' env.locals hp m₁ → News hb' env.locals hp news₁ → wpAny (model prog w) A (execs orelse env) Q E { s with heap := hp, toks := tk, gens := g }) :
    wpAny (model prog w) A (pyIter (.ref r)) (fun it s₂ => LoopG prog w A env x body orelse Q E it s₂) E s := by
  have hlt : ∀ p ∈ news, p.1 < s.heap.objs.size := fun p hp => Heap.lt_size (N p hp).1
  refine wpAny_pyIter_range hr (small_one (by omega) (by omega) (by omega) (by omega)) ⟨_, _, _, _, _, hb, m, news, _, J, rfl, It.range hh _ a n, F.push _, N.push F _, ?_, J0, fun _ _ _ _ _ _ _ _ _ => trivial, fun i hb' m' news' g j => hoff i hb' m' news' g j hlt, ?_, ?_⟩
  · intro h b' hb''
    have e : Builtin.Range.rangeSize a b 1 = (n : Int) - ((0 : Nat) : Int) := by rw [rangeSize_nat, hn]; omega
    rw [e] at hb''
    have e2 : a + ((0 : Nat) : Int) = a := by omega
    show IsRangeIter h b' (a + ((0 : Nat) : Int)) _ 1
    rw [e2]
    exact hb''
  · rintro i v hb' m₁ news₁ io₁ s₁ hi ⟨t, rfl⟩ ⟨hp, tk, g, rfl⟩ hJ F₁ N₁
    exact wpAny_mono (step _ i t hb' m₁ news₁ io₁ hp tk g rfl hi hJ F₁ N₁) (fun f s' k => StepG.rebase ⟨_, _, _, rfl⟩ k) fun _ _ e => e
  · rintro hb' m₁ news₁ s₁ ⟨hp, tk, g, rfl⟩ hJ F₁ N₁
    exact fin hb' m₁ news₁ hp tk g hJ F₁ N₁
end
end Mine

namespace Mine

open PyProof.V
def gProto (C : Addr) (Ctxt : Heap → Prop) (P : Nat → Value → Prop) (n : Nat) : Protocol := fun k s₀ v s kap =>
  (∃ i, i + k + 1 = n ∧ P i v) ∧ GenSince C [] s₀ s ∧ (∃ o, s.heap.get? C = some o) ∧ ∀ s'' : Shared, s''.heap.get? C = s.heap.get? C → Ctxt s''.heap → kap (.send .none) s''
def gEnd (C : Addr) : GenEnd := fun n s₀ r s₁ => r = .ok (.ret .none) ∧ (n = 0 ∧ GenSince C [] s₀ s₁)

def StepY (env : Env) (a C : Addr) (ao oC : Obj) (hb : Heap) (Jn : (Str → Option Value) → List (Addr × Obj) → Prop) (s₀ : Shared) (gens₀ : Array GenState) (gs : GenState) (Q : Flow → Shared → Prop) (f : Flow) (s' : Shared) : Prop :=
  match f with
  | .ret v => Q (.ret v) s'
  | .brk => Q .next s'
  | _ => ∃ h tk m₂ news₂, s' = { s₀ with heap := h, toks := tk, gens := gens₀.push gs } ∧ Fr hb env.locals h m₂ ∧ News hb env.locals h ((a, ao) :: (C, oC) :: news₂) ∧ Jn m₂ news₂

section
variable {prog : Program} {w : World} {A : Around} {s : Shared} {env : Env}
theorem setGen_push {s : Shared} {gens₀ : Array GenState} {gs x : GenState} (h : s.gens = gens₀.push gs) : s.setGen gens₀.size x = { s with gens := gens₀.push x } := by
  show ({ s with gens := _ } : Shared) = _
  rw [h]
  congr 1
  apply Array.toList_inj.mp
  simp [Array.toList_setIfInBounds]

theorem For_gen {E : Value → Shared → Prop} {Q : Flow → Shared → Prop} {x : Str} {px pos : Pos} {iter : PySem.Expr} {body orelse : List Stmt} (hx : env.kindOf x = some .local)
    (hp : (env.scope.kind == .class || (env.scope.kind == .module && env.locals != env.globals)) = false) (hh : A.handled = none) (hroom : A.depth < recursionLimit)
    (h : wpAny (model prog w) A (eval iter env) (fun xv s₂ => ∃ (a C : Addr) (ao oC : Obj) (n : Nat) (gs : GenState) (gens₀ : Array GenState) (hb : Heap) (m : Str → Option Value) (news : List (Addr × Obj)) (J : Nat → (Str → Option Value) → List (Addr × Obj) → Prop) (P : Nat → Value → Prop) (Ctxt : Heap → Prop),
      xv = .ref a ∧ s₂.gens = gens₀.push gs ∧ s₂.heap.IsGen a gens₀.size ∧ a ≠ C ∧ hb.NoLimit ∧ Fr hb env.locals s₂.heap m ∧ News hb env.locals s₂.heap ((a, ao) :: (C, oC) :: news) ∧ J 0 m news ∧
      gs.Goes (model prog w) A.in1 (gEnd C) (gProto C Ctxt P n) n (.send .none) (s₂.setGen gens₀.size .running) ∧
      (∀ i m' news' oC' h, J i m' news' → Fr hb env.locals h m' → News hb env.locals h ((a, ao) :: (C, oC') :: news') → Ctxt h) ∧
      (∀ i m' news', J i m' news' → ∀ p ∈ news', p.1 ≠ C) ∧
      (∀ i v m₁ news₁ oC₁ hp tk gs', i < n → P i v → J i m₁ news₁ → Fr hb env.locals hp (fun y => if y = x then some v else m₁ y) → News hb env.locals hp ((a, ao) :: (C, oC₁) :: news₁) →
        wpAny (model prog w) A (execs body env) (StepY env a C ao oC₁ hb (J (i + 1)) s₂ gens₀ gs' Q) E { s₂ with heap := hp, toks := tk, gens := gens₀.push gs' }) ∧
      ∀ m₁ news₁ hp tk, J n m₁ news₁ → Fr hb env.locals hp m₁ → News hb env.locals hp news₁ → wpAny (model prog w) A (execs orelse env) Q E { s₂ with heap := hp, toks := tk, gens := gens₀.push .finished }) E s)
    (hs : ∀ x, foldedSetIterable iter env x = pure x := by intro _; rfl)
    (hE : PassesOwn (model prog w) A env E := by passes_own) :
    wpAny (model prog w) A (exec (.For (.Name x px) iter body orelse pos) env) Q E s := by
  refine wpAny_For (wpAny_mono h (fun xv s₂ h₁ => ?_) fun _ _ e => e) hs
  obtain ⟨a, C, ao, oC, n, gs, gens₀, hb, m, news, J, P, Ctxt, rfl, hgens, hgen, haC, hlim, F, N, hJ, hgo, hctx, hoff, step, fin⟩ := h₁
  refine wpAny_pyIter_gen hgen ?_
  have aoG : ∃ nm qn, ao.cls = .type "generator" ∧ ao.data = .fields #[.int gens₀.size 0, nm, qn] ∧ ao.slots = #[] := by
    obtain ⟨o, nm, qn, ho, r⟩ := hgen
    have := (N _ (.head _)).1
    rw [ho] at this
    cases this
    exact ⟨nm, qn, r⟩
  refine codeAny_forLoop
    (fun k s' => ∃ m' news' oC' gs' i, s' = { s₂ with heap := s'.heap, toks := s'.toks, gens := gens₀.push gs' } ∧ gs'.Goes (model prog w) A.in1 (gEnd C) (gProto C Ctxt P n) (n - i) (.send .none) (s'.setGen gens₀.size .running) ∧
      Fr hb env.locals s'.heap m' ∧ News hb env.locals s'.heap ((a, ao) :: (C, oC') :: news') ∧ J i m' news' ∧ i ≤ n ∧ k = n + 1 - i) ?_ (n + 1)
    ⟨m, news, oC, gs, 0, by rw [← hgens], hgo, F, N, hJ, Nat.zero_le _, rfl⟩
  rintro k s' ⟨m', news', oC', gs', i, hs', hgo', F', N', hJ', hi, rfl⟩
  have nC := N' _ (.tail _ (.head _))
  have nA := N' _ (.head _)
  have isg : s'.heap.IsGen a gens₀.size := by
    obtain ⟨nm, qn, r⟩ := aoG
    exact ⟨ao, nm, qn, nA.1, r⟩
  have hg' : s'.gens = gens₀.push gs' := by rw [hs']
  have hgs' : s'.gens[gens₀.size]? = some gs' := by rw [hg']; simp
  have keepF : ∀ h₁ : Heap, (∀ b o, b ≠ C → s'.heap.get? b = some o → h₁.get? b = some o) → Fr hb env.locals h₁ m' ∧ ∀ oC₁, h₁.get? C = some oC₁ → News hb env.locals h₁ ((a, ao) :: (C, oC₁) :: news') := fun h₁ hk₁ => by
    refine ⟨⟨F'.ns.at' fun o e => hk₁ _ o (fun z => nC.2.1 z.symm) e, fun b o e => hk₁ b o (fun z => by have := nC.2.2; rw [← z, e] at this; cases this) (F'.keep b o e), F'.above⟩, fun oC₁ hC₁ p hp => ?_⟩
    rcases List.mem_cons.mp hp with rfl | hp
    · exact ⟨hk₁ _ _ haC nA.1, nA.2⟩
    rcases List.mem_cons.mp hp with rfl | hp
    · exact ⟨hC₁, nC.2⟩
    · have z := N' p (.tail _ (.tail _ hp))
      exact ⟨hk₁ _ _ (hoff i m' news' hJ' p hp) z.1, z.2⟩
  refine wpAny_pyNext_gen (P := fun n s₀ s₁ => n = 0 ∧ GenSince C [] s₀ s₁) hh (hlim.keeps F'.keep) hroom isg hgs' hgo' (fun v s₁ gs₁ hY => ?_) (fun s₁ hP h₁ hk₁ => ?_)
  · obtain ⟨⟨j, hj, hPv⟩, ⟨h₁, tk₁, rfl, hk₁⟩, ⟨oC₁, hC₁⟩, hkap⟩ := hY
    have hk₁' : ∀ b o, b ≠ C → s'.heap.get? b = some o → h₁.get? b = some o := fun b o hb e => hk₁ b o hb (by simp) e
    obtain ⟨F₁, N₁⟩ := keepF h₁ hk₁'
    have N₁ := N₁ oC₁ hC₁
    by_cases hlt : i < n
    · have hji : j = i := by omega
      subst hji
      obtain ⟨q, hq⟩ : ∃ q, n - j = q + 1 := ⟨n - j - 1, by omega⟩
      rw [hq] at hkap
      refine wpAny_assign_Name (wpAny_storeName_local hx F₁.ns (fun h₂ hn₂ hs₂ => ?_) hp)
      have F₂ := F₁.set hn₂ hs₂
      have N₂ := N₁.set hs₂
      have est : ({ ({ s'.setGen gens₀.size .running with heap := h₁, toks := tk₁ } : Shared).setGen gens₀.size gs₁ with heap := h₂, toks := (({ s'.setGen gens₀.size .running with heap := h₁, toks := tk₁ } : Shared).setGen gens₀.size gs₁).toks + 1 } : Shared) = { s₂ with heap := h₂, toks := tk₁ + 1, gens := gens₀.push gs₁ } := by
        rw [setGen_push hg', setGen_push (gs := .running) rfl, hs']
      rw [est]
      refine wpAny_passesOwn hE (wpAny_mono (step j v m' news' oC₁ h₂ (tk₁ + 1) gs₁ hlt hPv hJ' F₂ N₂) (fun f s₃ h₃ => ?_) fun _ _ e => e)
      have go : (∃ h tk m₂ news₂, s₃ = { s₂ with heap := h, toks := tk, gens := gens₀.push gs₁ } ∧ Fr hb env.locals h m₂ ∧ News hb env.locals h ((a, ao) :: (C, oC₁) :: news₂) ∧ J (j + 1) m₂ news₂) →
          ∃ k', k' < n + 1 - j ∧ ∃ m' news' oC' gs' i, s₃ = { s₂ with heap := s₃.heap, toks := s₃.toks, gens := gens₀.push gs' } ∧ gs'.Goes (model prog w) A.in1 (gEnd C) (gProto C Ctxt P n) (n - i) (.send .none) (s₃.setGen gens₀.size .running) ∧
            Fr hb env.locals s₃.heap m' ∧ News hb env.locals s₃.heap ((a, ao) :: (C, oC') :: news') ∧ J i m' news' ∧ i ≤ n ∧ k' = n + 1 - i := by
        rintro ⟨h₃, tk₃, m₃, news₃, rfl, F₃, N₃, hJ₃⟩
        refine ⟨n + 1 - (j + 1), by omega, m₃, news₃, oC₁, gs₁, j + 1, rfl, ?_, F₃, N₃, hJ₃, hlt, rfl⟩
        have e2 : n - (j + 1) = q := by omega
        rw [e2]
        exact hkap _ ((N₃ _ (.tail _ (.head _))).1.trans hC₁.symm) (hctx _ _ _ _ _ hJ₃ F₃ N₃)
      cases f with
      | ret v => exact h₃
      | brk => exact h₃
      | cont => exact go h₃
      | next => exact go h₃
    · have hin : n - i = 0 := by omega
      rw [hin] at hkap
      exact False.elim (hkap { s' with heap := h₁ } rfl (hctx _ _ _ _ _ hJ' F₁ N₁))
  · obtain ⟨hn0, h₀, tk₀, rfl, hk₀⟩ := hP
    have hin : i = n := by omega
    subst hin
    have hk₁' : ∀ b o, b ≠ C → s'.heap.get? b = some o → h₁.get? b = some o := fun b o hb e => hk₁ b o (hk₀ b o hb (by simp) e)
    obtain ⟨F₁, _⟩ := keepF h₁ hk₁'
    have N₁ : News hb env.locals h₁ news' := fun p hp => by
      have z := N' p (.tail _ (.tail _ hp))
      exact ⟨hk₁' _ _ (hoff i m' news' hJ' p hp) z.1, z.2⟩
    have est : ({ ({ s'.setGen gens₀.size .running with heap := h₀, toks := tk₀ } : Shared).setGen gens₀.size .finished with heap := h₁ } : Shared) = { s₂ with heap := h₁, toks := tk₀, gens := gens₀.push .finished } := by
      rw [setGen_push hg', setGen_push (gs := .running) rfl, hs']
    rw [est]
    exact wpAny_passesOwn hE (fin m' news' h₁ tk₀ hJ' F₁ N₁)
end
end Mine

namespace Mine

open PyProof.V
section
variable {prog : Program} {w : World} {A A₀ : Around} {s : Shared} {K : Frag} {base h₀ : Heap} {L : Addr} {m : Str → Option Value} {p : Program} {loose : List Str} {mean : ExcName → Option Value} {mg mb : Str → Option Value} {news : List (Addr × Obj)}
theorem code_defR {env : Env} {outer : List Env} {R : Result → Shared → Prop} {name qual : Str} {params : Arguments} {body : List Stmt} {scope : Scope} {dV kV doc pm cdv ct oc : Value} {an od : Option Addr} {osl : Array (Option Value)} {f : Addr} {args : Args} {binds : List (Str × Value)}
    (B : Below A₀ base outer h₀) (F : Fr h₀ L s.heap m) (X₀ : K.In h₀) (N : News h₀ L s.heap news) (T : Top p loose mean mg mb h₀) (hA : A.frames = some (env :: outer)) (hf : env.frame = some L) (hke : env.scope.kind = .function)
    (ho : K.lookup f = some ⟨oc, od, .func (fnOf name qual params body scope dV kV doc pm an cdv ct), osl⟩) (hcd : codeIn K cdv qual = true) (hroom : A.depth < recursionLimit)
    (hbind : BindsTo s (fnOf name qual params body scope dV kV doc pm an cdv ct) args binds) (hloc : ∀ y ∈ binds, scope.names.lookup y.1 = some .local)
    (h : ∀ g L' h₁, Fr h₀ L g m → Fr g L' h₁ (fun y => binds.reverse.lookup y) → News g L' h₁ news → Below A base (env :: outer) g → K.In g → Top p loose mean mg mb g → (∀ p ∈ news, p.1 < L') →
      wpAny (model prog w) (A.deeper (envOf qual scope L' f cdv)) (execs body (envOf qual scope L' f cdv))
        (fun fl s' => R (.ok (.ret (match fl with | .ret v => v | _ => .none))) s')
        (fun e s' => wpAny (model prog w) (A.deeper (envOf qual scope L' f cdv)) (leaving (envOf qual scope L' f cdv) e) (fun _ s'' => R (.error e) s'') (fun e' s'' => R (.error e') s'') s')
        { s with heap := h₁, toks := s.toks + binds.length })
    (hco : scope.isCoroutine = false) (hgen : scope.isGenerator = false) (hk : scope.kind = .function)
    (hcell : ∀ x ∈ scope.names, x.2 ≠ .cell) : codeAny (model prog w) A (.call (.ref f) args) R s := by
  obtain ⟨FG, BG, st, _⟩ := groundX (R := R) B F N hA hf hke
  refine codeAny_call_def (fd := fnOf name qual params body scope dV kV doc pm an cdv ct) (body := body) (binds := binds) hroom ((X₀.keeps F.keep) _ _ ho) rfl (T.nolimit.keeps F.keep) (codeRec_of (X₀.keeps F.keep) hcd) rfl hbind hcell hloc (fun h₁ hns hk₁ => ?_) hco hgen hk
  exact h _ s.heap.objs.size h₁ FG ⟨hns, fun b o e => hk₁ b o (of_hideAll _ e), Nat.le_of_eq (hideAll_size _ _)⟩
    (fun p hp => ⟨hk₁ _ _ (N p hp).1, Nat.ne_of_lt (Heap.lt_size (N p hp).1), hideAll_none _ (List.mem_map_of_mem hp)⟩) BG (X₀.keeps st) (T.keeps st) (fun p hp => Heap.lt_size (N p hp).1)

theorem code_gen {env : Env} {outer : List Env} {R : Result → Shared → Prop} {name qual : Str} {params : Arguments} {body : List Stmt} {scope : Scope} {dV kV doc pm cdv ct oc : Value} {an od : Option Addr} {osl : Array (Option Value)} {f : Addr} {args : Args} {binds : List (Str × Value)}
    (B : Below A₀ base outer h₀) (F : Fr h₀ L s.heap m) (X₀ : K.In h₀) (N : News h₀ L s.heap news) (T : Top p loose mean mg mb h₀) (hA : A.frames = some (env :: outer)) (hf : env.frame = some L) (hke : env.scope.kind = .function)
    (ho : K.lookup f = some ⟨oc, od, .func (fnOf name qual params body scope dV kV doc pm an cdv ct), osl⟩) (hcd : codeIn K cdv qual = true) (hroom : A.depth < recursionLimit)
    (hbind : BindsTo s (fnOf name qual params body scope dV kV doc pm an cdv ct) args binds) (hloc : ∀ y ∈ binds, scope.names.lookup y.1 = some .local)
    (h : ∀ g L' h₁ ao, Fr h₀ L g m → Fr g L' h₁ (fun y => binds.reverse.lookup y) → News g L' h₁ news → Below A base (env :: outer) g → K.In g → Top p loose mean mg mb g → (∀ p ∈ news, p.1 < L') → s.heap.objs.size = L' → (∀ b o, s.heap.get? b = some o → h₁.get? b = some o) → L' < h₁.objs.size → g = hideAll s.heap (news.map (·.1)) → (∀ b o, b ≠ L' → h₁.get? b = some o → s.heap.get? b = some o) →
      (∃ nm qn, ao = ({ cls := .type "generator", data := .fields #[.int s.gens.size 0, nm, qn] } : Obj)) →
      R (.ok (.ret (.ref h₁.objs.size))) { s with heap := h₁.push ao, toks := s.toks + binds.length + 1 + 1, gens := s.gens.push (.fresh (.func body (envOf qual scope L' f cdv))) })
    (hco : scope.isCoroutine = false) (hgen : scope.isGenerator = true) (hk : scope.kind = .function)
    (hcell : ∀ x ∈ scope.names, x.2 ≠ .cell) : codeAny (model prog w) A (.call (.ref f) args) R s := by
  obtain ⟨FG, BG, st, _⟩ := groundX (R := R) B F N hA hf hke
  refine codeAny_call_generator (fd := fnOf name qual params body scope dV kV doc pm an cdv ct) (body := body) hroom ((X₀.keeps F.keep) _ _ ho) rfl hco hgen rfl (codeRec_of (X₀.keeps F.keep) hcd) (hbind _ _ _ _ ?_)
  refine wpAny_newFunctionEnv hcell hloc (fun h₁ hns hsb => ?_) hk
  have up : ∀ b o, s.heap.get? b = some o → h₁.get? b = some o := fun b o e => hsb.extBut b o (Nat.ne_of_lt (Heap.lt_size e)) (Heap.get?_push_of_some _ e)
  obtain ⟨oL, _, _, hL, _⟩ := hns
  have hns : h₁.Ns s.heap.objs.size (fun x => binds.reverse.lookup x) := ⟨oL, _, _, hL, by assumption⟩
  refine ⟨(T.nolimit.keeps F.keep).keeps up, h _ s.heap.objs.size h₁ _ FG ⟨hns, fun b o e => up b o (of_hideAll _ e), Nat.le_of_eq (hideAll_size _ _)⟩
    (fun p hp => ⟨up _ _ (N p hp).1, Nat.ne_of_lt (Heap.lt_size (N p hp).1), hideAll_none _ (List.mem_map_of_mem hp)⟩) BG (X₀.keeps st) (T.keeps st) (fun p hp => Heap.lt_size (N p hp).1) rfl up (Heap.lt_size hL) rfl (fun b o hb e => ?_) ⟨_, _, rfl⟩⟩
  have e2 := (hsb.2 b hb).symm.trans e
  rcases Nat.lt_trichotomy b s.heap.objs.size with q | q | q
  · simpa [Heap.get?, Heap.push, Array.getElem?_push, Nat.ne_of_lt q] using e2
  · exact absurd q hb
  · have this : @LT.lt Nat _ b _ := Heap.lt_size e2
    rw [Heap.size_push] at this
    have q : @LT.lt Nat _ s.heap.objs.size b := q
    omega
end
section
variable {M : Model} {A : Around} {R : GenEnd} {Y : Protocol} {n : Nat} {s₀ : Shared} {c : Code} {fs : List Frame} {s : Shared} {env : Env}
  {K : Flow → Sem Fin} {H : Value → Sem Fin} {gd : Bool → Bool} {lv : List Value → List Value}
theorem execs_app_wrap (rest : List Stmt) : ∀ pre : List Stmt, (execs (pre ++ rest) env).wrap K H gd lv = (execs pre env).wrap (fun f => match f with | .next => (execs rest env).wrap K H gd lv | f => K f) H gd lv
  | [] => rfl
  | st :: pre => by
    rw [List.cons_append, execs_cons_wrap, execs_cons_wrap]
    refine Sem.wrap_congr _ _ _ (fun f => ?_) fun _ => rfl
    cases f with
    | next => exact execs_app_wrap rest pre
    | _ => rfl
structure TwoWays (b : Bool) (p q : Prop) : Prop where
  t : b = true → p
  f : b = false → q
theorem seg_execs_app {pre rest : List Stmt} (h : wpAny M (A.over c fs) (execs pre env) (fun f s' => Seg M A R Y n s₀ c (match f with | .next => (execs rest env).wrap K H gd lv | f => K f) fs s') (fun x s' => Seg M A R Y n s₀ c (H x) fs s') s) :
    Seg M A R Y n s₀ c ((execs (pre ++ rest) env).wrap K H gd lv) fs s := by
  rw [execs_app_wrap]; exact seg_wrap h
theorem seg_execs_split (k : Nat) {l : List Stmt} (h : wpAny M (A.over c fs) (execs (l.take k) env) (fun f s' => Seg M A R Y n s₀ c (match f with | .next => (execs (l.drop k) env).wrap K H gd lv | f => K f) fs s') (fun x s' => Seg M A R Y n s₀ c (H x) fs s') s) :
    Seg M A R Y n s₀ c ((execs l env).wrap K H gd lv) fs s := by
  have := seg_execs_app (gd := gd) (lv := lv) h
  rwa [List.take_append_drop] at this
theorem seg_If {test : PySem.Expr} {body orelse : List Stmt} {pos : Pos}
    (h : wpAny M (A.over c fs) (isTrue test env (eval test env)) (fun b s' => TwoWays b (Seg M A R Y n s₀ c ((execs body env).wrap K H gd lv) fs s') (Seg M A R Y n s₀ c ((execs orelse env).wrap K H gd lv) fs s')) (fun x s' => Seg M A R Y n s₀ c (H x) fs s') s) :
    Seg M A R Y n s₀ c ((exec (.If test body orelse pos) env).wrap K H gd lv) fs s := by
  show Seg M A R Y n s₀ c ((do standAt pos; if ← isTrue test env (eval test env) then execs body env else execs orelse env).wrap K H gd lv) fs s
  refine seg_bind_wrap (wpAny_standAt (seg_bind_wrap (wpAny_mono h (fun b s' hb => ?_) fun _ _ e => e)))
  cases b
  · exact hb.f rfl
  · exact hb.t rfl
theorem seg_with {C : Addr} {t : Sem Fin} (h1 : splitAtGen fs = none) (h2 : fs.any Frame.guarded = false) (h3 : (A.over c fs).handled = none) (h4 : ∀ s₀ s, GenSince C [] s₀ s → Seg M A R Y 0 s₀ c (.pure (.done (.ret .none))) fs s)
    (h : ∀ fs' : List Frame, splitAtGen fs' = none → fs'.any Frame.guarded = false → (A.over c fs').handled = none → (∀ s₀ s, GenSince C [] s₀ s → Seg M A R Y 0 s₀ c (.pure (.done (.ret .none))) fs' s) → Seg M A R Y n s₀ c t fs' s) : Seg M A R Y n s₀ c t fs s := h fs h1 h2 h3 h4
theorem seg_ind {M : Model} {A : Around} {R : GenEnd} {Y : Protocol} {c : Code} {t : Sem Fin} {fs : List Frame} (I : Nat → Shared → Shared → Prop)
    (h : ∀ n s₀ s, I n s₀ s → (∀ m s₀' s', m < n → I m s₀' s' → Seg M A R Y m s₀' c t fs s') → Seg M A R Y n s₀ c t fs s) : ∀ n s₀ s, I n s₀ s → Seg M A R Y n s₀ c t fs s := by
  intro n
  induction n using Nat.strongRecOn with
  | ind n ih => exact fun s₀ s hi => h n s₀ s hi fun m s₀' s' hm hi' => ih m hm s₀' s' hi'
theorem over_func {A : Around} {body : List Stmt} {env : Env} {l : List Env} {α : Type} {t : Sem α} {Q : α → Shared → Prop} {E : Value → Shared → Prop} {s : Shared} (fr : A.frames = some l) (hh : A.handled = none)
    (h : ∀ A2 : Around, A2.handled = none → A2.frames = some (env :: l) → A2.depth ≤ A.depth + 1 → A2.units ≤ A.units + 8 → wpAny M A2 t Q E s) : wpAny M (A.in1.over (.func body env) []) t Q E s := by
  refine h _ hh ?_ (Nat.le_refl _) ?_
  · show pushEnvs [env] (pushEnvs [] A.frames) = _
    rw [fr]; rfl
  · show A.units + 1 + 0 + 3 ≤ _
    omega
theorem over_loop {A : Around} {tst : PySem.Expr} {b o : List Stmt} {env : Env} {fs : List Frame} {α : Type} {t : Sem α} {Q : α → Shared → Prop} {E : Value → Shared → Prop} {s : Shared} (hh : (A.over (.whileLoop tst b o env) fs).handled = none)
    (h : ∀ A2 : Around, A2.handled = none → wpAny M A2 t Q E s) : wpAny M (A.over (.whileLoop tst b o env) fs) t Q E s := h _ hh
end
theorem fr_again {h₀ h : Heap} {L : Addr} {x : Str} {v v' : Option Value} {m : Str → Option Value} (F : Fr h₀ L h (fun y => if y = x then v else (fun y => if y = x then v' else m y) y)) : Fr h₀ L h (fun y => if y = x then v else m y) := by
  have e : (fun y => if y = x then v else (fun y => if y = x then v' else m y) y) = fun y => if y = x then v else m y := funext fun y => by
    by_cases hy : y = x
    · rw [if_pos hy, if_pos hy]
    · simp only [if_neg hy]
  exact e ▸ F
def othersOf (h₀ : Heap) (C : Addr) (h : Heap) : List (Addr × Obj) := (List.range h.objs.size).filterMap fun b => if b = C then none else if (h₀.get? b).isSome then none else (h.get? b).map fun o => (b, o)
theorem othersOf_mem {h₀ h : Heap} {C b : Addr} {o : Obj} (hb : b ≠ C) (h0 : h₀.get? b = none) (e : h.get? b = some o) : (b, o) ∈ othersOf h₀ C h := by
  refine List.mem_filterMap.mpr ⟨b, List.mem_range.mpr (Heap.lt_size e), ?_⟩
  rw [if_neg hb, h0, e]
  rfl
theorem othersOf_news {h₀ h : Heap} {C : Addr} : News h₀ C h (othersOf h₀ C h) := by
  intro p hp
  obtain ⟨b, _, e⟩ := List.mem_filterMap.mp hp
  by_cases hb : b = C
  · rw [if_pos hb] at e; cases e
  rw [if_neg hb] at e
  cases h0 : h₀.get? b with
  | some o => rw [h0] at e; cases e
  | none =>
    rw [h0] at e
    cases q : h.get? b with
    | none => rw [q] at e; cases e
    | some o => rw [q] at e; cases e; exact ⟨q, hb, h0⟩
theorem since_of {h₀ : Heap} {C : Addr} {m m' : Str → Option Value} {s : Shared} {h' : Heap} {tk : Nat} {pre : List (Addr × Obj)} (F : Fr h₀ C s.heap m) (F' : Fr h₀ C h' m') (N' : News h₀ C h' (pre ++ othersOf h₀ C s.heap)) : GenSince C [] s { s with heap := h', toks := tk } := by
  refine ⟨h', tk, rfl, fun b o hb _ e => ?_⟩
  cases h0 : h₀.get? b with
  | some o' =>
    have := F.keep b o' h0
    rw [e] at this
    cases this
    exact F'.keep b o h0
  | none => exact (N' _ (List.mem_append_right _ (othersOf_mem hb h0 e))).1
end Mine

namespace Mine

open PyProof.V
def StepE (env : Env) (e it : Addr) (eo io : Obj) (hb : Heap) (Jn : (Str → Option Value) → List (Addr × Obj) → Prop) (s₀ : Shared) (Q : Flow → Shared → Prop) (f : Flow) (s' : Shared) : Prop :=
  match f with
  | .ret v => Q (.ret v) s'
  | .brk => Q .next s'
  | _ => ∃ h tk m₂ news₂, s' = { s₀ with heap := h, toks := tk } ∧ Fr hb env.locals h m₂ ∧ News hb env.locals h ((e, eo) :: (it, io) :: news₂) ∧ Jn m₂ news₂

def LoopE (prog : Program) (w : World) (A : Around) (env : Env) (xi xv : Str) (body : List Stmt) (Q : Flow → Shared → Prop) (E : Value → Shared → Prop) (xval : Value) (s₂ : Shared) : Prop :=
  ∃ (e it l : Addr) (eo io : Obj) (items : Array Value) (hb : Heap) (m : Str → Option Value) (news : List (Addr × Obj)) (J : Nat → (Str → Option Value) → List (Addr × Obj) → Prop),
      xval = .ref e ∧ e ≠ it ∧ IsEnum s₂.heap e it 0 .none ∧ s₂.heap.IsListIter it l 0 ∧ Fr hb env.locals s₂.heap m ∧ News hb env.locals s₂.heap ((e, eo) :: (it, io) :: news) ∧ J 0 m news ∧
      (∀ i m' news' h, J i m' news' → Fr hb env.locals h m' → News hb env.locals h news' → h.IsList l items) ∧
      (∀ i m' news', J i m' news' → ∀ p ∈ news', p.1 ≠ e ∧ p.1 ≠ it) ∧
      (∀ i v tk m₁ news₁ eo₁ io₁ hp tk', items[i]? = some v → J i m₁ news₁ → Fr hb env.locals hp (fun y => if y = xv then some v else if y = xi then some (.int (i : Nat) tk) else m₁ y) → News hb env.locals hp ((e, eo₁) :: (it, io₁) :: news₁) →
        wpAny (model prog w) A (execs body env) (StepE env e it eo₁ io₁ hb (J (i + 1)) s₂ Q) E { s₂ with heap := hp, toks := tk' }) ∧
      ∀ m₁ news₁ hp tk', J items.size m₁ news₁ → Fr hb env.locals hp m₁ → News hb env.locals hp news₁ → Q .next { s₂ with heap := hp, toks := tk' }

section
variable {prog : Program} {w : World} {A : Around} {s : Shared} {env : Env}
theorem StepE.rebase {e it : Addr} {eo io : Obj} {hb : Heap} {Jn : (Str → Option Value) → List (Addr × Obj) → Prop} {s₀ : Shared} {h : Heap} {Q : Flow → Shared → Prop} {f : Flow} {s' : Shared} (k : StepE env e it eo io hb Jn s₀ Q f s') : StepE env e it eo io hb Jn { s₀ with heap := h } Q f s' := by
  cases f <;> exact k
theorem loop_enum {E : Value → Shared → Prop} {Q : Flow → Shared → Prop} {xi xv : Str} {body : List Stmt} {l : Addr} {its : Array Value} {n : Nat} {hb : Heap} {m : Str → Option Value} {news : List (Addr × Obj)} (J : Nat → (Str → Option Value) → List (Addr × Obj) → Prop)
    (F : Fr hb env.locals s.heap m) (N : News hb env.locals s.heap news) (hl : s.heap.get? l = some (listOf its n)) (J0 : J 0 m news)
    (hside : ∀ i m' news' h, J i m' news' → Fr hb env.locals h m' → News hb env.locals h news' → h.IsList l its)
    (hoff : ∀ i m' news', J i m' news' → (∀ p ∈ news, p.1 < s.heap.objs.size) → ∀ p ∈ news', p.1 < s.heap.objs.size)
    (step : ∀ (e it : Nat) i v tk m₁ news₁ eo₁ io₁ hp tk', (s.heap.objs.size : Nat) ≤ e → (s.heap.objs.size : Nat) ≤ it → its[i]? = some v → J i m₁ news₁ → Fr hb env.locals hp (fun y => if y = xv then some v else if y = xi then some (.int (i : Nat) tk) else m₁ y) → News hb env.locals hp ((e, eo₁) :: (it, io₁) :: news₁) →
        wpAny (model prog w) A (execs body env) (StepE env e it eo₁ io₁ hb (J (i + 1)) s Q) E { s with heap := hp, toks := tk' })
    (fin : ∀ m₁ news₁ hp tk', J its.size m₁ news₁ → Fr hb env.locals hp m₁ → News hb env.locals hp news₁ → Q .next { s with heap := hp, toks := tk' }) :
    wpAny (model prog w) A (call (.type "enumerate") [.ref l]) (fun xval s₂ => LoopE prog w A env xi xv body Q E xval s₂) E s := by
  have hlt : ∀ p ∈ news, p.1 < s.heap.objs.size := fun p hp => Heap.lt_size (N p hp).1
  refine call_enumerate_1 hl fun h9 he hit hsz hk => ?_
  obtain ⟨io9, hio9, hio9'⟩ := id hit
  have fresh : ∀ b : Nat, (s.heap.objs.size : Nat) ≤ b → hb.get? b = none := fun b hb' => by
    cases q : hb.get? b with
    | none => rfl
    | some o => exact absurd (Heap.lt_size (F.keep _ _ q)) (Nat.not_lt.mpr hb')
  have hL : @LT.lt Nat _ env.locals s.heap.objs.size := F.ns.lt
  refine ⟨s.heap.objs.size + 1, s.heap.objs.size, l, ({ cls := .type "enumerate", data := .fields #[.none, .bool false, .ref s.heap.objs.size, rawInt 0, .none, .none] } : Obj), io9, its, hb, m, news, J, rfl, Nat.succ_ne_self _, he, hit, ⟨F.ns.keeps hk, fun b o e => hk b o (F.keep b o e), F.above⟩, fun p hp => ?_, J0, hside, fun i m' news' j p hp => ?_, ?_, ?_⟩
  · rcases List.mem_cons.mp hp with rfl | hp
    · exact ⟨he, Nat.ne_of_gt (Nat.lt_succ_of_lt hL), fresh _ (Nat.le_succ _)⟩
    rcases List.mem_cons.mp hp with rfl | hp
    · exact ⟨hio9, Nat.ne_of_gt hL, fresh _ (Nat.le_refl _)⟩
    · exact ⟨hk _ _ (N p hp).1, (N p hp).2⟩
  · have := hoff i m' news' j hlt p hp
    exact ⟨Nat.ne_of_lt (Nat.lt_succ_of_lt this), Nat.ne_of_lt this⟩
  · intro i v tk m₁ news₁ eo₁ io₁ hp tk' hv hJ F₁ N₁
    exact wpAny_mono (step _ _ i v tk m₁ news₁ eo₁ io₁ hp tk' (Nat.le_succ _) (Nat.le_refl _) hv hJ F₁ N₁) (fun f s' k => StepE.rebase k) fun _ _ e => e
  · intro m₁ news₁ hp tk' hJ F₁ N₁
    exact fin m₁ news₁ hp tk' hJ F₁ N₁
theorem For_enum {E : Value → Shared → Prop} {Q : Flow → Shared → Prop} {xi xv : Str} {pi pv pt pos : Pos} {x1} {iter : PySem.Expr} {body : List Stmt} (hxi : env.kindOf xi = some .local) (hxv : env.kindOf xv = some .local)
    (hp : (env.scope.kind == .class || (env.scope.kind == .module && env.locals != env.globals)) = false) (hh : A.handled = none)
    (h : wpAny (model prog w) A (eval iter env) (fun xval s₂ => LoopE prog w A env xi xv body Q E xval s₂) E s)
    (hs : ∀ x, foldedSetIterable iter env x = pure x := by intro _; rfl)
    (hE : PassesOwn (model prog w) A env E := by passes_own) :
    wpAny (model prog w) A (exec (.For (.Tuple [.Name xi pi, .Name xv pv] x1 pt) iter body [] pos) env) Q E s := by
  refine wpAny_For (wpAny_mono h (fun xval s₂ h₁ => ?_) fun _ _ x => x) hs
  obtain ⟨e, it, l, eo, io, items, hb, m, news, J, rfl, hei, he, hit, F, N, h0, hside, hoff, step, fin⟩ := h₁
  refine wpAny_pyIter_enum he ?_
  refine codeAny_forLoop_any
    (fun k s' => ∃ m' news' eo' io' i old, s' = { s₂ with heap := s'.heap, toks := s'.toks } ∧ IsEnum s'.heap e it ((i : Nat) : Int) old ∧ s'.heap.IsListIter it l i ∧ Fr hb env.locals s'.heap m' ∧ News hb env.locals s'.heap ((e, eo') :: (it, io') :: news') ∧ J i m' news' ∧ i ≤ items.size ∧ k = items.size + 1 - i) ?_ (items.size + 1)
    ⟨m, news, eo, io, 0, .none, rfl, he, hit, F, N, h0, Nat.zero_le _, rfl⟩
  rintro k s' ⟨m', news', eo', io', i, old, hs', he', hit', F', N', hJ, hi, rfl⟩
  obtain ⟨H, gg, dd, tk, oo⟩ := s'
  have nE := N' _ (.head _)
  have nI := N' _ (.tail _ (.head _))
  have hl' : H.IsList l items := hside i m' news' H hJ F' fun p hp => N' p (.tail _ (.tail _ hp))
  have keepF : ∀ h₁ : Heap, (∀ b o, b ≠ e → b ≠ it → H.get? b = some o → h₁.get? b = some o) → Fr hb env.locals h₁ m' ∧ News hb env.locals h₁ news' := fun h₁ hk₁ =>
    ⟨⟨F'.ns.at' fun o x => hk₁ _ o (fun z => nE.2.1 z.symm) (fun z => nI.2.1 z.symm) x, fun b o x => hk₁ b o (fun z => by have := nE.2.2; rw [← z, x] at this; cases this) (fun z => by have := nI.2.2; rw [← z, x] at this; cases this) (F'.keep b o x), F'.above⟩,
     fun p hp => ⟨hk₁ _ _ (hoff i m' news' hJ p hp).1 (hoff i m' news' hJ p hp).2 (N' p (.tail _ (.tail _ hp))).1, (N' p (.tail _ (.tail _ hp))).2⟩⟩
  cases hv : items[i]? with
  | none =>
    have hsz : i = items.size := Nat.le_antisymm hi (by simpa using hv)
    refine wpAny_pyNext_enum_end hh he' hit' hl' hv fun h₁ he₁ => wpAny_execs_nil ?_
    obtain ⟨F₁, N₁⟩ := keepF h₁ fun b o _ hbi x => he₁ b o hbi x
    have := fin m' news' h₁ tk (hsz ▸ hJ) F₁ N₁
    rw [hs']
    exact this
  | some v =>
    have hlt : i < items.size := (Array.getElem?_eq_some_iff.mp hv).1
    have heH : @LT.lt Nat _ e H.objs.size := Heap.lt_size he'
    have hiH : @LT.lt Nat _ it H.objs.size := Heap.lt_size nI.1
    refine wpAny_pyNext_enum_item he' hit' hl' hv hei fun h₁ heo hit₁ ht₁ hz₁ hk₁ => ?_
    refine wpAny_letOwnedTupleGo_enum heo fun h₂ he₂ hs₂ => ?_
    replace hs₂ : Heap.SameBut e h₁ h₂ := hs₂
    have ht₂ : h₂.IsTuple H.objs.size #[.int i tk, v] := ⟨_, (hs₂.2 _ (Nat.ne_of_gt heH)).trans ht₁, rfl, _, rfl⟩
    have hz₂ : h₂.objs.size = H.objs.size + 1 := hs₂.1.trans hz₁
    refine wpAny_assign_Tuple hh ht₂ rfl rfl fun h₃ hx₃ => ?_
    replace hx₃ : Heap.ExtBut h₂.objs.size h₂ h₃ := hx₃
    have old₃ : ∀ b o, @LT.lt Nat _ b H.objs.size → h₂.get? b = some o → h₃.get? b = some o := fun b o hb x => hx₃ b o (by rw [hz₂]; exact Nat.ne_of_lt (Nat.lt_succ_of_lt hb)) x
    obtain ⟨F₃, N₃⟩ := keepF h₃ fun b o hbe hbi x => old₃ b o (Heap.lt_size x) (hs₂.extBut b o hbe (hk₁ b o hbe hbi x))
    obtain ⟨eoN, he₃, heE⟩ : ∃ eoN, h₃.get? e = some eoN ∧ ∀ hx : Heap, hx.get? e = some eoN → IsEnum hx e it ((i : Int) + 1) v := ⟨_, old₃ e _ heH he₂, fun _ x => x⟩
    obtain ⟨oi₁, hoi₁, hoi₂⟩ := id hit₁
    have hi₃ : h₃.get? it = some oi₁ := old₃ it _ hiH ((hs₂.2 it (Ne.symm hei)).trans hoi₁)
    have N₃' : News hb env.locals h₃ ((e, eoN) :: (it, oi₁) :: news') := fun p hp => by
      rcases List.mem_cons.mp hp with rfl | hp
      · exact ⟨he₃, nE.2⟩
      rcases List.mem_cons.mp hp with rfl | hp
      · exact ⟨hi₃, nI.2⟩
      · exact N₃ p hp
    show wpAny _ A (do holding [v] (assign (.Name xi pi) env (.int i tk)); do holding [] (assign (.Name xv pv) env v); pure ()) _ _ _
    refine wpAny_bind (wpAny_holding (wpAny_assign_Name (wpAny_storeName_local hxi F₃.ns (fun h₄ hn₄ hs₄ => ?_) hp)))
    have F₄ := F₃.set hn₄ hs₄
    have N₄ := N₃'.set hs₄
    refine wpAny_bind (wpAny_holding (wpAny_assign_Name (wpAny_storeName_local hxv F₄.ns (fun h₅ hn₅ hs₅ => wpAny_pure ?_) hp)))
    have F₅ := F₄.set hn₅ hs₅
    have N₅ := N₄.set hs₅
    have key := step i v tk m' news' _ _ h₅ (tk + 1 + 1 + 1) hv hJ F₅ N₅
    have hst : ({ heap := h₅, gens := gg, drawn := dd, toks := tk + 1 + 1 + 1, os := oo } : Shared) = { s₂ with heap := h₅, toks := tk + 1 + 1 + 1 } := by
      have h1 : gg = s₂.gens := congrArg Shared.gens hs'
      have h2 : dd = s₂.drawn := congrArg Shared.drawn hs'
      have h3 : oo = s₂.os := congrArg Shared.os hs'
      rw [h1, h2, h3]
    show wpAny _ A (execs body env) _ _ { heap := h₅, gens := gg, drawn := dd, toks := tk + 1 + 1 + 1, os := oo }
    rw [hst]
    refine wpAny_passesOwn hE (wpAny_mono key (fun f s₃ h₃ => ?_) fun _ _ e => e)
    have go : (∃ h tk m₂ news₂, s₃ = { s₂ with heap := h, toks := tk } ∧ Fr hb env.locals h m₂ ∧ News hb env.locals h ((e, eoN) :: (it, oi₁) :: news₂) ∧ J (i + 1) m₂ news₂) →
        ∃ k', k' < items.size + 1 - i ∧ ∃ m' news' eo' io' i old, s₃ = { s₂ with heap := s₃.heap, toks := s₃.toks } ∧ IsEnum s₃.heap e it ((i : Nat) : Int) old ∧ s₃.heap.IsListIter it l i ∧ Fr hb env.locals s₃.heap m' ∧ News hb env.locals s₃.heap ((e, eo') :: (it, io') :: news') ∧ J i m' news' ∧ i ≤ items.size ∧ k' = items.size + 1 - i := by
      rintro ⟨h₆, tk₆, m₆, news₆, rfl, F₆, N₆, hJ₆⟩
      refine ⟨items.size + 1 - (i + 1), by omega, m₆, news₆, eoN, oi₁, i + 1, v, rfl, by rw [show ((i + 1 : Nat) : Int) = (i : Int) + 1 by push_cast; rfl]; exact heE _ (N₆ _ (.head _)).1, ⟨oi₁, (N₆ _ (.tail _ (.head _))).1, hoi₂⟩, F₆, N₆, hJ₆, hlt, rfl⟩
    cases f with
    | ret v => exact h₃
    | brk => exact h₃
    | cont => exact go h₃
    | next => exact go h₃
end
end Mine

namespace Mine

open PyProof.V
def KD (kind : Int) (D : Addr) : Prop := (kind = 12 ∧ D = 81) ∨ (kind = 16 ∧ D = 82) ∨ (kind = 32 ∧ D = 83)
def maxOf (kind : Int) : Int := if kind = 12 then 4079 else if kind = 16 then 65519 else 268435439
def eminOf (kind : Int) : Int := if kind = 12 then 4088 else if kind = 16 then 65528 else 268435448
section
variable {w : World} {A : Around} {s : Shared} {h₀ : Heap} {L D : Addr} {m : Str → Option Value} {kind : Int} {tk : Tok} {value slice : PySem.Expr} {Q : Value → Shared → Prop} {E : Value → Shared → Prop}
set_option maxHeartbeats 2000000 in
theorem fcv_sub (hk : KindOk kind) (F : Fr h₀ L s.heap m) (X : (hd.heap_39 w.params).In h₀) (h : ∀ D, KD kind D → Q (.ref D) { s with toks := s.toks + 1 })
    (hs : subscripted slice false (.ref 80) (.int kind tk) = operate [.ref 80, .int kind tk] (getItem (.ref 80) (.int kind tk)) := by with_unfolding_all rfl) :
    wpAny (model PySem.Challenge.rw_iw0017_01.row.prog w) A (subscriptTail value slice (.ref 80) (.int kind tk)) Q E s := by
  have hD : s.heap.DictOf (intKind PySem.Challenge.rw_iw0017_01.row.prog w) 80 [(12, .ref 81), (16, .ref 82), (32, .ref 83)] := by
    refine ⟨_, _, _, (X.keeps F.keep) 80 _ rfl, ⟨rfl, rfl, rfl⟩, rfl, ?_, ?_, by decide⟩
    · intro e he
      simp only [List.mem_toArray, List.mem_cons, List.not_mem_nil, or_false] at he
      rcases he with rfl | rfl | rfl
      · exact ⟨12, rfl, rfl⟩
      · exact ⟨16, rfl, rfl⟩
      · exact ⟨32, rfl, rfl⟩
    · exact .cons rfl rfl (.cons rfl rfl (.cons rfl rfl .nil))
  refine tail_any hD.typeIs slot_dict_getitem.lookup ?_ hs
  have key : ∃ D, valueAt [((12 : Int), Value.ref 81), (16, .ref 82), (32, .ref 83)] kind = some (.ref D) ∧ KD kind D := by
    rcases hk with rfl | rfl | rfl
    · exact ⟨81, rfl, .inl ⟨rfl, rfl⟩⟩
    · exact ⟨82, rfl, .inr (.inl ⟨rfl, rfl⟩)⟩
    · exact ⟨83, rfl, .inr (.inr ⟨rfl, rfl⟩)⟩
  obtain ⟨D, hv, hKD⟩ := key
  exact wpAny_getItem_of (intKind_is _ _ kind tk) hD.mapOf hv (h D hKD)
set_option maxHeartbeats 2000000 in
theorem kd_get {x : Str} {tx : Tok} {f : Int → Int} (hD : KD kind D) (F : Fr h₀ L s.heap m) (X : (hd.heap_39 w.params).In h₀)
    (e12 : ∃ t, nsIn (hd.heap_39 w.params) 81 x = some (some (.int (f 12) t))) (e16 : ∃ t, nsIn (hd.heap_39 w.params) 82 x = some (some (.int (f 16) t))) (e32 : ∃ t, nsIn (hd.heap_39 w.params) 83 x = some (some (.int (f 32) t)))
    (h : ∀ t, Q (.int (f kind) t) { s with toks := s.toks + 1 })
    (hs : ∀ D, subscripted slice false (.ref D) (.str x tx) = operate [.ref D, .str x tx] (getItem (.ref D) (.str x tx)) := by intro _; with_unfolding_all rfl) :
    wpAny (model PySem.Challenge.rw_iw0017_01.row.prog w) A (subscriptTail value slice (.ref D) (.str x tx)) Q E s := by
  rcases hD with ⟨rfl, rfl⟩ | ⟨rfl, rfl⟩ | ⟨rfl, rfl⟩
  · obtain ⟨t, e⟩ := e12
    refine tail_any (T := "dict") ⟨_, (X.keeps F.keep) 81 _ rfl, rfl⟩ slot_dict_getitem.lookup ?_ (hs _)
    exact topGetDict_K F X rfl (by k_keys) e (h t)
  · obtain ⟨t, e⟩ := e16
    refine tail_any (T := "dict") ⟨_, (X.keeps F.keep) 82 _ rfl, rfl⟩ slot_dict_getitem.lookup ?_ (hs _)
    exact topGetDict_K F X rfl (by k_keys) e (h t)
  · obtain ⟨t, e⟩ := e32
    refine tail_any (T := "dict") ⟨_, (X.keeps F.keep) 83 _ rfl, rfl⟩ slot_dict_getitem.lookup ?_ (hs _)
    exact topGetDict_K F X rfl (by k_keys) e (h t)
theorem kd_free {tx : Tok} (hD : KD kind D) (F : Fr h₀ L s.heap m) (X : (hd.heap_39 w.params).In h₀) (h : ∀ t, Q (.int 0 t) { s with toks := s.toks + 1 })
    (hs : ∀ D, subscripted slice false (.ref D) (.str (Str.ofString "FREE_CLUSTER") tx) = operate [.ref D, .str (Str.ofString "FREE_CLUSTER") tx] (getItem (.ref D) (.str (Str.ofString "FREE_CLUSTER") tx)) := by intro _; with_unfolding_all rfl) :
    wpAny (model PySem.Challenge.rw_iw0017_01.row.prog w) A (subscriptTail value slice (.ref D) (.str (Str.ofString "FREE_CLUSTER") tx)) Q E s :=
  kd_get (f := fun _ => 0) hD F X ⟨_, rfl⟩ ⟨_, rfl⟩ ⟨_, rfl⟩ h hs
theorem kd_min {tx : Tok} (hD : KD kind D) (F : Fr h₀ L s.heap m) (X : (hd.heap_39 w.params).In h₀) (h : ∀ t, Q (.int 2 t) { s with toks := s.toks + 1 })
    (hs : ∀ D, subscripted slice false (.ref D) (.str (Str.ofString "MIN_DATA_CLUSTER") tx) = operate [.ref D, .str (Str.ofString "MIN_DATA_CLUSTER") tx] (getItem (.ref D) (.str (Str.ofString "MIN_DATA_CLUSTER") tx)) := by intro _; with_unfolding_all rfl) :
    wpAny (model PySem.Challenge.rw_iw0017_01.row.prog w) A (subscriptTail value slice (.ref D) (.str (Str.ofString "MIN_DATA_CLUSTER") tx)) Q E s :=
  kd_get (f := fun _ => 2) hD F X ⟨_, rfl⟩ ⟨_, rfl⟩ ⟨_, rfl⟩ h hs
theorem kd_max {tx : Tok} (hD : KD kind D) (F : Fr h₀ L s.heap m) (X : (hd.heap_39 w.params).In h₀) (h : ∀ t, Q (.int (maxOf kind) t) { s with toks := s.toks + 1 })
    (hs : ∀ D, subscripted slice false (.ref D) (.str (Str.ofString "MAX_DATA_CLUSTER") tx) = operate [.ref D, .str (Str.ofString "MAX_DATA_CLUSTER") tx] (getItem (.ref D) (.str (Str.ofString "MAX_DATA_CLUSTER") tx)) := by intro _; with_unfolding_all rfl) :
    wpAny (model PySem.Challenge.rw_iw0017_01.row.prog w) A (subscriptTail value slice (.ref D) (.str (Str.ofString "MAX_DATA_CLUSTER") tx)) Q E s :=
  kd_get (f := maxOf) hD F X ⟨_, rfl⟩ ⟨_, rfl⟩ ⟨_, rfl⟩ h hs
theorem kd_bad {tx : Tok} (hD : KD kind D) (F : Fr h₀ L s.heap m) (X : (hd.heap_39 w.params).In h₀) (h : ∀ t, Q (.int (badOf kind) t) { s with toks := s.toks + 1 })
    (hs : ∀ D, subscripted slice false (.ref D) (.str (Str.ofString "BAD_CLUSTER") tx) = operate [.ref D, .str (Str.ofString "BAD_CLUSTER") tx] (getItem (.ref D) (.str (Str.ofString "BAD_CLUSTER") tx)) := by intro _; with_unfolding_all rfl) :
    wpAny (model PySem.Challenge.rw_iw0017_01.row.prog w) A (subscriptTail value slice (.ref D) (.str (Str.ofString "BAD_CLUSTER") tx)) Q E s :=
  kd_get (f := badOf) hD F X ⟨_, rfl⟩ ⟨_, rfl⟩ ⟨_, rfl⟩ h hs
theorem kd_emin {tx : Tok} (hD : KD kind D) (F : Fr h₀ L s.heap m) (X : (hd.heap_39 w.params).In h₀) (h : ∀ t, Q (.int (eminOf kind) t) { s with toks := s.toks + 1 })
    (hs : ∀ D, subscripted slice false (.ref D) (.str (Str.ofString "END_OF_CLUSTER_MIN") tx) = operate [.ref D, .str (Str.ofString "END_OF_CLUSTER_MIN") tx] (getItem (.ref D) (.str (Str.ofString "END_OF_CLUSTER_MIN") tx)) := by intro _; with_unfolding_all rfl) :
    wpAny (model PySem.Challenge.rw_iw0017_01.row.prog w) A (subscriptTail value slice (.ref D) (.str (Str.ofString "END_OF_CLUSTER_MIN") tx)) Q E s :=
  kd_get (f := eminOf) hD F X ⟨_, rfl⟩ ⟨_, rfl⟩ ⟨_, rfl⟩ h hs
theorem kd_emax {tx : Tok} (hD : KD kind D) (F : Fr h₀ L s.heap m) (X : (hd.heap_39 w.params).In h₀) (h : ∀ t, Q (.int (endOf kind) t) { s with toks := s.toks + 1 })
    (hs : ∀ D, subscripted slice false (.ref D) (.str (Str.ofString "END_OF_CLUSTER_MAX") tx) = operate [.ref D, .str (Str.ofString "END_OF_CLUSTER_MAX") tx] (getItem (.ref D) (.str (Str.ofString "END_OF_CLUSTER_MAX") tx)) := by intro _; with_unfolding_all rfl) :
    wpAny (model PySem.Challenge.rw_iw0017_01.row.prog w) A (subscriptTail value slice (.ref D) (.str (Str.ofString "END_OF_CLUSTER_MAX") tx)) Q E s :=
  kd_get (f := endOf) hD F X ⟨_, rfl⟩ ⟨_, rfl⟩ ⟨_, rfl⟩ h hs
end
end Mine

namespace Mine

open PyProof.V
theorem UpdF.toUpd {d : Addr} {o o' : Obj} : ∀ {l : List (Addr × Obj)} {g : Obj → List (Addr × Obj)}, UpdF d o l g → Upd d o o' l (g o')
  | _, _, .head h => .head h
  | _, _, .tail h r => .tail h (UpdF.toUpd r)
section
variable {w : World} {A : Around} {s : Shared} {h₀ : Heap} {L vol dv : Addr} {m : Str → Option Value} {news : List (Addr × Obj)} {g : Obj → List (Addr × Obj)} {t : Nat → Tok} {bpc ffc kind : Int} {fat : Value} {ini ro : Bool} {n : Nat} {Q : Unit → Shared → Prop} {E : Value → Shared → Prop}
set_option maxHeartbeats 2000000 in
theorem vset_bpc {x : Int} {tx : Tok} (F : Fr h₀ L s.heap m) (X : (hd.heap_39 w.params).In h₀) (N : News h₀ L s.heap news) (hv : (vol, instObj 316 dv) ∈ news) (U : UpdF dv (dictOf (volD w t bpc ffc kind fat ini ro) n) news g)
    (h : ∀ h' t' n', Fr h₀ L h' m → News h₀ L h' (g (dictOf (volD w t' x ffc kind fat ini ro) n')) → Q () { s with heap := h', toks := s.toks + 2 }) :
    wpAny (model PySem.Challenge.rw_iw0017_01.row.prog w) A (setAttr (.ref vol) (Str.ofString "bytes_per_cluster") (.int x tx)) Q E s := by
  refine set_dict (K := hd.heap_39 w.params) (C := 316) (es := volD w t bpc ffc kind fat ini ro) (es' := volD w (fun i => if i = 27 then tx else t i) x ffc kind fat ini ro) (n' := n) F X N (InstAt.of_news N hv (UpdF.mem U)) rfl ?_ ?_ ?_ ?_ ?_ ?_ (UpdF.toUpd U) (Nat.le_of_ble_eq_true rfl) (fun h' F' N' => h h' _ _ F' N')
  · rfl
  · rfl
  · rfl
  · rfl
  · rfl
  · rfl
set_option maxHeartbeats 2000000 in
theorem vset_ffc {x : Int} {tx : Tok} (F : Fr h₀ L s.heap m) (X : (hd.heap_39 w.params).In h₀) (N : News h₀ L s.heap news) (hv : (vol, instObj 316 dv) ∈ news) (U : UpdF dv (dictOf (volD w t bpc ffc kind fat ini ro) n) news g)
    (h : ∀ h' t' n', Fr h₀ L h' m → News h₀ L h' (g (dictOf (volD w t' bpc x kind fat ini ro) n')) → Q () { s with heap := h', toks := s.toks + 2 }) :
    wpAny (model PySem.Challenge.rw_iw0017_01.row.prog w) A (setAttr (.ref vol) (Str.ofString "first_free_cluster") (.int x tx)) Q E s := by
  refine set_dict (K := hd.heap_39 w.params) (C := 316) (es := volD w t bpc ffc kind fat ini ro) (es' := volD w (fun i => if i = 29 then tx else t i) bpc x kind fat ini ro) (n' := n) F X N (InstAt.of_news N hv (UpdF.mem U)) rfl ?_ ?_ ?_ ?_ ?_ ?_ (UpdF.toUpd U) (Nat.le_of_ble_eq_true rfl) (fun h' F' N' => h h' _ _ F' N')
  · rfl
  · rfl
  · rfl
  · rfl
  · rfl
  · rfl
set_option maxHeartbeats 2000000 in
theorem vset_kind {x : Int} {tx : Tok} (F : Fr h₀ L s.heap m) (X : (hd.heap_39 w.params).In h₀) (N : News h₀ L s.heap news) (hv : (vol, instObj 316 dv) ∈ news) (U : UpdF dv (dictOf (volD w t bpc ffc kind fat ini ro) n) news g)
    (h : ∀ h' t' n', Fr h₀ L h' m → News h₀ L h' (g (dictOf (volD w t' bpc ffc x fat ini ro) n')) → Q () { s with heap := h', toks := s.toks + 2 }) :
    wpAny (model PySem.Challenge.rw_iw0017_01.row.prog w) A (setAttr (.ref vol) (Str.ofString "fat_type") (.int x tx)) Q E s := by
  refine set_dict (K := hd.heap_39 w.params) (C := 316) (es := volD w t bpc ffc kind fat ini ro) (es' := volD w (fun i => if i = 30 then tx else t i) bpc ffc x fat ini ro) (n' := n) F X N (InstAt.of_news N hv (UpdF.mem U)) rfl ?_ ?_ ?_ ?_ ?_ ?_ (UpdF.toUpd U) (Nat.le_of_ble_eq_true rfl) (fun h' F' N' => h h' _ _ F' N')
  · rfl
  · rfl
  · rfl
  · rfl
  · rfl
  · rfl
set_option maxHeartbeats 2000000 in
theorem vset_fat {v : Value} (F : Fr h₀ L s.heap m) (X : (hd.heap_39 w.params).In h₀) (N : News h₀ L s.heap news) (hv : (vol, instObj 316 dv) ∈ news) (U : UpdF dv (dictOf (volD w t bpc ffc kind fat ini ro) n) news g)
    (h : ∀ h' t' n', Fr h₀ L h' m → News h₀ L h' (g (dictOf (volD w t' bpc ffc kind v ini ro) n')) → Q () { s with heap := h', toks := s.toks + 2 }) :
    wpAny (model PySem.Challenge.rw_iw0017_01.row.prog w) A (setAttr (.ref vol) (Str.ofString "fat") (v)) Q E s := by
  refine set_dict (K := hd.heap_39 w.params) (C := 316) (es := volD w t bpc ffc kind fat ini ro) (es' := volD w (t) bpc ffc kind v ini ro) (n' := n) F X N (InstAt.of_news N hv (UpdF.mem U)) rfl ?_ ?_ ?_ ?_ ?_ ?_ (UpdF.toUpd U) (Nat.le_of_ble_eq_true rfl) (fun h' F' N' => h h' _ _ F' N')
  · rfl
  · rfl
  · rfl
  · rfl
  · rfl
  · rfl
set_option maxHeartbeats 2000000 in
theorem vset_ini {b : Bool} (F : Fr h₀ L s.heap m) (X : (hd.heap_39 w.params).In h₀) (N : News h₀ L s.heap news) (hv : (vol, instObj 316 dv) ∈ news) (U : UpdF dv (dictOf (volD w t bpc ffc kind fat ini ro) n) news g)
    (h : ∀ h' t' n', Fr h₀ L h' m → News h₀ L h' (g (dictOf (volD w t' bpc ffc kind fat b ro) n')) → Q () { s with heap := h', toks := s.toks + 2 }) :
    wpAny (model PySem.Challenge.rw_iw0017_01.row.prog w) A (setAttr (.ref vol) (Str.ofString "initialized") (.bool b)) Q E s := by
  refine set_dict (K := hd.heap_39 w.params) (C := 316) (es := volD w t bpc ffc kind fat ini ro) (es' := volD w (t) bpc ffc kind fat b ro) (n' := n) F X N (InstAt.of_news N hv (UpdF.mem U)) rfl ?_ ?_ ?_ ?_ ?_ ?_ (UpdF.toUpd U) (Nat.le_of_ble_eq_true rfl) (fun h' F' N' => h h' _ _ F' N')
  · rfl
  · rfl
  · rfl
  · rfl
  · rfl
  · rfl
set_option maxHeartbeats 2000000 in
theorem vset_ro {b : Bool} (F : Fr h₀ L s.heap m) (X : (hd.heap_39 w.params).In h₀) (N : News h₀ L s.heap news) (hv : (vol, instObj 316 dv) ∈ news) (U : UpdF dv (dictOf (volD w t bpc ffc kind fat ini ro) n) news g)
    (h : ∀ h' t' n', Fr h₀ L h' m → News h₀ L h' (g (dictOf (volD w t' bpc ffc kind fat ini b) n')) → Q () { s with heap := h', toks := s.toks + 2 }) :
    wpAny (model PySem.Challenge.rw_iw0017_01.row.prog w) A (setAttr (.ref vol) (Str.ofString "is_read_only") (.bool b)) Q E s := by
  refine set_dict (K := hd.heap_39 w.params) (C := 316) (es := volD w t bpc ffc kind fat ini ro) (es' := volD w (t) bpc ffc kind fat ini b) (n' := n) F X N (InstAt.of_news N hv (UpdF.mem U)) rfl ?_ ?_ ?_ ?_ ?_ ?_ (UpdF.toUpd U) (Nat.le_of_ble_eq_true rfl) (fun h' F' N' => h h' _ _ F' N')
  · rfl
  · rfl
  · rfl
  · rfl
  · rfl
  · rfl
end
end Mine

namespace Mine

open PyProof.V
local macro_rules | `(tactic| k_asm) => `(tactic| (refine' Cx.sub ?cxa ?cxb ?cxh ?cxB ?cxF ?cxX ?cxN ?cxT; (case cxa => omega); (case cxb => omega); (case cxh => assumption); (case cxB => assumption); (case cxF => assumption); (case cxX => assumption); (case cxN => assumption); (case cxT => assumption)))
local macro_rules | `(tactic| k_all) => `(tactic| exact allLt_ne (by assumption))
local macro_rules | `(tactic| walk_at "call ref") => `(tactic| (k_here; (with_reducible show wpAny _ _ (call (Value.ref 327) _ _) _ _ _); refine wpAny_call ?_; k_dflt (refine' ends_ok ?c1 ?_; (case c1 => k_asm); intro h' tk' D o kvs F' N' l1 hs0 hdo hfo; replace l1 := allLt_of l1; (try simp only [AllLt, and_true] at l1); (try k_sweep))))
local macro_rules | `(tactic| walk_at "call ref") => `(tactic| (k_here; (with_reducible show wpAny _ _ (call (Value.ref 334) _ _) _ _ _); refine wpAny_call ?_; k_dflt (refine' bads_ok ?c1 ?_; (case c1 => k_asm); intro h' tk' D o kvs F' N' l1 hs0 hdo hfo; replace l1 := allLt_of l1; (try simp only [AllLt, and_true] at l1); (try k_sweep))))
local macro_rules | `(tactic| walk_at "subscriptTail") => `(tactic| (k_here; k_dflt (refine' kind_sub ?k1 ?k2 ?k3 ?k4 ?k5 ?_ rfl; (case k1 => assumption); (case k2 => exact (by assumption : News _ _ _ _) _ (.head _) |>.1); (case k3 => assumption); (case k4 => assumption); (case k5 => assumption); intro tr)))
local macro_rules | `(tactic| walk_at "subscriptTail") => `(tactic| (k_here; k_dflt (refine' kind_subB ?k1 ?k2 ?k3 ?k4 ?k5 ?_ rfl; (case k1 => assumption); (case k2 => exact (by assumption : News _ _ _ _) _ (.head _) |>.1); (case k3 => assumption); (case k4 => assumption); (case k5 => assumption); intro tr)))
local macro_rules | `(tactic| k_mem) => `(tactic| first | assumption | exact List.Mem.head _ | (refine' List.Mem.tail _ ?_; k_mem))
local macro_rules | `(tactic| walk_at "subscriptTail") => `(tactic| (k_here; k_dflt (refine' ol_item ?k1 ?k2 ?k3 ?k4 ?k5 ?_ rfl; (case k1 => exact isList_of (by assumption) (by k_mem)); (case k2 => assumption); (case k3 => omega); (case k4 => omega); (case k5 => omega); intro tr)))
local macro_rules | `(tactic| walk_at "call builtin:list.append") => `(tactic| (k_here; k_dflt (refine' ol_append ?F ?N ?U ?k2 ?k3 ?_; (case F => assumption); (case N => assumption); (case U => k_updF); (case k2 => assumption); (case k3 => first | omega | (simp only [List.length_append, List.length_map, List.length_take, List.length_cons, List.length_nil]; omega)); intro h' vs' n' F' N' hi'; (try dsimp only at N'); (try k_sweep))))
local macro_rules | `(tactic| walk_at "setItem ref int") => `(tactic| (k_here; k_dflt (refine' ol_set ?F ?N ?U ?k2 ?k3 ?k4 ?k5 ?_; (case F => assumption); (case N => assumption); (case U => k_updF); (case k2 => assumption); (case k3 => omega); (case k4 => omega); (case k5 => omega); intro h' vs' n' F' N' hi'; (try dsimp only at N'); (try k_sweep))))
local macro_rules | `(tactic| walk_at "call builtin:len") => `(tactic| (k_here; k_dflt (refine' ol_len ?k1 ?k2 ?k5 ?_; (case k1 => exact isList_of (by assumption) (by k_mem)); (case k2 => assumption); (case k5 => omega); intro tl tk)))
local macro_rules | `(tactic| walk_at "exec For Name Name cons nil") => `(tactic| (k_here; refine Halt.go ?_))
local macro_rules | `(tactic| walk_at "exec For Name Call cons nil") => `(tactic| (k_here; refine Halt.go ?_))
local macro_rules | `(tactic| walk_at "pyIter ref") => `(tactic| (k_here; refine Halt.go ?_))

def Chs : List (Addr × Obj) → List (List Int) → Prop
  | [], [] => True
  | p :: ce, c :: css => (∃ vs n, p.2 = listOf vs.toArray n ∧ IntsAre vs c) ∧ Chs ce css
  | _, _ => False
theorem Chs.len : ∀ {ce : List (Addr × Obj)} {css : List (List Int)}, Chs ce css → ce.length = css.length
  | [], [], _ => rfl
  | _ :: _, _ :: _, h => congrArg (· + 1) (Chs.len h.2)
  | [], _ :: _, h => h.elim
  | _ :: _, [], h => h.elim
theorem Chs.get : ∀ {ce : List (Addr × Obj)} {css : List (List Int)}, Chs ce css → ∀ (i : Nat) (q : Addr × Obj), ce[i]? = some q → ∃ c vs n, css[i]? = some c ∧ q.2 = listOf vs.toArray n ∧ IntsAre vs c
  | [], [], _, i, q, h => by simp at h
  | p :: ce, c :: css, h, 0, q, e => by
    obtain ⟨⟨vs, n, a, b⟩, _⟩ := h
    simp only [List.getElem?_cons_zero, Option.some.injEq] at e
    subst e
    exact ⟨c, vs, n, rfl, a, b⟩
  | p :: ce, c :: css, h, i + 1, q, e => by
    simpa using Chs.get h.2 i q (by simpa using e)
  | [], _ :: _, h, _, _, _ => h.elim
  | _ :: _, [], h, _, _, _ => h.elim
def put1 (kind : Int) (c : List Int) (t : List Int) (j : Nat) : List Int := t.set (c.getD j 0).toNat (if j + 1 < c.length then c.getD (j + 1) 0 else endOf kind)
def chainPut (kind : Int) (t : List Int) (c : List Int) : List Int := (List.range c.length).foldl (put1 kind c) t
def tableF (kind : Int) (bs : List Bool) (css : List (List Int)) : List Int := css.foldl (chainPut kind) ([endOf kind, endOf kind] ++ bs.map fun b => if b then badOf kind else 0)
theorem put1_len (kind : Int) (c : List Int) : ∀ (l : List Nat) (t : List Int), (l.foldl (put1 kind c) t).length = t.length
  | [], _ => rfl
  | j :: l, t => by rw [List.foldl_cons, put1_len kind c l, put1, List.length_set]
theorem chainPut_len (kind : Int) (t c : List Int) : (chainPut kind t c).length = t.length := put1_len ..
theorem chainPuts_len (kind : Int) : ∀ (css : List (List Int)) (t : List Int), (css.foldl (chainPut kind) t).length = t.length
  | [], _ => rfl
  | c :: css, t => by rw [List.foldl_cons, chainPuts_len kind css, chainPut_len]
theorem tableF_len (kind : Int) (bs : List Bool) (css : List (List Int)) : (tableF kind bs css).length = bs.length + 2 := by
  rw [tableF, chainPuts_len]; simp
def markVal (kind : Int) (b : Bool) : Int := if b then badOf kind else 0

section
variable {w : World} {p : Program} {loose : List Str} {mean : ExcName → Option Value} {mg mb : Str → Option Value}
  {base h₀ : Heap} {outer : List Env} {A₀ A : Around} {env : Env} {L : Addr} {m : Str → Option Value} {news rest : List (Addr × Obj)} {s : Shared} {R : Result → Shared → Prop}
set_option maxHeartbeats 2000000 in
theorem table_ok {kind : Int} {tkk : Tok} {ma ca : Addr} {bs : List Bool} {nm nc : Nat} {ce : List (Addr × Obj)} {css : List (List Int)}
    (C : Cx 4 w p loose mean mg mb base h₀ outer A₀ A env L m news s.heap) (hk : KindOk kind)
    (hma : (ma, listOf (bs.map Value.bool).toArray nm) ∈ news) (hca : (ca, listOf (ce.map fun p => Value.ref p.1).toArray nc) ∈ news) (hce : ∀ q ∈ ce, q ∈ news) (hcs : Chs ce css)
    (hb : bs.length ≤ 100) (hc : ∀ c ∈ css, c.length ≤ 100 ∧ ∀ x ∈ c, 2 ≤ x ∧ x < bs.length + 2)
    (h : ∀ h' tk' D (vs : List Value) n, Fr h₀ L h' m → News h₀ L h' ((D, listOf vs.toArray n) :: news) → (∀ p ∈ news, p.1 < D) → IntsAre vs (tableF kind bs css) → R (.ok (.ret (.ref D))) { s with heap := h', toks := tk' }) :
    codeAny (model PySem.Challenge.rw_iw0017_01.row.prog w) A (.call (.ref 348) ⟨[.int kind tkk, .ref ma, .ref ca], []⟩) R s := by
  obtain ⟨B, F, X, N, T, fr, fa, fk, hh, room, units⟩ := C
  revert X; k_fill; intro X
  refine' code_def (binds := [(Str.ofString "kind", .int kind tkk), (Str.ofString "marks", .ref ma), (Str.ofString "chains", .ref ca)]) B F X N T fr fa fk ?ho ?hcd ?hroom ?hbind ?hloc ?_ ?c2 ?c3 ?c4 ?c5
  case ho => k_dflt k_is
  case hcd => k_dflt k_is
  case hroom => exact Nat.lt_trans (by omega) (show 900 < recursionLimit from by decide)
  case hbind => exact BindsTo.of_eq rfl
  case hloc => exact locs rfl
  case c2 => exact rfl
  case c3 => exact rfl
  case c4 => exact rfl
  case c5 => decide
  intro g' L' h' FG' F' N' B' X' T'
  k_lift B'
  k_fold
  clear B F X N T
  k_steps
  refine ⟨?_⟩
  rename_i T _ lt1 h1 F1 N1
  obtain ⟨vs, n, N2, I2⟩ : ∃ vs n, News g' L' h1 ((T, listOf vs.toArray n) :: news) ∧ IntsAre vs ([endOf kind, endOf kind] ++ (bs.take 0).map (markVal kind)) :=
    ⟨_, 0, nsub N1 (fun p hp => by rcases List.mem_cons.mp hp with rfl | hp; exact .head _; exact .tail _ (.tail _ (.tail _ hp))), .cons _ _ (.cons _ _ .nil)⟩
  have lt2 := lt1.2.2
  have lt2' := allLt_lt lt2
  clear lt1 N1
  k_sweep
  refine For_own rfl rfl ?_
  k_steps
  refine ⟨?_⟩
  have ltT : @LT.lt Nat _ T h1.objs.size := Heap.lt_size (N2 _ (.head _)).1
  have ltN : AllLt h1.objs.size news := allLt_of fun p hp => Heap.lt_size (N2 _ (.tail _ hp)).1
  refine loop_list (fun i hb mm nn g => g' = hb ∧ g = s.gens ∧ (∀ y, y ≠ Str.ofString "mark" → mm y = (if y = Str.ofString "table" then some (Value.ref T) else List.lookup y [(Str.ofString "kind", Value.int kind tkk), (Str.ofString "marks", Value.ref ma), (Str.ofString "chains", Value.ref ca)].reverse)) ∧ ∃ vs n, nn = (T, listOf vs.toArray n) :: news ∧ IntsAre vs ([endOf kind, endOf kind] ++ (bs.take i).map (markVal kind)))
    (by assumption) F1 N2 (isList_of N2 (.tail _ hma)) ⟨rfl, rfl, fun y _ => rfl, _, _, rfl, I2⟩ ?_ ?_ ?_ ?_
  · rintro i _ _ _ g h ⟨rfl, rfl, _, vs, n, rfl, _⟩ _ N
    exact isList_of N (.tail _ hma)
  · rintro i _ _ _ g ⟨_, _, _, vs, n, rfl, _⟩ _ p hp
    rcases List.mem_cons.mp hp with rfl | hp
    · exact Nat.ne_of_lt ltT
    · exact allLt_ne ltN p hp
  · rintro I i v _ _ _ io hp1 tk1 gg hI hv ⟨rfl, rfl, hmm, vs3, n3, rfl, I3⟩ F2 N3
    obtain ⟨ov, rfl⟩ := names1 hmm
    obtain ⟨b, hbi, rfl⟩ : ∃ b, bs[i]? = some b ∧ Value.bool b = v := by simpa using hv
    clear F1 N2 hmm hv I2
    have hTI : @LT.lt Nat _ T I := hI ▸ ltT
    have hNI : AllLt I news := hI ▸ ltN
    have hl3 := IntsAre.length I3
    simp only [List.length_append, List.length_map, List.length_take, List.length_cons, List.length_nil] at hl3
    cases b
    · k_steps
      rename Fr _ _ _ _ => F'
      rename News _ _ _ _ => N'
      rename IntsAre _ (_ ++ [_]) => hi'
      refine ⟨g', _, _, ⟨_, _, _, rfl⟩, F', nsub N' (fun p hp => hp), rfl, rfl, fun y hy => ?_, _, _, rfl, ?_⟩
      · simp only [hy, if_false]
      · rw [List.take_add_one, hbi]
        simpa [markVal] using hi'
    · k_steps
      rename Fr _ _ _ _ => F'
      rename News _ _ _ _ => N'
      rename IntsAre _ (_ ++ [_]) => hi'
      refine ⟨g', _, _, ⟨_, _, _, rfl⟩, F', nsub N' (fun p hp => List.mem_cons_of_mem _ hp), rfl, rfl, fun y hy => ?_, _, _, rfl, ?_⟩
      · simp only [hy, if_false]
      · rw [List.take_add_one, hbi]
        simpa [markVal] using hi'
  · rintro _ _ _ hp1 tk1 gg ⟨rfl, rfl, hmm, vs3, n3, rfl, I3⟩ F2 N3
    obtain ⟨ov, rfl⟩ := names1 hmm
    clear F1 N2 hmm I2
    rw [show (List.map Value.bool bs).toArray.size = bs.length by simp, List.take_length] at I3
    have hl3 := IntsAre.length I3
    simp only [List.length_append, List.length_map, List.length_take, List.length_cons, List.length_nil] at hl3
    k_steps
    refine ⟨?_⟩
    refine For_own rfl rfl ?_
    k_steps
    refine ⟨?_⟩
    rename News _ _ _ _ => N4
    rename Fr _ _ _ _ => F2
    have ltT : @LT.lt Nat _ T hp1.objs.size := Heap.lt_size (N4 _ (.head _)).1
    have ltN : AllLt hp1.objs.size news := allLt_of fun p hp => Heap.lt_size (N4 _ (.tail _ hp)).1
    refine loop_list (fun i hb mm nn g => g' = hb ∧ g = s.gens ∧ (∀ y, y ≠ Str.ofString "chain" → y ≠ Str.ofString "k" → mm y = (if y = Str.ofString "mark" then ov else if y = Str.ofString "table" then some (Value.ref T) else List.lookup y [(Str.ofString "kind", Value.int kind tkk), (Str.ofString "marks", Value.ref ma), (Str.ofString "chains", Value.ref ca)].reverse)) ∧ ∃ vs n, nn = (T, listOf vs.toArray n) :: news ∧ IntsAre vs ((css.take i).foldl (chainPut kind) ([endOf kind, endOf kind] ++ bs.map (markVal kind))))
      (by assumption) F2 N4 (isList_of N4 (.tail _ hca)) ⟨rfl, rfl, fun y _ _ => rfl, _, _, rfl, I3⟩ ?_ ?_ ?_ ?_
    · rintro i _ _ _ g h ⟨rfl, rfl, _, vs, n, rfl, _⟩ _ N
      exact isList_of N (.tail _ hca)
    · rintro i _ _ _ g ⟨_, _, _, vs, n, rfl, _⟩ _ p hp
      rcases List.mem_cons.mp hp with rfl | hp
      · exact Nat.ne_of_lt ltT
      · exact allLt_ne ltN p hp
    · rintro I i v _ _ _ io hp2 tk3 gg hI hv ⟨rfl, rfl, hmm, vs5, n5, rfl, I5⟩ F5 N5
      obtain ⟨o1, o2, rfl⟩ := names2 hmm
      obtain ⟨q, hqi, rfl⟩ : ∃ q, ce[i]? = some q ∧ Value.ref q.1 = v := by simpa using hv
      obtain ⟨c, vsC, nC, hci, hq2, IC⟩ := Chs.get hcs i q hqi
      obtain ⟨qa, qo⟩ := q
      subst hq2
      have hqm := hce _ (List.mem_of_getElem? hqi)
      obtain ⟨hc1, hc2⟩ := hc c (List.mem_of_getElem? hci)
      clear F2 N4 hmm hv I3
      have hTI : @LT.lt Nat _ T I := hI ▸ ltT
      have hNI : AllLt I news := hI ▸ ltN
      have hl5 : (List.foldl (chainPut kind) ([endOf kind, endOf kind] ++ List.map (markVal kind) bs) (List.take i css)).length = bs.length + 2 := by rw [chainPuts_len]; simp
      have hqT : qa ≠ T := allLt_ne lt2 _ hqm
      k_steps
      refine ⟨?_⟩
      refine For_own rfl rfl ?_
      k_steps
      refine ⟨?_⟩
      rename IsRange _ _ _ _ _ _ _ _ => hR
      rename News _ _ _ _ => N6
      rename Fr _ _ _ _ => F6
      rename Heap => hp3
      have ltT3 : @LT.lt Nat _ T hp3.objs.size := Heap.lt_size (N6 _ (.tail _ (.head _))).1
      have ltI3 : @LT.lt Nat _ I hp3.objs.size := Heap.lt_size (N6 _ (.head _)).1
      have ltN3 : AllLt hp3.objs.size news := allLt_of fun p hp => Heap.lt_size (N6 _ (.tail _ (.tail _ hp))).1
      refine loop_range (fun j hb mm nn g => g' = hb ∧ g = s.gens ∧ (∀ y, y ≠ Str.ofString "k" → mm y = if y = Str.ofString "chain" then some (Value.ref qa) else if y = Str.ofString "mark" then ov else if y = Str.ofString "table" then some (Value.ref T) else List.lookup y [(Str.ofString "kind", Value.int kind tkk), (Str.ofString "marks", Value.ref ma), (Str.ofString "chains", Value.ref ca)].reverse) ∧ ∃ vs n, nn = (I, io) :: (T, listOf vs.toArray n) :: news ∧ IntsAre vs ((List.range j).foldl (put1 kind c) ((css.take i).foldl (chainPut kind) ([endOf kind, endOf kind] ++ bs.map (markVal kind)))))
        c.length (by assumption) F6 N6 hR (by omega) (by omega) (by omega) (by omega) (by omega) ⟨rfl, rfl, ?_, _, _, rfl, I5⟩ ?_ ?_ ?_
      · intro y hy
        by_cases hc : y = Str.ofString "chain"
        · simp only [hc, if_true]
        · simp only [hc, hy, if_false]
      · rintro j _ _ _ g ⟨_, _, _, vs, n, rfl, _⟩ _ p hp
        rcases List.mem_cons.mp hp with rfl | hp
        · exact Nat.ne_of_lt ltI3
        rcases List.mem_cons.mp hp with rfl | hp
        · exact Nat.ne_of_lt ltT3
        · exact allLt_ne ltN3 p hp
      · rintro I2 j t _ _ _ io2 hp4 tk4 gg hI2 hj ⟨rfl, rfl, hmm, vs7, n7, rfl, I7⟩ F7 N7
        obtain ⟨o3, rfl⟩ := names1 hmm
        clear F6 N6 hmm I5 hR
        have hTI2 : @LT.lt Nat _ T I2 := hI2 ▸ ltT3
        have hII2 : @LT.lt Nat _ I I2 := hI2 ▸ ltI3
        have hNI2 : AllLt I2 news := hI2 ▸ ltN3
        have hl7 : (List.foldl (put1 kind c) (List.foldl (chainPut kind) ([endOf kind, endOf kind] ++ List.map (markVal kind) bs) (List.take i css)) (List.range j)).length = bs.length + 2 := by rw [put1_len]; exact hl5
        obtain ⟨hb1, hb2⟩ := hc2 (c.getD ((0 : Int) + (j : Nat)).toNat 0) (by
          rw [show ((0 : Int) + (j : Nat)).toNat = j by omega, List.getD_eq_getElem?_getD, List.getElem?_eq_getElem hj]; exact List.getElem_mem hj)
        k_steps
        · have hjc : j + 1 < c.length := by omega
          rename Fr _ _ _ _ => F'
          rename News _ _ _ _ => N'
          rename IntsAre _ (List.set _ _ _) => hi'
          refine ⟨g', _, _, ⟨_, _, _, rfl⟩, F', nsub N' (fun p hp => hp), rfl, rfl, fun y hy => ?_, _, _, rfl, ?_⟩
          · simp only [hy, if_false]
          · rw [List.range_succ, List.foldl_append]
            rw [show ((0 : Int) + (j : Nat)).toNat = j by omega] at hi'
            rw [show ((0 : Int) + (j : Nat) + 1).toNat = j + 1 by omega] at hi'
            show IntsAre _ (put1 kind c _ j)
            rw [put1, if_pos hjc]
            exact hi'
        · have hjc : ¬ j + 1 < c.length := by omega
          rename Fr _ _ _ _ => F'
          rename News _ _ _ _ => N'
          rename IntsAre _ (List.set _ _ _) => hi'
          refine ⟨g', _, _, ⟨_, _, _, rfl⟩, F', nsub N' (fun p hp => List.mem_cons_of_mem _ hp), rfl, rfl, fun y hy => ?_, _, _, rfl, ?_⟩
          · simp only [hy, if_false]
          · rw [List.range_succ, List.foldl_append]
            rw [show ((0 : Int) + (j : Nat)).toNat = j by omega] at hi'
            show IntsAre _ (put1 kind c _ j)
            rw [put1, if_neg hjc]
            exact hi'
      · rintro _ _ _ hp4 tk4 gg ⟨rfl, rfl, hmm, vs7, n7, rfl, I7⟩ F7 N7
        obtain ⟨o3, rfl⟩ := names1 hmm
        clear F6 N6 hmm I5 hR
        k_steps
        rename Fr _ _ _ _ => F'
        rename News _ _ _ _ => N'
        refine ⟨g', _, _, ⟨_, _, _, rfl⟩, F', nsub N' (fun p hp => hp), rfl, rfl, fun y hy hy2 => ?_, _, _, rfl, ?_⟩
        · simp only [hy, hy2, if_false]
        · rw [List.take_add_one, hci, List.foldl_append]
          exact I7
    · rintro _ _ _ hp1 tk1 gg ⟨rfl, rfl, hmm, vs5, n5, rfl, I5⟩ F5 N5
      obtain ⟨o1, o2, rfl⟩ := names2 hmm
      clear F2 N4 hmm
      k_steps
      rename Fr _ _ _ _ => F'
      rename News _ _ _ _ => N'
      rw [show (List.map (fun p => Value.ref p.1) ce).toArray.size = css.length by simp [Chs.len hcs], List.take_length] at I5
      exact leaveK_ F' N' fun F N => h _ _ _ _ _ F N lt2' I5
end
end Mine

namespace Mine

open PyProof.V
local macro_rules | `(tactic| k_asm) => `(tactic| (refine' Cx.sub ?cxa ?cxb ?cxh ?cxB ?cxF ?cxX ?cxN ?cxT; (case cxa => omega); (case cxb => omega); (case cxh => assumption); (case cxB => assumption); (case cxF => assumption); (case cxX => assumption); (case cxN => assumption); (case cxT => assumption)))
local macro_rules | `(tactic| k_all) => `(tactic| exact allLt_ne (by assumption))
local macro_rules | `(tactic| k_mem) => `(tactic| first | assumption | exact List.Mem.head _ | (refine' List.Mem.tail _ ?_; k_mem))
local macro_rules | `(tactic| walk_at "subscriptTail") => `(tactic| (k_here; (with_reducible show wpAny _ _ (subscriptTail _ _ (Value.ref _) (Value.int _ _)) _ _ _); k_dflt (refine' ol_item ?k1 ?k2 ?k3 ?k4 ?k5 ?_ rfl; (case k1 => exact isList_of (by assumption) (by k_mem)); (case k2 => assumption); (case k3 => omega); (case k4 => omega); (case k5 => omega); intro tr)))
local macro_rules | `(tactic| walk_at "call builtin:len") => `(tactic| (k_here; k_dflt (refine' ol_len ?k1 ?k2 ?k5 ?_; (case k1 => exact isList_of (by assumption) (by k_mem)); (case k2 => assumption); (case k5 => omega); intro tl tk)))
local macro_rules | `(tactic| walk_at "call builtin:list.append") => `(tactic| (k_here; k_dflt (refine' ol_append ?F ?N ?U ?k2 ?k3 ?_; (case F => assumption); (case N => assumption); (case U => k_updF); (case k2 => assumption); (case k3 => first | omega | (simp only [List.length_append, List.length_map, List.length_take, List.length_cons, List.length_nil]; omega)); intro h' vs' n' F' N' hi'; (try dsimp only at N'); (try k_sweep))))
local macro_rules | `(tactic| walk_at "setItem ref int") => `(tactic| (k_here; k_dflt (refine' ol_set ?F ?N ?U ?k2 ?k3 ?k4 ?k5 ?_; (case F => assumption); (case N => assumption); (case U => k_updF); (case k2 => assumption); (case k3 => omega); (case k4 => omega); (case k5 => omega); intro h' vs' n' F' N' hi'; (try dsimp only at N'); (try k_sweep))))
local macro_rules | `(tactic| walk_at "subscriptTail") => `(tactic| (k_here; (with_reducible show wpAny _ _ (subscriptTail _ _ (Value.ref 80) (Value.int _ _)) _ _ _); k_dflt (refine' fcv_sub ?k1 ?k2 ?k3 ?_ rfl; (case k1 => assumption); (case k2 => assumption); (case k3 => assumption); intro D hD)))
local macro_rules | `(tactic| walk_at "subscriptTail") => `(tactic| (k_here; (with_reducible show wpAny _ _ (subscriptTail _ _ (Value.ref _) (Value.str (Str.ofString "FREE_CLUSTER") _)) _ _ _); k_dflt (refine' kd_free ?k1 ?k2 ?k3 ?_ (fun _ => rfl); (case k1 => assumption); (case k2 => assumption); (case k3 => assumption); intro tr)))
local macro_rules | `(tactic| walk_at "subscriptTail") => `(tactic| (k_here; (with_reducible show wpAny _ _ (subscriptTail _ _ (Value.ref _) (Value.str (Str.ofString "MIN_DATA_CLUSTER") _)) _ _ _); k_dflt (refine' kd_min ?k1 ?k2 ?k3 ?_ (fun _ => rfl); (case k1 => assumption); (case k2 => assumption); (case k3 => assumption); intro tr)))
local macro_rules | `(tactic| walk_at "subscriptTail") => `(tactic| (k_here; (with_reducible show wpAny _ _ (subscriptTail _ _ (Value.ref _) (Value.str (Str.ofString "MAX_DATA_CLUSTER") _)) _ _ _); k_dflt (refine' kd_max ?k1 ?k2 ?k3 ?_ (fun _ => rfl); (case k1 => assumption); (case k2 => assumption); (case k3 => assumption); intro tr)))
local macro_rules | `(tactic| walk_at "subscriptTail") => `(tactic| (k_here; (with_reducible show wpAny _ _ (subscriptTail _ _ (Value.ref _) (Value.str (Str.ofString "BAD_CLUSTER") _)) _ _ _); k_dflt (refine' kd_bad ?k1 ?k2 ?k3 ?_ (fun _ => rfl); (case k1 => assumption); (case k2 => assumption); (case k3 => assumption); intro tr)))
local macro_rules | `(tactic| walk_at "subscriptTail") => `(tactic| (k_here; (with_reducible show wpAny _ _ (subscriptTail _ _ (Value.ref _) (Value.str (Str.ofString "END_OF_CLUSTER_MIN") _)) _ _ _); k_dflt (refine' kd_emin ?k1 ?k2 ?k3 ?_ (fun _ => rfl); (case k1 => assumption); (case k2 => assumption); (case k3 => assumption); intro tr)))
local macro_rules | `(tactic| walk_at "subscriptTail") => `(tactic| (k_here; (with_reducible show wpAny _ _ (subscriptTail _ _ (Value.ref _) (Value.str (Str.ofString "END_OF_CLUSTER_MAX") _)) _ _ _); k_dflt (refine' kd_emax ?k1 ?k2 ?k3 ?_ (fun _ => rfl); (case k1 => assumption); (case k2 => assumption); (case k3 => assumption); intro tr)))
local macro_rules | `(tactic| walk_at "call ref") => `(tactic| (k_here; (with_reducible show wpAny _ _ (call (Value.ref 65) _ _) _ _ _); refine wpAny_call ?_; k_dflt (refine' initck_ok ?c1 ?_ ?_; (case c1 => exact ⟨by assumption, by assumption, by assumption, by assumption, by assumption, by assumption, rfl, rfl, by assumption, by omega, by omega⟩)); rotate_left; (intro hx; cases hx); intro _ h' tk' F' N'; (try k_sweep)))

def GCtxt (w : World) (h₀ : Heap) (vol dv fat : Addr) (bpc kind : Int) (fvs : List Value) (nf : Nat) (h : Heap) : Prop :=
  h₀.StaysIn h ∧ ∃ t ffc ro nd, ∀ q ∈ [(vol, instObj 316 dv), (dv, dictOf (volD w t bpc ffc kind (.ref fat) true ro) nd), (fat, listOf fvs.toArray nf)], h.get? q.1 = some q.2

section
variable {w : World} {p : Program} {loose : List Str} {mean : ExcName → Option Value} {mg mb : Str → Option Value}
  {base h₀ : Heap} {outer : List Env} {A₀ A : Around} {env : Env} {L : Addr} {m : Str → Option Value} {news rest : List (Addr × Obj)} {s : Shared} {R : Result → Shared → Prop}
set_option maxHeartbeats 2000000 in
theorem gen_ok {kind bpc ffc : Int} {vol dv fat : Addr} {t : Nat → Tok} {ro : Bool} {nd nf : Nat} {fvs : List Value} {tab chain : List Int} {first : Int} {tf : Tok}
    (C : Cx 12 w p loose mean mg mb base h₀ outer A₀ A env L m ((vol, instObj 316 dv) :: (dv, dictOf (volD w t bpc ffc kind (.ref fat) true ro) nd) :: (fat, listOf fvs.toArray nf) :: rest) s.heap) (hk : KindOk kind)
    (hi : IntsAre fvs tab) (hlen : tab.length ≤ 100) (hc0 : chain.getD 0 0 = first) (hcn : 0 < chain.length)
    (hcv : ∀ j, j < chain.length → 2 ≤ chain.getD j 0 ∧ chain.getD j 0 < tab.length ∧ tab.getD (chain.getD j 0).toNat 0 = if j + 1 < chain.length then chain.getD (j + 1) 0 else endOf kind)
    (h : ∀ h' tk' (G : Addr) oG a ao gs, Fr h₀ L h' m → News h₀ L h' ((a, ao) :: (G, oG) :: (vol, instObj 316 dv) :: (dv, dictOf (volD w t bpc ffc kind (.ref fat) true ro) nd) :: (fat, listOf fvs.toArray nf) :: rest) → G < a → (∀ p ∈ ((vol, instObj 316 dv) :: (dv, dictOf (volD w t bpc ffc kind (.ref fat) true ro) nd) :: (fat, listOf fvs.toArray nf) :: rest), p.1 < G) → (∃ nm qn, ao = ({ cls := .type "generator", data := .fields #[.int s.gens.size 0, nm, qn] } : Obj)) → (∀ tk gens', gs.Goes (model PySem.Challenge.rw_iw0017_01.row.prog w) A.in1 (gEnd G) (gProto G (GCtxt w h₀ vol dv fat bpc kind fvs nf) (fun i v => ∃ t, v = .int (chain.getD i 0) t) chain.length) chain.length (.send .none) { s with heap := h', toks := tk, gens := gens' }) → R (.ok (.ret (.ref a))) { s with heap := h', toks := tk', gens := s.gens.push gs }) :
    codeAny (model PySem.Challenge.rw_iw0017_01.row.prog w) A (.call (.ref 292) ⟨[.ref vol, .int first tf], []⟩) R s := by
  obtain ⟨B, F, X, N, T, fr, fa, fk, hh, room, units⟩ := C
  revert X; k_fill; intro X
  refine' code_gen (binds := [(Str.ofString "self", .ref vol), (Str.ofString "first_cluster", .int first tf)]) B F X N T fr fa fk ?ho ?hcd ?hroom ?hbind ?hloc ?_ ?c2 ?c3 ?c4 ?c5
  case ho => k_dflt k_is
  case hcd => k_dflt k_is
  case hroom => exact Nat.lt_trans (by omega) (show 900 < recursionLimit from by decide)
  case hbind => exact BindsTo.of_eq rfl
  case hloc => exact locs rfl
  case c2 => exact rfl
  case c3 => exact rfl
  case c4 => exact rfl
  case c5 => decide
  intro g' L' h1 ao FG' F' N' B' X' T' lt1 hsz up hL1 hgq hback hao
  obtain ⟨oG, es, ep, hoG, hoGd, _⟩ := F'.ns
  obtain ⟨nm, qn, rfl⟩ := hao
  have upp : ∀ b o, s.heap.get? b = some o → (h1.push ({ cls := .type "generator", data := .fields #[.int s.gens.size 0, nm, qn] } : Obj)).get? b = some o := fun b o e => Heap.get?_push_of_some _ (up b o e)
  have hLs : @LT.lt Nat _ L s.heap.objs.size := by
    obtain ⟨oL, _, _, hoL, _⟩ := F.ns
    exact Heap.lt_size hoL
  refine h _ _ L' oG _ ({ cls := .type "generator", data := .fields #[.int s.gens.size 0, nm, qn] } : Obj) _ ⟨F.ns.keeps upp, fun b o e => upp b o (F.keep b o e), F.above⟩ ?_ ?_ lt1 ⟨nm, qn, rfl⟩ ?_
  · intro p hp
    rcases List.mem_cons.mp hp with rfl | hp
    · refine ⟨Heap.get?_push_size _ rfl, ?_, ?_⟩
      · have : @LT.lt Nat _ L h1.objs.size := by have : @LT.lt Nat _ L' h1.objs.size := hL1; omega
        exact Nat.ne_of_gt this
      · cases q : h₀.get? h1.objs.size with
        | none => rfl
        | some o => exact absurd (Heap.lt_size (up _ _ (F.keep _ _ q))) (Nat.lt_irrefl _)
    rcases List.mem_cons.mp hp with rfl | hp
    · refine ⟨Heap.get?_push_of_some _ hoG, ?_, ?_⟩
      · rw [← hsz]; exact Nat.ne_of_gt hLs
      · cases q : h₀.get? L' with
        | none => rfl
        | some o =>
          have := Heap.lt_size (F.keep _ _ q)
          rw [hsz] at this
          exact absurd this (Nat.lt_irrefl _)
    · exact ⟨upp _ _ (N p hp).1, (N p hp).2⟩
  · exact hL1
  intro tk gens'
  refine ⟨rfl, seg_func (seg_execs_split 7 ?_)⟩
  dsimp only [List.take, List.drop]
  have N0 := N'
  have F0 := F'
  replace N' := (News.push F' N' ({ cls := .type "generator", data := .fields #[.int s.gens.size 0, nm, qn] } : Obj))
  replace F' := Fr.push F' ({ cls := .type "generator", data := .fields #[.int s.gens.size 0, nm, qn] } : Obj)
  have F00 := And.intro trivial F'
  replace N' := nsub N' (news' := (vol, instObj 316 dv) :: (dv, dictOf (volD w t bpc ffc kind (.ref fat) true ro) nd) :: (fat, listOf fvs.toArray nf) :: (h1.objs.size, ({ cls := .type "generator", data := .fields #[.int s.gens.size 0, nm, qn] } : Obj)) :: rest) (fun p hp => by
    simp only [List.mem_cons] at hp ⊢
    rcases hp with hp | hp | hp | hp | hp
    · exact .inr (.inl hp)
    · exact .inr (.inr (.inl hp))
    · exact .inr (.inr (.inr (.inl hp)))
    · exact .inl hp
    · exact .inr (.inr (.inr (.inr hp))))
  refine over_func fr hh fun A2 hh2 fr2 room2 units2 => ?_
  have keepN := And.intro trivial N
  have keepFG := And.intro trivial FG'
  clear FG'
  have keepF := And.intro trivial F
  clear h N0 F0
  have X0 := And.intro trivial X
  have T0 := And.intro trivial T
  clear B F X T fr fa fk N
  k_steps
  rename Fr _ _ _ _ => F1
  rename News _ _ _ _ => N1
  rename KD _ _ => hD
  rename Heap => h2
  refine seg_execs_cons (seg_While fun pp => ?_)
  refine seg_with (C := L') rfl rfl ?_ ?_ fun fs hs1 hs2 hs3 hs4 => ?_
  · exact hh
  · intro s₀ s₁ hs
    refine seg_leaf (.ok (.ret .none)) ?_
    exact seg_end (.ok (.ret .none)) ⟨rfl, rfl, hs⟩
  have nums : 100 < maxOf kind ∧ maxOf kind < eminOf kind ∧ eminOf kind ≤ endOf kind ∧ endOf kind ≠ 4080 ∧ endOf kind < 1000000000 := by
    rcases hk with rfl | rfl | rfl <;> decide
  obtain ⟨num1, num2, num3, num4, num5⟩ := nums
  have hL0 : ∀ q ∈ [(vol, instObj 316 dv), (dv, dictOf (volD w t bpc ffc kind (.ref fat) true ro) nd), (fat, listOf fvs.toArray nf)], h₀.get? q.1 = none ∧ q.1 ≠ L' := by
    intro q hq
    have hq' : q ∈ ((vol, instObj 316 dv) :: (dv, dictOf (volD w t bpc ffc kind (.ref fat) true ro) nd) :: (fat, listOf fvs.toArray nf) :: rest) := by
      simp only [List.mem_cons, List.not_mem_nil, or_false] at hq ⊢
      rcases hq with hq | hq | hq
      · exact .inl hq
      · exact .inr (.inl hq)
      · exact .inr (.inr (.inl hq))
    exact ⟨(keepN.2 q hq').2.2, Nat.ne_of_lt (lt1 q hq')⟩
  have habove : h₀.objs.size ≤ L' := Nat.le_trans keepF.2.above (hsz ▸ Nat.le_of_lt hLs)
  have hst0 : h₀.StaysIn h2 := fun b o e => F1.keep b o (keepFG.2.keep b o e)
  obtain ⟨t1, t2, t3, t4, D, hD, F2⟩ : ∃ t1 t2 t3 t4 D, KD kind D ∧ Fr h₀ L' h2 (fun y => if y = Str.ofString "i" then some (Value.int first tf) else if y = Str.ofString "eoc_max" then some (Value.int (endOf kind) t1) else if y = Str.ofString "eoc_min" then some (Value.int (eminOf kind) t2)
    else if y = Str.ofString "max_data_cluster" then some (Value.int (maxOf kind) t3) else if y = Str.ofString "min_data_cluster" then some (Value.int 2 t4) else if y = Str.ofString "cluster_vals" then some (Value.ref D)
    else List.lookup y [(Str.ofString "self", Value.ref vol), (Str.ofString "first_cluster", Value.int first tf)].reverse) := ⟨_, _, _, _, _, hD, F1.ns, hst0, habove⟩
  refine seg_ind (fun n s₀ s => ∃ (j : Nat) (tx t1 t2 t3 t4 : Tok) (D : Addr), j + n = chain.length ∧ 0 < n ∧ KD kind D ∧ GenSince L' [] s₀ s ∧ GCtxt w h₀ vol dv fat bpc kind fvs nf s.heap ∧ Fr h₀ L' s.heap (fun y =>
    if y = Str.ofString "i" then some (Value.int (chain.getD j 0) tx) else if y = Str.ofString "eoc_max" then some (Value.int (endOf kind) t1) else if y = Str.ofString "eoc_min" then some (Value.int (eminOf kind) t2)
    else if y = Str.ofString "max_data_cluster" then some (Value.int (maxOf kind) t3) else if y = Str.ofString "min_data_cluster" then some (Value.int 2 t4) else if y = Str.ofString "cluster_vals" then some (Value.ref D)
    else List.lookup y [(Str.ofString "self", Value.ref vol), (Str.ofString "first_cluster", Value.int first tf)].reverse)) ?_ _ _ _ ⟨0, tf, t1, t2, t3, t4, D, by omega, hcn, hD, ?_, ?_, ?_⟩
  rotate_left
  · refine ⟨h2, _, rfl, fun b o hb _ e => ?_⟩
    by_cases hba : b = h1.objs.size
    · subst hba
      have e2 := Heap.get?_push_size h1 (o := ({ cls := .type "generator", data := .fields #[.int s.gens.size 0, nm, qn] } : Obj)) rfl
      rw [e] at e2
      cases e2
      exact (N1 _ (.tail _ (.tail _ (.tail _ (.head _))))).1
    · have e1 : h1.get? b = some o := by
        have q := Heap.lt_size e
        rw [Heap.size_push] at q
        have q : @LT.lt Nat _ b (h1.objs.size + 1) := q
        have q2 : ¬ @Eq Nat b h1.objs.size := hba
        have q3 : @LT.lt Nat _ b h1.objs.size := by omega
        simpa [Heap.get?, Heap.push, Array.getElem?_push, Nat.ne_of_lt q3] using e
      have e2 := hback b o hb e1
      by_cases hbn : b ∈ (((vol, instObj 316 dv) :: (dv, dictOf (volD w t bpc ffc kind (.ref fat) true ro) nd) :: (fat, listOf fvs.toArray nf) :: rest) : List (Addr × Obj)).map (·.1)
      · obtain ⟨p, hp, rfl⟩ := List.mem_map.mp hbn
        have e3 := (keepN.2 p hp).1
        rw [e2] at e3
        cases e3
        refine (N1 p ?_).1
        simp only [List.mem_cons] at hp ⊢
        rcases hp with hp | hp | hp | hp
        · exact .inl hp
        · exact .inr (.inl hp)
        · exact .inr (.inr (.inl hp))
        · exact .inr (.inr (.inr (.inr hp)))
      · refine F1.keep b o ?_
        rw [hgq]
        exact hideAll_get _ e2 hbn
  · refine ⟨hst0, t, ffc, ro, nd, fun q hq => ?_⟩
    refine (N1 q ?_).1
    simp only [List.mem_cons, List.not_mem_nil, or_false] at hq ⊢
    rcases hq with hq | hq | hq
    · exact .inl hq
    · exact .inr (.inl hq)
    · exact .inr (.inr (.inl hq))
  · rw [hc0]
    exact F2
  clear F1 F2 N1 keepFG F00 B' X' T' hst0 hD
  have X := X0.2
  have T := T0.2
  have mkN : ∀ hx : Heap, GCtxt w h₀ vol dv fat bpc kind fvs nf hx → ∃ t' ffc' ro' nd', News h₀ L' hx ((vol, instObj 316 dv) :: (dv, dictOf (volD w t' bpc ffc' kind (.ref fat) true ro') nd') :: (fat, listOf fvs.toArray nf) :: othersOf h₀ L' hx) := by
    rintro hx ⟨_, t', ffc', ro', nd', hq1⟩
    refine ⟨t', ffc', ro', nd', fun q hq => ?_⟩
    simp only [List.mem_cons] at hq
    rcases hq with rfl | rfl | rfl | hq
    · exact ⟨hq1 _ (.head _), (hL0 _ (.head _)).2, (hL0 _ (.head _)).1⟩
    · exact ⟨hq1 _ (.tail _ (.head _)), (hL0 _ (.tail _ (.head _))).2, (hL0 _ (.tail _ (.head _))).1⟩
    · exact ⟨hq1 _ (.tail _ (.tail _ (.head _))), (hL0 _ (.tail _ (.tail _ (.head _)))).2, (hL0 _ (.tail _ (.tail _ (.head _)))).1⟩
    · exact othersOf_news q hq
  rintro n s₀ s1 ⟨j, tx, t1, t2, t3, t4, D, hjn, hn0, hD, hsince, hctx1, F1⟩ ih
  obtain ⟨t', ffc', ro', nd', N1⟩ := mkN _ hctx1
  obtain ⟨hv1, hv2, hv3⟩ := hcv j (by omega)
  have hF1 := And.intro trivial F1
  refine seg_whileLoop ?_
  refine over_loop hs3 fun A2 hh2 => ?_
  k_steps
  refine seg_execs_cons (seg_If ?_)
  refine over_loop hs3 fun A3 hh3 => ?_
  by_cases hj : j + 1 < chain.length
  · rw [if_pos hj] at hv3
    obtain ⟨hw1, hw2, _⟩ := hcv (j + 1) hj
    obtain ⟨n', rfl⟩ : ∃ n', n = n' + 1 := ⟨n - 1, by omega⟩
    k_steps
    refine ⟨fun _ => ?_, fun hb => absurd hb (by simp only [decide_eq_false_iff_not]; omega)⟩
    refine seg_execs_cons ?_
    refine seg_Expr_Yield hs1 rfl hs2 ?_
    refine over_loop hs3 fun A4 hh4 => ?_
    k_steps
    rename_i kap hkap
    obtain ⟨oF, _, _, hoF, _⟩ := id hF1.2.ns
    refine ⟨⟨j, by omega, tx, rfl⟩, hsince.step fun b o _ _ e => e, ⟨oF, hoF⟩, fun s2 hC2 hctx2 => hkap .none s2 ?_⟩
    show Seg _ _ _ _ _ _ _ _ _ _
    refine seg_execs_nil (seg_execs_cons (seg_wrap ?_))
    refine over_loop hs3 fun A5 hh5 => ?_
    obtain ⟨t5, ffc5, ro5, nd5, N5⟩ := mkN _ hctx2
    have F5 := Fr.mk (hF1.2.ns.at' fun o e => hC2.trans e) hctx2.1 habove
    clear F1 N1
    have hF5 := And.intro trivial F5
    k_steps
    rename Fr _ _ _ _ => F6
    rename News _ _ _ _ => N6
    rw [hv3] at F6
    refine seg_execs_nil (seg_again rfl (ih n' _ _ (by omega) ⟨j + 1, _, t1, t2, t3, t4, D, by omega, by omega, hD, since_of (pre := [_, _, _]) hF5.2 F6 N6, ⟨F6.keep, t5, ffc5, ro5, nd5, fun q hq => (N6 q ?_).1⟩, fr_again F6⟩))
    exact List.mem_append_left _ hq
  · rw [if_neg hj] at hv3
    k_steps
    refine ⟨fun hb => absurd hb (by simp only [decide_eq_true_eq]; omega), fun _ => ?_⟩
    refine seg_execs_cons ?_
    refine seg_If ?_
    refine over_loop hs3 fun A4 hh4 => ?_
    k_steps
    all_goals try (exfalso; omega)
    all_goals
      refine ⟨fun hb => (nomatch hb), fun _ => ?_⟩
      refine seg_execs_cons ?_
      refine seg_If ?_
      refine over_loop hs3 fun A5 hh5 => ?_
      k_steps
      refine ⟨fun _ => ?_, fun hb => absurd hb (by simp only [decide_eq_false_iff_not]; omega)⟩
      obtain rfl : n = 1 := by omega
      refine seg_execs_cons ?_
      refine seg_Expr_Yield hs1 rfl hs2 ?_
      refine over_loop hs3 fun A6 hh6 => ?_
      k_steps
      rename_i kap hkap
      obtain ⟨oF, _, _, hoF, _⟩ := id hF1.2.ns
      refine ⟨⟨j, by omega, tx, rfl⟩, hsince.step fun b o _ _ e => e, ⟨oF, hoF⟩, fun s2 hC2 hctx2 => hkap .none s2 ?_⟩
      show Seg _ _ _ _ _ _ _ _ _ _
      refine seg_execs_cons (seg_wrap ?_)
      refine over_loop hs3 fun A7 hh7 => ?_
      k_steps
      exact hs4 _ _ (GenSince.step (GenSince.refl _ _ _) fun b o _ _ e => e)
end
end Mine

namespace Mine

open PyProof.V
local macro_rules | `(tactic| k_asm) => `(tactic| (refine' Cx.sub ?cxa ?cxb ?cxh ?cxB ?cxF ?cxX ?cxN ?cxT; (case cxa => omega); (case cxb => omega); (case cxh => assumption); (case cxB => assumption); (case cxF => assumption); (case cxX => assumption); (case cxN => assumption); (case cxT => assumption)))
local macro_rules | `(tactic| k_all) => `(tactic| exact allLt_ne (by assumption))
local macro_rules | `(tactic| k_mem) => `(tactic| first | assumption | exact List.Mem.head _ | (refine' List.Mem.tail _ ?_; k_mem))
local macro_rules | `(tactic| walk_at "subscriptTail") => `(tactic| (k_here; (with_reducible show wpAny _ _ (subscriptTail _ _ (Value.ref _) (Value.int _ _)) _ _ _); k_dflt (refine' ol_item ?k1 ?k2 ?k3 ?k4 ?k5 ?_ rfl; (case k1 => exact isList_of (by assumption) (by k_mem)); (case k2 => assumption); (case k3 => omega); (case k4 => omega); (case k5 => omega); intro tr)))
local macro_rules | `(tactic| walk_at "call builtin:len") => `(tactic| (k_here; k_dflt (refine' ol_len ?k1 ?k2 ?k5 ?_; (case k1 => exact isList_of (by assumption) (by k_mem)); (case k2 => assumption); (case k5 => omega); intro tl tk)))
local macro_rules | `(tactic| walk_at "call builtin:list.append") => `(tactic| (k_here; k_dflt (refine' ol_append ?F ?N ?U ?k2 ?k3 ?_; (case F => assumption); (case N => assumption); (case U => k_updF); (case k2 => assumption); (case k3 => first | omega | (simp only [List.length_append, List.length_map, List.length_take, List.length_cons, List.length_nil]; omega)); intro h' vs' n' F' N' hi'; (try dsimp only at N'); (try k_sweep))))
local macro_rules | `(tactic| walk_at "setItem ref int") => `(tactic| (k_here; k_dflt (refine' ol_set ?F ?N ?U ?k2 ?k3 ?k4 ?k5 ?_; (case F => assumption); (case N => assumption); (case U => k_updF); (case k2 => assumption); (case k3 => omega); (case k4 => omega); (case k5 => omega); intro h' vs' n' F' N' hi'; (try dsimp only at N'); (try k_sweep))))
local macro_rules | `(tactic| walk_at "exec For Name Name cons nil") => `(tactic| (k_here; refine Halt.go ?_))
local macro_rules | `(tactic| walk_at "exec For Name Call cons nil") => `(tactic| (k_here; refine Halt.go ?_))
local macro_rules | `(tactic| walk_at "exec For Name Call cons cons") => `(tactic| (k_here; refine Halt.go ?_))
local macro_rules | `(tactic| walk_at "exec For Tuple Call cons nil") => `(tactic| (k_here; refine Halt.go ?_))
local macro_rules | `(tactic| walk_at "pyIter ref") => `(tactic| (k_here; refine Halt.go ?_))
local macro_rules | `(tactic| walk_at "call ref") => `(tactic| (k_here; (with_reducible show wpAny _ _ (call (Value.ref 292) _ _) _ _ _); refine Halt.go ?_))
section
variable {w : World} {p : Program} {loose : List Str} {mean : ExcName → Option Value} {mg mb : Str → Option Value}
  {base h₀ : Heap} {outer : List Env} {A₀ A : Around} {env : Env} {L : Addr} {m : Str → Option Value} {news rest : List (Addr × Obj)} {s : Shared} {R : Result → Shared → Prop}
set_option maxHeartbeats 2000000 in
theorem walk_ok {kind bpc ffc : Int} {vol dv fat : Addr} {t : Nat → Tok} {ro : Bool} {nd nf : Nat} {fvs : List Value} {tab chain : List Int} {first : Int} {tf : Tok}
    (C : Cx 16 w p loose mean mg mb base h₀ outer A₀ A env L m ((vol, instObj 316 dv) :: (dv, dictOf (volD w t bpc ffc kind (.ref fat) true ro) nd) :: (fat, listOf fvs.toArray nf) :: rest) s.heap) (hk : KindOk kind)
    (hi : IntsAre fvs tab) (hlen : tab.length ≤ 100) (hc0 : chain.getD 0 0 = first) (hcn : 0 < chain.length) (hc30 : chain.length ≤ 30)
    (hcv : ∀ j, j < chain.length → 2 ≤ chain.getD j 0 ∧ chain.getD j 0 < tab.length ∧ tab.getD (chain.getD j 0).toNat 0 = if j + 1 < chain.length then chain.getD (j + 1) 0 else endOf kind)
    (h : ∀ h' tk' D vs n, Fr h₀ L h' m → News h₀ L h' ((D, listOf vs.toArray n) :: (vol, instObj 316 dv) :: (dv, dictOf (volD w t bpc ffc kind (.ref fat) true ro) nd) :: (fat, listOf fvs.toArray nf) :: rest) →
      (∀ p ∈ ((vol, instObj 316 dv) :: (dv, dictOf (volD w t bpc ffc kind (.ref fat) true ro) nd) :: (fat, listOf fvs.toArray nf) :: rest), p.1 < D) → IntsAre vs chain → R (.ok (.ret (.ref D))) { s with heap := h', toks := tk', gens := s.gens.push .finished }) :
    codeAny (model PySem.Challenge.rw_iw0017_01.row.prog w) A (.call (.ref 355) ⟨[.ref vol, .int first tf], []⟩) R s := by
  obtain ⟨B, F, X, N, T, fr, fa, fk, hh, room, units⟩ := C
  revert X; k_fill; intro X
  refine' code_def (binds := [(Str.ofString "volume", .ref vol), (Str.ofString "first", .int first tf)]) B F X N T fr fa fk ?ho ?hcd ?hroom ?hbind ?hloc ?_ ?c2 ?c3 ?c4 ?c5
  case ho => k_dflt k_is
  case hcd => k_dflt k_is
  case hroom => exact Nat.lt_trans (by omega) (show 900 < recursionLimit from by decide)
  case hbind => exact BindsTo.of_eq rfl
  case hloc => exact locs rfl
  case c2 => exact rfl
  case c3 => exact rfl
  case c4 => exact rfl
  case c5 => decide
  intro g' L' h' FG' F' N' B' X' T'
  k_lift B'
  k_fold
  clear B F X N T
  k_steps
  refine ⟨?_⟩
  rename Fr _ _ _ _ => F1
  rename News _ _ _ _ => N1
  refine For_gen rfl rfl ?_ ?_ ?_
  · exact hh
  · show A.depth + 1 < _
    exact Nat.lt_trans (by omega) (show 900 < recursionLimit from by decide)
  k_steps
  refine ⟨?_⟩
  rename_i Fd h1 l1 h2
  have hAll : AllLt Fd ((vol, instObj 316 dv) :: (dv, dictOf (volD w t bpc ffc kind (.ref fat) true ro) nd) :: (fat, listOf fvs.toArray nf) :: rest) := by
    refine ⟨l1.1, l1.2.1, l1.2.2.1, l1.2.2.2⟩
  refine wpAny_call ?_
  refine gen_ok (chain := chain) (tab := tab) (rest := (Fd, listOf [].toArray 0) :: rest) ⟨B', F1, X', nsub N1 (fun p hp => by
      simp only [List.mem_cons] at hp ⊢
      rcases hp with hp | hp | hp | hp | hp
      · exact .inr (.inl hp)
      · exact .inr (.inr (.inl hp))
      · exact .inr (.inr (.inr (.inl hp)))
      · exact .inl hp
      · exact .inr (.inr (.inr (.inr hp)))), T', Around.frames_deeper B'.stack, rfl, rfl, hh, by show A.depth + 1 + 12 < 900; omega, by show A.units + 3 + 8 * 12 < 5000; omega⟩ hk hi hlen hc0 hcn hcv ?_
  intro h3 tk3 G oG a ao gs F3 N3 hGa hltG hao hgo
  have hFdG : @LT.lt Nat _ Fd G := hltG (Fd, listOf [].toArray 0) (.tail _ (.tail _ (.tail _ (.head _))))
  have hGaN : @LT.lt Nat _ G a := hGa
  have hG : ∀ p ∈ ((Fd, listOf [].toArray 0) :: (vol, instObj 316 dv) :: (dv, dictOf (volD w t bpc ffc kind (.ref fat) true ro) nd) :: (fat, listOf fvs.toArray nf) :: rest : List (Addr × Obj)), p.1 < G := by
    intro p hp
    refine hltG p ?_
    simp only [List.mem_cons] at hp ⊢
    rcases hp with hp | hp | hp | hp | hp
    · exact .inr (.inr (.inr (.inl hp)))
    · exact .inl hp
    · exact .inr (.inl hp)
    · exact .inr (.inr (.inl hp))
    · exact .inr (.inr (.inr (.inr hp)))
  refine ⟨a, G, ao, oG, chain.length, gs, s.gens, g', _, (Fd, listOf [].toArray 0) :: (vol, instObj 316 dv) :: (dv, dictOf (volD w t bpc ffc kind (.ref fat) true ro) nd) :: (fat, listOf fvs.toArray nf) :: rest,
    (fun i mm nn => (∀ y, y ≠ Str.ofString "cluster" → mm y = (if y = Str.ofString "found" then some (Value.ref Fd) else List.lookup y [(Str.ofString "volume", Value.ref vol), (Str.ofString "first", Value.int first tf)].reverse)) ∧ ∃ vs n, nn = (Fd, listOf vs.toArray n) :: (vol, instObj 316 dv) :: (dv, dictOf (volD w t bpc ffc kind (.ref fat) true ro) nd) :: (fat, listOf fvs.toArray nf) :: rest ∧ IntsAre vs (chain.take i)), _, _,
    rfl, rfl, ?_, Nat.ne_of_gt hGa, T'.nolimit, F3, nsub N3 (fun p hp => ?_), ⟨fun y _ => rfl, [], 0, rfl, .nil⟩, hgo _ _, ?_, ?_, ?_, ?_⟩
  · obtain ⟨nm, qn, rfl⟩ := hao
    exact ⟨_, nm, qn, (N3 _ (.head _)).1, rfl, rfl, rfl⟩
  · simp only [List.mem_cons] at hp ⊢
    rcases hp with hp | hp | hp | hp | hp | hp | hp
    · exact .inl hp
    · exact .inr (.inl hp)
    · exact .inr (.inr (.inr (.inr (.inr (.inl hp)))))
    · exact .inr (.inr (.inl hp))
    · exact .inr (.inr (.inr (.inl hp)))
    · exact .inr (.inr (.inr (.inr (.inl hp))))
    · exact .inr (.inr (.inr (.inr (.inr (.inr hp)))))
  · rintro i mm nn oC' hx ⟨_, vs, n, rfl, _⟩ Fx Nx
    refine ⟨Fx.keep, t, ffc, ro, nd, fun q hq => (Nx q (.tail _ (.tail _ (.tail _ ?_)))).1⟩
    exact List.mem_append_left rest hq
  · rintro i mm nn ⟨_, vs, n, rfl, _⟩ p hp
    rcases List.mem_cons.mp hp with rfl | hp
    · exact Nat.ne_of_lt hFdG
    · exact Nat.ne_of_lt (hG p (.tail _ hp))
  · rintro i v mm nn oC' hx tk4 gs' hilt ⟨tv, rfl⟩ ⟨hmm, vs, n, rfl, Ix⟩ Fx Nx
    obtain ⟨ov, rfl⟩ := names1 hmm
    clear hgo N3 F3 N1 F1 hmm h
    have hl1 : (List.take i chain).length ≤ 30 := by rw [List.length_take]; omega
    have hl2 : (List.take i chain ++ [chain.getD i 0]).length ≤ 30 := by rw [List.length_append, List.length_take, List.length_singleton]; omega
    k_steps
    rename Fr _ _ _ _ => F'
    rename News _ _ _ _ => N'
    rename IntsAre _ (_ ++ [_]) => hi'
    refine ⟨_, _, _, _, rfl, F', N', fun y hy => ?_, _, _, rfl, ?_⟩
    · simp only [hy, if_false]
    · have e : List.take (i + 1) chain = List.take i chain ++ [chain.getD i 0] := by
        rw [List.take_add_one, List.getElem?_eq_getElem hilt, List.getD_eq_getElem?_getD, List.getElem?_eq_getElem hilt]
        rfl
      rw [e]
      exact hi'
  · rintro mm nn hx tk4 ⟨hmm, vs, n, rfl, Ix⟩ Fx Nx
    obtain ⟨ov, rfl⟩ := names1 hmm
    clear N3 F3 N1 F1 hmm
    rw [List.take_length] at Ix
    k_steps
    rename Fr _ _ _ _ => F'
    rename News _ _ _ _ => N'
    exact leaveK_ F' N' fun F N => h _ _ _ _ _ F N (allLt_lt hAll) Ix
end
end Mine

namespace Mine

open PyProof.V
local macro_rules | `(tactic| k_asm) => `(tactic| (refine' Cx.sub ?cxa ?cxb ?cxh ?cxB ?cxF ?cxX ?cxN ?cxT; (case cxa => omega); (case cxb => omega); (case cxh => assumption); (case cxB => assumption); (case cxF => assumption); (case cxX => assumption); (case cxN => assumption); (case cxT => assumption)))
local macro_rules | `(tactic| k_all) => `(tactic| first | assumption | exact allLt_ne (by assumption))
local macro_rules | `(tactic| k_mem) => `(tactic| first | assumption | exact List.Mem.head _ | (refine' List.Mem.tail _ ?_; k_mem))
local macro_rules | `(tactic| walk_at "subscriptTail") => `(tactic| (k_here; (with_reducible show wpAny _ _ (subscriptTail _ _ (Value.ref _) (Value.int _ _)) _ _ _); k_dflt (refine' ol_item ?k1 ?k2 ?k3 ?k4 ?k5 ?_ rfl; (case k1 => exact isList_of (by assumption) (by k_mem)); (case k2 => assumption); (case k3 => omega); (case k4 => omega); (case k5 => omega); intro tr)))
local macro_rules | `(tactic| walk_at "call builtin:len") => `(tactic| (k_here; k_dflt (refine' ol_len ?k1 ?k2 ?k5 ?_; (case k1 => exact isList_of (by assumption) (by k_mem)); (case k2 => assumption); (case k5 => omega); intro tl tk)))
local macro_rules | `(tactic| walk_at "call builtin:list.append") => `(tactic| (k_here; k_dflt (refine' ol_append ?F ?N ?U ?k2 ?k3 ?_; (case F => assumption); (case N => assumption); (case U => k_updF); (case k2 => assumption); (case k3 => first | omega | (simp only [List.length_append, List.length_map, List.length_take, List.length_cons, List.length_nil]; omega)); intro h' vs' n' F' N' hi'; (try dsimp only at N'); (try k_sweep))))
local macro_rules | `(tactic| walk_at "setItem ref int") => `(tactic| (k_here; k_dflt (refine' ol_set ?F ?N ?U ?k2 ?k3 ?k4 ?k5 ?_; (case F => assumption); (case N => assumption); (case U => k_updF); (case k2 => assumption); (case k3 => omega); (case k4 => omega); (case k5 => omega); intro h' vs' n' F' N' hi'; (try dsimp only at N'); (try k_sweep))))
local macro_rules | `(tactic| walk_at "call builtin:min") => `(tactic| (k_here; (with_reducible show wpAny _ _ (call (Value.builtin _) [Value.int _ _, Value.int _ _]) _ _ _); k_dflt (refine' own_min ?hh ?F ?N ?_; (case hh => assumption); (case F => assumption); (case N => assumption)); intro h' tk tr F' N'; (try k_sweep)))
local macro_rules | `(tactic| walk_at "call builtin:list.copy") => `(tactic| (k_here; k_dflt (refine' own_copy ?F ?N ?m ?z ?_; (case F => assumption); (case N => assumption); (case m => k_mem); (case z => omega)); intro l h' tk' F' N' l1; replace l1 := allLt_of l1; (try simp only [AllLt, and_true] at l1); (try k_sweep)))
local macro_rules | `(tactic| walk_at "subscriptTail") => `(tactic| (k_here; (with_reducible show wpAny _ _ (subscriptTail _ _ (Value.ref 80) (Value.int _ _)) _ _ _); k_dflt (refine' fcv_sub ?k1 ?k2 ?k3 ?_ rfl; (case k1 => assumption); (case k2 => assumption); (case k3 => assumption); intro D hD)))
local macro_rules | `(tactic| walk_at "subscriptTail") => `(tactic| (k_here; (with_reducible show wpAny _ _ (subscriptTail _ _ (Value.ref _) (Value.str (Str.ofString "FREE_CLUSTER") _)) _ _ _); k_dflt (refine' kd_free ?k1 ?k2 ?k3 ?_ (fun _ => rfl); (case k1 => assumption); (case k2 => assumption); (case k3 => assumption); intro tr)))
local macro_rules | `(tactic| walk_at "subscriptTail") => `(tactic| (k_here; (with_reducible show wpAny _ _ (subscriptTail _ _ (Value.ref _) (Value.str (Str.ofString "MIN_DATA_CLUSTER") _)) _ _ _); k_dflt (refine' kd_min ?k1 ?k2 ?k3 ?_ (fun _ => rfl); (case k1 => assumption); (case k2 => assumption); (case k3 => assumption); intro tr)))
local macro_rules | `(tactic| walk_at "subscriptTail") => `(tactic| (k_here; (with_reducible show wpAny _ _ (subscriptTail _ _ (Value.ref _) (Value.str (Str.ofString "MAX_DATA_CLUSTER") _)) _ _ _); k_dflt (refine' kd_max ?k1 ?k2 ?k3 ?_ (fun _ => rfl); (case k1 => assumption); (case k2 => assumption); (case k3 => assumption); intro tr)))
local macro_rules | `(tactic| walk_at "subscriptTail") => `(tactic| (k_here; (with_reducible show wpAny _ _ (subscriptTail _ _ (Value.ref _) (Value.str (Str.ofString "BAD_CLUSTER") _)) _ _ _); k_dflt (refine' kd_bad ?k1 ?k2 ?k3 ?_ (fun _ => rfl); (case k1 => assumption); (case k2 => assumption); (case k3 => assumption); intro tr)))
local macro_rules | `(tactic| walk_at "subscriptTail") => `(tactic| (k_here; (with_reducible show wpAny _ _ (subscriptTail _ _ (Value.ref _) (Value.str (Str.ofString "END_OF_CLUSTER_MIN") _)) _ _ _); k_dflt (refine' kd_emin ?k1 ?k2 ?k3 ?_ (fun _ => rfl); (case k1 => assumption); (case k2 => assumption); (case k3 => assumption); intro tr)))
local macro_rules | `(tactic| walk_at "subscriptTail") => `(tactic| (k_here; (with_reducible show wpAny _ _ (subscriptTail _ _ (Value.ref _) (Value.str (Str.ofString "END_OF_CLUSTER_MAX") _)) _ _ _); k_dflt (refine' kd_emax ?k1 ?k2 ?k3 ?_ (fun _ => rfl); (case k1 => assumption); (case k2 => assumption); (case k3 => assumption); intro tr)))
local macro_rules | `(tactic| walk_at "exec For Name Name cons nil") => `(tactic| (k_here; refine Halt.go ?_))
local macro_rules | `(tactic| walk_at "exec For Name Call cons nil") => `(tactic| (k_here; refine Halt.go ?_))
local macro_rules | `(tactic| walk_at "exec For Name Call cons cons") => `(tactic| (k_here; refine Halt.go ?_))
local macro_rules | `(tactic| walk_at "exec For Tuple Call cons nil") => `(tactic| (k_here; refine Halt.go ?_))
local macro_rules | `(tactic| walk_at "pyIter ref") => `(tactic| (k_here; refine Halt.go ?_))
local macro_rules | `(tactic| walk_at "call ref") => `(tactic| (k_here; (with_reducible show wpAny _ _ (call (Value.ref 65) _ _) _ _ _); refine wpAny_call ?_; k_dflt (refine' initck_ok ?c1 ?_ ?_; (case c1 => exact ⟨by assumption, by assumption, by assumption, by assumption, by assumption, Around.frames_deeper (Below.stack (by assumption)), rfl, rfl, by assumption, by show _ + 1 + 8 < 900; omega, by show _ + 3 + 8 * 8 < 5000; omega⟩)); rotate_left; (intro hx; cases hx); intro _ h' tk' F' N'; (try k_sweep)))
local macro_rules | `(tactic| walk_at "call ref") => `(tactic| (k_here; (with_reducible show wpAny _ _ (call (Value.ref 72) _ _) _ _ _); refine wpAny_call ?_; k_dflt (refine' rock_ok ?c1 ?_ ?_; (case c1 => exact ⟨by assumption, by assumption, by assumption, by assumption, by assumption, Around.frames_deeper (Below.stack (by assumption)), rfl, rfl, by assumption, by show _ + 1 + 8 < 900; omega, by show _ + 3 + 8 * 8 < 5000; omega⟩)); rotate_left; (intro hx; cases hx); intro _ h' tk' F' N'; (try k_sweep)))
local macro_rules | `(tactic| walk_at "setAttr ref int") => `(tactic| (k_here; (with_reducible show wpAny _ _ (setAttr (Value.ref _) (Str.ofString "bytes_per_cluster") _) _ _ _); k_dflt (refine' vset_bpc ?F ?X ?N ?hv ?U ?_; (case F => assumption); (case X => assumption); (case N => assumption); (case hv => k_mem); (case U => k_updF)); intro h' t' n' F' N'; (try dsimp only at N'); (try k_sweep)))
local macro_rules | `(tactic| walk_at "setAttr ref int") => `(tactic| (k_here; (with_reducible show wpAny _ _ (setAttr (Value.ref _) (Str.ofString "first_free_cluster") _) _ _ _); k_dflt (refine' vset_ffc ?F ?X ?N ?hv ?U ?_; (case F => assumption); (case X => assumption); (case N => assumption); (case hv => k_mem); (case U => k_updF)); intro h' t' n' F' N'; (try dsimp only at N'); (try k_sweep)))
local macro_rules | `(tactic| walk_at "setAttr ref int") => `(tactic| (k_here; (with_reducible show wpAny _ _ (setAttr (Value.ref _) (Str.ofString "fat_type") _) _ _ _); k_dflt (refine' vset_kind ?F ?X ?N ?hv ?U ?_; (case F => assumption); (case X => assumption); (case N => assumption); (case hv => k_mem); (case U => k_updF)); intro h' t' n' F' N'; (try dsimp only at N'); (try k_sweep)))
local macro_rules | `(tactic| walk_at "setAttr ref ref") => `(tactic| (k_here; (with_reducible show wpAny _ _ (setAttr (Value.ref _) (Str.ofString "fat") _) _ _ _); k_dflt (refine' vset_fat ?F ?X ?N ?hv ?U ?_; (case F => assumption); (case X => assumption); (case N => assumption); (case hv => k_mem); (case U => k_updF)); intro h' t' n' F' N'; (try dsimp only at N'); (try k_sweep)))
local macro_rules | `(tactic| walk_at "setAttr ref bool") => `(tactic| (k_here; (with_reducible show wpAny _ _ (setAttr (Value.ref _) (Str.ofString "initialized") _) _ _ _); k_dflt (refine' vset_ini ?F ?X ?N ?hv ?U ?_; (case F => assumption); (case X => assumption); (case N => assumption); (case hv => k_mem); (case U => k_updF)); intro h' t' n' F' N'; (try dsimp only at N'); (try k_sweep)))
local macro_rules | `(tactic| walk_at "setAttr ref bool") => `(tactic| (k_here; (with_reducible show wpAny _ _ (setAttr (Value.ref _) (Str.ofString "is_read_only") _) _ _ _); k_dflt (refine' vset_ro ?F ?X ?N ?hv ?U ?_; (case F => assumption); (case X => assumption); (case N => assumption); (case hv => k_mem); (case U => k_updF)); intro h' t' n' F' N'; (try dsimp only at N'); (try k_sweep)))
local macro_rules | `(tactic| walk_at "call ref") => `(tactic| (k_here; (with_reducible show wpAny _ _ (call (Value.ref 292) _ _) _ _ _); refine Halt.go ?_))

def zeroF (tab chain : List Int) : List Int := chain.foldl (fun t c => t.set c.toNat 0) tab
theorem zeroF_len (tab : List Int) : ∀ chain, (zeroF tab chain).length = tab.length := by
  intro chain
  induction chain generalizing tab with
  | nil => rfl
  | cons c r ih => show (zeroF (tab.set c.toNat 0) r).length = _; rw [ih, List.length_set]
def minF (ffc : Int) (chain : List Int) : Int := chain.foldl (fun f c => min c f) ffc
theorem minF_le : ∀ (chain : List Int) (ffc : Int), minF ffc chain ≤ ffc
  | [], _ => Int.le_refl _
  | c :: r, ffc => Int.le_trans (minF_le r (min c ffc)) (by omega)
section
variable {w : World} {p : Program} {loose : List Str} {mean : ExcName → Option Value} {mg mb : Str → Option Value}
  {base h₀ : Heap} {outer : List Env} {A₀ A : Around} {env : Env} {L : Addr} {m : Str → Option Value} {news rest : List (Addr × Obj)} {s : Shared} {R : Result → Shared → Prop}
set_option maxHeartbeats 2000000 in
theorem free_ok {kind bpc ffc : Int} {vol dv fat : Addr} {t : Nat → Tok} {nd nf : Nat} {fvs : List Value} {tab chain : List Int} {first : Int} {tf : Tok}
    (C : Cx 18 w p loose mean mg mb base h₀ outer A₀ A env L m ((vol, instObj 316 dv) :: (dv, dictOf (volD w t bpc ffc kind (.ref fat) true false) nd) :: (fat, listOf fvs.toArray nf) :: rest) s.heap) (hk : KindOk kind)
    (hne : vol ≠ dv) (hnf : fat ≠ dv) (hnr : ∀ p ∈ rest, p.1 ≠ dv)
    (hi : IntsAre fvs tab) (hlen : tab.length ≤ 100) (hc0 : chain.getD 0 0 = first) (hcn : 0 < chain.length) (hc30 : chain.length ≤ 30) (hf0 : 0 ≤ ffc) (hf1 : ffc ≤ 100)
    (hcv : ∀ j, j < chain.length → 2 ≤ chain.getD j 0 ∧ chain.getD j 0 < tab.length ∧ tab.getD (chain.getD j 0).toNat 0 = if j + 1 < chain.length then chain.getD (j + 1) 0 else endOf kind)
    (h : ∀ h' tk' D vs n t' nd', Fr h₀ L h' m → News h₀ L h' ((D, listOf vs.toArray n) :: (vol, instObj 316 dv) :: (dv, dictOf (volD w t' bpc (minF ffc chain) kind (.ref D) true false) nd') :: (fat, listOf fvs.toArray nf) :: rest) →
      (∀ p ∈ ((vol, instObj 316 dv) :: (dv, dictOf (volD w t bpc ffc kind (.ref fat) true false) nd) :: (fat, listOf fvs.toArray nf) :: rest), p.1 < D) → IntsAre vs (zeroF tab chain) → R (.ok (.ret .none)) { s with heap := h', toks := tk', gens := s.gens.push .finished }) :
    codeAny (model PySem.Challenge.rw_iw0017_01.row.prog w) A (.call (.ref 189) ⟨[.ref vol, .int first tf], []⟩) R s := by
  obtain ⟨B, F, X, N, T, fr, fa, fk, hh, room, units⟩ := C
  revert X; k_fill; intro X
  refine' code_def (binds := [(Str.ofString "self", .ref vol), (Str.ofString "cluster", .int first tf)]) B F X N T fr fa fk ?ho ?hcd ?hroom ?hbind ?hloc ?_ ?c2 ?c3 ?c4 ?c5
  case ho => k_dflt k_is
  case hcd => k_dflt k_is
  case hroom => exact Nat.lt_trans (by omega) (show 900 < recursionLimit from by decide)
  case hbind => exact BindsTo.of_eq rfl
  case hloc => exact locs rfl
  case c2 => exact rfl
  case c3 => exact rfl
  case c4 => exact rfl
  case c5 => decide
  intro g' L' h' FG' F' N' B' X' T'
  k_lift B'
  k_fold
  clear B F X N T
  have hfl : fvs.length ≤ 100 := by rw [IntsAre.length hi]; exact hlen
  k_steps
  refine ⟨?_⟩
  rename Fr _ _ _ _ => F1
  rename News _ _ _ _ => N1
  refine For_gen rfl rfl ?_ ?_ ?_
  · exact hh
  · show A.depth + 1 < _
    exact Nat.lt_trans (by omega) (show 900 < recursionLimit from by decide)
  k_steps
  refine ⟨?_⟩
  rename_i Tf h1 tkx l1 h2
  obtain ⟨t0, F2⟩ : ∃ t0, Fr g' L' h2 (fun y => if y = Str.ofString "tmp_fat" then some (Value.ref Tf) else if y = Str.ofString "_freeclus" then some (Value.int 0 t0) else List.lookup y [(Str.ofString "self", Value.ref vol), (Str.ofString "cluster", Value.int first tf)].reverse) := ⟨_, F1⟩
  have hAll : AllLt Tf ((vol, instObj 316 dv) :: (dv, dictOf (volD w t bpc ffc kind (.ref fat) true false) nd) :: (fat, listOf fvs.toArray nf) :: rest) := by
    refine ⟨l1.1, l1.2.1, l1.2.2.1, l1.2.2.2⟩
  refine wpAny_call ?_
  refine gen_ok (chain := chain) (tab := tab) (rest := (Tf, listOf fvs.toArray 0) :: rest) ⟨B', F2, X', nsub N1 (fun p hp => by
      simp only [List.mem_cons] at hp ⊢
      rcases hp with hp | hp | hp | hp | hp
      · exact .inr (.inl hp)
      · exact .inr (.inr (.inl hp))
      · exact .inr (.inr (.inr (.inl hp)))
      · exact .inl hp
      · exact .inr (.inr (.inr (.inr hp)))), T', Around.frames_deeper B'.stack, rfl, rfl, hh, by show A.depth + 1 + 12 < 900; omega, by show A.units + 3 + 8 * 12 < 5000; omega⟩ hk hi hlen hc0 hcn hcv ?_
  intro h3 tk3 G oG a ao gs F3 N3 hGa hltG hao hgo
  have hFdG : @LT.lt Nat _ Tf G := hltG (Tf, listOf fvs.toArray 0) (.tail _ (.tail _ (.tail _ (.head _))))
  have hGaN : @LT.lt Nat _ G a := hGa
  have hG : ∀ p ∈ ((Tf, listOf fvs.toArray 0) :: (vol, instObj 316 dv) :: (dv, dictOf (volD w t bpc ffc kind (.ref fat) true false) nd) :: (fat, listOf fvs.toArray nf) :: rest : List (Addr × Obj)), p.1 < G := by
    intro p hp
    refine hltG p ?_
    simp only [List.mem_cons] at hp ⊢
    rcases hp with hp | hp | hp | hp | hp
    · exact .inr (.inr (.inr (.inl hp)))
    · exact .inl hp
    · exact .inr (.inl hp)
    · exact .inr (.inr (.inl hp))
    · exact .inr (.inr (.inr (.inr hp)))
  have g1 : @LT.lt Nat _ vol G := hG _ (.tail _ (.head _))
  have g2 : @LT.lt Nat _ dv G := hG _ (.tail _ (.tail _ (.head _)))
  have g3 : @LT.lt Nat _ fat G := hG _ (.tail _ (.tail _ (.tail _ (.head _))))
  have l2 : @LT.lt Nat _ vol Tf := l1.1
  have l3 : @LT.lt Nat _ dv Tf := l1.2.1
  have l4 : @LT.lt Nat _ fat Tf := l1.2.2.1
  have lr : AllLt Tf rest := l1.2.2.2
  have hne' : ¬ @Eq Nat vol dv := hne
  have hnf' : ¬ @Eq Nat fat dv := hnf
  have hnr2 : ∀ p ∈ ((fat, listOf fvs.toArray nf) :: rest : List (Addr × Obj)), p.1 ≠ dv := fun p hp => by
    rcases List.mem_cons.mp hp with rfl | hp
    · exact hnf
    · exact hnr p hp
  refine ⟨a, G, ao, oG, chain.length, gs, s.gens, g', _, (Tf, listOf fvs.toArray 0) :: (vol, instObj 316 dv) :: (dv, dictOf (volD w t bpc ffc kind (.ref fat) true false) nd) :: (fat, listOf fvs.toArray nf) :: rest,
    (fun i mm nn => (∀ y, y ≠ Str.ofString "cl" → mm y = (if y = Str.ofString "tmp_fat" then some (Value.ref Tf) else if y = Str.ofString "_freeclus" then some (Value.int 0 t0) else List.lookup y [(Str.ofString "self", Value.ref vol), (Str.ofString "cluster", Value.int first tf)].reverse)) ∧ ∃ vs n t' nd', nn = (Tf, listOf vs.toArray n) :: (vol, instObj 316 dv) :: (dv, dictOf (volD w t' bpc (minF ffc (chain.take i)) kind (.ref fat) true false) nd') :: (fat, listOf fvs.toArray nf) :: rest ∧ IntsAre vs (zeroF tab (chain.take i))), _, _,
    rfl, rfl, ?_, Nat.ne_of_gt hGa, T'.nolimit, F3, nsub N3 (fun p hp => ?_), ⟨fun y _ => rfl, fvs, 0, t, nd, rfl, hi⟩, hgo _ _, ?_, ?_, ?_, ?_⟩
  · obtain ⟨nm, qn, rfl⟩ := hao
    exact ⟨_, nm, qn, (N3 _ (.head _)).1, rfl, rfl, rfl⟩
  · simp only [List.mem_cons] at hp ⊢
    rcases hp with hp | hp | hp | hp | hp | hp | hp
    · exact .inl hp
    · exact .inr (.inl hp)
    · exact .inr (.inr (.inr (.inr (.inr (.inl hp)))))
    · exact .inr (.inr (.inl hp))
    · exact .inr (.inr (.inr (.inl hp)))
    · exact .inr (.inr (.inr (.inr (.inl hp))))
    · exact .inr (.inr (.inr (.inr (.inr (.inr hp)))))
  · rintro i mm nn oC' hx ⟨_, vs, n, t', nd', rfl, _⟩ Fx Nx
    refine ⟨Fx.keep, t', minF ffc (chain.take i), false, nd', fun q hq => (Nx q (.tail _ (.tail _ (.tail _ ?_)))).1⟩
    exact List.mem_append_left rest hq
  · rintro i mm nn ⟨_, vs, n, t', nd', rfl, _⟩ p hp
    simp only [List.mem_cons] at hp
    rcases hp with rfl | rfl | rfl | rfl | hp
    · exact Nat.ne_of_lt hFdG
    · exact Nat.ne_of_lt g1
    · exact Nat.ne_of_lt g2
    · exact Nat.ne_of_lt g3
    · exact Nat.ne_of_lt (hG p (.tail _ (.tail _ (.tail _ (.tail _ hp)))))
  · rintro i v mm nn oC' hx tk4 gs' hilt ⟨tv, rfl⟩ ⟨hmm, vs, n, t', nd', rfl, Ix⟩ Fx Nx
    obtain ⟨ov, rfl⟩ := names1 hmm
    clear hgo N3 F3 N1 F1 F2 hmm h
    obtain ⟨hv1, hv2, _⟩ := hcv i hilt
    have hzl : (zeroF tab (chain.take i)).length = tab.length := zeroF_len _ _
    have hm0 : minF ffc (chain.take i) ≤ 100 := Int.le_trans (minF_le _ _) hf1
    k_steps
    rename Fr _ _ _ _ => F'
    rename News _ _ _ _ => N'
    rename IntsAre _ (List.set _ _ _) => hi'
    have e : List.take (i + 1) chain = List.take i chain ++ [chain.getD i 0] := by
      rw [List.take_add_one, List.getElem?_eq_getElem hilt, List.getD_eq_getElem?_getD, List.getElem?_eq_getElem hilt]
      rfl
    have e2 : minF ffc (List.take (i + 1) chain) = min (chain.getD i 0) (minF ffc (List.take i chain)) := by
      rw [e, minF, List.foldl_append]
      rfl
    have e3 : zeroF tab (List.take (i + 1) chain) = (zeroF tab (List.take i chain)).set (chain.getD i 0).toNat 0 := by
      rw [e, zeroF, List.foldl_append]
      rfl
    rw [← e2] at N'
    rw [← e3] at hi'
    refine ⟨_, _, _, _, rfl, F', N', fun y hy => ?_, _, _, _, _, rfl, hi'⟩
    simp only [hy, if_false]
  · rintro mm nn hx tk4 ⟨hmm, vs, n, t', nd', rfl, Ix⟩ Fx Nx
    obtain ⟨ov, rfl⟩ := names1 hmm
    clear N3 F3 N1 F1 F2 hmm
    rw [List.take_length] at Ix
    rw [List.take_length] at Nx
    k_steps
    rename Fr _ _ _ _ => F'
    rename News _ _ _ _ => N'
    exact leaveK_ F' N' fun F N => h _ _ _ _ _ _ _ F N (allLt_lt hAll) Ix
end
end Mine

namespace Mine

open PyProof.V
section
variable {w : World} {A₀ : Around} {E : Value → Shared → Prop} {s' : Shared} {h₀ : Heap} {L a e : Addr} {m : Str → Option Value} {name : Str} {scope : Scope} {cd : Value} {news : List (Addr × Obj)}
  {b₀ : Stmt} {suite : List Stmt} {pos np : Pos} {rest : List ExceptHandler} {Q : Flow → Shared → Prop} {p : Program} {loose : List Str} {mean : ExcName → Option Value} {mg mb : Str → Option Value}
theorem clause_index {fl : Value} (H : TT.HeldNA h₀ L s'.heap m e "IndexError" news fl) (X : (hd.heap_39 w.params).In h₀) (T : Top p loose mean mg mb h₀)
    (k : ∀ h', Fr h₀ L h' m → News h₀ L h' news → wpAny (model PySem.Challenge.rw_iw0017_01.row.prog w) ((A₀.deeper (envOf name scope L a cd)).mark (some (.ref e))) (execs (b₀ :: suite) (envOf name scope L a cd)) Q E { s' with heap := h' })
    (hk : scope.kind = .function := by rfl) (hxk : (envOf name scope L a cd).kindOf (Str.ofString "IndexError") = some .globalImplicit := by rfl)
    (hE : PassesOwnAt (model PySem.Challenge.rw_iw0017_01.row.prog w) ((A₀.deeper (envOf name scope L a cd)).mark (some (.ref e))) (A₀.deeper (envOf name scope L a cd)) (envOf name scope L a cd) E := by passes_own) :
    wpAny (model PySem.Challenge.rw_iw0017_01.row.prog w) (A₀.deeper (envOf name scope L a cd)) (handleBy (.ref e) (envOf name scope L a cd) (.ExceptHandler (some (.Name (Str.ofString "IndexError") np)) none (b₀ :: suite) pos :: rest)) Q E s' := by
  refine wpAny_handleBy_builtin (X := "IndexError") (T := "IndexError") (b := true) (isSubtype_of_subB (by decide +kernel)) (isSubtype_of_subB (by decide +kernel)) (isSubtype_of_subB (by decide +kernel))
    (name_B (K := hd.heap_39 w.params) H.held.fr X (topRead_of T) rfl (by decide +kernel) (by decide) ⟨rfl, H.isA, ?_⟩ hk hxk (by decide))
  rw [if_pos rfl]
  exact H.lands fun h' F' N' => wpAny_passesOwnAt hE (k h' F' N')
theorem to_ledger {g' h : Heap} {L' : Addr} {m' : Str → Option Value} {env : Env} {newsX : List (Addr × Obj)} (FG : Fr h₀ L g' m) (F' : Fr g' L' h m') (N' : News g' L' h newsX) (fa : env.frame = some L) (fk : env.scope.kind = .function) :
    ∃ oL, TI.Caller h₀ L m oL ∧ TI.Frs [env] [(L, oL)] ∧ Fr h₀ L' h m' ∧ News h₀ L' h (newsX ++ [(L, oL)]) ∧ TLg.AllNe L newsX := by
  obtain ⟨oL, es, ep, hL, hLd, hLk, hLf⟩ := FG.ns
  have hLg := Heap.lt_size hL
  have hLL : L ≠ L' := Nat.ne_of_lt (Nat.lt_of_lt_of_le hLg F'.above)
  have hne : ∀ q ∈ newsX, q.1 ≠ L := fun q hq z => by have := (N' q hq).2.2; rw [z, hL] at this; cases this
  refine ⟨oL, ⟨fun hx sl e => ⟨_, es, ep, e, hLd, hLk, hLf⟩, ⟨es, ep, hLd⟩, FG.above⟩, ⟨by rw [fk]; decide, fa, ⟨es, ep, hLd⟩, trivial⟩, ⟨F'.ns, fun b o e => F'.keep b o (FG.keep b o e), Nat.le_trans FG.above (Nat.le_of_lt (Nat.lt_of_lt_of_le hLg F'.above))⟩, fun q hq => ?_, ?_⟩
  · rcases List.mem_append.mp hq with hq | hq
    · refine ⟨(N' q hq).1, (N' q hq).2.1, kts_none FG.keep (N' q hq).2.2⟩
    · obtain rfl := List.mem_singleton.mp hq
      exact ⟨F'.keep _ _ hL, hLL, kts_self FG⟩
  · clear N' FG F'
    induction newsX with
    | nil => exact trivial
    | cons q r ih => exact ⟨hne q (.head _), ih fun x hx => hne x (.tail _ hx)⟩
theorem own_item_out {prog : Program} {A : Around} {s : Shared} {D : Addr} {its : Array Value} {k : Int} {t : Tok} {value slice : PySem.Expr} {Q : Value → Shared → Prop} (hA : A.handled = none) (hl : s.heap.IsList D its) (hout : (its.size : Int) ≤ k) (hhi : k < 1000)
    (hE : ∀ h' tk e, Heap.NewExc s.heap h' e "IndexError" → E (.ref e) { s with heap := h', toks := tk })
    (hs : subscripted slice false (.ref D) (.int k t) = operate [.ref D, .int k t] (getItem (.ref D) (.int k t)) := by with_unfolding_all rfl) : wpAny (model prog w) A (subscriptTail value slice (.ref D) (.int k t)) Q E s :=
  tail_any hl.typeIs slot_list_getitem.lookup (wpAny_getItem_list_out hA hl (.inr hout) (by omega) (by omega) hE) hs
end
end Mine

namespace Mine

open PyProof.V
local macro_rules | `(tactic| k_asm) => `(tactic| (refine' Cx.sub ?cxa ?cxb ?cxh ?cxB ?cxF ?cxX ?cxN ?cxT; (case cxa => omega); (case cxb => omega); (case cxh => assumption); (case cxB => assumption); (case cxF => assumption); (case cxX => assumption); (case cxN => assumption); (case cxT => assumption)))
local macro_rules | `(tactic| k_all) => `(tactic| first | assumption | exact allLt_ne (by assumption))
local macro_rules | `(tactic| k_mem) => `(tactic| first | assumption | exact List.Mem.head _ | (refine' List.Mem.tail _ ?_; k_mem))
local macro_rules | `(tactic| walk_at "subscriptTail") => `(tactic| (k_here; (with_reducible show wpAny _ _ (subscriptTail _ _ (Value.ref _) (Value.int _ _)) _ _ _); k_dflt (refine' ol_item ?k1 ?k2 ?k3 ?k4 ?k5 ?_ rfl; (case k1 => exact isList_of (by assumption) (by k_mem)); (case k2 => assumption); (case k3 => omega); (case k4 => omega); (case k5 => omega); intro tr)))
local macro_rules | `(tactic| walk_at "call builtin:len") => `(tactic| (k_here; k_dflt (refine' ol_len ?k1 ?k2 ?k5 ?_; (case k1 => exact isList_of (by assumption) (by k_mem)); (case k2 => assumption); (case k5 => omega); intro tl tk)))
local macro_rules | `(tactic| walk_at "call builtin:list.append") => `(tactic| (k_here; k_dflt (refine' ol_append ?F ?N ?U ?k2 ?k3 ?_; (case F => assumption); (case N => assumption); (case U => k_updF); (case k2 => assumption); (case k3 => first | omega | (simp only [List.length_append, List.length_map, List.length_take, List.length_cons, List.length_nil]; omega)); intro h' vs' n' F' N' hi'; (try dsimp only at N'); (try k_sweep))))
local macro_rules | `(tactic| walk_at "setItem ref int") => `(tactic| (k_here; k_dflt (refine' ol_set ?F ?N ?U ?k2 ?k3 ?k4 ?k5 ?_; (case F => assumption); (case N => assumption); (case U => k_updF); (case k2 => assumption); (case k3 => omega); (case k4 => omega); (case k5 => omega); intro h' vs' n' F' N' hi'; (try dsimp only at N'); (try k_sweep))))
local macro_rules | `(tactic| walk_at "inplaceOp Add ref ref") => `(tactic| (k_here; k_dflt (refine' own_iadd ?F ?N ?U ?m ?i (.cons _ _ .nil) ?z ?z2 ?_; (case F => assumption); (case N => assumption); (case U => k_updF); (case m => k_mem); (case i => assumption); (case z => omega); (case z2 => exact Nat.le_of_ble_eq_true rfl)); intro h' vs' n' F' N' hi'; (try dsimp only at N'); (try k_sweep)))
local macro_rules | `(tactic| walk_at "subscriptTail") => `(tactic| (k_here; (with_reducible show wpAny _ _ (subscriptTail _ _ (Value.ref 80) (Value.int _ _)) _ _ _); k_dflt (refine' fcv_sub ?k1 ?k2 ?k3 ?_ rfl; (case k1 => assumption); (case k2 => assumption); (case k3 => assumption); intro D hD)))
local macro_rules | `(tactic| walk_at "subscriptTail") => `(tactic| (k_here; (with_reducible show wpAny _ _ (subscriptTail _ _ (Value.ref _) (Value.str (Str.ofString "FREE_CLUSTER") _)) _ _ _); k_dflt (refine' kd_free ?k1 ?k2 ?k3 ?_ (fun _ => rfl); (case k1 => assumption); (case k2 => assumption); (case k3 => assumption); intro tr)))
local macro_rules | `(tactic| walk_at "subscriptTail") => `(tactic| (k_here; (with_reducible show wpAny _ _ (subscriptTail _ _ (Value.ref _) (Value.str (Str.ofString "MIN_DATA_CLUSTER") _)) _ _ _); k_dflt (refine' kd_min ?k1 ?k2 ?k3 ?_ (fun _ => rfl); (case k1 => assumption); (case k2 => assumption); (case k3 => assumption); intro tr)))
local macro_rules | `(tactic| walk_at "subscriptTail") => `(tactic| (k_here; (with_reducible show wpAny _ _ (subscriptTail _ _ (Value.ref _) (Value.str (Str.ofString "MAX_DATA_CLUSTER") _)) _ _ _); k_dflt (refine' kd_max ?k1 ?k2 ?k3 ?_ (fun _ => rfl); (case k1 => assumption); (case k2 => assumption); (case k3 => assumption); intro tr)))
local macro_rules | `(tactic| walk_at "subscriptTail") => `(tactic| (k_here; (with_reducible show wpAny _ _ (subscriptTail _ _ (Value.ref _) (Value.str (Str.ofString "BAD_CLUSTER") _)) _ _ _); k_dflt (refine' kd_bad ?k1 ?k2 ?k3 ?_ (fun _ => rfl); (case k1 => assumption); (case k2 => assumption); (case k3 => assumption); intro tr)))
local macro_rules | `(tactic| walk_at "subscriptTail") => `(tactic| (k_here; (with_reducible show wpAny _ _ (subscriptTail _ _ (Value.ref _) (Value.str (Str.ofString "END_OF_CLUSTER_MIN") _)) _ _ _); k_dflt (refine' kd_emin ?k1 ?k2 ?k3 ?_ (fun _ => rfl); (case k1 => assumption); (case k2 => assumption); (case k3 => assumption); intro tr)))
local macro_rules | `(tactic| walk_at "subscriptTail") => `(tactic| (k_here; (with_reducible show wpAny _ _ (subscriptTail _ _ (Value.ref _) (Value.str (Str.ofString "END_OF_CLUSTER_MAX") _)) _ _ _); k_dflt (refine' kd_emax ?k1 ?k2 ?k3 ?_ (fun _ => rfl); (case k1 => assumption); (case k2 => assumption); (case k3 => assumption); intro tr)))
local macro_rules | `(tactic| walk_at "call type:enumerate") => `(tactic| (k_here; refine Halt.go ?_))
local macro_rules | `(tactic| walk_at "noteFrame ref") => `(tactic| (k_here; refine Halt.go ?_))
local macro_rules | `(tactic| walk_at "subscriptTail") => `(tactic| (k_here; (with_reducible show wpAny _ _ (subscriptTail _ _ (Value.ref _) (Value.int _ _)) _ _ _); k_dflt (refine' own_item_out ?k1 ?k2 ?k3 ?k4 ?_ rfl; (case k1 => assumption); (case k2 => exact isList_of (by assumption) (by k_mem)); (case k3 => rw [List.size_toArray, IntsAre.length (by assumption)]; omega); (case k4 => omega)); intro h' tk e tiX))
local macro_rules | `(tactic| walk_at "exec For Name Name cons nil") => `(tactic| (k_here; refine Halt.go ?_))
local macro_rules | `(tactic| walk_at "exec For Name Call cons nil") => `(tactic| (k_here; refine Halt.go ?_))
local macro_rules | `(tactic| walk_at "exec For Name Call cons cons") => `(tactic| (k_here; refine Halt.go ?_))
local macro_rules | `(tactic| walk_at "exec For Tuple Call cons nil") => `(tactic| (k_here; refine Halt.go ?_))
local macro_rules | `(tactic| walk_at "pyIter ref") => `(tactic| (k_here; refine Halt.go ?_))
local macro_rules | `(tactic| walk_at "call ref") => `(tactic| (k_here; (with_reducible show wpAny _ _ (call (Value.ref 65) _ _) _ _ _); refine wpAny_call ?_; k_dflt (refine' initck_ok ?c1 ?_ ?_; (case c1 => exact ⟨by assumption, by assumption, by assumption, by assumption, by assumption, Around.frames_deeper (Below.stack (by assumption)), rfl, rfl, by assumption, by show _ + 1 + 8 < 900; omega, by show _ + 3 + 8 * 8 < 5000; omega⟩)); rotate_left; (intro hx; cases hx); intro _ h' tk' F' N'; (try k_sweep)))
local macro_rules | `(tactic| walk_at "call ref") => `(tactic| (k_here; (with_reducible show wpAny _ _ (call (Value.ref 72) _ _) _ _ _); refine wpAny_call ?_; k_dflt (refine' rock_ok ?c1 ?_ ?_; (case c1 => exact ⟨by assumption, by assumption, by assumption, by assumption, by assumption, Around.frames_deeper (Below.stack (by assumption)), rfl, rfl, by assumption, by show _ + 1 + 8 < 900; omega, by show _ + 3 + 8 * 8 < 5000; omega⟩)); rotate_left; (intro hx; cases hx); intro _ h' tk' F' N'; (try k_sweep)))
local macro_rules | `(tactic| walk_at "setAttr ref int") => `(tactic| (k_here; (with_reducible show wpAny _ _ (setAttr (Value.ref _) (Str.ofString "bytes_per_cluster") _) _ _ _); k_dflt (refine' vset_bpc ?F ?X ?N ?hv ?U ?_; (case F => assumption); (case X => assumption); (case N => assumption); (case hv => k_mem); (case U => k_updF)); intro h' t' n' F' N'; (try dsimp only at N'); (try k_sweep)))
local macro_rules | `(tactic| walk_at "setAttr ref int") => `(tactic| (k_here; (with_reducible show wpAny _ _ (setAttr (Value.ref _) (Str.ofString "first_free_cluster") _) _ _ _); k_dflt (refine' vset_ffc ?F ?X ?N ?hv ?U ?_; (case F => assumption); (case X => assumption); (case N => assumption); (case hv => k_mem); (case U => k_updF)); intro h' t' n' F' N'; (try dsimp only at N'); (try k_sweep)))
local macro_rules | `(tactic| walk_at "setAttr ref int") => `(tactic| (k_here; (with_reducible show wpAny _ _ (setAttr (Value.ref _) (Str.ofString "fat_type") _) _ _ _); k_dflt (refine' vset_kind ?F ?X ?N ?hv ?U ?_; (case F => assumption); (case X => assumption); (case N => assumption); (case hv => k_mem); (case U => k_updF)); intro h' t' n' F' N'; (try dsimp only at N'); (try k_sweep)))
local macro_rules | `(tactic| walk_at "setAttr ref ref") => `(tactic| (k_here; (with_reducible show wpAny _ _ (setAttr (Value.ref _) (Str.ofString "fat") _) _ _ _); k_dflt (refine' vset_fat ?F ?X ?N ?hv ?U ?_; (case F => assumption); (case X => assumption); (case N => assumption); (case hv => k_mem); (case U => k_updF)); intro h' t' n' F' N'; (try dsimp only at N'); (try k_sweep)))
local macro_rules | `(tactic| walk_at "setAttr ref bool") => `(tactic| (k_here; (with_reducible show wpAny _ _ (setAttr (Value.ref _) (Str.ofString "initialized") _) _ _ _); k_dflt (refine' vset_ini ?F ?X ?N ?hv ?U ?_; (case F => assumption); (case X => assumption); (case N => assumption); (case hv => k_mem); (case U => k_updF)); intro h' t' n' F' N'; (try dsimp only at N'); (try k_sweep)))
local macro_rules | `(tactic| walk_at "setAttr ref bool") => `(tactic| (k_here; (with_reducible show wpAny _ _ (setAttr (Value.ref _) (Str.ofString "is_read_only") _) _ _ _); k_dflt (refine' vset_ro ?F ?X ?N ?hv ?U ?_; (case F => assumption); (case X => assumption); (case N => assumption); (case hv => k_mem); (case U => k_updF)); intro h' t' n' F' N'; (try dsimp only at N'); (try k_sweep)))
local macro_rules | `(tactic| walk_at "call ref") => `(tactic| (k_here; (with_reducible show wpAny _ _ (call (Value.ref 212) _ _) _ _ _); refine wpAny_call ?_; k_dflt (refine' calc_ok ?c1 ?b1 ?b2 ?b3 ?b4 ?_; (case c1 => exact ⟨by assumption, by assumption, by assumption, by assumption, by assumption, Around.frames_deeper (Below.stack (by assumption)), rfl, rfl, by assumption, by show _ + 1 + 2 < 900; omega, by show _ + 3 + 8 * 2 < 5000; omega⟩); (case b1 => omega); (case b2 => omega); (case b3 => omega); (case b4 => omega)); intro h' tk' tr F' N'; (try k_sweep)))

def freeL (tab : List Int) (a : Int) (k : Nat) : List Int := ((List.range k).map fun j => a + (j : Nat)).filter fun i => tab.getD i.toNat 0 == 0
theorem freeL_succ (tab : List Int) (a : Int) (k : Nat) : freeL tab a (k + 1) = freeL tab a k ++ (if tab.getD (a + (k : Nat)).toNat 0 = 0 then [a + (k : Nat)] else []) := by
  unfold freeL
  rw [List.range_succ, List.map_append, List.filter_append]
  congr 1
  show List.filter _ [a + (k : Nat)] = _
  by_cases h : tab.getD (a + (k : Nat)).toNat 0 = 0
  · rw [if_pos h, List.filter_cons_of_pos (by simpa using h), List.filter_nil]
  · rw [if_neg h, List.filter_cons_of_neg (by simpa using h), List.filter_nil]
theorem freeL_le (tab : List Int) (a : Int) (k : Nat) : (freeL tab a k).length ≤ k := by
  unfold freeL
  exact Nat.le_trans (List.length_filter_le _ _) (by simp)
theorem freeL_mem {tab : List Int} {a : Int} {k : Nat} {x : Int} (h : x ∈ freeL tab a k) : a ≤ x ∧ x < a + k := by
  obtain ⟨h1, _⟩ := List.mem_filter.mp h
  obtain ⟨j, hj, rfl⟩ := List.mem_map.mp h1
  have := List.mem_range.mp hj
  omega
theorem flown_sub {w : World} {h₀ : Heap} {L : Addr} {m : Str → Option Value} {news news' : List (Addr × Obj)} {h' : Heap} {l : List Env} {v : Value} {e : Addr} (f : Flown w h₀ L m news h' l v e) (hs : ∀ q ∈ news', q ∈ news) : Flown w h₀ L m news' h' l v e := by
  obtain ⟨B, G, d, tk, a, b, c, d', e', f'⟩ := f
  exact ⟨B, G, d, tk, a, b, c, d', e', fun q hq => f' q (hs q hq)⟩
local macro_rules | `(tactic| walk_at "joinParts") => `(tactic| (k_here; (with_reducible show wpAny _ _ (joinParts _ (evalEach [] _)) _ _ _); (with_reducible refine joinParts_nilE ?_); (with_reducible refine joinParts_nil (hsz := ?hsz) ?_); (case hsz => kt_le)))
section
variable {w : World} {p : Program} {loose : List Str} {mean : ExcName → Option Value} {mg mb : Str → Option Value}
  {base h₀ : Heap} {outer : List Env} {A₀ A : Around} {env : Env} {L : Addr} {m : Str → Option Value} {news rest : List (Addr × Obj)} {s : Shared} {R : Result → Shared → Prop}
set_option maxHeartbeats 20000000 in
theorem alloc_any {kind bpc ffc size due : Int} {vol dv fat : Addr} {t : Nat → Tok} {nd nf : Nat} {fvs : List Value} {tab : List Int} {ts : Tok}
    (C : Cx 20 w p loose mean mg mb base h₀ outer A₀ A env L m ((vol, instObj 316 dv) :: (dv, dictOf (volD w t bpc ffc kind (.ref fat) true false) nd) :: (fat, listOf fvs.toArray nf) :: rest) s.heap) (hk : KindOk kind)
    (hne : vol ≠ dv) (hvf : vol ≠ fat) (hnf : fat ≠ dv) (hnr : ∀ p ∈ rest, p.1 ≠ dv ∧ p.1 ≠ fat) 
    (hi : IntsAre fvs tab) (hlen : tab.length ≤ 40) (hf0 : 0 ≤ ffc) (hlow : ∀ j : Nat, j < 2 → tab.getD j 0 ≠ 0) (hl3 : 3 ≤ tab.length) (hf1 : ffc < tab.length) (hlast : tab.getD (tab.length - 1) 0 ≠ 0) (hb1 : 1 ≤ bpc) (hb2 : bpc < 1000) (hs1 : 0 ≤ size) (hs2 : size < 100000) (hdue : due = -((-size).fdiv bpc)) (hd0 : 0 ≤ due) (hd1 : due < 1000000) (hout : ∀ k : Nat, ffc + (k : Nat) < tab.length → ((freeL tab ffc k).length : Int) = due → outer = [])
    (h : ∀ k, k < (tab.length - ffc).toNat → 2 ≤ ffc + (k : Nat) → ((freeL tab ffc k).length : Int) = due → ∀ h' tk' D vs n nvs nnf t' nd', Fr h₀ L h' m → News h₀ L h' ((D, listOf vs.toArray n) :: (vol, instObj 316 dv) :: (dv, dictOf (volD w t' bpc (ffc + (k : Nat)) kind (.ref fat) true false) nd') :: (fat, listOf nvs.toArray nnf) :: rest) →
      (∀ p ∈ ((vol, instObj 316 dv) :: (dv, dictOf (volD w t bpc ffc kind (.ref fat) true false) nd) :: (fat, listOf fvs.toArray nf) :: rest), p.1 < D) → IntsAre vs (freeL tab ffc k) → IntsAre nvs (chainPut kind tab (freeL tab ffc k)) → R (.ok (.ret (.ref D))) { s with heap := h', toks := tk' })
    (h2 : ((freeL tab ffc (tab.length - ffc).toNat).length : Int) < due → ∀ h' tk' e tn, Flown w h₀ L m ((vol, instObj 316 dv) :: (dv, dictOf (volD w t bpc ffc kind (.ref fat) true false) nd) :: (fat, listOf fvs.toArray nf) :: rest) h' (env :: outer) (.int 28 tn) e → R (.error (.ref e)) { s with heap := h', toks := tk' }) :
    codeAny (model PySem.Challenge.rw_iw0017_01.row.prog w) A (.call (.ref 220) ⟨[.ref vol, .int size ts], []⟩) R s := by
  obtain ⟨B, F, X, N, T, fr, fa, fk, hh, room, units⟩ := C
  revert X; k_fill; intro X
  refine' code_defR (binds := [(Str.ofString "self", .ref vol), (Str.ofString "size", .int size ts), (Str.ofString "erase", .bool false)]) B F X N T fr fa fk ?ho ?hcd ?hroom ?hbind ?hloc ?_ ?c2 ?c3 ?c4 ?c5
  case ho => k_dflt k_is
  case hcd => k_dflt k_is
  case hroom => exact Nat.lt_trans (by omega) (show 900 < recursionLimit from by decide)
  case hbind => k_dflt (exact binds_K (X.keeps F.keep) rfl (by k_is) rfl rfl rfl)
  case hloc => exact locs rfl
  case c2 => exact rfl
  case c3 => exact rfl
  case c4 => exact rfl
  case c5 => decide
  intro g' L' h' FG' F' N' B' X' T' lt0
  have keepX := And.intro trivial X
  have keepT := And.intro trivial T
  clear B F X N T
  have hfl : fvs.length ≤ 100 := by rw [IntsAre.length hi]; omega
  k_steps
  refine ⟨?_⟩
  rename Fr _ _ _ _ => F1
  rename News _ _ _ _ => N1
  rename_i Fc hq1 l1 hq2
  rw [← hdue] at F1
  obtain ⟨t1, t2, t3, t4, F2⟩ : ∃ t1 t2 t3 t4, Fr g' L' hq2 (fun y => if y = Str.ofString "free_clusters" then some (Value.ref Fc) else if y = Str.ofString "num_clusters" then some (Value.int due t1) else if y = Str.ofString "max_clus" then some (Value.int (maxOf kind) t2) else if y = Str.ofString "min_clus" then some (Value.int 2 t3) else if y = Str.ofString "free_clus" then some (Value.int 0 t4) else List.lookup y [(Str.ofString "self", Value.ref vol), (Str.ofString "size", Value.int size ts), (Str.ofString "erase", Value.bool false)].reverse) := ⟨_, _, _, _, F1⟩
  clear F1
  have nums : 100 < maxOf kind ∧ 100 < badOf kind ∧ badOf kind < 1000000000 ∧ maxOf kind < 1000000000 := by
    rcases hk with rfl | rfl | rfl <;> decide
  obtain ⟨num1, num2, num3, num4⟩ := nums
  have l2 : @LT.lt Nat _ vol Fc := l1.1
  have l3 : @LT.lt Nat _ dv Fc := l1.2.1
  have l4 : @LT.lt Nat _ fat Fc := l1.2.2.1
  have lr : AllLt Fc rest := l1.2.2.2
  have hAll : AllLt Fc ((vol, instObj 316 dv) :: (dv, dictOf (volD w t bpc ffc kind (.ref fat) true false) nd) :: (fat, listOf fvs.toArray nf) :: rest) := ⟨l2, l3, l4, lr⟩
  have hne' : ¬ @Eq Nat vol dv := hne
  have hnr2 : ∀ p ∈ ((fat, listOf fvs.toArray nf) :: rest : List (Addr × Obj)), p.1 ≠ dv := fun p hp => by
    rcases List.mem_cons.mp hp with rfl | hp
    · exact hnf
    · exact (hnr p hp).1
  have hnr3 : ∀ p ∈ rest, p.1 ≠ fat := fun p hp => (hnr p hp).2
  have hvf' : ¬ @Eq Nat vol fat := hvf
  have hnf' : ¬ @Eq Nat fat dv := hnf
  refine For_own rfl rfl ?_
  k_steps
  refine ⟨?_⟩
  rename IsRange _ _ _ _ _ _ _ _ => hR
  rename News _ _ _ _ => N3
  rename Fr _ _ _ _ => F3
  rename Heap => hp3
  have ltF3 : @LT.lt Nat _ Fc hp3.objs.size := Heap.lt_size (N3 _ (.head _)).1
  have ltN3 : AllLt hp3.objs.size ((vol, instObj 316 dv) :: (dv, dictOf (volD w t bpc ffc kind (.ref fat) true false) nd) :: (fat, listOf fvs.toArray nf) :: rest) := allLt_of fun p hp => Heap.lt_size (N3 _ (.tail _ hp)).1
  refine loop_range (fun i hb mm nn g => g' = hb ∧ g = s.gens ∧ (∀ y, y ≠ Str.ofString "i" → mm y = if y = Str.ofString "free_clusters" then some (Value.ref Fc) else if y = Str.ofString "num_clusters" then some (Value.int due t1) else if y = Str.ofString "max_clus" then some (Value.int (maxOf kind) t2) else if y = Str.ofString "min_clus" then some (Value.int 2 t3) else if y = Str.ofString "free_clus" then some (Value.int 0 t4) else List.lookup y [(Str.ofString "self", Value.ref vol), (Str.ofString "size", Value.int size ts), (Str.ofString "erase", Value.bool false)].reverse) ∧ ∃ vs n, nn = (Fc, listOf vs.toArray n) :: (vol, instObj 316 dv) :: (dv, dictOf (volD w t bpc ffc kind (.ref fat) true false) nd) :: (fat, listOf fvs.toArray nf) :: rest ∧ IntsAre vs (freeL tab ffc i) ∧ ((freeL tab ffc i).length : Int) ≤ due ∧ (∀ k : Nat, i = k + 1 → 2 ≤ ffc + (k : Nat) → ((freeL tab ffc k).length : Int) < due))
    (tab.length - ffc).toNat (by assumption) F3 N3 hR rfl (by omega) (by omega) (by omega) (by omega) ⟨rfl, rfl, fun y _ => rfl, [], 0, rfl, .nil, hd0, fun k hk _ => by omega⟩ ?_ ?_ ?_
  · rintro j _ _ _ g ⟨_, _, _, vs, n, rfl, _⟩ _ p hp
    rcases List.mem_cons.mp hp with rfl | hp
    · exact Nat.ne_of_lt ltF3
    · exact allLt_ne ltN3 p hp
  · rintro I i tv _ _ _ io hp4 tk4 gg hI hin ⟨rfl, rfl, hmm, vs, n, rfl, Ix, hle, _⟩ F4 N4
    obtain ⟨ov, rfl⟩ := names1 hmm
    clear F3 N3 hmm hR
    have hFI : @LT.lt Nat _ Fc I := hI ▸ ltF3
    have hVI : AllLt I ((vol, instObj 316 dv) :: (dv, dictOf (volD w t bpc ffc kind (.ref fat) true false) nd) :: (fat, listOf fvs.toArray nf) :: rest) := hI ▸ ltN3
    have hx2 : ffc + (i : Nat) < tab.length := by omega
    have hfl2 : (freeL tab ffc i).length ≤ 40 := Nat.le_trans (freeL_le _ _ _) (by omega)
    by_cases hx1 : 2 ≤ ffc + (i : Nat)
    rotate_left
    · have hz := hlow (ffc + (i : Nat)).toNat (by omega)
      have e : freeL tab ffc (i + 1) = freeL tab ffc i := by rw [freeL_succ, if_neg hz, List.append_nil]
      clear h2 h hlast hlow
      k_steps
      all_goals try (exfalso; omega)
      rename Fr _ _ _ _ => F'
      rename News _ _ _ _ => N'
      refine ⟨g', _, _, ⟨_, _, _, rfl⟩, F', nsub N' (fun p hp => hp), rfl, rfl, fun y hy => ?_, _, _, rfl, e ▸ Ix, e ▸ hle, fun k hk h2k => ?_⟩
      · simp only [hy, if_false]
      · exfalso; omega
    k_steps
    all_goals try (exfalso; omega)
    · rename due = _ => hde
      show wpAny _ _ _ _ _ _
      clear h2
      k_steps
      refine ⟨?_⟩
      rename Fr _ _ _ _ => F5
      rename News _ _ _ _ => N5
      rename Heap => hq8
      obtain rfl := hout i hx2 hde.symm
      have N6 := nsub N5 (fun p hp => List.mem_cons_of_mem _ hp)
      obtain ⟨oL, hC, hFrs, F6, N7, hNe⟩ := to_ledger FG' F5 N6 fa fk
      clear F5 N5 N6 X' T'
      have X := keepX.2
      have T := keepT.2
      refine For_enum rfl rfl rfl hh ?_
      k_steps
      refine ⟨?_⟩
      obtain ⟨told, htold⟩ : ∃ told, told = freeL tab ffc i := ⟨_, rfl⟩
      rw [← htold] at Ix hde
      have htl : told.length ≤ 40 := htold ▸ hfl2
      have htm : ∀ x ∈ told, 2 ≤ x ∧ x < tab.length := fun x hx => by
        have q1 := freeL_mem (htold ▸ hx)
        have q2 := hlow x.toNat
        have q3 : tab.getD x.toNat 0 = 0 := by simpa using (List.mem_filter.mp (htold ▸ hx : x ∈ freeL tab ffc i)).2
        exact ⟨Classical.byContradiction fun hn => q2 (by omega) q3, by omega⟩
      obtain ⟨t10, F7⟩ : ∃ t10, Fr h₀ L' hq8 (fun y => if y = Str.ofString "eoc_max" then some (Value.int (endOf kind) t10) else if y = Str.ofString "i" then some (Value.int (ffc + (i : Nat)) tv) else (fun y => if y = Str.ofString "i" then ov else if y = Str.ofString "free_clusters" then some (Value.ref Fc) else if y = Str.ofString "num_clusters" then some (Value.int due t1) else if y = Str.ofString "max_clus" then some (Value.int (maxOf kind) t2) else if y = Str.ofString "min_clus" then some (Value.int 2 t3) else if y = Str.ofString "free_clus" then some (Value.int 0 t4) else List.lookup y [(Str.ofString "self", Value.ref vol), (Str.ofString "size", Value.int size ts), (Str.ofString "erase", Value.bool false)].reverse) y) := ⟨_, F6⟩
      obtain ⟨t9, nd9, N8⟩ : ∃ t9 nd9, News h₀ L' hq8 ((Fc, listOf vs.toArray n) :: (vol, instObj 316 dv) :: (dv, dictOf (volD w t9 bpc (ffc + (i : Nat)) kind (.ref fat) true false) nd9) :: (fat, listOf fvs.toArray nf) :: (rest ++ [(L, oL)])) := ⟨_, _, N7⟩
      clear F6 N7
      have hlt8 : ∀ p ∈ ((Fc, listOf vs.toArray n) :: (vol, instObj 316 dv) :: (dv, dictOf (volD w t9 bpc (ffc + (i : Nat)) kind (.ref fat) true false) nd9) :: (fat, listOf fvs.toArray nf) :: (rest ++ [(L, oL)]) : List (Addr × Obj)), @LT.lt Nat _ p.1 hq8.objs.size := fun p hp => Heap.lt_size (N8 p hp).1
      have hLt8 : @LT.lt Nat _ L' hq8.objs.size := F7.ns.lt
      have hnoF : L ≠ fat := fun z => hNe.2.2.2.1 z.symm
      refine loop_enum (fun j mm nn => (∀ y, y ≠ Str.ofString "i" → y ≠ Str.ofString "_" → mm y = if y = Str.ofString "eoc_max" then some (Value.int (endOf kind) t10) else if y = Str.ofString "free_clusters" then some (Value.ref Fc) else if y = Str.ofString "num_clusters" then some (Value.int due t1) else if y = Str.ofString "max_clus" then some (Value.int (maxOf kind) t2) else if y = Str.ofString "min_clus" then some (Value.int 2 t3) else if y = Str.ofString "free_clus" then some (Value.int 0 t4) else List.lookup y [(Str.ofString "self", Value.ref vol), (Str.ofString "size", Value.int size ts), (Str.ofString "erase", Value.bool false)].reverse) ∧ ∃ oL' nvs nnf, (∃ sl, oL' = ({ oL with slots := sl } : Obj)) ∧ TI.Frs [env] [(L, oL')] ∧ nn = (Fc, listOf vs.toArray n) :: (vol, instObj 316 dv) :: (dv, dictOf (volD w t9 bpc (ffc + (i : Nat)) kind (.ref fat) true false) nd9) :: (fat, listOf nvs.toArray nnf) :: (rest ++ [(L, oL')]) ∧ IntsAre nvs ((List.range j).foldl (put1 kind told) tab))
        F7 N8 (N8 _ (.head _)).1 ⟨fun y h1 h2 => ?_, oL, fvs, nf, ⟨oL.slots, rfl⟩, hFrs, rfl, (by assumption)⟩ ?_ ?_ ?_ ?_
      · simp only [h1, if_false]
      · rintro j mm nn hx ⟨_, oL', nvs, nnf, _, _, rfl, _⟩ _ N
        exact isList_of N (.head _)
      · rintro j mm nn ⟨_, oL', nvs, nnf, _, _, rfl, _⟩ hlt p hp
        simp only [List.mem_cons, List.mem_append, List.not_mem_nil, or_false] at hp
        rcases hp with rfl | rfl | rfl | rfl | hp | rfl
        · exact hlt _ (.head _)
        · exact hlt _ (.tail _ (.head _))
        · exact hlt _ (.tail _ (.tail _ (.head _)))
        · exact hlt (fat, listOf fvs.toArray nf) (.tail _ (.tail _ (.tail _ (.head _))))
        · exact hlt p (.tail _ (.tail _ (.tail _ (.tail _ (List.mem_append_left _ hp)))))
        · exact hlt (L, oL) (.tail _ (.tail _ (.tail _ (.tail _ (List.mem_append_right _ (.head _))))))
      · rintro e9 i9 j v tkj m₁ nn eo₁ io₁ hp tkk hle1 hle2 hv ⟨hmm, oL', nvs, nnf, ⟨sl, rfl⟩, hFs, rfl, Iv⟩ F9 N9
        obtain ⟨o1, o2, rfl⟩ := names2 hmm
        clear hmm F7 N8
        have hjt : j < told.length := by
          rw [← IntsAre.length Ix]
          have := (Array.getElem?_eq_some_iff.mp hv).1
          simpa using this
        have hxj := htm (told.getD j 0) (by rw [List.getD_eq_getElem?_getD, List.getElem?_eq_getElem hjt]; exact List.getElem_mem hjt)
        have hxl : ((List.range j).foldl (put1 kind told) tab).length = tab.length := put1_len _ _ _ _
        have hnr4 : ∀ p ∈ (rest ++ [(L, ({ oL with slots := sl } : Obj))]), p.1 ≠ fat := fun p hp => by
          rcases List.mem_append.mp hp with hp | hp
          · exact hnr3 p hp
          · obtain rfl := List.mem_singleton.mp hp
            exact hnoF
        have he1 : @LT.lt Nat _ fat hq8.objs.size := hlt8 _ (.tail _ (.tail _ (.tail _ (.head _))))
        have hxj2 : 2 ≤ told.getD ((j : Nat) : Int).toNat 0 ∧ told.getD ((j : Nat) : Int).toNat 0 < tab.length := hxj
        have hle1' : @LE.le Nat _ hq8.objs.size e9 := hle1
        have hle2' : @LE.le Nat _ hq8.objs.size i9 := hle2
        by_cases hj : j + 1 < told.length
        · k_steps
          rename Fr _ _ _ _ => F'
          rename News _ _ _ _ => N'
          rename IntsAre _ (List.set _ _ _) => hi'
          refine ⟨_, _, _, _, rfl, F', N', fun y h1 h2 => ?_, _, _, _, ⟨sl, rfl⟩, hFs, rfl, ?_⟩
          · simp only [h1, h2, if_false]
          · rw [List.range_succ, List.foldl_append]
            show IntsAre _ (put1 kind told _ j)
            rw [put1, if_pos hj]
            exact hi'
        · k_steps
          refine ⟨?_⟩
          rename Heap.NewExc _ _ _ _ => tiX
          refine TLg.noted_new1 (oL := ({ oL with slots := sl } : Obj)) (new := (e9, eo₁) :: (i9, io₁) :: (Fc, listOf vs.toArray n) :: (vol, instObj 316 dv) :: (dv, dictOf (volD w t9 bpc (ffc + (i : Nat)) kind (.ref fat) true false) nd9) :: (fat, listOf nvs.toArray nnf) :: rest) fr hFs tiX F9 N9 ⟨?_, ?_, hNe⟩ ?_
          · have : @LT.lt Nat _ L hq8.objs.size := hlt8 (L, oL) (.tail _ (.tail _ (.tail _ (.tail _ (List.mem_append_right _ (.head _))))))
            exact Nat.ne_of_gt (Nat.lt_of_lt_of_le this hle1')
          · have : @LT.lt Nat _ L hq8.objs.size := hlt8 (L, oL) (.tail _ (.tail _ (.tail _ (.tail _ (List.mem_append_right _ (.head _))))))
            exact Nat.ne_of_gt (Nat.lt_of_lt_of_le this hle2')
          intro h10 sl2 hFs2 tiH
          refine TT.HeldNA.land tiH fun h11 tiH2 => ?_
          refine clause_index tiH2 X T fun h12 F12 N12 => ?_
          clear tiX tiH tiH2 F9 N9 hFs
          have hnr5 : ∀ p ∈ (rest ++ [(L, ({ oL with slots := sl2 } : Obj))]), p.1 ≠ fat := fun p hp => by
            rcases List.mem_append.mp hp with hp | hp
            · exact hnr3 p hp
            · obtain rfl := List.mem_singleton.mp hp
              exact hnoF
          replace N12 : News h₀ L' h12 ((e9, eo₁) :: (i9, io₁) :: (Fc, listOf vs.toArray n) :: (vol, instObj 316 dv) :: (dv, dictOf (volD w t9 bpc (ffc + (i : Nat)) kind (.ref fat) true false) nd9) :: (fat, listOf nvs.toArray nnf) :: (rest ++ [(L, ({ oL with slots := sl2 } : Obj))])) := N12
          k_steps
          rename Fr _ _ _ _ => F'
          rename News _ _ _ _ => N'
          rename IntsAre _ (List.set _ _ _) => hi'
          refine ⟨_, _, _, _, rfl, F', N', fun y h1 h2 => ?_, _, _, _, ⟨sl2, rfl⟩, hFs2, rfl, ?_⟩
          · simp only [h1, h2, if_false]
          · rw [List.range_succ, List.foldl_append]
            show IntsAre _ (put1 kind told _ j)
            rw [put1, if_neg hj]
            exact hi'
      · rintro mm nn hp tkk ⟨hmm, oL', nvs, nnf, ⟨sl, rfl⟩, hFs, rfl, Iv⟩ F9 N9
        obtain ⟨o1, o2, rfl⟩ := names2 hmm
        clear hmm F7 N8
        k_steps
        rename Fr _ _ _ _ => F'
        rename News _ _ _ _ => N'
        have hzs : vs.toArray.size = told.length := by rw [List.size_toArray, IntsAre.length Ix]
        rw [hzs] at Iv
        exact TLg.leave_back (s' := { s with heap := hp, toks := tkk }) (P := R (.ok (.ret (.ref Fc))) { s with heap := hp, toks := tkk }) (new := (Fc, listOf vs.toArray n) :: (vol, instObj 316 dv) :: (dv, dictOf (volD w t9 bpc (ffc + (i : Nat)) kind (.ref fat) true false) nd9) :: (fat, listOf nvs.toArray nnf) :: rest) hC F' N' hNe fun F N => h i hin hx1 (by rw [← htold, hde]) hp tkk Fc vs n nvs nnf t9 nd9 F N (allLt_lt hAll) (htold ▸ Ix) (htold ▸ Iv)
    · rename due ≠ _ => hdn
      rename List.getD _ _ _ = 0 => hz
      rename Fr _ _ _ _ => F'
      rename News _ _ _ _ => N'
      rename IntsAre _ (_ ++ [_]) => hi'
      have e : freeL tab ffc (i + 1) = freeL tab ffc i ++ [ffc + (i : Nat)] := by rw [freeL_succ, if_pos hz]
      refine ⟨g', _, _, ⟨_, _, _, rfl⟩, F', nsub N' (fun p hp => List.mem_cons_of_mem _ hp), rfl, rfl, fun y hy => ?_, _, _, rfl, e ▸ hi', ?_, fun k hk _ => ?_⟩
      · by_cases hy2 : y = Str.ofString "free_clusters"
        · simp only [hy2, if_true]
        · simp only [hy, hy2, if_false]
      · rw [e, List.length_append, List.length_singleton]; push_cast; omega
      · obtain rfl : i = k := by omega
        omega
    · rename due ≠ _ => hdn
      rename List.getD _ _ _ = 0 => hz
      rename Fr _ _ _ _ => F'
      rename News _ _ _ _ => N'
      rename IntsAre _ (_ ++ [_]) => hi'
      have e : freeL tab ffc (i + 1) = freeL tab ffc i ++ [ffc + (i : Nat)] := by rw [freeL_succ, if_pos hz]
      refine ⟨g', _, _, ⟨_, _, _, rfl⟩, F', nsub N' (fun p hp => List.mem_cons_of_mem _ hp), rfl, rfl, fun y hy => ?_, _, _, rfl, e ▸ hi', ?_, fun k hk _ => ?_⟩
      · by_cases hy2 : y = Str.ofString "free_clusters"
        · simp only [hy2, if_true]
        · simp only [hy, hy2, if_false]
      · rw [e, List.length_append, List.length_singleton]; push_cast; omega
      · obtain rfl : i = k := by omega
        omega
    · rename due ≠ _ => hdn
      rename List.getD _ _ _ ≠ 0 => hz
      rename Fr _ _ _ _ => F'
      rename News _ _ _ _ => N'
      have e : freeL tab ffc (i + 1) = freeL tab ffc i := by rw [freeL_succ, if_neg hz, List.append_nil]
      refine ⟨g', _, _, ⟨_, _, _, rfl⟩, F', nsub N' (fun p hp => hp), rfl, rfl, fun y hy => ?_, _, _, rfl, e ▸ Ix, e ▸ hle, fun k hk _ => ?_⟩
      · simp only [hy, if_false]
      · obtain rfl : i = k := by omega
        omega
  · rintro _ _ _ hp4 tk4 gg ⟨rfl, rfl, hmm, vs, n, rfl, Ix, hle, hlt⟩ F4 N4
    obtain ⟨ov, rfl⟩ := names1 hmm
    clear F3 N3 hmm hR
    have hfl3 : (freeL tab ffc (tab.length - ffc).toNat).length ≤ 40 := Nat.le_trans (freeL_le _ _ _) (by omega)
    have hp0 : 0 ≤ ((freeL tab ffc (tab.length - ffc).toNat).length : Int) * bpc := Int.mul_nonneg (by omega) (by omega)
    have hp1 : ((freeL tab ffc (tab.length - ffc).toNat).length : Int) * bpc < 100000 :=
      Int.lt_of_le_of_lt (Int.mul_le_mul (show ((freeL tab ffc (tab.length - ffc).toNat).length : Int) ≤ 40 by omega) (show bpc ≤ 1000 by omega) (by omega) (by omega)) (by decide)
    k_steps
    refine Raise_made (show (A.deeper _).handled = none from hh) ?_
    k_steps
    rename Fr _ _ _ _ => F5
    rename News _ _ _ _ => N5
    show wpAny _ _ (call (.ref 41) [_] [(Str.ofString "errno", .int 28 _)]) _ _ _
    refine exc_new (v := .int 28 _) ⟨B', F5, X', N5, T', Around.frames_deeper B'.stack, rfl, rfl, hh, ?_, ?_⟩ (fun X hl => bind_kw X hl rfl) ?_
    · show A.depth + 1 + 5 < 900
      omega
    · show A.units + 3 + 8 * 5 < 5000
      omega
    intro h3 tk3 e d t1 tke F3 N3 l1 l2 l3
    refine ⟨e, d, t1, rfl, x41_of (X'.keeps F3.keep) rfl, (N3 _ (.head _)).1, ?_⟩
    refine raise_out B' FG' F3 N3 rfl (Nat.ne_of_gt l1) l2 fun h4 fl => h2 ?_ _ _ _ _ (flown_sub fl fun q hq => List.mem_cons_of_mem _ hq)
    obtain ⟨k, hk1⟩ : ∃ k, (tab.length - ffc).toNat = k + 1 := ⟨(tab.length - ffc).toNat - 1, by omega⟩
    have hk2 := hlt k hk1 (by omega)
    have hk3 : (ffc + (k : Nat)).toNat = tab.length - 1 := by omega
    rw [hk1, freeL_succ, if_neg (by rw [hk3]; exact hlast), List.append_nil]
    exact hk2
end
end Mine

namespace Mine

open Builtin Builtin.ObjectAttr
section
variable {prog : Program} {w : World} {A : Around} {E : Value → Shared → Prop} {h : Heap} {g : Array GenState} {d : Drawn} {t : Nat} {os : OsState}
variable {nm q : Str} {C N x dd0 : Addr} {bs bm : List Value} {sn : List Str} {sub : List Value} {ab : Bool} {col : Option Bool} {dd : Option Addr} {k0 k1 k2 k3 k5 : Option Value} {B newId sa owner : String}
  {mN : Str → Option Value} {name : Str} {v : Value}
set_option maxHeartbeats 2000000 in
theorem rd_entry {tk : Tok} {o od : Obj} {vs : Array Value} {Q : PySem.Fin → Shared → Prop} (SF : StoreFacts B bm sa owner)
    (hC : h.get? C = some (excClassObj nm q C N bs bm true sn sub ab col dd k0 k1 k2 k3 k5 newId)) (hn : h.Ns N mN) (hna : mN name = none)
    (hB : typeLookup (.type B) name = pure none) (hx : h.get? x = some o) (hc : o.cls = .ref C) (hdn : o.dict = some dd0) (hda : o.data = .fields vs) (hd : h.get? dd0 = some od) (hl : lookIn name od = some (some v))
    (hq : Q (.done (.ret v)) ⟨h, g, d, t, os⟩) :
    wpAny (model prog w) A (Builtin.«object.__getattribute__» ⟨[.ref x, .str name tk], []⟩) Q E ⟨h, g, d, t, os⟩ := by
  unfold Builtin.«object.__getattribute__»
  repeat (any_goals (first | assumption | (with_reducible refine wpAny_loadPart_at hx ?_; rw [hc]) | (with_reducible refine wpAny_typeLookup_exc hC hn SF.mro hB ?_; rw [hna]) | wp_step))
  rw [hda]
  dsimp only
  have hlk := nsLook_of hl
  repeat (any_goals (first | assumption | (with_reducible refine wpAny_loadPart_at hx ?_; rw [hc, hdn]) | (with_reducible refine wpAny_loadPart_at hx ?_; rw [hc]) | (with_reducible refine wpAny_loadPart_at hC ?_) |  (with_reducible refine wpAny_loadPart_at hd ?_) | (with_reducible refine wpAny_of_eq hlk ?_) | wp_step))
set_option maxHeartbeats 4000000 in
theorem rd_attr {o od : Obj} {vs : Array Value} {expr : Bool} {Q : Value → Shared → Prop} (SF : StoreFacts B bm sa owner) (FB : ExcAttrFacts B) (hga0 : typeLookup (.type B) "__getattr__" = pure none) (hmo : mroOf (.type B) = pure bm) (hbb : bm.contains (.type "BaseException") = true)
    (hC : h.get? C = some (excClassObj nm q C N bs bm true sn sub ab col dd k0 k1 k2 k3 k5 newId)) (hn : h.Ns N mN) (hg1 : mN "__getattribute__" = none) (hg2 : mN "__getattr__" = none) (hna : mN name = none)
    (hB : typeLookup (.type B) name = pure none) (hx : h.get? x = some o) (hc : o.cls = .ref C) (hdn : o.dict = some dd0) (hda : o.data = .fields vs) (hd : h.get? dd0 = some od) (hl : lookIn name od = some (some v))
    (hq : ∀ tk, Q v ⟨h, g, d, tk, os⟩) (hv : ∀ id, v ≠ .builtin id) : wpAny (model prog w) A (getAttr (.ref x) name expr) Q E ⟨h, g, d, t, os⟩ := by
  have f3 := FB.ga.bind (.ref x)
  have hx0 : (expr && onTheHeap (Value.builtin "BaseException.__getattribute__")) = false := by cases expr <;> rfl
  have hx2 : (Value.builtin "BaseException.__getattribute__" == Value.builtin "object.__getattribute__") = false := by decide +kernel
  have hx1 : (onTheHeap (Value.ref C) && Value.builtin "BaseException.__getattribute__" == Value.builtin "object.__getattribute__") = false := by rw [hx2]; rfl
  have hk : builtinKind "BaseException.__getattribute__" = some .slot := by decide +kernel
  have hsplit : splitId "BaseException.__getattribute__" = some ("BaseException", "__getattribute__") := by decide +kernel
  have hcB : (Value.ref C :: bm).contains (.type "BaseException") = true := by rw [List.contains_cons, hbb]; simp
  unfold getAttr
  repeat (any_goals (first | assumption | (with_reducible refine wpAny_loadPart_at hx ?_; rw [hc]) | (with_reducible refine wpAny_typeLookup_exc hC hn SF.mro FB.ga.lookup ?_; rw [hg1]) | (with_reducible refine wpAny_typeLookup_exc hC hn SF.mro hga0 ?_; rw [hg2]) | wp_step))
  have ha := PySem.F.args_bexc_ga (.ref x) (.str name t)
  refine codeAny_call_builtin FB.ga.plain PySem.F.entry_bexc_ga ?_
  simp only [checkBuiltinCall, hk, hsplit]
  refine wpAny_bind ?_
  unfold isInstance
  repeat (any_goals (first | assumption | (with_reducible refine wpAny_loadPart_at hx ?_; rw [hc]) | (with_reducible refine wpAny_isSubtype_exc hC ?_; rw [hcB]) | wp_step))
  refine wpAny_typeLookup_exc hC hn SF.mro hB ?_
  rw [hna]
  repeat (any_goals (first | assumption | (with_reducible refine wpAny_loadPart_at hx ?_; rw [hc]) | wp_step))
  rw [hda]
  dsimp only
  have hlk := nsLook_of hl
  repeat (any_goals (first | assumption | exact hq _ | (with_reducible refine wpAny_loadPart_at hx ?_; rw [hc, hdn]) | (with_reducible refine wpAny_loadPart_at hx ?_; rw [hc]) | (with_reducible refine wpAny_loadPart_at hC ?_) | (with_reducible refine wpAny_loadPart_at hx ?_) | (with_reducible refine wpAny_loadPart_at hd ?_) | (with_reducible refine wpAny_of_eq hlk ?_) | wp_step))
  split
  · exact absurd rfl (hv _)
  · exact wpAny_pure (hq _)
end
end Mine

namespace Mine

open PyProof.V
section
variable {w : World} {A₀ : Around} {E : Value → Shared → Prop} {s' : Shared} {h₀ g : Heap} {L Ll a e : Addr} {m ml : Str → Option Value} {name : Str} {scope : Scope} {cd v : Value} {news : List (Addr × Obj)} {env : Env} {n : Str}
  {b₀ : Stmt} {suite : List Stmt} {pos np : Pos} {rest : List ExceptHandler} {Q : Flow → Shared → Prop} {p : Program} {loose : List Str} {mean : ExcName → Option Value} {mg mb : Str → Option Value}
theorem caught_own (hfr : A₀.frames = some [env]) (fl : Flown w g L m news s'.heap (envOf name scope L a cd :: [env]) v e) (FG : Fr h₀ Ll g ml) (fa : env.frame = some Ll) (X : (hd.heap_39 w.params).In h₀) (T : Top p loose mean mg mb h₀)
    (k : ∀ h' oL' d tk tke vs, Fr h₀ L h' (fun y => if y = n then some (.ref e) else m y) → News h₀ L h' (news ++ [(Ll, oL')]) → TI.Caller h₀ Ll ml oL' → TLg.AllNe Ll news → h'.get? e = some { cls := .ref 41, dict := some d, data := .fields vs } → h'.get? d = some (errDict w tke v) →
      wpAny (model PySem.Challenge.rw_iw0017_01.row.prog w) ((A₀.deeper (envOf name scope L a cd)).mark (some (.ref e))) (execs (b₀ :: suite) (envOf name scope L a cd))
        (fun f s₄ => wpAny (model PySem.Challenge.rw_iw0017_01.row.prog w) (A₀.deeper (envOf name scope L a cd)) (do bindName (envOf name scope L a cd) n .none; unbindBehindTheSuite (envOf name scope L a cd) n pos) (fun _ s₅ => Q f s₅) E s₄)
        (AsSuiteRaised (model PySem.Challenge.rw_iw0017_01.row.prog w) ((A₀.deeper (envOf name scope L a cd)).mark (some (.ref e))) (envOf name scope L a cd) n pos (notedBy (model PySem.Challenge.rw_iw0017_01.row.prog w) ((A₀.deeper (envOf name scope L a cd)).mark (some (.ref e))) (envOf name scope L a cd) (cameBackBy (model PySem.Challenge.rw_iw0017_01.row.prog w) (A₀.deeper (envOf name scope L a cd)) (envOf name scope L a cd) E)))
        { s' with heap := h', toks := tk })
    (hk : scope.kind = .function := by rfl) (hlo : (envOf name scope L a cd).kindOf n = some .local := by rfl) (hx : (envOf name scope L a cd).kindOf (Str.ofString "PyFATException") = some .globalImplicit := by rfl) :
    wpAny (model PySem.Challenge.rw_iw0017_01.row.prog w) (A₀.deeper (envOf name scope L a cd)) (noteFrame (.ref e) (envOf name scope L a cd))
      (fun _ s₂ => wpAny (model PySem.Challenge.rw_iw0017_01.row.prog w) (A₀.deeper (envOf name scope L a cd)) (setFlight (.ref e) none) (fun _ s₃ =>
        wpAny (model PySem.Challenge.rw_iw0017_01.row.prog w) (A₀.deeper (envOf name scope L a cd)) (handleBy (.ref e) (envOf name scope L a cd) (.ExceptHandler (some (.Name (Str.ofString "PyFATException") np)) (some n) (b₀ :: suite) pos :: rest)) Q E s₃) E s₂) E s' := by
  obtain ⟨B, G, d, tke, hfl, hd, F, hBG, hU, hn⟩ := fl
  obtain ⟨oL, es, ep, hL, hLd, hLk, hLf⟩ := FG.ns
  have hLG := F.keep _ _ hL
  have hLg := Heap.lt_size hL
  have hLL : Ll ≠ L := Nat.ne_of_lt (Nat.lt_of_lt_of_le hLg F.above)
  have hframes : (envOf name scope L a cd :: [env]).filterMap (·.frame) = [L, Ll] := by
    show (some L :: [env].map (·.frame)).filterMap id = _ 
    simp [fa]
  have hmf : ∀ b, b ∈ (envOf name scope L a cd :: [env]).filterMap (·.frame) → b = L ∨ b = Ll := fun b hb => by
    rcases kts_mem hb with z | z
    · exact .inl z
    · simp [fa] at z
      exact .inr z
  have hBn : ∀ b, b ∈ (envOf name scope L a cd :: [env]).filterMap (·.frame) → B.get? b = none := fun b hb => (hfl.frames.mem hb).1
  have hBL : B.get? L = none := hBn L (by simp [envOf])
  have hBLl : B.get? Ll = none := hBn Ll (by simp [envOf, fa])
  have h0B : ∀ b o, h₀.get? b = some o → B.get? b = some o := fun b o q => hBG b o (F.keep b o (FG.keep b o q)) fun hm => by
    rcases hmf b hm with rfl | rfl
    · have := FG.keep _ _ q
      rw [kts_self F] at this
      cases this
    · rw [kts_self FG] at q
      cases q
  have habove : h₀.objs.size ≤ L := Nat.le_trans FG.above (Nat.le_of_lt (Nat.lt_of_lt_of_le hLg F.above))
  have ground : ∀ hx, B.StaysIn hx → G.UpToSlots hx → Fr h₀ L hx m ∧ ∃ sl, News h₀ L hx (news ++ [(Ll, ({ oL with slots := sl } : Obj))]) := fun hx st up => by
    refine ⟨⟨up.ns F.ns, fun b o q => st b o (h0B b o q), habove⟩, ?_⟩
    obtain ⟨sl, hsl⟩ := up Ll oL hLG (fun vs q => by rw [hLd] at q; cases q)
    refine ⟨sl, fun q hq => ?_⟩
    rcases List.mem_append.mp hq with hq | hq
    · refine ⟨st _ _ (hn q hq).1, fun z => ?_, kts_none (fun b o x => F.keep b o (FG.keep b o x)) (hn q hq).2⟩
      have := (hn q hq).1
      rw [z, hBL] at this
      cases this
    · obtain rfl := List.mem_singleton.mp hq
      exact ⟨hsl, hLL, kts_self FG⟩
  have hne : TLg.AllNe Ll news := TLgL.allNe_of fun q hq z => by
    have := (hn q hq).1
    rw [z, hBLl] at this
    cases this
  refine fly_note (Around.frames_deeper hfr) rfl hfl fun h4 F4 U4 => ?_
  refine fly_clear F4 fun h5 F5 U5 => ?_
  obtain ⟨Fr5, _⟩ := ground h5 F5.stays ((hU.trans U4).trans U5)
  obtain ⟨vs5, he5, _⟩ := F5.tr
  obtain ⟨nm, q, sub, k0, k1, k2, k3, k5, mN, hC, hN, n1, n2, n3, n4, n5⟩ := x41_of (X.keeps Fr5.keep) rfl
  refine wpAny_handleBy_cons (codeAny_handlers_test (name_K Fr5 X (topRead_of T) rfl ?_ hk hx (by decide))) (by intro q; cases q)
  refine wpAny_excMatches_sub_self hC he5 rfl (by decide) (codeAny_handlers_suite_as ?_)
  refine fly_clear F5 fun h6 F6 U6 => ?_
  obtain ⟨Fr6, sl, N6⟩ := ground h6 F6.stays (((hU.trans U4).trans U5).trans U6)
  obtain ⟨vs6, he6, _⟩ := F6.tr
  have hd6 := F6.stays _ _ hd
  have heL : e ≠ L := fun z => by
    obtain ⟨oo, e1, e2, e3, e4, _⟩ := Fr6.ns
    rw [z, e3] at he6
    cases he6
    cases e4
  have hdL : d ≠ L := fun z => by rw [z, hBL] at hd; cases hd
  refine wpAny_storeName_local hlo Fr6.ns (fun h7 hn7 hs7 => ?_) (by show (scope.kind == .class || (scope.kind == .module && L != mainGlobals)) = false; rw [hk]; rfl)
  exact k h7 _ d _ tke vs6 (Fr6.set hn7 hs7) (N6.set hs7) ⟨fun hx sl' ex => ⟨_, es, ep, ex, hLd, hLk, hLf⟩, ⟨es, ep, hLd⟩, FG.above⟩ hne ((hs7.2 e heL).trans he6) ((hs7.2 d hdL).trans hd6)
end
end Mine

namespace Mine

open PyProof.V
local macro_rules | `(tactic| k_asm) => `(tactic| (refine' Cx.sub ?cxa ?cxb ?cxh ?cxB ?cxF ?cxX ?cxN ?cxT; (case cxa => omega); (case cxb => omega); (case cxh => assumption); (case cxB => assumption); (case cxF => assumption); (case cxX => assumption); (case cxN => assumption); (case cxT => assumption)))
local macro_rules | `(tactic| k_all) => `(tactic| first | assumption | exact allLt_ne (by assumption))
local macro_rules | `(tactic| walk_at "call ref") => `(tactic| (k_here; (with_reducible show wpAny _ _ (call (Value.ref 65) _ _) _ _ _); refine Halt.go ?_))
local macro_rules | `(tactic| walk_at "call ref") => `(tactic| (k_here; (with_reducible show wpAny _ _ (call (Value.ref 72) _ _) _ _ _); refine Halt.go ?_))
section
variable {w : World} {p : Program} {loose : List Str} {mean : ExcName → Option Value} {mg mb : Str → Option Value}
  {base h₀ : Heap} {outer : List Env} {A₀ A : Around} {env : Env} {L : Addr} {m : Str → Option Value} {news rest : List (Addr × Obj)} {s : Shared} {R : Result → Shared → Prop}
set_option maxHeartbeats 2000000 in
theorem alloc_shut {kind bpc ffc size : Int} {vol dv : Addr} {t : Nat → Tok} {ini ro : Bool} {fat : Value} {nd : Nat} {ts : Tok}
    (C : Cx 20 w p loose mean mg mb base h₀ outer A₀ A env L m ((vol, instObj 316 dv) :: (dv, dictOf (volD w t bpc ffc kind fat ini ro) nd) :: rest) s.heap) (hbad : ini = false ∨ ro = true)
    (h : ∀ h' tk' e v, (ini = false → v = .none) → (ini = true → ∃ tn, v = .int 30 tn) → Flown w h₀ L m ((vol, instObj 316 dv) :: (dv, dictOf (volD w t bpc ffc kind fat ini ro) nd) :: rest) h' (env :: outer) v e → R (.error (.ref e)) { s with heap := h', toks := tk' }) :
    codeAny (model PySem.Challenge.rw_iw0017_01.row.prog w) A (.call (.ref 220) ⟨[.ref vol, .int size ts], []⟩) R s := by
  obtain ⟨B, F, X, N, T, fr, fa, fk, hh, room, units⟩ := C
  revert X; k_fill; intro X
  refine' code_defR (binds := [(Str.ofString "self", .ref vol), (Str.ofString "size", .int size ts), (Str.ofString "erase", .bool false)]) B F X N T fr fa fk ?ho ?hcd ?hroom ?hbind ?hloc ?_ ?c2 ?c3 ?c4 ?c5
  case ho => k_dflt k_is
  case hcd => k_dflt k_is
  case hroom => exact Nat.lt_trans (by omega) (show 900 < recursionLimit from by decide)
  case hbind => k_dflt (exact binds_K (X.keeps F.keep) rfl (by k_is) rfl rfl rfl)
  case hloc => exact locs rfl
  case c2 => exact rfl
  case c3 => exact rfl
  case c4 => exact rfl
  case c5 => decide
  intro g' L' h' FG' F' N' B' X' T' lt0
  have N0 := N
  clear B F X N T
  k_steps
  refine ⟨?_⟩
  refine wpAny_call ?_
  refine initck_ok ⟨B', F', X', N', T', Around.frames_deeper B'.stack, rfl, rfl, hh, by show A.depth + 1 + 8 < 900; omega, by show A.units + 3 + 8 * 8 < 5000; omega⟩ ?_ ?_
  · intro hini h1 tk1 F1 N1
    clear F' N'
    k_steps
    refine ⟨?_⟩
    refine wpAny_call ?_
    refine rock_ok ⟨B', F1, X', N1, T', Around.frames_deeper B'.stack, rfl, rfl, hh, by show A.depth + 1 + 8 < 900; omega, by show A.units + 3 + 8 * 8 < 5000; omega⟩ ?_ ?_
    · intro hro
      rcases hbad with z | z
      · rw [hini] at z; cases z
      · rw [hro] at z; cases z
    · intro hro h2 tk2 e tn fl
      refine flown_on FG' B' (fun q hq => ⟨hq, (N1 q hq).2.2⟩) fl fun h3 fl3 => h _ _ _ _ (fun z => ?_) (fun _ => ⟨tn, rfl⟩) fl3
      rw [hini] at z; cases z
  · intro hini h2 tk2 e fl
    refine flown_on FG' B' (fun q hq => ⟨hq, (N' q hq).2.2⟩) fl fun h3 fl3 => h _ _ _ _ (fun _ => rfl) (fun z => ?_) fl3
    rw [hini] at z; cases z
set_option maxHeartbeats 2000000 in
theorem free_shut {kind bpc ffc size : Int} {vol dv : Addr} {t : Nat → Tok} {ini ro : Bool} {fat : Value} {nd : Nat} {ts : Tok}
    (C : Cx 20 w p loose mean mg mb base h₀ outer A₀ A env L m ((vol, instObj 316 dv) :: (dv, dictOf (volD w t bpc ffc kind fat ini ro) nd) :: rest) s.heap) (hbad : ini = false ∨ ro = true)
    (h : ∀ h' tk' e v, (ini = false → v = .none) → (ini = true → ∃ tn, v = .int 30 tn) → Flown w h₀ L m ((vol, instObj 316 dv) :: (dv, dictOf (volD w t bpc ffc kind fat ini ro) nd) :: rest) h' (env :: outer) v e → R (.error (.ref e)) { s with heap := h', toks := tk' }) :
    codeAny (model PySem.Challenge.rw_iw0017_01.row.prog w) A (.call (.ref 189) ⟨[.ref vol, .int size ts], []⟩) R s := by
  obtain ⟨B, F, X, N, T, fr, fa, fk, hh, room, units⟩ := C
  revert X; k_fill; intro X
  refine' code_defR (binds := [(Str.ofString "self", .ref vol), (Str.ofString "cluster", .int size ts)]) B F X N T fr fa fk ?ho ?hcd ?hroom ?hbind ?hloc ?_ ?c2 ?c3 ?c4 ?c5
  case ho => k_dflt k_is
  case hcd => k_dflt k_is
  case hroom => exact Nat.lt_trans (by omega) (show 900 < recursionLimit from by decide)
  case hbind => exact BindsTo.of_eq rfl
  case hloc => exact locs rfl
  case c2 => exact rfl
  case c3 => exact rfl
  case c4 => exact rfl
  case c5 => decide
  intro g' L' h' FG' F' N' B' X' T' lt0
  have N0 := N
  clear B F X N T
  k_steps
  refine ⟨?_⟩
  refine wpAny_call ?_
  refine initck_ok ⟨B', F', X', N', T', Around.frames_deeper B'.stack, rfl, rfl, hh, by show A.depth + 1 + 8 < 900; omega, by show A.units + 3 + 8 * 8 < 5000; omega⟩ ?_ ?_
  · intro hini h1 tk1 F1 N1
    clear F' N'
    k_steps
    refine ⟨?_⟩
    refine wpAny_call ?_
    refine rock_ok ⟨B', F1, X', N1, T', Around.frames_deeper B'.stack, rfl, rfl, hh, by show A.depth + 1 + 8 < 900; omega, by show A.units + 3 + 8 * 8 < 5000; omega⟩ ?_ ?_
    · intro hro
      rcases hbad with z | z
      · rw [hini] at z; cases z
      · rw [hro] at z; cases z
    · intro hro h2 tk2 e tn fl
      refine flown_on FG' B' (fun q hq => ⟨hq, (N1 q hq).2.2⟩) fl fun h3 fl3 => h _ _ _ _ (fun z => ?_) (fun _ => ⟨tn, rfl⟩) fl3
      rw [hini] at z; cases z
  · intro hini h2 tk2 e fl
    refine flown_on FG' B' (fun q hq => ⟨hq, (N' q hq).2.2⟩) fl fun h3 fl3 => h _ _ _ _ (fun _ => rfl) (fun z => ?_) fl3
    rw [hini] at z; cases z
end
end Mine

namespace Mine

open PyProof.V
local macro_rules | `(tactic| k_asm) => `(tactic| (refine' Cx.sub ?cxa ?cxb ?cxh ?cxB ?cxF ?cxX ?cxN ?cxT; (case cxa => omega); (case cxb => omega); (case cxh => assumption); (case cxB => assumption); (case cxF => assumption); (case cxX => assumption); (case cxN => assumption); (case cxT => assumption)))
local macro_rules | `(tactic| k_all) => `(tactic| first | assumption | exact allLt_ne (by assumption))
local macro_rules | `(tactic| walk_at "call ref") => `(tactic| (k_here; (with_reducible show wpAny _ _ (call (Value.ref 220) _ _) _ _ _); refine Halt.go ?_))
local macro_rules | `(tactic| walk_at "call ref") => `(tactic| (k_here; (with_reducible show wpAny _ _ (call (Value.ref 189) _ _) _ _ _); refine Halt.go ?_))
local macro_rules | `(tactic| walk_at "getAttr ref") => `(tactic| (k_here; (with_reducible show wpAny _ _ (getAttr (Value.ref _) (Str.ofString "errno") _) _ _ _); refine Halt.go ?_))

theorem back2 (s : Shared) {h₀ hz : Heap} {L L' : Addr} {m m' : Str → Option Value} {oL : Obj} {new : List (Addr × Obj)} (C : TI.Caller h₀ L m oL) (F' : Fr h₀ L' hz m') (N' : News h₀ L' hz (new ++ [(L, oL)])) (hne : TLg.AllNe L new) : Fr h₀ L hz m ∧ News h₀ L hz new :=
  TLg.leave_back (s' := { s with heap := hz }) (P := Fr h₀ L hz m ∧ News h₀ L hz new) (new := new) (sl := oL.slots) C F' N' hne fun F N => ⟨F, N⟩
def Raises (w : World) (callee : Addr) (args : List Value) (news : List (Addr × Obj)) (GV : Value → Prop) : Prop :=
  ∀ {p : Program} {loose : List Str} {mean : ExcName → Option Value} {mg mb : Str → Option Value} {base h₀ : Heap} {outer : List Env} {A₀ A : Around} {env : Env} {L : Addr} {m : Str → Option Value} {s : Shared} {R : Result → Shared → Prop},
    Cx 20 w p loose mean mg mb base h₀ outer A₀ A env L m news s.heap →
    (∀ h' tk' e v, GV v → Flown w h₀ L m news h' (env :: outer) v e → R (.error (.ref e)) { s with heap := h', toks := tk' }) →
    codeAny (model PySem.Challenge.rw_iw0017_01.row.prog w) A (.call (.ref callee) ⟨args, []⟩) R s
def IsCode (c : Option Int) (v : Value) : Prop := match c with
  | some k => ∃ t, v = .int k t
  | none => v = .none
section
variable {w : World} {p : Program} {loose : List Str} {mean : ExcName → Option Value} {mg mb : Str → Option Value}
  {base h₀ : Heap} {outer : List Env} {A₀ A : Around} {env : Env} {L : Addr} {m : Str → Option Value} {news rest : List (Addr × Obj)} {s : Shared} {R : Result → Shared → Prop}
set_option maxHeartbeats 2000000 in
theorem refused_ok {kind bpc ffc size : Int} {vol dv : Addr} {t : Nat → Tok} {ini ro : Bool} {fat : Value} {nd : Nat} {ts : Tok} {c : Option Int} {code : Value}
    (C : Cx 24 w p loose mean mg mb base h₀ [] A₀ A env L m ((vol, instObj 316 dv) :: (dv, dictOf (volD w t bpc ffc kind fat ini ro) nd) :: rest) s.heap) (hc : IsCode c code)
    (hr : Raises w 220 [.ref vol, .int size ts] ((vol, instObj 316 dv) :: (dv, dictOf (volD w t bpc ffc kind fat ini ro) nd) :: rest) (IsCode c))
    (h : ∀ h' tk', Fr h₀ L h' m → News h₀ L h' ((vol, instObj 316 dv) :: (dv, dictOf (volD w t bpc ffc kind fat ini ro) nd) :: rest) → R (.ok (.ret (.bool true))) { s with heap := h', toks := tk' }) :
    codeAny (model PySem.Challenge.rw_iw0017_01.row.prog w) A (.call (.ref 362) ⟨[.ref vol, .int size ts, code], []⟩) R s := by
  obtain ⟨B, F, X, N, T, fr, fa, fk, hh, room, units⟩ := C
  revert X; k_fill; intro X
  refine' code_defR (binds := [(Str.ofString "volume", .ref vol), (Str.ofString "wanted", .int size ts), (Str.ofString "code", code)]) B F X N T fr fa fk ?ho ?hcd ?hroom ?hbind ?hloc ?_ ?c2 ?c3 ?c4 ?c5
  case ho => k_dflt k_is
  case hcd => k_dflt k_is
  case hroom => exact Nat.lt_trans (by omega) (show 900 < recursionLimit from by decide)
  case hbind => exact BindsTo.of_eq rfl
  case hloc => exact locs rfl
  case c2 => exact rfl
  case c3 => exact rfl
  case c4 => exact rfl
  case c5 => decide
  intro g' L' h' FG' F' N' B' X' T' lt0
  have keepX := And.intro trivial X
  have keepT := And.intro trivial T
  clear B F X N T
  k_steps
  refine ⟨?_⟩
  refine wpAny_call ?_
  refine hr ⟨B', F', X', N', T', Around.frames_deeper B'.stack, rfl, rfl, hh, by show A.depth + 1 + 20 < 900; omega, by show A.units + 3 + 8 * 20 < 5000; omega⟩ ?_
  intro h1 tk1 e v hv fl
  have X := keepX.2
  have T := keepT.2
  refine caught_own fr fl FG' fa X T fun h2 oL' d tk2 tke vs F2 N2 hC hNe he hd => ?_
  clear X' T' N' F' fl
  have hC2 := And.intro trivial hC
  obtain ⟨nm, q, sub, k0, k1, k2, k3, k5, mN, hCx, hN, n1, n2, n3, n4, n5⟩ := x41_of (X.keeps F2.keep) rfl
  have hvb : ∀ id, v ≠ .builtin id := fun id z => by
    subst z
    cases c with
    | none => cases hv
    | some k => obtain ⟨_, z⟩ := hv; cases z
  have hB : typeLookup (.type "Exception") (Str.ofString "errno") = pure none := by rw [typeLookup_type, builtinLookup_eq_fast]; kernel_rfl
  k_steps
  refine ⟨?_⟩
  refine rd_attr PySem.F.store_Exception PySem.F.attr_Exception PySem.F.attrBase_Exception.noGetattr rfl (by decide) hCx hN n4 n5 n2 hB he rfl rfl rfl hd rfl (fun tk9 => ?_) hvb
  clear hCx hN n1 n2 n3 n4 n5 he hd hB hvb
  cases c with
  | none =>
    obtain rfl : v = .none := hv
    obtain rfl : code = .none := hc
    k_steps
    rename Fr _ _ _ _ => F'
    rename News _ _ _ _ => N'
    rename Heap => hz
    obtain ⟨Fb, Nb⟩ := back2 s hC2.2 F' N' hNe
    exact h _ _ Fb Nb
  | some kc =>
    obtain ⟨t1, rfl⟩ := hv
    obtain ⟨t2, rfl⟩ := hc
    k_steps
    rw [show (kc == kc) = true from by simp]
    rename Fr _ _ _ _ => F'
    rename News _ _ _ _ => N'
    rename Heap => hz
    obtain ⟨Fb, Nb⟩ := back2 s hC2.2 F' N' hNe
    exact h _ _ Fb Nb
set_option maxHeartbeats 2000000 in
theorem shut_ok {kind bpc ffc size : Int} {vol dv : Addr} {t : Nat → Tok} {ini ro : Bool} {fat : Value} {nd : Nat} {ts : Tok} {c : Option Int} {code : Value}
    (C : Cx 24 w p loose mean mg mb base h₀ [] A₀ A env L m ((vol, instObj 316 dv) :: (dv, dictOf (volD w t bpc ffc kind fat ini ro) nd) :: rest) s.heap) (hc : IsCode c code)
    (hr : Raises w 189 [.ref vol, .int size ts] ((vol, instObj 316 dv) :: (dv, dictOf (volD w t bpc ffc kind fat ini ro) nd) :: rest) (IsCode c))
    (h : ∀ h' tk', Fr h₀ L h' m → News h₀ L h' ((vol, instObj 316 dv) :: (dv, dictOf (volD w t bpc ffc kind fat ini ro) nd) :: rest) → R (.ok (.ret (.bool true))) { s with heap := h', toks := tk' }) :
    codeAny (model PySem.Challenge.rw_iw0017_01.row.prog w) A (.call (.ref 369) ⟨[.ref vol, .int size ts, code], []⟩) R s := by
  obtain ⟨B, F, X, N, T, fr, fa, fk, hh, room, units⟩ := C
  revert X; k_fill; intro X
  refine' code_defR (binds := [(Str.ofString "volume", .ref vol), (Str.ofString "first", .int size ts), (Str.ofString "code", code)]) B F X N T fr fa fk ?ho ?hcd ?hroom ?hbind ?hloc ?_ ?c2 ?c3 ?c4 ?c5
  case ho => k_dflt k_is
  case hcd => k_dflt k_is
  case hroom => exact Nat.lt_trans (by omega) (show 900 < recursionLimit from by decide)
  case hbind => exact BindsTo.of_eq rfl
  case hloc => exact locs rfl
  case c2 => exact rfl
  case c3 => exact rfl
  case c4 => exact rfl
  case c5 => decide
  intro g' L' h' FG' F' N' B' X' T' lt0
  have keepX := And.intro trivial X
  have keepT := And.intro trivial T
  clear B F X N T
  k_steps
  refine ⟨?_⟩
  refine wpAny_call ?_
  refine hr ⟨B', F', X', N', T', Around.frames_deeper B'.stack, rfl, rfl, hh, by show A.depth + 1 + 20 < 900; omega, by show A.units + 3 + 8 * 20 < 5000; omega⟩ ?_
  intro h1 tk1 e v hv fl
  have X := keepX.2
  have T := keepT.2
  refine caught_own fr fl FG' fa X T fun h2 oL' d tk2 tke vs F2 N2 hC hNe he hd => ?_
  clear X' T' N' F' fl
  have hC2 := And.intro trivial hC
  obtain ⟨nm, q, sub, k0, k1, k2, k3, k5, mN, hCx, hN, n1, n2, n3, n4, n5⟩ := x41_of (X.keeps F2.keep) rfl
  have hvb : ∀ id, v ≠ .builtin id := fun id z => by
    subst z
    cases c with
    | none => cases hv
    | some k => obtain ⟨_, z⟩ := hv; cases z
  have hB : typeLookup (.type "Exception") (Str.ofString "errno") = pure none := by rw [typeLookup_type, builtinLookup_eq_fast]; kernel_rfl
  k_steps
  refine ⟨?_⟩
  refine rd_attr PySem.F.store_Exception PySem.F.attr_Exception PySem.F.attrBase_Exception.noGetattr rfl (by decide) hCx hN n4 n5 n2 hB he rfl rfl rfl hd rfl (fun tk9 => ?_) hvb
  clear hCx hN n1 n2 n3 n4 n5 he hd hB hvb
  cases c with
  | none =>
    obtain rfl : v = .none := hv
    obtain rfl : code = .none := hc
    k_steps
    rename Fr _ _ _ _ => F'
    rename News _ _ _ _ => N'
    rename Heap => hz
    obtain ⟨Fb, Nb⟩ := back2 s hC2.2 F' N' hNe
    exact h _ _ Fb Nb
  | some kc =>
    obtain ⟨t1, rfl⟩ := hv
    obtain ⟨t2, rfl⟩ := hc
    k_steps
    rw [show (kc == kc) = true from by simp]
    rename Fr _ _ _ _ => F'
    rename News _ _ _ _ => N'
    rename Heap => hz
    obtain ⟨Fb, Nb⟩ := back2 s hC2.2 F' N' hNe
    exact h _ _ Fb Nb
end
end Mine

namespace Mine


theorem foldl_put1_out (kind : Int) (c : List Int) (i : Nat) : ∀ (l : List Nat) (t : List Int), (∀ j ∈ l, (c.getD j 0).toNat ≠ i) → (l.foldl (put1 kind c) t).getD i 0 = t.getD i 0
  | [], _, _ => rfl
  | j :: l, t, h => by
    rw [List.foldl_cons, foldl_put1_out kind c i l _ fun j' hj' => h j' (.tail _ hj')]
    have hh := h j (.head _)
    simp only [put1, List.getD_eq_getElem?_getD] at hh ⊢
    rw [List.getElem?_set_ne hh]
theorem chainPut_out (kind : Int) (t c : List Int) (i : Nat) (h : ∀ x ∈ c, x.toNat ≠ i) : (chainPut kind t c).getD i 0 = t.getD i 0 := by
  refine foldl_put1_out kind c i _ t fun j hj => h _ ?_
  have := List.mem_range.mp hj
  rw [List.getD_eq_getElem?_getD, List.getElem?_eq_getElem this]
  exact List.getElem_mem this
theorem foldl_put1_in (kind : Int) (c : List Int) (hn : ∀ i j, i < c.length → j < c.length → (c.getD i 0).toNat = (c.getD j 0).toNat → i = j) (j : Nat) :
    ∀ (n : Nat) (t : List Int), j < n → n ≤ c.length → (c.getD j 0).toNat < t.length → ((List.range n).foldl (put1 kind c) t).getD (c.getD j 0).toNat 0 = if j + 1 < c.length then c.getD (j + 1) 0 else endOf kind := by
  intro n
  induction n with
  | zero => intro t h; omega
  | succ n ih =>
    intro t hj hn' hl
    rw [List.range_succ, List.foldl_append]
    show (put1 kind c _ n).getD _ 0 = _
    by_cases e : j = n
    · subst e
      have hl' : (c.getD j 0).toNat < ((List.range j).foldl (put1 kind c) t).length := by rw [put1_len]; exact hl
      simp only [put1, List.getD_eq_getElem?_getD] at hl' ⊢
      rw [List.getElem?_set_self hl']
      rfl
    · have hne : (c.getD n 0).toNat ≠ (c.getD j 0).toNat := fun z => e (hn n j (by omega) (by omega) z).symm
      have := ih t (by omega) (by omega) hl
      rw [← this]
      simp only [put1, List.getD_eq_getElem?_getD] at hne ⊢
      rw [List.getElem?_set_ne hne]
theorem chainPut_in (kind : Int) (t c : List Int) (hn : ∀ i j, i < c.length → j < c.length → (c.getD i 0).toNat = (c.getD j 0).toNat → i = j) (j : Nat) (hj : j < c.length) (hl : (c.getD j 0).toNat < t.length) :
    (chainPut kind t c).getD (c.getD j 0).toNat 0 = if j + 1 < c.length then c.getD (j + 1) 0 else endOf kind := foldl_put1_in kind c hn j _ t hj (Nat.le_refl _) hl
theorem tableF_snoc (kind : Int) (bs : List Bool) (css : List (List Int)) (c : List Int) : tableF kind bs (css ++ [c]) = chainPut kind (tableF kind bs css) c := by
  rw [tableF, List.foldl_append]; rfl

structure Out (bs : List Bool) (css : List (List Int)) : Prop where
  ne : ∀ c ∈ css, c ≠ []
  rng : ∀ c ∈ css, ∀ x ∈ c, 2 ≤ x ∧ x < bs.length + 2 ∧ bs.getD (x.toNat - 2) true = false
  nd : css.flatten.Nodup

theorem nodup_inj {c : List Int} (h : c.Nodup) (h2 : ∀ x ∈ c, 2 ≤ x) : ∀ i j, i < c.length → j < c.length → (c.getD i 0).toNat = (c.getD j 0).toNat → i = j := by
  intro i j hi hj e
  have e1 : c.getD i 0 = c[i] := by rw [List.getD_eq_getElem?_getD, List.getElem?_eq_getElem hi]; rfl
  have e2 : c.getD j 0 = c[j] := by rw [List.getD_eq_getElem?_getD, List.getElem?_eq_getElem hj]; rfl
  rw [e1, e2] at e
  have m1 := h2 _ (List.getElem_mem hi)
  have m2 := h2 _ (List.getElem_mem hj)
  have e3 : c[i] = c[j] := by omega
  exact (List.getElem_inj h).mp e3

theorem puts_out (kind : Int) (i : Nat) : ∀ (css : List (List Int)) (t : List Int), (∀ c ∈ css, ∀ x ∈ c, x.toNat ≠ i) → (css.foldl (chainPut kind) t).getD i 0 = t.getD i 0
  | [], _, _ => rfl
  | c :: css, t, h => by
    rw [List.foldl_cons, puts_out kind i css _ fun c' hc' => h c' (.tail _ hc'), chainPut_out kind t c i (h c (.head _))]
theorem puts_in (kind : Int) (c : List Int) (j : Nat) (hj : j < c.length) : ∀ (css : List (List Int)) (t : List Int), c ∈ css → css.flatten.Nodup → (∀ c ∈ css, ∀ x ∈ c, 2 ≤ x) → (c.getD j 0).toNat < t.length →
    (css.foldl (chainPut kind) t).getD (c.getD j 0).toNat 0 = if j + 1 < c.length then c.getD (j + 1) 0 else endOf kind
  | [], _, h, _, _, _ => nomatch h
  | d :: css, t, hm, hn, hr, hl => by
    rw [List.flatten_cons, List.nodup_append] at hn
    obtain ⟨n1, n2, n3⟩ := hn
    rw [List.foldl_cons]
    have hcj : c.getD j 0 ∈ c := by rw [List.getD_eq_getElem?_getD, List.getElem?_eq_getElem hj]; exact List.getElem_mem hj
    rcases List.mem_cons.mp hm with rfl | hm
    · rw [puts_out kind _ css _ fun c' hc' x hx z => ?_]
      · exact chainPut_in kind t c (nodup_inj n1 (hr c (.head _))) j hj hl
      · have q := n3 (c.getD j 0) hcj x (List.mem_flatten.mpr ⟨c', hc', hx⟩)
        have := hr c (.head _) _ hcj
        have := hr c' (.tail _ hc') x hx
        omega
    · exact puts_in kind c j hj css _ hm n2 (fun c' hc' => hr c' (.tail _ hc')) (by rw [chainPut_len]; exact hl)
end Mine

namespace Mine


theorem tab_in {kind : Int} {bs : List Bool} {css : List (List Int)} (O : Out bs css) {c : List Int} (hc : c ∈ css) {j : Nat} (hj : j < c.length) :
    (tableF kind bs css).getD (c.getD j 0).toNat 0 = if j + 1 < c.length then c.getD (j + 1) 0 else endOf kind := by
  refine puts_in kind c j hj css _ hc O.nd (fun c' hc' x hx => (O.rng c' hc' x hx).1) ?_
  have hcj : c.getD j 0 ∈ c := by rw [List.getD_eq_getElem?_getD, List.getElem?_eq_getElem hj]; exact List.getElem_mem hj
  have := O.rng c hc _ hcj
  simp only [List.length_append, List.length_map, List.length_cons, List.length_nil]
  omega
theorem tab_out {kind : Int} {bs : List Bool} {css : List (List Int)} {i : Nat} (h : ∀ c ∈ css, ∀ x ∈ c, x.toNat ≠ i) (h2 : 2 ≤ i) (hi : i < bs.length + 2) :
    (tableF kind bs css).getD i 0 = if bs.getD (i - 2) true then badOf kind else 0 := by
  rw [tableF, puts_out kind i css _ h]
  obtain ⟨k, rfl⟩ : ∃ k, i = k + 2 := ⟨i - 2, by omega⟩
  have hk : k < bs.length := by omega
  simp only [List.getD_eq_getElem?_getD, List.cons_append, List.nil_append, List.getElem?_cons_succ, List.getElem?_map, Nat.add_sub_cancel]
  rw [List.getElem?_eq_getElem hk]
  rfl
theorem kind_nums {kind : Int} (h : KindOk kind) : 100 < badOf kind ∧ 100 < endOf kind := by rcases h with rfl | rfl | rfl <;> decide
theorem tab_in_ne {kind : Int} (hk : KindOk kind) {bs : List Bool} {css : List (List Int)} (O : Out bs css) {c : List Int} (hc : c ∈ css) {x : Int} (hx : x ∈ c) : (tableF kind bs css).getD x.toNat 0 ≠ 0 := by
  obtain ⟨j, hj, rfl⟩ := List.getElem_of_mem hx
  have e : c.getD j 0 = c[j] := by rw [List.getD_eq_getElem?_getD, List.getElem?_eq_getElem hj]; rfl
  have := tab_in (kind := kind) O hc hj
  rw [e] at this
  rw [this]
  split
  · rename_i h1
    have hm : c.getD (j + 1) 0 ∈ c := by rw [List.getD_eq_getElem?_getD, List.getElem?_eq_getElem h1]; exact List.getElem_mem h1
    have := O.rng c hc _ hm
    omega
  · have := kind_nums hk
    omega
theorem tab_zero {kind : Int} (hk : KindOk kind) {bs : List Bool} {css : List (List Int)} (O : Out bs css) {i : Nat} (h2 : 2 ≤ i) (hi : i < bs.length + 2) (h : (tableF kind bs css).getD i 0 = 0) :
    (∀ c ∈ css, ∀ x ∈ c, x.toNat ≠ i) ∧ bs.getD (i - 2) true = false := by
  have h1 : ∀ c ∈ css, ∀ x ∈ c, x.toNat ≠ i := fun c hc x hx z => tab_in_ne hk O hc hx (z ▸ h)
  refine ⟨h1, ?_⟩
  rw [tab_out h1 h2 hi] at h
  cases hb : bs.getD (i - 2) true with
  | false => rfl
  | true =>
    rw [hb, if_pos rfl] at h
    have := kind_nums hk
    omega
structure Sound (kind : Int) (bs : List Bool) (css : List (List Int)) (ffc : Int) : Prop where
  kd : KindOk kind
  out : Out bs css
  low : ∀ i : Nat, 2 ≤ i → (i : Int) < ffc → (tableF kind bs css).getD i 0 ≠ 0
  f2 : 2 ≤ ffc
  fN : ffc < bs.length + 2
theorem freeL_nodup (tab : List Int) (a : Int) (k : Nat) : (freeL tab a k).Nodup := by
  unfold freeL
  refine List.Nodup.sublist List.filter_sublist ?_
  refine List.Pairwise.map _ (fun i j h => ?_) List.nodup_range
  intro z; omega
theorem freeL_zero {tab : List Int} {a : Int} {k : Nat} {x : Int} (h : x ∈ freeL tab a k) : tab.getD x.toNat 0 = 0 := by
  have := (List.mem_filter.mp h).2
  simpa using this
theorem freeL_of {tab : List Int} {a : Int} {k : Nat} {x : Int} (h1 : a ≤ x) (h2 : x < a + k) (h3 : tab.getD x.toNat 0 = 0) : x ∈ freeL tab a k := by
  refine List.mem_filter.mpr ⟨List.mem_map.mpr ⟨(x - a).toNat, List.mem_range.mpr (by omega), by omega⟩, by simpa using h3⟩
theorem sound_alloc {kind : Int} {bs : List Bool} {css : List (List Int)} {ffc : Int} (I : Sound kind bs css ffc) {k : Nat} (hk : (k : Int) < bs.length + 2 - ffc) (hne : freeL (tableF kind bs css) ffc k ≠ []) :
    Sound kind bs (css ++ [freeL (tableF kind bs css) ffc k]) (ffc + k) := by
  have f2 := I.f2
  have hz : ∀ x ∈ freeL (tableF kind bs css) ffc k, (∀ c ∈ css, ∀ y ∈ c, y.toNat ≠ x.toNat) ∧ bs.getD (x.toNat - 2) true = false := fun x hx => by
    have hm := freeL_mem hx
    exact tab_zero I.kd I.out (by omega) (by omega) (freeL_zero hx)
  have O' : Out bs (css ++ [freeL (tableF kind bs css) ffc k]) := by
    refine ⟨fun c hc => ?_, fun c hc x hx => ?_, ?_⟩
    · rcases List.mem_append.mp hc with hc | hc
      · exact I.out.ne c hc
      · rw [List.mem_singleton.mp hc]; exact hne
    · rcases List.mem_append.mp hc with hc | hc
      · exact I.out.rng c hc x hx
      · rw [List.mem_singleton.mp hc] at hx
        have hm := freeL_mem hx
        exact ⟨by omega, by omega, (hz x hx).2⟩
    · rw [List.flatten_append, List.nodup_append]
      refine ⟨I.out.nd, by simpa using freeL_nodup _ _ _, fun a ha b hb => ?_⟩
      obtain ⟨c, hc, hac⟩ := List.mem_flatten.mp ha
      have hb' : b ∈ freeL (tableF kind bs css) ffc k := by simpa using hb
      intro z
      exact (hz b hb').1 c hc a hac (by rw [z])
  refine ⟨I.kd, O', fun i h2 hi => ?_, by omega, by omega⟩
  by_cases hin : ∃ c ∈ css ++ [freeL (tableF kind bs css) ffc k], ∃ x ∈ c, x.toNat = i
  · obtain ⟨c, hc, x, hx, rfl⟩ := hin
    exact tab_in_ne I.kd O' hc hx
  · have hno : ∀ c ∈ css ++ [freeL (tableF kind bs css) ffc k], ∀ x ∈ c, x.toNat ≠ i := fun c hc x hx z => hin ⟨c, hc, x, hx, z⟩
    have e1 := tab_out (kind := kind) (bs := bs) hno h2 (by omega)
    have e2 := tab_out (kind := kind) (bs := bs) (css := css) (fun c hc => hno c (List.mem_append_left _ hc)) h2 (by omega)
    rw [e1, ← e2]
    by_cases hlt : (i : Int) < ffc
    · exact I.low i h2 hlt
    · intro z
      exact hno _ (List.mem_append_right _ (.head _)) (i : Int) (freeL_of (by omega) (by omega) (by simpa using z)) (by simp)
theorem sound_still {kind : Int} {bs : List Bool} {css : List (List Int)} {ffc : Int} (I : Sound kind bs css ffc) {k : Nat} (hk : (k : Int) < bs.length + 2 - ffc) (he : freeL (tableF kind bs css) ffc k = []) : Sound kind bs css (ffc + k) := by
  have f2 := I.f2
  refine ⟨I.kd, I.out, fun i h2 hi z => ?_, by omega, by omega⟩
  by_cases hlt : (i : Int) < ffc
  · exact I.low i h2 hlt z
  · have := freeL_of (tab := tableF kind bs css) (a := ffc) (k := k) (x := (i : Int)) (by omega) (by omega) (by simpa using z)
    rw [he] at this
    cases this
end Mine

namespace Mine


theorem zeroF_out (i : Nat) : ∀ (c t : List Int), (∀ x ∈ c, x.toNat ≠ i) → (zeroF t c).getD i 0 = t.getD i 0
  | [], _, _ => rfl
  | x :: c, t, h => by
    show (zeroF (t.set x.toNat 0) c).getD i 0 = _
    rw [zeroF_out i c _ fun y hy => h y (.tail _ hy), List.getD_eq_getElem?_getD, List.getElem?_set_ne (h x (.head _)), List.getD_eq_getElem?_getD]
theorem zeroF_in (i : Nat) : ∀ (c t : List Int), (∃ x ∈ c, x.toNat = i) → (zeroF t c).getD i 0 = 0
  | [], _, h => by obtain ⟨_, h, _⟩ := h; cases h
  | x :: c, t, h => by
    show (zeroF (t.set x.toNat 0) c).getD i 0 = _
    by_cases hc : ∃ y ∈ c, y.toNat = i
    · exact zeroF_in i c _ hc
    · rw [zeroF_out i c _ fun y hy z => hc ⟨y, hy, z⟩]
      obtain ⟨y, hy, e⟩ := h
      rcases List.mem_cons.mp hy with rfl | hy
      · subst e
        rw [List.getD_eq_getElem?_getD]
        by_cases hl : y.toNat < t.length
        · rw [List.getElem?_set_self hl]; rfl
        · rw [List.getElem?_eq_none (by rw [List.length_set]; omega)]; rfl
      · exact absurd ⟨y, hy, e⟩ hc
theorem tab_end {kind : Int} {bs : List Bool} {css : List (List Int)} (O : Out bs css) {i : Nat} (hi : i < 2) : (tableF kind bs css).getD i 0 = endOf kind := by
  rw [tableF, puts_out kind i css _ fun c hc x hx z => by have := O.rng c hc x hx; omega]
  rcases i with _ | _ | i
  · rfl
  · rfl
  · omega
theorem flatten_sub {a b : List (List Int)} (h : a.Sublist b) : a.flatten.Sublist b.flatten := by
  induction h with
  | slnil => exact .slnil
  | cons x _ ih => rw [List.flatten_cons]; exact ih.trans (List.sublist_append_right _ _)
  | cons_cons x _ ih => rw [List.flatten_cons, List.flatten_cons]; exact List.Sublist.append_left ih _
theorem out_sub {bs : List Bool} {css css' : List (List Int)} (O : Out bs css) (h : css'.Sublist css) : Out bs css' :=
  ⟨fun c hc => O.ne c (h.subset hc), fun c hc => O.rng c (h.subset hc), O.nd.sublist (flatten_sub h)⟩
theorem split_at (css : List (List Int)) (a : Nat) (ha : a < css.length) : css = css.take a ++ css[a] :: css.drop (a + 1) := by
  rw [← List.drop_eq_getElem_cons ha, List.take_append_drop]
theorem ext_getD {a b : List Int} (hl : a.length = b.length) (h : ∀ i, i < b.length → a.getD i 0 = b.getD i 0) : a = b := by
  refine List.ext_getElem hl fun i h1 h2 => ?_
  have := h i h2
  rwa [List.getD_eq_getElem?_getD, List.getD_eq_getElem?_getD, List.getElem?_eq_getElem h1, List.getElem?_eq_getElem h2] at this
theorem zero_erase {kind : Int} {bs : List Bool} {css : List (List Int)} (O : Out bs css) (a : Nat) (ha : a < css.length) :
    zeroF (tableF kind bs css) css[a] = tableF kind bs (css.take a ++ css.drop (a + 1)) := by
  have hsub : (css.take a ++ css.drop (a + 1)).Sublist css := by
    conv => rhs; rw [split_at css a ha]
    exact List.Sublist.append_left (List.sublist_cons_self _ _) _
  have O' := out_sub O hsub
  have hca : css[a] ∈ css := List.getElem_mem ha
  have hmem : ∀ c ∈ css, c = css[a] ∨ c ∈ css.take a ++ css.drop (a + 1) := fun c hc => by
    rw [split_at css a ha] at hc
    rcases List.mem_append.mp hc with hc | hc
    · exact .inr (List.mem_append_left _ hc)
    · rcases List.mem_cons.mp hc with hc | hc
      · exact .inl hc
      · exact .inr (List.mem_append_right _ hc)
  have hdis : ∀ c ∈ css.take a ++ css.drop (a + 1), ∀ x ∈ c, x ∉ css[a] := fun c hc x hx hx2 => by
    have := O.nd
    rw [split_at css a ha, List.flatten_append, List.flatten_cons] at this
    have hp : ((css.take a).flatten ++ (css[a] ++ (css.drop (a + 1)).flatten)).Perm (css[a] ++ ((css.take a).flatten ++ (css.drop (a + 1)).flatten)) := by
      rw [← List.append_assoc, ← List.append_assoc]
      exact List.Perm.append_right _ List.perm_append_comm
    have h2 := hp.nodup_iff.mp this
    rw [List.nodup_append] at h2
    refine h2.2.2 x hx2 x ?_ rfl
    rw [← List.flatten_append]
    exact List.mem_flatten.mpr ⟨c, hc, hx⟩
  refine ext_getD (by rw [zeroF_len, tableF_len, tableF_len]) fun i hi => ?_
  rw [tableF_len] at hi
  by_cases h2 : i < 2
  · rw [zeroF_out i _ _ fun x hx z => by have := O.rng _ hca x hx; omega, tab_end O h2, tab_end O' h2]
  by_cases hin : ∃ x ∈ css[a], x.toNat = i
  · rw [zeroF_in i _ _ hin]
    obtain ⟨x, hx, rfl⟩ := hin
    have hx2 := O.rng _ hca x hx
    rw [tab_out (kind := kind) (bs := bs) (fun c hc y hy z => ?_) (by omega) hi, hx2.2.2]
    · rfl
    · have hy2 := O'.rng c hc y hy
      have : y = x := by omega
      exact hdis c hc y hy (this ▸ hx)
  · have hno : ∀ x ∈ css[a], x.toNat ≠ i := fun x hx z => hin ⟨x, hx, z⟩
    rw [zeroF_out i _ _ hno]
    by_cases hin2 : ∃ c ∈ css.take a ++ css.drop (a + 1), ∃ x ∈ c, x.toNat = i
    · obtain ⟨c, hc, x, hx, rfl⟩ := hin2
      obtain ⟨j, hj, rfl⟩ := List.getElem_of_mem hx
      have e : c.getD j 0 = c[j] := by rw [List.getD_eq_getElem?_getD, List.getElem?_eq_getElem hj]; rfl
      have e1 := tab_in (kind := kind) O (hsub.subset hc) hj
      have e2 := tab_in (kind := kind) O' hc hj
      rw [e] at e1 e2
      rw [e1, e2]
    · have hno2 : ∀ c ∈ css.take a ++ css.drop (a + 1), ∀ x ∈ c, x.toNat ≠ i := fun c hc x hx z => hin2 ⟨c, hc, x, hx, z⟩
      rw [tab_out (kind := kind) (bs := bs) (css := css) (fun c hc x hx => ?_) (by omega) hi, tab_out (kind := kind) (bs := bs) hno2 (by omega) hi]
      rcases hmem c hc with rfl | hc
      · exact hno x hx
      · exact hno2 c hc x hx
theorem minF_lt {i : Int} : ∀ (c : List Int) (f : Int), i < minF f c → i < f ∧ ∀ x ∈ c, i < x
  | [], _, h => ⟨h, fun _ h => nomatch h⟩
  | x :: c, f, h => by
    obtain ⟨h1, h2⟩ := minF_lt c (min x f) h
    refine ⟨by omega, fun y hy => ?_⟩
    rcases List.mem_cons.mp hy with rfl | hy
    · omega
    · exact h2 y hy
theorem minF_ge {b : Int} : ∀ (c : List Int) (f : Int), b ≤ f → (∀ x ∈ c, b ≤ x) → b ≤ minF f c
  | [], _, h, _ => h
  | x :: c, f, h, hx => minF_ge c (min x f) (by have := hx x (.head _); omega) fun y hy => hx y (.tail _ hy)
theorem sound_free {kind : Int} {bs : List Bool} {css : List (List Int)} {ffc : Int} (I : Sound kind bs css ffc) (a : Nat) (ha : a < css.length) : Sound kind bs (css.take a ++ css.drop (a + 1)) (minF ffc css[a]) := by
  have hca : css[a] ∈ css := List.getElem_mem ha
  have hsub : (css.take a ++ css.drop (a + 1)).Sublist css := by
    conv => rhs; rw [split_at css a ha]
    exact List.Sublist.append_left (List.sublist_cons_self _ _) _
  refine ⟨I.kd, out_sub I.out hsub, fun i h2 hi => ?_, minF_ge _ _ I.f2 fun x hx => (I.out.rng _ hca x hx).1, Int.lt_of_le_of_lt (minF_le _ _) I.fN⟩
  rw [← zero_erase I.out a ha]
  obtain ⟨h3, h4⟩ := minF_lt _ _ hi
  rw [zeroF_out i _ _ fun x hx z => by have := h4 x hx; omega]
  exact I.low i h2 h3
end Mine

namespace Mine


theorem freeL_split (tab : List Int) (a : Int) (k : Nat) : ∀ n : Nat, freeL tab a (k + n) = freeL tab a k ++ freeL tab (a + k) n
  | 0 => by simp [freeL]
  | n + 1 => by
    rw [← Nat.add_assoc, freeL_succ, freeL_split tab a k n, freeL_succ, List.append_assoc]
    have e : a + ((k + n : Nat) : Int) = a + (k : Int) + (n : Nat) := by push_cast; omega
    rw [e]
theorem freeL_none {tab : List Int} {a : Int} {k : Nat} (h : ∀ i : Int, a ≤ i → i < a + k → tab.getD i.toNat 0 ≠ 0) : freeL tab a k = [] := by
  refine List.eq_nil_iff_forall_not_mem.mpr fun x hx => ?_
  have hm := freeL_mem hx
  exact h x hm.1 hm.2 (freeL_zero hx)
theorem free_all {kind : Int} {bs : List Bool} {css : List (List Int)} {ffc : Int} (I : Sound kind bs css ffc) : freeL (tableF kind bs css) 2 bs.length = freeL (tableF kind bs css) ffc (bs.length + 2 - ffc).toNat := by
  have f2 := I.f2
  have fN := I.fN
  have e : bs.length = (ffc - 2).toNat + (bs.length + 2 - ffc).toNat := by omega
  have e2 : (2 : Int) + ((ffc - 2).toNat : Nat) = ffc := by omega
  conv => lhs; rw [e]
  rw [freeL_split, e2, freeL_none, List.nil_append]
  intro i h1 h2
  have := I.low i.toNat (by omega) (by omega)
  simpa using this
theorem due_eq {w s : Int} (hs : 0 < s) : (w + s - 1).fdiv s = -((-w).fdiv s) := by
  rw [Int.fdiv_eq_ediv_of_nonneg _ (by omega), Int.fdiv_eq_ediv_of_nonneg _ (by omega)]
  have h1 := Int.emod_nonneg (-w) (show s ≠ 0 by omega)
  have h2 := Int.emod_lt_of_pos (-w) hs
  have h3 := Int.mul_ediv_add_emod (-w) s
  have e : w + s - 1 = (s - 1 - (-w) % s) + s * (-((-w) / s)) := by rw [Int.mul_neg]; omega
  rw [e, Int.add_mul_ediv_left _ _ (by omega), Int.ediv_eq_zero_of_lt (by omega) (by omega)]
  omega
theorem due_nonneg {w s : Int} (hs : 0 < s) (hw : 0 ≤ w) : 0 ≤ -((-w).fdiv s) := by
  rw [← due_eq hs, Int.fdiv_eq_ediv_of_nonneg _ (by omega)]
  exact Int.ediv_nonneg (by omega) (by omega)
theorem due_le {w s : Int} (hs : 0 < s) (hw : 0 ≤ w) : -((-w).fdiv s) ≤ w := by
  rw [← due_eq hs, Int.fdiv_eq_ediv_of_nonneg _ (by omega)]
  have h1 := Int.emod_nonneg (w + s - 1) (show s ≠ 0 by omega)
  have h3 := Int.mul_ediv_add_emod (w + s - 1) s
  have h0 := Int.ediv_nonneg (a := w + s - 1) (b := s) (by omega) (by omega)
  rcases Int.lt_or_le w 1 with h | h
  · have : w = 0 := by omega
    subst this
    rw [Int.ediv_eq_zero_of_lt (by omega) (by omega)]
    omega
  · refine Int.le_of_mul_le_mul_left (a := s) ?_ hs
    have : s * w = (s - 1) * w + w := by rw [Int.sub_mul, Int.one_mul]; omega
    have h5 : (s - 1) * 1 ≤ (s - 1) * w := Int.mul_le_mul_of_nonneg_left h (by omega)
    omega
theorem chain_ok {kind : Int} {bs : List Bool} {css : List (List Int)} (O : Out bs css) {c : List Int} (hc : c ∈ css) :
    ∀ j, j < c.length → 2 ≤ c.getD j 0 ∧ c.getD j 0 < (tableF kind bs css).length ∧ (tableF kind bs css).getD (c.getD j 0).toNat 0 = if j + 1 < c.length then c.getD (j + 1) 0 else endOf kind := fun j hj => by
  have hm : c.getD j 0 ∈ c := by rw [List.getD_eq_getElem?_getD, List.getElem?_eq_getElem hj]; exact List.getElem_mem hj
  have := O.rng c hc _ hm
  rw [tableF_len]
  exact ⟨this.1, by push_cast; omega, tab_in O hc hj⟩
theorem told_free {kind : Int} {bs : List Bool} {css : List (List Int)} {ffc : Int} (I : Sound kind bs css ffc) {k : Nat} (hk : (k : Int) < bs.length + 2 - ffc) : ∀ x ∈ freeL (tableF kind bs css) ffc k, x ∈ freeL (tableF kind bs css) 2 bs.length := fun x hx => by
  have f2 := I.f2
  have hm := freeL_mem hx
  exact freeL_of (by omega) (by omega) (freeL_zero hx)
end Mine

namespace Mine

open PyProof.V
section
variable {prog : Program} {w : World} {A : Around} {E : Value → Shared → Prop} {s : Shared} {h₀ : Heap} {L a b : Addr} {news : List (Addr × Obj)} {nc nb : Nat} {ce : List (Addr × Obj)} {css : List (List Int)} {Q : Value → Shared → Prop}
def cssD (css : List (List Int)) : List PyData := css.map fun c => .list (c.map PyData.int)
theorem chs_reads (N : News h₀ L s.heap news) : ∀ {ce : List (Addr × Obj)} {css : List (List Int)}, Chs ce css → (∀ q ∈ ce, q ∈ news) → ∃ as, ReadsAll s.heap (ce.map fun p => Value.ref p.1) (cssD css) as
  | [], [], _, _ => ⟨[], .nil⟩
  | q :: ce, c :: css, h, hm => by
    obtain ⟨⟨vs, n, e, hi⟩, h2⟩ := h
    obtain ⟨as, ih⟩ := chs_reads N h2 fun q' hq' => hm q' (.tail _ hq')
    obtain ⟨qa, qo⟩ := q
    subst e
    have hg := (N _ (hm _ (.head _))).1
    exact ⟨_, .cons (reads_list_at hg rfl rfl (hi.reads _)) ih⟩
  | [], _ :: _, h, _ => h.elim
  | _ :: _, [], h, _ => h.elim
theorem css_lay : ∀ css : List (List Int), PyData.canLayAll0 (cssD css) = true
  | [] => rfl
  | c :: r => by simp [cssD, PyData.canLayAll0, PyData.canLay0, ke_canLayAll0]; exact css_lay r
theorem css_depth : ∀ css : List (List Int), PyData.depthAll (cssD css) ≤ 1
  | [] => by simp [cssD, PyData.depthAll]
  | c :: r => by
    have := css_depth r
    simp [cssD, PyData.depthAll, PyData.depth, ke_depthAll] at this ⊢
    omega
theorem chs_ne_nil (N : News h₀ L s.heap news) (hca : (a, listOf (ce.map fun p => Value.ref p.1).toArray nc) ∈ news) (hb : (b, listOf ([] : List Value).toArray nb) ∈ news) (hc : Chs ce css) (hm : ∀ q ∈ ce, q ∈ news) (hu : A.units + 64 < cLine)
    (h : Q (.bool (!decide (css = []))) s) : wpAny (model prog w) A (compareOp .NotEq (.ref a) (.ref b)) Q E s := by
  obtain ⟨as, ra⟩ := chs_reads N hc hm
  refine ne_dataH (da := .list (cssD css)) (db := .list []) (reads_list_at (N _ hca).1 rfl rfl ra) (reads_list_at (N _ hb).1 rfl rfl .nil) ?_ rfl hu ?_
  · have := css_depth css
    simp only [SeqAt.shaped, PyData.canLay0, css_lay, Bool.true_and, PyData.depth]
    exact decide_eq_true (by omega)
  · cases css with
    | nil => exact h
    | cons c r => exact h
end
end Mine

namespace Mine

open PyProof.V
theorem use_lookup {K : Frag} {a : Addr} {o o' : Obj} {P : Prop} (h : K.lookup a = some o) (e : K.lookup a = some o') (k : o = o' → P) : P := k (Option.some.inj (h.symm.trans e))
local macro_rules | `(tactic| k_asm) => `(tactic| (refine' Cx.sub ?cxa ?cxb ?cxh ?cxB ?cxF ?cxX ?cxN ?cxT; (case cxa => omega); (case cxb => omega); (case cxh => assumption); (case cxB => assumption); (case cxF => assumption); (case cxX => assumption); (case cxN => assumption); (case cxT => assumption)))
local macro_rules | `(tactic| k_all) => `(tactic| first | assumption | exact allLt_ne (by assumption))
local macro_rules | `(tactic| k_mem) => `(tactic| first | assumption | exact List.Mem.head _ | (refine' List.Mem.tail _ ?_; k_mem))
local macro_rules | `(tactic| walk_at "subscriptTail") => `(tactic| (k_here; (with_reducible show wpAny _ _ (subscriptTail _ _ (Value.ref _) (Value.int _ _)) _ _ _); k_dflt (refine' ol_item ?k1 ?k2 ?k3 ?k4 ?k5 ?_ rfl; (case k1 => exact isList_of (by assumption) (by k_mem)); (case k2 => assumption); (case k3 => omega); (case k4 => omega); (case k5 => omega); intro tr)))
local macro_rules | `(tactic| walk_at "call builtin:len") => `(tactic| (k_here; k_dflt (refine' ol_len ?k1 ?k2 ?k5 ?_; (case k1 => exact isList_of (by assumption) (by k_mem)); (case k2 => assumption); (case k5 => omega); intro tl tk)))
local macro_rules | `(tactic| walk_at "call builtin:list.append") => `(tactic| (k_here; k_dflt (refine' ol_append ?F ?N ?U ?k2 ?k3 ?_; (case F => assumption); (case N => assumption); (case U => k_updF); (case k2 => assumption); (case k3 => first | omega | (simp only [List.length_append, List.length_map, List.length_take, List.length_cons, List.length_nil]; omega)); intro h' vs' n' F' N' hi'; (try dsimp only at N'); (try k_sweep))))
local macro_rules | `(tactic| walk_at "setItem ref int") => `(tactic| (k_here; k_dflt (refine' ol_set ?F ?N ?U ?k2 ?k3 ?k4 ?k5 ?_; (case F => assumption); (case N => assumption); (case U => k_updF); (case k2 => assumption); (case k3 => omega); (case k4 => omega); (case k5 => omega); intro h' vs' n' F' N' hi'; (try dsimp only at N'); (try k_sweep))))
local macro_rules | `(tactic| walk_at "setAttr ref int") => `(tactic| (k_here; (with_reducible show wpAny _ _ (setAttr (Value.ref _) (Str.ofString "bytes_per_cluster") _) _ _ _); k_dflt (refine' vset_bpc ?F ?X ?N ?hv ?U ?_; (case F => assumption); (case X => assumption); (case N => assumption); (case hv => k_mem); (case U => k_updF)); intro h' t' n' F' N'; (try dsimp only at N'); (try k_sweep)))
local macro_rules | `(tactic| walk_at "setAttr ref int") => `(tactic| (k_here; (with_reducible show wpAny _ _ (setAttr (Value.ref _) (Str.ofString "first_free_cluster") _) _ _ _); k_dflt (refine' vset_ffc ?F ?X ?N ?hv ?U ?_; (case F => assumption); (case X => assumption); (case N => assumption); (case hv => k_mem); (case U => k_updF)); intro h' t' n' F' N'; (try dsimp only at N'); (try k_sweep)))
local macro_rules | `(tactic| walk_at "setAttr ref int") => `(tactic| (k_here; (with_reducible show wpAny _ _ (setAttr (Value.ref _) (Str.ofString "fat_type") _) _ _ _); k_dflt (refine' vset_kind ?F ?X ?N ?hv ?U ?_; (case F => assumption); (case X => assumption); (case N => assumption); (case hv => k_mem); (case U => k_updF)); intro h' t' n' F' N'; (try dsimp only at N'); (try k_sweep)))
local macro_rules | `(tactic| walk_at "setAttr ref ref") => `(tactic| (k_here; (with_reducible show wpAny _ _ (setAttr (Value.ref _) (Str.ofString "fat") _) _ _ _); k_dflt (refine' vset_fat ?F ?X ?N ?hv ?U ?_; (case F => assumption); (case X => assumption); (case N => assumption); (case hv => k_mem); (case U => k_updF)); intro h' t' n' F' N'; (try dsimp only at N'); (try k_sweep)))
local macro_rules | `(tactic| walk_at "setAttr ref bool") => `(tactic| (k_here; (with_reducible show wpAny _ _ (setAttr (Value.ref _) (Str.ofString "initialized") _) _ _ _); k_dflt (refine' vset_ini ?F ?X ?N ?hv ?U ?_; (case F => assumption); (case X => assumption); (case N => assumption); (case hv => k_mem); (case U => k_updF)); intro h' t' n' F' N'; (try dsimp only at N'); (try k_sweep)))
local macro_rules | `(tactic| walk_at "setAttr ref bool") => `(tactic| (k_here; (with_reducible show wpAny _ _ (setAttr (Value.ref _) (Str.ofString "is_read_only") _) _ _ _); k_dflt (refine' vset_ro ?F ?X ?N ?hv ?U ?_; (case F => assumption); (case X => assumption); (case N => assumption); (case hv => k_mem); (case U => k_updF)); intro h' t' n' F' N'; (try dsimp only at N'); (try k_sweep)))
local macro_rules | `(tactic| walk_at "call ref") => `(tactic| (k_here; (with_reducible show wpAny _ _ (call (Value.ref 362) _ _) _ _ _); refine Halt.go ?_))
local macro_rules | `(tactic| walk_at "call ref") => `(tactic| (k_here; (with_reducible show wpAny _ _ (call (Value.ref 369) _ _) _ _ _); refine Halt.go ?_))
local macro_rules | `(tactic| walk_at "call ref") => `(tactic| (k_here; (with_reducible show wpAny _ _ (call (Value.ref 348) _ _) _ _ _); refine Halt.go ?_))
local macro_rules | `(tactic| walk_at "compareOp NotEq ref ref") => `(tactic| (k_here; refine Halt.go ?_))
local macro_rules | `(tactic| walk_at "compareOp Eq ref ref") => `(tactic| (k_here; refine Halt.go ?_))
section
variable {w : World} {p : Program} {loose : List Str} {mean : ExcName → Option Value} {mg mb : Str → Option Value}
  {base h₀ : Heap} {outer : List Env} {A₀ A : Around} {env : Env} {L : Addr} {m : Str → Option Value} {news rest : List (Addr × Obj)} {s : Shared} {R : Result → Shared → Prop}
set_option maxHeartbeats 2000000 in
theorem law_end2 {oc : Value} {od : Option Addr} {osl : Array (Option Value)} {fd : FuncData} {body : List Stmt} {cd : Value} {fa vol dv fat ma ca : Addr} {kind bpc ffc f : Int} {t : Nat → Tok} {nd nf nm nc : Nat} {fvs : List Value} {tk1 tf : Tok}
    {ce : List (Addr × Obj)} {css : List (List Int)} {bs : List Bool} {m₀ : Str → Option Value} {Q : Flow → Shared → Prop} {E : Value → Shared → Prop}
    (hf : (hd.heap_39 w.params).lookup 374 = some ⟨oc, od, .func fd, osl⟩) (hb : fd.body = .stmts body)
    (B : Below callerA base [] h₀) (F : Fr h₀ L s.heap (fun y => if y = Str.ofString "first" then some (.int f tf) else if y = Str.ofString "volume" then some (.ref vol) else if y = Str.ofString "kind" then some (.int kind tk1) else if y = Str.ofString "marks" then some (.ref ma) else if y = Str.ofString "chains" then some (.ref ca) else m₀ y))
    (X : (hd.heap_39 w.params).In h₀) (T : Top p loose mean mg mb h₀)
    (N : News h₀ L s.heap ((vol, instObj 316 dv) :: (dv, dictOf (volD w t bpc ffc kind (.ref fat) true true) nd) :: (fat, listOf fvs.toArray nf) :: rest))
    (hne : vol ≠ dv) (hnr : ∀ p ∈ ((fat, listOf fvs.toArray nf) :: rest : List (Addr × Obj)), p.1 ≠ dv)
    (hma : (ma, listOf (bs.map Value.bool).toArray nm) ∈ rest) (hca : (ca, listOf (ce.map fun p => Value.ref p.1).toArray nc) ∈ rest) (hce : ∀ q ∈ ce, q ∈ rest) (hcs : Chs ce css) (hk : KindOk kind) (hbl : bs.length ≤ 38) (hcc : ∀ c ∈ css, c.length ≤ 100 ∧ ∀ x ∈ c, 2 ≤ x ∧ x < bs.length + 2) (hi : IntsAre fvs (tableF kind bs css))
    (hQ : ∀ h' tk', (∀ b o, h₀.get? b = some o → h'.get? b = some o) → Q (.ret (.bool true)) { s with heap := h', toks := tk' }) :
    wpAny (model PySem.Challenge.rw_iw0017_01.row.prog w) (callerA.deeper (envOfC fd.name fd.scope L fa cd)) (execs (body.drop 13) (envOfC fd.name fd.scope L fa cd)) Q E s := by
  revert hf X; k_fill; intro hf X
  refine' use_lookup hf ?e ?_
  case e => k_dflt k_is
  intro hh
  cases hh
  cases hb
  clear hf
  dsimp only [List.drop]
  k_steps
  refine ⟨?_⟩
  refine wpAny_call ?_
  refine refused_ok (c := some 30) ⟨B, F, X, N, T, rfl, rfl, rfl, rfl, Nat.le_of_ble_eq_true rfl, Nat.le_of_ble_eq_true rfl⟩ ⟨_, rfl⟩ ?_ ?_
  · exact fun C h => alloc_shut C (.inr rfl) fun h' tk' e v _ h2 fl => h h' tk' e v (h2 rfl) fl
  intro h1 tk2 F1 N1
  clear F N
  k_steps
  refine ⟨?_⟩
  refine wpAny_call ?_
  refine shut_ok (c := some 30) ⟨B, F1, X, N1, T, rfl, rfl, rfl, rfl, Nat.le_of_ble_eq_true rfl, Nat.le_of_ble_eq_true rfl⟩ ⟨_, rfl⟩ ?_ ?_
  · exact fun C h => free_shut C (.inr rfl) fun h' tk' e v _ h2 fl => h h' tk' e v (h2 rfl) fl
  intro h2 tk3 F2 N2
  clear F1 N1
  k_steps
  refine ⟨?_⟩
  rename Fr _ _ _ _ => F3
  rename News _ _ _ _ => N3
  refine wpAny_call ?_
  refine refused_ok (c := none) ⟨B, F3, X, N3, T, rfl, rfl, rfl, rfl, Nat.le_of_ble_eq_true rfl, Nat.le_of_ble_eq_true rfl⟩ rfl ?_ ?_
  · exact fun C h => alloc_shut C (.inl rfl) fun h' tk' e v h1 _ fl => h h' tk' e v (h1 rfl) fl
  intro h4 tk4 F4 N4
  clear F3 N3
  k_steps
  refine ⟨?_⟩
  refine wpAny_call ?_
  refine shut_ok (c := none) ⟨B, F4, X, N4, T, rfl, rfl, rfl, rfl, Nat.le_of_ble_eq_true rfl, Nat.le_of_ble_eq_true rfl⟩ rfl ?_ ?_
  · exact fun C h => free_shut C (.inl rfl) fun h' tk' e v h1 _ fl => h h' tk' e v (h1 rfl) fl
  intro h5 tk5 F5 N5
  clear F4 N4
  k_steps
  refine ⟨?_⟩
  refine wpAny_call ?_
  refine table_ok (css := css) ⟨B, F5, X, N5, T, rfl, rfl, rfl, rfl, Nat.le_of_ble_eq_true rfl, Nat.le_of_ble_eq_true rfl⟩ hk (.tail _ (.tail _ (.tail _ hma))) (.tail _ (.tail _ (.tail _ hca))) (fun q hq => .tail _ (.tail _ (.tail _ (hce q hq)))) hcs (by omega) hcc ?_
  intro h6 tk6 D vs6 n6 F6 N6 _ I6
  clear F5 N5
  k_steps
  refine ⟨?_⟩
  refine ke_eq_ints (isList_of N6 (.tail _ (.tail _ (.tail _ (.head _))))) (isList_of N6 (.head _)) hi I6 (Nat.le_of_ble_eq_true rfl) ?_
  rw [decide_eq_true rfl]
  k_steps
  exact hQ _ _ F6.keep
end
end Mine

namespace Mine

open PyProof.V
local macro_rules | `(tactic| k_asm) => `(tactic| (refine' Cx.sub ?cxa ?cxb ?cxh ?cxB ?cxF ?cxX ?cxN ?cxT; (case cxa => omega); (case cxb => omega); (case cxh => assumption); (case cxB => assumption); (case cxF => assumption); (case cxX => assumption); (case cxN => assumption); (case cxT => assumption)))
local macro_rules | `(tactic| k_all) => `(tactic| first | assumption | exact allLt_ne (by assumption))
local macro_rules | `(tactic| k_mem) => `(tactic| first | assumption | exact List.Mem.head _ | (refine' List.Mem.tail _ ?_; k_mem))
local macro_rules | `(tactic| walk_at "subscriptTail") => `(tactic| (k_here; (with_reducible show wpAny _ _ (subscriptTail _ _ (Value.ref _) (Value.int _ _)) _ _ _); k_dflt (refine' ol_item ?k1 ?k2 ?k3 ?k4 ?k5 ?_ rfl; (case k1 => exact isList_of (by assumption) (by k_mem)); (case k2 => assumption); (case k3 => omega); (case k4 => omega); (case k5 => omega); intro tr)))
local macro_rules | `(tactic| walk_at "call builtin:len") => `(tactic| (k_here; k_dflt (refine' ol_len ?k1 ?k2 ?k5 ?_; (case k1 => exact isList_of (by assumption) (by k_mem)); (case k2 => assumption); (case k5 => omega); intro tl tk)))
local macro_rules | `(tactic| walk_at "call builtin:list.append") => `(tactic| (k_here; k_dflt (refine' ol_append ?F ?N ?U ?k2 ?k3 ?_; (case F => assumption); (case N => assumption); (case U => k_updF); (case k2 => assumption); (case k3 => first | omega | (simp only [List.length_append, List.length_map, List.length_take, List.length_cons, List.length_nil]; omega)); intro h' vs' n' F' N' hi'; (try dsimp only at N'); (try k_sweep))))
local macro_rules | `(tactic| walk_at "setItem ref int") => `(tactic| (k_here; k_dflt (refine' ol_set ?F ?N ?U ?k2 ?k3 ?k4 ?k5 ?_; (case F => assumption); (case N => assumption); (case U => k_updF); (case k2 => assumption); (case k3 => omega); (case k4 => omega); (case k5 => omega); intro h' vs' n' F' N' hi'; (try dsimp only at N'); (try k_sweep))))
local macro_rules | `(tactic| walk_at "setAttr ref int") => `(tactic| (k_here; (with_reducible show wpAny _ _ (setAttr (Value.ref _) (Str.ofString "bytes_per_cluster") _) _ _ _); k_dflt (refine' vset_bpc ?F ?X ?N ?hv ?U ?_; (case F => assumption); (case X => assumption); (case N => assumption); (case hv => k_mem); (case U => k_updF)); intro h' t' n' F' N'; (try dsimp only at N'); (try k_sweep)))
local macro_rules | `(tactic| walk_at "setAttr ref int") => `(tactic| (k_here; (with_reducible show wpAny _ _ (setAttr (Value.ref _) (Str.ofString "first_free_cluster") _) _ _ _); k_dflt (refine' vset_ffc ?F ?X ?N ?hv ?U ?_; (case F => assumption); (case X => assumption); (case N => assumption); (case hv => k_mem); (case U => k_updF)); intro h' t' n' F' N'; (try dsimp only at N'); (try k_sweep)))
local macro_rules | `(tactic| walk_at "setAttr ref int") => `(tactic| (k_here; (with_reducible show wpAny _ _ (setAttr (Value.ref _) (Str.ofString "fat_type") _) _ _ _); k_dflt (refine' vset_kind ?F ?X ?N ?hv ?U ?_; (case F => assumption); (case X => assumption); (case N => assumption); (case hv => k_mem); (case U => k_updF)); intro h' t' n' F' N'; (try dsimp only at N'); (try k_sweep)))
local macro_rules | `(tactic| walk_at "setAttr ref ref") => `(tactic| (k_here; (with_reducible show wpAny _ _ (setAttr (Value.ref _) (Str.ofString "fat") _) _ _ _); k_dflt (refine' vset_fat ?F ?X ?N ?hv ?U ?_; (case F => assumption); (case X => assumption); (case N => assumption); (case hv => k_mem); (case U => k_updF)); intro h' t' n' F' N'; (try dsimp only at N'); (try k_sweep)))
local macro_rules | `(tactic| walk_at "setAttr ref bool") => `(tactic| (k_here; (with_reducible show wpAny _ _ (setAttr (Value.ref _) (Str.ofString "initialized") _) _ _ _); k_dflt (refine' vset_ini ?F ?X ?N ?hv ?U ?_; (case F => assumption); (case X => assumption); (case N => assumption); (case hv => k_mem); (case U => k_updF)); intro h' t' n' F' N'; (try dsimp only at N'); (try k_sweep)))
local macro_rules | `(tactic| walk_at "setAttr ref bool") => `(tactic| (k_here; (with_reducible show wpAny _ _ (setAttr (Value.ref _) (Str.ofString "is_read_only") _) _ _ _); k_dflt (refine' vset_ro ?F ?X ?N ?hv ?U ?_; (case F => assumption); (case X => assumption); (case N => assumption); (case hv => k_mem); (case U => k_updF)); intro h' t' n' F' N'; (try dsimp only at N'); (try k_sweep)))
local macro_rules | `(tactic| walk_at "call ref") => `(tactic| (k_here; (with_reducible show wpAny _ _ (call (Value.ref 362) _ _) _ _ _); refine Halt.go ?_))
local macro_rules | `(tactic| walk_at "call ref") => `(tactic| (k_here; (with_reducible show wpAny _ _ (call (Value.ref 369) _ _) _ _ _); refine Halt.go ?_))
local macro_rules | `(tactic| walk_at "call ref") => `(tactic| (k_here; (with_reducible show wpAny _ _ (call (Value.ref 348) _ _) _ _ _); refine Halt.go ?_))
local macro_rules | `(tactic| walk_at "compareOp NotEq ref ref") => `(tactic| (k_here; refine Halt.go ?_))
local macro_rules | `(tactic| walk_at "compareOp Eq ref ref") => `(tactic| (k_here; refine Halt.go ?_))
local macro_rules | `(tactic| walk_at "storeName") => `(tactic| (k_here; (with_reducible show wpAny _ _ (storeName _ (Str.ofString "first") _) _ _ _); refine Halt.go ?_))
local macro_rules | `(tactic| walk_at "subscriptTail") => `(tactic| (k_here; (with_reducible show wpAny _ _ (subscriptTail _ _ (Value.ref _) (Value.int _ _)) _ _ _); refine Halt.go ?_))
section
variable {w : World} {p : Program} {loose : List Str} {mean : ExcName → Option Value} {mg mb : Str → Option Value}
  {base h₀ : Heap} {outer : List Env} {A₀ A : Around} {env : Env} {L : Addr} {m : Str → Option Value} {news rest : List (Addr × Obj)} {s : Shared} {R : Result → Shared → Prop}
set_option maxHeartbeats 2000000 in
theorem law_end {oc : Value} {od : Option Addr} {osl : Array (Option Value)} {fd : FuncData} {body : List Stmt} {cd : Value} {fa vol dv fat ma ca : Addr} {kind bpc ffc : Int} {t : Nat → Tok} {nd nf nm nc : Nat} {fvs : List Value} {tk1 : Tok}
    {ce : List (Addr × Obj)} {css : List (List Int)} {bs : List Bool} {m₀ : Str → Option Value} {Q : Flow → Shared → Prop} {E : Value → Shared → Prop}
    (hf : (hd.heap_39 w.params).lookup 374 = some ⟨oc, od, .func fd, osl⟩) (hb : fd.body = .stmts body)
    (B : Below callerA base [] h₀) (F : Fr h₀ L s.heap (fun y => if y = Str.ofString "volume" then some (.ref vol) else if y = Str.ofString "kind" then some (.int kind tk1) else if y = Str.ofString "marks" then some (.ref ma) else if y = Str.ofString "chains" then some (.ref ca) else m₀ y))
    (X : (hd.heap_39 w.params).In h₀) (T : Top p loose mean mg mb h₀)
    (N : News h₀ L s.heap ((vol, instObj 316 dv) :: (dv, dictOf (volD w t bpc ffc kind (.ref fat) true false) nd) :: (fat, listOf fvs.toArray nf) :: rest))
    (hne : vol ≠ dv) (hnr : ∀ p ∈ ((fat, listOf fvs.toArray nf) :: rest : List (Addr × Obj)), p.1 ≠ dv)
    (hma : (ma, listOf (bs.map Value.bool).toArray nm) ∈ rest) (hca : (ca, listOf (ce.map fun p => Value.ref p.1).toArray nc) ∈ rest) (hce : ∀ q ∈ ce, q ∈ rest) (hcs : Chs ce css) (hk : KindOk kind) (hbl : bs.length ≤ 38) (hcc : ∀ c ∈ css, c ≠ [] ∧ c.length ≤ 100 ∧ ∀ x ∈ c, 2 ≤ x ∧ x < bs.length + 2) (hi : IntsAre fvs (tableF kind bs css))
    (hQ : ∀ h' tk', (∀ b o, h₀.get? b = some o → h'.get? b = some o) → Q (.ret (.bool true)) { s with heap := h', toks := tk' }) :
    wpAny (model PySem.Challenge.rw_iw0017_01.row.prog w) (callerA.deeper (envOfC fd.name fd.scope L fa cd)) (execs (body.drop 11) (envOfC fd.name fd.scope L fa cd)) Q E s := by
  revert hf X; k_fill; intro hf X
  refine' use_lookup hf ?e ?_
  case e => k_dflt k_is
  intro hh
  cases hh
  have hf2 := And.intro trivial hf
  cases hb
  clear hf
  dsimp only [List.drop]
  k_steps
  refine ⟨?_⟩
  rename News _ _ _ _ => N1
  refine chs_ne_nil N1 (.tail _ (.tail _ (.tail _ (.tail _ hca)))) (.head _) hcs (fun q hq => .tail _ (.tail _ (.tail _ (.tail _ (hce q hq))))) (Nat.le_of_ble_eq_true rfl) ?_
  rcases css with _ | ⟨c, css⟩
  · rw [show (!decide (([] : List (List Int)) = [])) = false from rfl]
    k_steps
    refine ⟨?_⟩
    rename Fr _ _ _ _ => F1
    rename News _ _ _ _ => N1
    refine wpAny_storeName_local rfl F1.ns (fun h7 hn7 hs7 => ?_) rfl
    exact law_end2 hf2.2 rfl B (F1.set hn7 hs7) X T (nsub (N1.set hs7) fun q hq => .tail _ hq) hne hnr hma hca hce hcs hk hbl (fun c hc => (hcc c hc).2) hi hQ
  · rw [show (!decide ((c :: css) = [])) = true from by simp]
    k_steps
    refine ⟨?_⟩
    rename News _ _ _ _ => N1
    obtain ⟨q, hq0⟩ : ∃ q, ce[0]? = some q := by
      cases ce with
      | nil => exact hcs.elim
      | cons q r => exact ⟨q, rfl⟩
    obtain ⟨c', vs, n, hci, hq2, IC⟩ := Chs.get hcs 0 q hq0
    obtain rfl : c = c' := by simpa using hci
    refine own_item (x := .ref q.1) (isList_of N1 (.tail _ (.tail _ (.tail _ (.tail _ hca))))) (by decide) (by decide) (by simp only [List.getElem?_toArray, List.getElem?_map]; exact congrArg (Option.map fun p : Addr × Obj => Value.ref p.1) hq0) ?_
    k_steps
    refine ⟨?_⟩
    have hqm : (q.1, listOf vs.toArray n) ∈ rest := hq2 ▸ hce q (List.mem_of_getElem? hq0)
    have hc0 := hcc c (.head _)
    have hc1 : 0 < c.length := List.length_pos_iff.mpr hc0.1
    refine ol_item (isList_of N1 (.tail _ (.tail _ (.tail _ (.tail _ hqm))))) IC (by decide) (by omega) (by omega) fun tk8 => ?_
    k_steps
    refine ⟨?_⟩
    rename Fr _ _ _ _ => F1
    rename News _ _ _ _ => N1
    refine wpAny_storeName_local rfl F1.ns (fun h7 hn7 hs7 => ?_) rfl
    exact law_end2 hf2.2 rfl B (F1.set hn7 hs7) X T (nsub (N1.set hs7) fun q hq => .tail _ hq) hne hnr hma hca hce hcs hk hbl (fun c hc => (hcc c hc).2) hi hQ
end
end Mine

namespace Mine

open PyProof.V
local macro_rules | `(tactic| k_asm) => `(tactic| (refine' Cx.sub ?cxa ?cxb ?cxh ?cxB ?cxF ?cxX ?cxN ?cxT; (case cxa => omega); (case cxb => omega); (case cxh => assumption); (case cxB => assumption); (case cxF => assumption); (case cxX => assumption); (case cxN => assumption); (case cxT => assumption)))
local macro_rules | `(tactic| k_all) => `(tactic| first | assumption | exact allLt_ne (by assumption))
local macro_rules | `(tactic| walk_at "exec For Name Name cons nil") => `(tactic| (k_here; refine Halt.go ?_))
local macro_rules | `(tactic| walk_at "exec For Name Call cons nil") => `(tactic| (k_here; refine Halt.go ?_))
local macro_rules | `(tactic| walk_at "exec For Name Call cons cons") => `(tactic| (k_here; refine Halt.go ?_))
local macro_rules | `(tactic| walk_at "exec For Tuple Call cons nil") => `(tactic| (k_here; refine Halt.go ?_))
local macro_rules | `(tactic| walk_at "pyIter ref") => `(tactic| (k_here; refine Halt.go ?_))
local macro_rules | `(tactic| walk_at "call ref") => `(tactic| (k_here; (with_reducible show wpAny _ _ (call (Value.ref 355) _ _) _ _ _); refine Halt.go ?_))
local macro_rules | `(tactic| walk_at "call ref") => `(tactic| (k_here; (with_reducible show wpAny _ _ (call (Value.ref 348) _ _) _ _ _); refine Halt.go ?_))
local macro_rules | `(tactic| walk_at "compareOp NotEq ref ref") => `(tactic| (k_here; refine Halt.go ?_))
local macro_rules | `(tactic| walk_at "subscriptTail") => `(tactic| (k_here; (with_reducible show wpAny _ _ (subscriptTail _ _ (Value.ref _) (Value.int _ _)) _ _ _); refine Halt.go ?_))
section
variable {w : World} {p : Program} {loose : List Str} {mean : ExcName → Option Value} {mg mb : Str → Option Value}
  {base h₀ : Heap} {outer : List Env} {A₀ A : Around} {env : Env} {L : Addr} {m : Str → Option Value} {news rest : List (Addr × Obj)} {s : Shared} {R : Result → Shared → Prop}
set_option maxHeartbeats 2000000 in
theorem turn_check {oc : Value} {od : Option Addr} {osl : Array (Option Value)} {fd : FuncData} {body fbody orelse rst : List Stmt} {tgt iter : PySem.Expr} {pos : Pos} {cd : Value} {fa vol dv fat ma ca : Addr} {kind bpc ffc : Int} {t : Nat → Tok} {nd nf nm nc : Nat} {fvs : List Value} {tk1 : Tok}
    {ce : List (Addr × Obj)} {css : List (List Int)} {bs : List Bool} {m₀ : Str → Option Value} {Q : Flow → Shared → Prop} {E : Value → Shared → Prop}
    (hf : (hd.heap_39 w.params).lookup 374 = some ⟨oc, od, .func fd, osl⟩) (hb : fd.body = .stmts body) (hfb : body.drop 10 = .For tgt iter fbody orelse pos :: rst)
    (B : Below callerA base [] h₀) (F : Fr h₀ L s.heap (fun y => if y = Str.ofString "volume" then some (.ref vol) else if y = Str.ofString "kind" then some (.int kind tk1) else if y = Str.ofString "marks" then some (.ref ma) else if y = Str.ofString "chains" then some (.ref ca) else m₀ y))
    (X : (hd.heap_39 w.params).In h₀) (T : Top p loose mean mg mb h₀)
    (N : News h₀ L s.heap ((vol, instObj 316 dv) :: (dv, dictOf (volD w t bpc ffc kind (.ref fat) true false) nd) :: (fat, listOf fvs.toArray nf) :: rest))
    (hma : (ma, listOf (bs.map Value.bool).toArray nm) ∈ rest) (hca : (ca, listOf (ce.map fun p => Value.ref p.1).toArray nc) ∈ rest) (hce : ∀ q ∈ ce, q ∈ rest) (hcs : Chs ce css)
    (hk : KindOk kind) (hbl : bs.length ≤ 38) (O : Out bs css) (h30 : ∀ c ∈ css, c.length ≤ 30) (hi : IntsAre fvs (tableF kind bs css))
    (hG : AllBare s.gens) (hQ : ∀ h' tk' g o, AllBare g → Fr h₀ L h' (fun y => if y = Str.ofString "chain" then o else (if y = Str.ofString "volume" then some (.ref vol) else if y = Str.ofString "kind" then some (.int kind tk1) else if y = Str.ofString "marks" then some (.ref ma) else if y = Str.ofString "chains" then some (.ref ca) else m₀ y)) → News h₀ L h' ((vol, instObj 316 dv) :: (dv, dictOf (volD w t bpc ffc kind (.ref fat) true false) nd) :: (fat, listOf fvs.toArray nf) :: rest) → Q .next { s with heap := h', toks := tk', gens := g })
    (hE : PassesOwn (model PySem.Challenge.rw_iw0017_01.row.prog w) (callerA.deeper (envOfC fd.name fd.scope L fa cd)) (envOfC fd.name fd.scope L fa cd) E) :
    wpAny (model PySem.Challenge.rw_iw0017_01.row.prog w) (callerA.deeper (envOfC fd.name fd.scope L fa cd)) (execs (fbody.drop 4) (envOfC fd.name fd.scope L fa cd)) Q E s := by
  revert hf X; k_fill; intro hf X
  refine' use_lookup hf ?e ?_
  case e => k_dflt k_is
  intro hh
  cases hh
  cases hb
  clear hf
  cases hfb
  dsimp only [List.drop]
  k_steps
  refine ⟨?_⟩
  refine wpAny_call ?_
  refine table_ok (css := css) ⟨B, F, X, N, T, rfl, rfl, rfl, rfl, Nat.le_of_ble_eq_true rfl, Nat.le_of_ble_eq_true rfl⟩ hk (.tail _ (.tail _ (.tail _ hma))) (.tail _ (.tail _ (.tail _ hca))) (fun q hq => .tail _ (.tail _ (.tail _ (hce q hq)))) hcs (by omega)
    (fun c hc => ⟨by have := h30 c hc; omega, fun x hx => ⟨(O.rng c hc x hx).1, (O.rng c hc x hx).2.1⟩⟩) ?_
  intro h6 tk6 D vs6 n6 F6 N6 _ I6
  have N7 := nsub N6 fun q hq => .tail _ hq
  k_steps
  refine ⟨?_⟩
  refine ke_ne_ints (isList_of N6 (.tail _ (.tail _ (.tail _ (.head _))))) (isList_of N6 (.head _)) hi I6 (Nat.le_of_ble_eq_true rfl) ?_
  rw [decide_eq_true rfl]
  clear N6 F N
  k_steps
  refine ⟨?_⟩
  refine For_own (hE := hE) rfl rfl ?_
  k_steps
  refine ⟨?_⟩
  rename Fr _ _ _ _ => F8
  rename News _ _ _ _ => N8
  refine loop_list (fun i hb mm nn g => h₀ = hb ∧ AllBare g ∧ (∀ y, y ≠ Str.ofString "chain" → mm y = (if y = Str.ofString "volume" then some (.ref vol) else if y = Str.ofString "kind" then some (.int kind tk1) else if y = Str.ofString "marks" then some (.ref ma) else if y = Str.ofString "chains" then some (.ref ca) else m₀ y)) ∧ nn = (vol, instObj 316 dv) :: (dv, dictOf (volD w t bpc ffc kind (.ref fat) true false) nd) :: (fat, listOf fvs.toArray nf) :: rest) rfl F8 N8 (isList_of N8 (.tail _ (.tail _ (.tail _ hca)))) ⟨rfl, hG, fun y _ => rfl, rfl⟩ ?_ ?_ ?_ ?_
  · rintro i _ _ _ g h ⟨rfl, _, _, rfl⟩ _ N
    exact isList_of N (.tail _ (.tail _ (.tail _ hca)))
  · rintro i _ _ _ g ⟨_, _, _, rfl⟩ hlt p hp
    exact Nat.ne_of_lt (hlt p hp)
  · rintro I i v _ _ _ io hp tk4 g hI hv ⟨rfl, hg, hmm, rfl⟩ F9 N9
    obtain ⟨o1, rfl⟩ := names1 hmm
    obtain ⟨q, hqi, rfl⟩ : ∃ q, ce[i]? = some q ∧ Value.ref q.1 = v := by simpa using hv
    obtain ⟨c, vsC, nC, hci, hq2, IC⟩ := Chs.get hcs i q hqi
    have hcm := List.mem_of_getElem? hci
    have hqm : (q.1, listOf vsC.toArray nC) ∈ rest := hq2 ▸ hce q (List.mem_of_getElem? hqi)
    have hc1 : 0 < c.length := List.length_pos_iff.mpr (O.ne c hcm)
    have hc30 := h30 c hcm
    clear F8 N8 hQ
    have N10 := nsub N9 fun q hq => .tail _ hq
    k_steps
    refine ⟨?_⟩
    refine ol_item (isList_of N10 (.tail _ (.tail _ (.tail _ hqm)))) IC (by decide) (by omega) (by omega) fun tk8 => ?_
    k_steps
    refine ⟨?_⟩
    have N11 := nsub N9 (news' := (vol, instObj 316 dv) :: (dv, dictOf (volD w t bpc ffc kind (.ref fat) true false) nd) :: (fat, listOf fvs.toArray nf) :: (I, io) :: rest) (fun p hp => by
      simp only [List.mem_cons] at hp ⊢
      rcases hp with hp | hp | hp | hp | hp
      · exact .inr (.inl hp)
      · exact .inr (.inr (.inl hp))
      · exact .inr (.inr (.inr (.inl hp)))
      · exact .inl hp
      · exact .inr (.inr (.inr (.inr hp))))
    refine wpAny_call ?_
    refine walk_ok (chain := c) (tab := tableF kind bs css) (rest := (I, io) :: rest) ⟨B, F9, X, N11, T, rfl, rfl, rfl, rfl, Nat.le_of_ble_eq_true rfl, Nat.le_of_ble_eq_true rfl⟩ hk hi (by rw [tableF_len]; omega) rfl hc1 hc30 (chain_ok O hcm) ?_
    intro h12 tk12 D vsD nD F12 N12 _ I12
    clear F9 N9 N10 N11
    k_steps
    refine ⟨?_⟩
    refine ke_ne_ints (isList_of N12 (.head _)) (isList_of N12 (.tail _ (.tail _ (.tail _ (.tail _ (.tail _ hqm)))))) I12 IC (Nat.le_of_ble_eq_true rfl) ?_
    rw [decide_eq_true rfl]
    k_steps
    refine ⟨h₀, _, _, ⟨_, _, _, rfl⟩, F12, nsub N12 (news' := (I, io) :: (vol, instObj 316 dv) :: (dv, dictOf (volD w t bpc ffc kind (.ref fat) true false) nd) :: (fat, listOf fvs.toArray nf) :: rest) (fun p hp => by
      simp only [List.mem_cons] at hp ⊢
      rcases hp with hp | hp | hp | hp | hp
      · exact .inr (.inr (.inr (.inr (.inl hp))))
      · exact .inr (.inl hp)
      · exact .inr (.inr (.inl hp))
      · exact .inr (.inr (.inr (.inl hp)))
      · exact .inr (.inr (.inr (.inr (.inr hp))))), rfl, hg.push rfl, fun y hy => ?_, rfl⟩
    simp only [hy, if_false]
  · rintro _ _ _ hp tk4 g ⟨rfl, hg, hmm, rfl⟩ F9 N9
    obtain ⟨o1, rfl⟩ := names1 hmm
    k_steps
    exact hQ _ _ _ _ hg F9 N9
end
end Mine

namespace Mine

open PyProof.V
theorem names5 {m : Str → Option Value} {a b c d e : Str} {va vb vc vd ve : Option Value} (ha : m a = va) (hb : m b = vb) (hc : m c = vc) (hd : m d = vd) (he : m e = ve) :
    m = fun y => if y = a then va else if y = b then vb else if y = c then vc else if y = d then vd else if y = e then ve else m y :=
  funext fun y => by
    by_cases h1 : y = a
    · rw [if_pos h1, h1, ha]
    · rw [if_neg h1]
      by_cases h2 : y = b
      · rw [if_pos h2, h2, hb]
      · rw [if_neg h2]
        by_cases h3 : y = c
        · rw [if_pos h3, h3, hc]
        · rw [if_neg h3]
          by_cases h4 : y = d
          · rw [if_pos h4, h4, hd]
          · rw [if_neg h4]
            by_cases h5 : y = e
            · rw [if_pos h5, h5, he]
            · rw [if_neg h5]
theorem apart {h₀ h : Heap} {L a b : Addr} {o o' : Obj} {news : List (Addr × Obj)} (N : News h₀ L h news) (ha : (a, o) ∈ news) (hb : (b, o') ∈ news) (hd : o.data ≠ o'.data) : a ≠ b := by
  intro e
  subst e
  have h1 := (N _ ha).1
  have h2 := (N _ hb).1
  rw [h1] at h2
  exact hd (congrArg Obj.data (Option.some.inj h2))
def dropC (c : Addr) (l : List (Addr × Obj)) : List (Addr × Obj) := l.filter fun p => decide (@Ne Nat p.1 c)
theorem mem_dropC {c : Addr} {l : List (Addr × Obj)} {p : Addr × Obj} (h : p ∈ l) (hn : p.1 ≠ c) : p ∈ dropC c l := List.mem_filter.mpr ⟨h, by simpa using hn⟩
theorem of_dropC {c : Addr} {l : List (Addr × Obj)} {p : Addr × Obj} (h : p ∈ dropC c l) : p ∈ l ∧ p.1 ≠ c := ⟨(List.mem_filter.mp h).1, by simpa using (List.mem_filter.mp h).2⟩
theorem news_dropC {h₀ h h' : Heap} {L c : Addr} {o' : Obj} {news : List (Addr × Obj)} (N : News h₀ L h news) (hc : L ≠ c) (hc0 : h₀.get? c = none) (hs : Heap.SameBut c h h') (ho : h'.get? c = some o') : News h₀ L h' ((c, o') :: dropC c news) := by
  intro q hq
  rcases List.mem_cons.mp hq with rfl | hq
  · exact ⟨ho, Ne.symm hc, hc0⟩
  · obtain ⟨hq, hne⟩ := of_dropC hq
    exact ⟨(hs.2 q.1 hne).trans (N q hq).1, (N q hq).2⟩
section
variable {M : Model} {A : Around} {E : Value → Shared → Prop} {s : Shared} {name : Str} {scope : Scope} {L a : Addr} {cd : Value} {h₀ : Heap} {m : Str → Option Value} {news : List (Addr × Obj)}
theorem st_cell {x : Str} {c : Addr} {o : Obj} {v₀ : Option Value} {v : Value} {Q : Unit → Shared → Prop} (F : Fr h₀ L s.heap m) (N : News h₀ L s.heap news)
    (hc : (cellsFrom (L + 1) scope.names []).lookup x = some c) (hm : (c, o) ∈ news) (hd : o.data = .cell v₀)
    (h : ∀ h' o', Fr h₀ L h' m → News h₀ L h' ((c, o') :: dropC c news) → o'.data = .cell (some v) → Q () { s with heap := h' })
    (hk : scope.kind = .function := by rfl) (hl : (envOfC name scope L a cd).kindOf x = some .cell := by rfl) :
    wpAny M A (storeName (envOfC name scope L a cd) x v) Q E s := by
  have hmem := N (c, o) hm
  refine wpAny_storeName_cell hk hl hc ⟨o, hmem.1, hd⟩ fun h' hv hs => ?_
  obtain ⟨o', ho', hd'⟩ := hv
  refine h h' o' ⟨F.ns.sameBut hs (Ne.symm hmem.2.1), fun b ob e => (hs.2 b (fun q => ?_)).trans (F.keep b ob e), F.above⟩ (news_dropC N (Ne.symm hmem.2.1) hmem.2.2 hs ho') hd'
  rw [q, hmem.2.2] at e; cases e
end
inductive TI (w : World) (l c1 c2 c3 vol dv ma : Addr) (kind bpc : Int) (bs : List Bool) (tk1 tk2 : Tok) (I : Addr) (kk : Nat) (css : List (List Int)) (m : Str → Option Value) (news : List (Addr × Obj)) (g : Array GenState) : Prop
  | mk (fat ca : Addr) (t : Nat → Tok) (nd nf nm nc : Nat) (fvs : List Value) (ce : List (Addr × Obj)) (ffc : Int) (rest : List (Addr × Obj)) (o1 o2 o3 : Obj) (v2 v3 : Option Value)
    (hv : m (Str.ofString "volume") = some (.ref vol)) (hki : m (Str.ofString "kind") = some (.int kind tk1)) (hmm : m (Str.ofString "marks") = some (.ref ma)) (hch : m (Str.ofString "chains") = some (.ref ca)) (hsz : m (Str.ofString "size") = some (.int bpc tk2))
    (e : news = (vol, instObj 316 dv) :: (dv, dictOf (volD w t bpc ffc kind (.ref fat) true false) nd) :: (fat, listOf fvs.toArray nf) :: rest)
    (hnr : ∀ p ∈ rest, p.1 ≠ dv ∧ p.1 ≠ fat) (hma : (ma, listOf (bs.map Value.bool).toArray nm) ∈ rest) (hca : (ca, listOf (ce.map fun p => Value.ref p.1).toArray nc) ∈ rest) (hce : ∀ q ∈ ce, q ∈ rest) (hcs : Chs ce css)
    (hcn : ma ≠ ca ∧ ∀ q ∈ ce, q.1 ≠ ca)
    (h1 : (c1, o1) ∈ rest) (d1 : o1.data = .cell (some (.ref l))) (h2 : (c2, o2) ∈ rest) (d2 : o2.data = .cell v2) (h3 : (c3, o3) ∈ rest) (d3 : o3.data = .cell v3)
    (e2 : Int) (he2 : (2 ≤ ffc ∧ e2 = ffc) ∨ (ffc = 0 ∧ e2 = 2)) (S : Sound kind bs css e2) (hcl : css.length ≤ kk) (h30 : ∀ c ∈ css, c.length ≤ 30) (hi : IntsAre fvs (tableF kind bs css)) (hG : AllBare g) (off : ∀ p ∈ news, p.1 ≠ I) :
    TI w l c1 c2 c3 vol dv ma kind bpc bs tk1 tk2 I kk css m news g
theorem foldl_filter (p : Int → Bool) : ∀ (ks acc : List Int), ks.foldl (fun l k => if p k = true then l ++ [k] else l) acc = acc ++ ks.filter p
  | [], acc => by simp
  | k :: ks, acc => by
    rw [List.foldl_cons, foldl_filter p ks]
    by_cases h : p k = true
    · rw [if_pos h, List.filter_cons_of_pos h, List.append_assoc]; rfl
    · rw [if_neg h, List.filter_cons_of_neg h]
theorem grows_filter (p : Int → Bool) : KPfGrows (fun l k => if p k = true then l ++ [k] else l) := fun l k => by
  show (if p k = true then l ++ [k] else l).length ≤ l.length + 1
  split
  · simp
  · omega
theorem chs_take : ∀ {ce : List (Addr × Obj)} {css : List (List Int)}, Chs ce css → ∀ a, Chs (ce.take a) (css.take a)
  | [], [], _, a => by simp [Chs]
  | [], _ :: _, h, _ => h.elim
  | _ :: _, [], h, _ => h.elim
  | _ :: _, _ :: _, h, 0 => trivial
  | _ :: _, _ :: _, h, a + 1 => ⟨h.1, chs_take h.2 a⟩
theorem chs_drop : ∀ {ce : List (Addr × Obj)} {css : List (List Int)}, Chs ce css → ∀ a, Chs (ce.drop a) (css.drop a)
  | [], [], _, a => by simp [Chs]
  | [], _ :: _, h, _ => h.elim
  | _ :: _, [], h, _ => h.elim
  | _ :: _, _ :: _, h, 0 => h
  | _ :: _, _ :: _, h, a + 1 => chs_drop h.2 a
theorem chs_append : ∀ {ce ce2 : List (Addr × Obj)} {css css2 : List (List Int)}, Chs ce css → Chs ce2 css2 → Chs (ce ++ ce2) (css ++ css2)
  | [], _, [], _, _, h2 => h2
  | [], _, _ :: _, _, h, _ => h.elim
  | _ :: _, _, [], _, h, _ => h.elim
  | _ :: _, _, _ :: _, _, h, h2 => ⟨h.1, chs_append h.2 h2⟩
theorem pick_upto (vs : List Value) {y : Int} (h : 0 ≤ y) : slicePick vs.toArray none (some y) none = (vs.take y.toNat).toArray := by
  have e : sliceBounds none (some y) none vs.toArray.size = (((0 : Nat) : Int), ((min y.toNat vs.toArray.size : Nat) : Int), 1) := by
    simp only [sliceBounds, Option.getD_none, show (1 : Int) > 0 by decide, if_true, if_neg (show ¬ (y < 0) by omega)]
    congr 1
    congr 1
    omega
  rw [kmk_pick_nat _ e]
  show ((vs.drop 0).take (min y.toNat vs.toArray.size - 0)).toArray = _
  rw [List.drop_zero, Nat.sub_zero, List.size_toArray, kmk_take_min]
theorem pick_from (vs : List Value) {x : Int} (h : 0 ≤ x) : slicePick vs.toArray (some x) none none = (vs.drop x.toNat).toArray := by
  have e : sliceBounds (some x) none none vs.toArray.size = (((min x.toNat vs.toArray.size : Nat) : Int), ((vs.toArray.size : Nat) : Int), 1) := by
    simp only [sliceBounds, Option.getD_none, show (1 : Int) > 0 by decide, if_true, if_neg (show ¬ (x < 0) by omega)]
    congr 1
    omega
  rw [kmk_pick_nat _ e]
  show ((vs.drop (min x.toNat vs.toArray.size)).take (vs.toArray.size - min x.toNat vs.toArray.size)).toArray = _
  rw [List.size_toArray, kmk_drop_min, List.take_of_length_le (by rw [List.length_drop]; omega)]
theorem fr_off {h₀ h : Heap} {L : Addr} {m : Str → Option Value} (F : Fr h₀ L h m) : h₀.objs.size ≤ L := F.above
end Mine

namespace Mine

open PyProof.V
section
variable {prog : Program} {w : World} {A : Around} {h₀ : Heap} {L : Addr} {m : Str → Option Value} {env : Env} {elt : PySem.Expr} {x : Str} {scope : Scope} {cl : List (Str × Addr)} {s : Shared} {S : List (Addr × Obj) → Prop} {Fin : List Value → List (Addr × Obj) → Prop} {news : List (Addr × Obj)}
theorem chs_list : ∀ {ce : List (Addr × Obj)} {css : List (List Int)}, Chs ce css → ∀ q ∈ ce, ∃ vs n, q.2 = listOf (List.toArray vs) n
  | [], _, _, q, hq => nomatch hq
  | _ :: _, [], h, _, _ => h.elim
  | p :: ce, _ :: _, h, q, hq => by
    rcases List.mem_cons.mp hq with rfl | hq
    · obtain ⟨vs, n, e, _⟩ := h.1; exact ⟨vs, n, e⟩
    · exact chs_list h.2 q hq
theorem off1_mem {D : Addr} : ∀ {l : List (Addr × Obj)}, LCg.Off1 D l → ∀ p ∈ l, p.1 ≠ D
  | [], _, _, h => nomatch h
  | _ :: _, x, p, h => by
    rcases List.mem_cons.mp h with rfl | h
    · exact x.1
    · exact off1_mem x.2 p h
theorem free_foldl (tab : List Int) (a : Int) (n : Nat) : (rangeKs a n).foldl (fun l k => if (tab.getD k.toNat 0 == 0) = true then l ++ [k] else l) [] = freeL tab a n := by
  rw [foldl_filter (fun k => tab.getD k.toNat 0 == 0), List.nil_append]; rfl
theorem TI.put {l c1 c2 c3 vol dv ma I c D : Addr} {kind bpc : Int} {bs : List Bool} {tk1 tk2 : Tok} {kk : Nat} {css : List (List Int)} {g : Array GenState} {o' : Obj} {v : Option Value} {its : Array Value} {nD : Nat} {h : Heap}
    (hI : TI w l c1 c2 c3 vol dv ma kind bpc bs tk1 tk2 I kk css m news g) (N : News h₀ L h news) (hc : c = c2 ∨ c = c3) (hne : c1 ≠ c2 ∧ c1 ≠ c3 ∧ c2 ≠ c3) (d' : o'.data = .cell v) (hD : ∀ p ∈ news, p.1 ≠ D) (hDI : D ≠ I) :
    ∃ news', TI w l c1 c2 c3 vol dv ma kind bpc bs tk1 tk2 I kk css m news' g ∧ (∀ p ∈ news', p ∈ (c, o') :: (D, listOf its nD) :: dropC c news) ∧ (c, o') ∈ news'.drop 3 ∧ (D, listOf its nD) ∈ news'.drop 3 := by
  obtain ⟨fat, ca, t, nd, nf, nm, nc, fvs, ce, ffc, rest, o1, o2, o3, v2, v3, hv, hki, hmm, hch, hsz, e, hnr, hma, hca, hce, hcs, hcn, h1, d1, h2, d2, h3, d3, e2, he2, S, hcl, h30, hi, hG, off⟩ := hI
  subst e
  obtain ⟨oc, vc, hcm, dc⟩ : ∃ oc vc, (c, oc) ∈ rest ∧ oc.data = .cell vc := by
    rcases hc with rfl | rfl
    · exact ⟨o2, v2, h2, d2⟩
    · exact ⟨o3, v3, h3, d3⟩
  have hcm' : (c, oc) ∈ (vol, instObj 316 dv) :: (dv, dictOf (volD w t bpc ffc kind (.ref fat) true false) nd) :: (fat, listOf fvs.toArray nf) :: rest := .tail _ (.tail _ (.tail _ hcm))
  have ap : ∀ {a : Addr} {o : Obj}, (a, o) ∈ (vol, instObj 316 dv) :: (dv, dictOf (volD w t bpc ffc kind (.ref fat) true false) nd) :: (fat, listOf fvs.toArray nf) :: rest → (∀ vv, o.data ≠ .cell vv) → a ≠ c :=
    fun hm hd => apart N hm hcm' (by rw [dc]; exact hd _)
  have vne : vol ≠ c := ap (.head _) (fun _ h => by cases h)
  have dne : dv ≠ c := ap (.tail _ (.head _)) (fun _ h => by cases h)
  have fne : fat ≠ c := ap (.tail _ (.tail _ (.head _))) (fun _ h => by cases h)
  have dr : ∀ {p : Addr × Obj}, p ∈ rest → p.1 ≠ c → p ∈ (c, o') :: (D, listOf its nD) :: dropC c rest := fun hp hn => .tail _ (.tail _ (mem_dropC hp hn))
  have lst : ∀ {a : Addr} {its : Array Value} {n : Nat}, (a, listOf its n) ∈ rest → a ≠ c := fun hm => ap (.tail _ (.tail _ (.tail _ hm))) (fun _ h => by cases h)
  have c1c : c1 ≠ c := by rcases hc with rfl | rfl; exact hne.1; exact hne.2.1
  have hce' : ∀ q ∈ ce, q.1 ≠ c := fun q hq => by
    obtain ⟨vs, n, e⟩ := chs_list hcs q hq
    have := hce q hq
    rw [show q = (q.1, listOf vs.toArray n) from by rw [← e]] at this
    exact lst this
  refine ⟨(vol, instObj 316 dv) :: (dv, dictOf (volD w t bpc ffc kind (.ref fat) true false) nd) :: (fat, listOf fvs.toArray nf) :: (c, o') :: (D, listOf its nD) :: dropC c rest, ?_, ?_, .head _, .tail _ (.head _)⟩
  · obtain ⟨o2', v2', h2', d2'⟩ : ∃ o v, (c2, o) ∈ (c, o') :: (D, listOf its nD) :: dropC c rest ∧ o.data = .cell v := by
      rcases hc with rfl | rfl
      · exact ⟨o', v, .head _, d'⟩
      · exact ⟨o2, v2, dr h2 hne.2.2, d2⟩
    obtain ⟨o3', v3', h3', d3'⟩ : ∃ o v, (c3, o) ∈ (c, o') :: (D, listOf its nD) :: dropC c rest ∧ o.data = .cell v := by
      rcases hc with rfl | rfl
      · exact ⟨o3, v3, dr h3 (Ne.symm hne.2.2), d3⟩
      · exact ⟨o', v, .head _, d'⟩
    refine TI.mk fat ca t nd nf nm nc fvs ce ffc _ o1 o2' o3' v2' v3' hv hki hmm hch hsz rfl ?_ (dr hma (lst hma)) (dr hca (lst hca)) (fun q hq => dr (hce q hq) (hce' q hq)) hcs hcn (dr h1 c1c) d1 h2' d2' h3' d3' e2 he2 S hcl h30 hi hG ?_
    · intro p hp
      rcases List.mem_cons.mp hp with rfl | hp
      · have q := hnr _ hcm
        exact q
      rcases List.mem_cons.mp hp with rfl | hp
      · exact ⟨Ne.symm (hD _ (.tail _ (.head _))), Ne.symm (hD _ (.tail _ (.tail _ (.head _))))⟩
      · exact hnr p (of_dropC hp).1
    · intro p hp
      simp only [List.mem_cons] at hp
      rcases hp with rfl | rfl | rfl | rfl | rfl | hp
      · exact off _ (.head _)
      · exact off _ (.tail _ (.head _))
      · exact off _ (.tail _ (.tail _ (.head _)))
      · have q := off _ hcm'
        exact q
      · exact hDI
      · exact off _ (.tail _ (.tail _ (.tail _ (of_dropC hp).1)))
  · intro p hp
    simp only [List.mem_cons] at hp ⊢
    rcases hp with rfl | rfl | rfl | rfl | rfl | hp
    · exact .inr (.inr (mem_dropC (.head _) vne))
    · exact .inr (.inr (mem_dropC (.tail _ (.head _)) dne))
    · exact .inr (.inr (mem_dropC (.tail _ (.tail _ (.head _))) fne))
    · exact .inl rfl
    · exact .inr (.inl rfl)
    · exact .inr (.inr (mem_dropC (.tail _ (.tail _ (.tail _ (of_dropC hp).1))) (of_dropC hp).2))
theorem add_new {E : Value → Shared → Prop} {l b : Addr} {vs ws : List Value} {Q : Value → Shared → Prop} (F : Fr h₀ L s.heap m) (N : News h₀ L s.heap news) (hl : s.heap.IsList l vs.toArray) (hb : s.heap.IsList b ws.toArray) (hsz : vs.length + ws.length ≤ 1000)
    (h : ∀ D h', Fr h₀ L h' m → News h₀ L h' ((D, listOf (vs ++ ws).toArray 0) :: news) → (∀ p ∈ news, p.1 < D) → Q (.ref D) { s with heap := h' }) :
    wpAny (model prog w) A (binaryOp .Add (.ref l) (.ref b)) Q E s :=
  add_lists F N hl hb (fun h' F' N' => h _ h' F' N' fun p hp => Heap.lt_size (N p hp).1) (by rw [PySem.sizeLine_eq]; omega)
theorem comp_bools {n : Nat} {a : Int}
    (turn : ∀ (i : Nat) t I oI C oC D m₂ ys h tk (E' : Value → Shared → Prop), i < n → LCg.NsObj oC m₂ → m₂ x = some (.int (a + i) t) → Fr h₀ L h m → News h₀ L h ((I, oI) :: (C, oC) :: (D, LCg.lst ys) :: news) → LCg.Off3 I C D news → ((@Ne Nat I C) ∧ (@Ne Nat I D) ∧ (@Ne Nat C D)) →
      wpAny (model prog w) A (eval elt (compEnvC scope cl C env)) (LCg.CompEnd h₀ L m { s with heap := h, toks := tk } I oI C oC D (LCg.lst ys) S (fun y news' => news' = news ∧ ∃ b : Bool, y = .bool b)) E' { s with heap := h, toks := tk })
    (fin : ∀ bs : List Bool, bs.length = n → Fin (bs.map Value.bool) news) : LCg.CompRest prog w A h₀ L m env elt x scope cl s S (fun i v => ∃ t, v = .int (a + (i : Int)) t) Fin n 0 [] news := by
  have key : ∀ (j i : Nat) (bs : List Bool), i + j = n → bs.length = i → LCg.CompRest prog w A h₀ L m env elt x scope cl s S (fun i v => ∃ t, v = .int (a + (i : Int)) t) Fin j i (bs.map Value.bool) news := by
    intro j
    induction j with
    | zero => exact fun i bs hi hy => LCg.CompRest.zero (fin bs (by omega))
    | succ j ih =>
      intro i bs hi hy
      refine LCg.CompRest.succ ?_
      rintro v I oI C oC D m₂ h tk E' ⟨t, rfl⟩ hC hx F N off ne
      refine wpAny_mono (turn i t I oI C oC D m₂ _ h tk E' (by omega) hC hx F N off ne) (fun y s₂ hq => ?_) fun _ _ e => e
      obtain ⟨h', tk', nw, e, F', N', off', hS, hn, b, hy'⟩ := hq
      subst hn
      refine ⟨h', tk', nw, e, F', N', off', hS, ?_⟩
      show LCg.CompRest prog w A h₀ L m env elt x scope cl s S (fun i v => ∃ t, v = .int (a + (i : Int)) t) Fin j (i + 1) (bs.map Value.bool ++ [y]) nw
      rw [hy', show bs.map Value.bool ++ [Value.bool b] = (bs ++ [b]).map Value.bool by simp]
      exact ih (i + 1) _ (by omega) (by rw [List.length_append, hy]; rfl)
  exact key n 0 [] (by omega) rfl
end
end Mine

namespace Mine

open PyProof.V
theorem firstMet_full {ns : List Int} (hn : ns.Nodup) : ∀ i, i ≤ ns.length → (firstMet (fun j => ns.getD j 0) i).length = i
  | 0, _ => rfl
  | i + 1, h => by
    rw [firstMet_succ, step_length, firstMet_any, firstMet_full hn i (by omega), if_neg]
    intro h2
    obtain ⟨x, hx, e⟩ := List.any_eq_true.mp h2
    obtain ⟨j, hj, rfl⟩ := List.mem_map.mp hx
    have hj := List.mem_range.mp hj
    rw [beq_iff_eq] at e
    simp only [List.getD_eq_getElem?_getD] at e
    rw [List.getElem?_eq_getElem (by omega), List.getElem?_eq_getElem (by omega)] at e
    have := (List.getElem_inj hn).mp e
    omega
theorem mulb {a n : Int} (h1 : 1 ≤ a) (h2 : a ≤ 40) (h3 : 0 ≤ n) (h4 : n ≤ 19) : 1 ≤ a * (n + 2) ∧ a * (n + 2) ≤ 840 := by
  have x : 1 * (n + 2) ≤ a * (n + 2) := Int.mul_le_mul_of_nonneg_right h1 (by omega)
  have y : a * (n + 2) ≤ 40 * (n + 2) := Int.mul_le_mul_of_nonneg_right h2 (by omega)
  omega
theorem freeL_mono (tab : List Int) (a : Int) {k n : Nat} (h : k ≤ n) : (freeL tab a k).length ≤ (freeL tab a n).length := by
  obtain ⟨j, rfl⟩ : ∃ j, n = k + j := ⟨n - k, by omega⟩
  rw [freeL_split, List.length_append]
  omega
theorem foldl_const : ∀ (l acc : List Int), l.foldl (fun a _ => a) acc = acc
  | [], _ => rfl
  | _ :: l, acc => foldl_const l acc
theorem ints_nil {vs : List Value} (h : IntsAre vs []) : vs = [] := by cases h; rfl
theorem min_e {ffc e2 : Int} {c : List Int} (he : (2 ≤ ffc ∧ e2 = ffc) ∨ (ffc = 0 ∧ e2 = 2)) (hc : ∀ x ∈ c, 2 ≤ x) : (2 ≤ minF ffc c ∧ minF e2 c = minF ffc c) ∨ (minF ffc c = 0 ∧ minF e2 c = 2) := by
  rcases he with ⟨h, rfl⟩ | ⟨rfl, rfl⟩
  · exact .inl ⟨minF_ge c _ h hc, rfl⟩
  · refine .inr ?_
    have key : ∀ (f : Int), f ≤ 2 → ∀ c : List Int, (∀ x ∈ c, 2 ≤ x) → minF f c = f := fun f hf c => by
      induction c with
      | nil => intro _; rfl
      | cons x c ih =>
        intro h
        have hx := h x (.head _)
        show minF (min x f) c = f
        rw [show min x f = f by omega]
        exact ih fun y hy => h y (.tail _ hy)
    exact ⟨key 0 (by omega) c hc, key 2 (by omega) c hc⟩
theorem low_bad {kind : Int} {bs : List Bool} {css : List (List Int)} {ffc : Int} (S : Sound kind bs css ffc) : ∀ j : Nat, j < 2 → (tableF kind bs css).getD j 0 ≠ 0 := fun j hj => by
  rw [tab_end S.out hj]
  have := (kind_nums S.kd).2
  omega
theorem put_nil (kind : Int) (t : List Int) : chainPut kind t [] = t := rfl
theorem last_bad {kind : Int} {bs : List Bool} {css : List (List Int)} {ffc : Int} (S : Sound kind bs css ffc) (h1 : 1 ≤ bs.length) (hl : bs.getD (bs.length - 1) false = true) : (tableF kind bs css).getD ((tableF kind bs css).length - 1) 0 ≠ 0 := by
  intro e
  have hk := S.kd
  rw [tableF_len] at e
  have z := tab_zero hk S.out (i := bs.length + 2 - 1) (by omega) (by omega) e
  have e2 : bs.length + 2 - 1 - 2 = bs.length - 1 := by omega
  have z2 := z.2
  rw [e2, List.getD_eq_getElem?_getD, List.getElem?_eq_getElem (by omega)] at z2
  rw [List.getD_eq_getElem?_getD, List.getElem?_eq_getElem (by omega)] at hl
  simp only [Option.getD_some] at z2 hl
  rw [hl] at z2
  cases z2
section
variable {prog : Program} {w : World} {A : Around} {E : Value → Shared → Prop} {h₀ : Heap} {L : Addr} {m : Str → Option Value} {s : Shared} {news : List (Addr × Obj)}
theorem set_new {l : Addr} {vs : List Value} {ns : List Int} {Q : Value → Shared → Prop} (F : Fr h₀ L s.heap m) (N : News h₀ L s.heap news)
    (hh : A.handled = none) (hl : s.heap.IsList l vs.toArray) (hi : IntsAre vs ns) (hn : ns.Nodup) (hb : ns.length ≤ 100)
    (h : ∀ D h' (tk : Nat) o S, Fr h₀ L h' m → News h₀ L h' ((D, o) :: news) → o.SetObjOf (intKind prog w) S ns.length → Q (.ref D) { s with heap := h', toks := tk }) :
    wpAny (model prog w) A (call (.type "set") [.ref l]) Q E s := by
  have hvn : vs.length = ns.length := IntsAre.length hi
  have hsz : vs.toArray.size = ns.length := by rw [List.size_toArray, hvn]
  refine PySem.call_set_list (items := vs.toArray) (ns := ns) hh hl (by simpa using hi) (by rw [hsz]; unfold scanBound; omega) fun h' tk hS hk => ?_
  rw [hsz, firstMet_full hn _ (Nat.le_refl _)] at hS
  obtain ⟨o, ho, hso⟩ := hS.objOf
  obtain ⟨oL, _, _, hL, _⟩ := F.ns
  have hLlt : L < s.heap.objs.size := Heap.lt_size hL
  refine h _ h' tk o _ ⟨F.ns.at' fun o' e => hk L o' hLlt e, fun b o' e => hk b o' (Heap.lt_size (F.keep b o' e)) (F.keep b o' e), F.above⟩ (fun p hp => ?_) hso
  rcases List.mem_cons.mp hp with rfl | hp
  · refine ⟨ho, Nat.ne_of_gt hLlt, ?_⟩
    cases hq : h₀.get? s.heap.objs.size with
    | none => rfl
    | some o' => exact absurd (Heap.lt_size (F.keep _ _ hq)) (Nat.lt_irrefl _)
  · exact ⟨hk _ _ (Heap.lt_size (N p hp).1) (N p hp).1, (N p hp).2.1, (N p hp).2.2⟩
theorem app_new {x : Value} {D : Addr} {its : Array Value} {n : Nat} {Q : Value → Shared → Prop} (F : Fr h₀ L s.heap m) (N : News h₀ L s.heap news) (hm : (D, listOf its n) ∈ news) (hsz : its.size ≤ 1000)
    (h : ∀ h' n', Fr h₀ L h' m → News h₀ L h' ((D, listOf (its.push x) n') :: dropC D news) → Q .none { s with heap := h' }) : wpAny (model prog w) A (call (.builtin "list.append") [.ref D, x]) Q E s :=
  own_append F (nsub N (news' := (D, listOf its n) :: dropC D news) fun p hp => by
    rcases List.mem_cons.mp hp with rfl | hp
    · exact hm
    · exact (of_dropC hp).1) (.head fun p hp => (of_dropC hp).2) hsz h
end
section
variable {w : World} {p : Program} {loose : List Str} {mean : ExcName → Option Value} {mg mb : Str → Option Value}
  {base h₀ : Heap} {outer : List Env} {A₀ A : Around} {env : Env} {L : Addr} {m : Str → Option Value} {news rest : List (Addr × Obj)} {s : Shared} {R : Result → Shared → Prop}
theorem alloc_e {kind bpc ffc e size due : Int} {vol dv fat : Addr} {t : Nat → Tok} {nd nf : Nat} {fvs : List Value} {tab : List Int} {ts : Tok}
    (C : Cx 20 w p loose mean mg mb base h₀ outer A₀ A env L m ((vol, instObj 316 dv) :: (dv, dictOf (volD w t bpc ffc kind (.ref fat) true false) nd) :: (fat, listOf fvs.toArray nf) :: rest) s.heap) (hk : KindOk kind)
    (hne : vol ≠ dv) (hvf : vol ≠ fat) (hnf : fat ≠ dv) (hnr : ∀ p ∈ rest, p.1 ≠ dv ∧ p.1 ≠ fat)
    (hi : IntsAre fvs tab) (hlen : tab.length ≤ 40) (he : (2 ≤ ffc ∧ e = ffc) ∨ (ffc = 0 ∧ e = 2)) (hlow : ∀ j : Nat, j < 2 → tab.getD j 0 ≠ 0) (hl3 : 3 ≤ tab.length) (hf1 : e < tab.length) (hlast : tab.getD (tab.length - 1) 0 ≠ 0) (hb1 : 1 ≤ bpc) (hb2 : bpc < 1000) (hs1 : 0 ≤ size) (hs2 : size < 100000) (hdue : due = -((-size).fdiv bpc)) (hd0 : 0 ≤ due) (hd1 : due < 1000000) (hout : ∀ k : Nat, e + (k : Nat) < tab.length → ((freeL tab e k).length : Int) = due → outer = [])
    (h : ∀ k, k < (tab.length - e).toNat → ((freeL tab e k).length : Int) = due → ∀ h' tk' D vs n nvs nnf t' nd', Fr h₀ L h' m → News h₀ L h' ((D, listOf vs.toArray n) :: (vol, instObj 316 dv) :: (dv, dictOf (volD w t' bpc (e + (k : Nat)) kind (.ref fat) true false) nd') :: (fat, listOf nvs.toArray nnf) :: rest) →
      (∀ p ∈ ((vol, instObj 316 dv) :: (dv, dictOf (volD w t bpc ffc kind (.ref fat) true false) nd) :: (fat, listOf fvs.toArray nf) :: rest), p.1 < D) → IntsAre vs (freeL tab e k) → IntsAre nvs (chainPut kind tab (freeL tab e k)) → R (.ok (.ret (.ref D))) { s with heap := h', toks := tk' })
    (h2 : ((freeL tab e (tab.length - e).toNat).length : Int) < due → ∀ h' tk' e tn, Flown w h₀ L m ((vol, instObj 316 dv) :: (dv, dictOf (volD w t bpc ffc kind (.ref fat) true false) nd) :: (fat, listOf fvs.toArray nf) :: rest) h' (env :: outer) (.int 28 tn) e → R (.error (.ref e)) { s with heap := h', toks := tk' }) :
    codeAny (model PySem.Challenge.rw_iw0017_01.row.prog w) A (.call (.ref 220) ⟨[.ref vol, .int size ts], []⟩) R s := by
  rcases he with ⟨h2f, rfl⟩ | ⟨rfl, rfl⟩
  · exact alloc_any C hk hne hvf hnf hnr hi hlen (by omega) hlow hl3 hf1 hlast hb1 hb2 hs1 hs2 hdue hd0 hd1 hout (fun k hk _ => h k hk) h2
  · have z2 : freeL tab 0 2 = [] := freeL_none fun i h0 h1 => hlow i.toNat (by omega)
    have key : ∀ j : Nat, freeL tab 0 (2 + j) = freeL tab 2 j := fun j => by
      rw [freeL_split, z2, List.nil_append]; rfl
    refine alloc_any C hk hne hvf hnf hnr hi hlen (by omega) hlow hl3 (by omega) hlast hb1 hb2 hs1 hs2 hdue hd0 hd1 (fun k hk hl => ?_) (fun k hk h2k hl => ?_) (fun hl => ?_)
    · by_cases hk2 : 2 ≤ k
      · obtain ⟨j, rfl⟩ : ∃ j, k = 2 + j := ⟨k - 2, by omega⟩
        rw [key] at hl
        exact hout j (by omega) hl
      · refine hout 0 (by omega) ?_
        have := freeL_mono tab 0 (k := k) (n := 2) (by omega)
        rw [z2] at this
        simp only [List.length_nil] at this
        show ((0 : Nat) : Int) = due
        omega
    · obtain ⟨j, rfl⟩ : ∃ j, k = 2 + j := ⟨k - 2, by omega⟩
      rw [key] at hl ⊢
      have hx := h j (by omega) hl
      rw [show (2 : Int) + (j : Nat) = 0 + ((2 + j : Nat) : Int) by omega] at hx
      exact hx
    · rw [show ((tab.length : Int) - 0).toNat = 2 + ((tab.length : Int) - 2).toNat by omega, key] at hl
      exact h2 hl
end
end Mine

namespace Mine

open PyProof.V
section
variable {w : World} {p : Program} {loose : List Str} {mean : ExcName → Option Value} {mg mb : Str → Option Value}
  {base h₀ : Heap} {outer : List Env} {A₀ A : Around} {env : Env} {L : Addr} {m : Str → Option Value} {news rest : List (Addr × Obj)} {s : Shared} {R : Result → Shared → Prop}
set_option maxHeartbeats 2000000 in
theorem turn_end {oc : Value} {od : Option Addr} {osl : Array (Option Value)} {fd : FuncData} {body fbody orelse rst : List Stmt} {tgt iter : PySem.Expr} {pos : Pos} {cd : Value} {fa vol dv ma l I : Addr} {io : Obj} {kind bpc : Int} {tk1 tk2 : Tok}
    {kk : Nat} {css : List (List Int)} {bs : List Bool} {Q : Flow → Shared → Prop} {E : Value → Shared → Prop}
    (hf : (hd.heap_39 w.params).lookup 374 = some ⟨oc, od, .func fd, osl⟩) (hb : fd.body = .stmts body) (hfb : body.drop 10 = .For tgt iter fbody orelse pos :: rst)
    (B : Below callerA base [] h₀) (X : (hd.heap_39 w.params).In h₀) (T : Top p loose mean mg mb h₀)
    (F : Fr h₀ L s.heap m) (N : News h₀ L s.heap ((I, io) :: news)) (hI : TI w l (L + 1) (L + 1 + 1) (L + 1 + 1 + 1) vol dv ma kind bpc bs tk1 tk2 I kk css m news s.gens) (hbl : bs.length ≤ 19)
    (hE : PassesOwn (model PySem.Challenge.rw_iw0017_01.row.prog w) (callerA.deeper (envOfC fd.name fd.scope L fa cd)) (envOfC fd.name fd.scope L fa cd) E)
    (hQ : ∀ h' tk' g m' news' css', Fr h₀ L h' m' → News h₀ L h' ((I, io) :: news') → TI w l (L + 1) (L + 1 + 1) (L + 1 + 1 + 1) vol dv ma kind bpc bs tk1 tk2 I kk css' m' news' g → Q .next { s with heap := h', toks := tk', gens := g })
    :
    wpAny (model PySem.Challenge.rw_iw0017_01.row.prog w) (callerA.deeper (envOfC fd.name fd.scope L fa cd)) (execs (fbody.drop 4) (envOfC fd.name fd.scope L fa cd)) Q E s := by
  obtain ⟨fat, ca, t, nd, nf, nm, nc, fvs, ce, ffc, rest, o1, o2, o3, v2, v3, hv, hki, hmm, hch, hsz, e, hnr, hma, hca, hce, hcs, hcn, h1, d1, h2, d2, h3, d3, e2, he2, S, hcl, h30, hi, hG, off⟩ := hI
  subst e
  have em := names5 hv hki hmm hch hsz
  have F1 := F
  rw [em] at F1
  have N1 := nsub N (news' := (vol, instObj 316 dv) :: (dv, dictOf (volD w t bpc ffc kind (.ref fat) true false) nd) :: (fat, listOf fvs.toArray nf) :: (I, io) :: rest) (fun p hp => by
      simp only [List.mem_cons] at hp ⊢
      rcases hp with hp | hp | hp | hp | hp
      · exact .inr (.inl hp)
      · exact .inr (.inr (.inl hp))
      · exact .inr (.inr (.inr (.inl hp)))
      · exact .inl hp
      · exact .inr (.inr (.inr (.inr hp))))
  refine turn_check (m₀ := fun y => if y = Str.ofString "size" then some (.int bpc tk2) else m y) hf hb hfb B F1 X T N1 (.tail _ hma) (.tail _ hca) (fun q hq => .tail _ (hce q hq)) hcs S.kd (by omega) S.out h30 hi hG ?_ hE
  intro h9 tk3 g o hg F2 N2
  refine hQ h9 tk3 g _ _ css F2 (nsub N2 (news' := (I, io) :: (vol, instObj 316 dv) :: (dv, dictOf (volD w t bpc ffc kind (.ref fat) true false) nd) :: (fat, listOf fvs.toArray nf) :: rest) (fun p hp => by
      simp only [List.mem_cons] at hp ⊢
      rcases hp with hp | hp | hp | hp | hp
      · exact .inr (.inr (.inr (.inl hp)))
      · exact .inl hp
      · exact .inr (.inl hp)
      · exact .inr (.inr (.inl hp))
      · exact .inr (.inr (.inr (.inr hp))))) ?_
  exact TI.mk fat ca t nd nf nm nc fvs ce ffc rest o1 o2 o3 v2 v3 rfl rfl rfl rfl rfl rfl hnr hma hca hce hcs hcn h1 d1 h2 d2 h3 d3 e2 he2 S hcl h30 hi hg off
end
end Mine

namespace Mine

open PyProof.V
local macro_rules | `(tactic| k_asm) => `(tactic| (refine' Cx.sub ?cxa ?cxb ?cxh ?cxB ?cxF ?cxX ?cxN ?cxT; (case cxa => omega); (case cxb => omega); (case cxh => assumption); (case cxB => assumption); (case cxF => assumption); (case cxX => assumption); (case cxN => assumption); (case cxT => assumption)))
local macro_rules | `(tactic| k_all) => `(tactic| first | assumption | exact allLt_ne (by assumption))
local macro_rules | `(tactic| k_mem) => `(tactic| first | assumption | exact List.Mem.head _ | (refine' List.Mem.tail _ ?_; k_mem))
local macro_rules | `(tactic| walk_at "subscriptTail") => `(tactic| (k_here; (with_reducible show wpAny _ _ (subscriptTail _ _ (Value.ref _) (Value.int _ _)) _ _ _); k_dflt (refine' ol_item ?k1 ?k2 ?k3 ?k4 ?k5 ?_ rfl; (case k1 => exact isList_of (by assumption) (by k_mem)); (case k2 => assumption); (case k3 => omega); (case k4 => omega); (case k5 => omega); intro tr)))
local macro_rules | `(tactic| walk_at "call builtin:len") => `(tactic| (k_here; k_dflt (refine' ol_len ?k1 ?k2 ?k5 ?_; (case k1 => exact isList_of (by assumption) (by k_mem)); (case k2 => assumption); (case k5 => omega); intro tl tk)))
local macro_rules | `(tactic| walk_at "call builtin:list.append") => `(tactic| (k_here; k_dflt (refine' ol_append ?F ?N ?U ?k2 ?k3 ?_; (case F => assumption); (case N => assumption); (case U => k_updF); (case k2 => assumption); (case k3 => first | omega | (simp only [List.length_append, List.length_map, List.length_take, List.length_cons, List.length_nil]; omega)); intro h' vs' n' F' N' hi'; (try dsimp only at N'); (try k_sweep))))
local macro_rules | `(tactic| walk_at "setItem ref int") => `(tactic| (k_here; k_dflt (refine' ol_set ?F ?N ?U ?k2 ?k3 ?k4 ?k5 ?_; (case F => assumption); (case N => assumption); (case U => k_updF); (case k2 => assumption); (case k3 => omega); (case k4 => omega); (case k5 => omega); intro h' vs' n' F' N' hi'; (try dsimp only at N'); (try k_sweep))))
local macro_rules | `(tactic| walk_at "eval Name") => `(tactic| (k_here; (with_reducible show wpAny _ _ (eval (Expr.Name (Str.ofString "script") _) (envOfC _ _ _ _ _)) _ _ _); k_dflt (refine' ldCN (by assumption) rfl (by k_mem) (by assumption) ?_ rfl rfl (by decide))))
local macro_rules | `(tactic| walk_at "eval Name") => `(tactic| (k_here; (with_reducible show wpAny _ _ (eval (Expr.Name (Str.ofString "table") _) (envOfC _ _ _ _ _)) _ _ _); k_dflt (refine' ldCN (by assumption) rfl (by k_mem) (by assumption) ?_ rfl rfl (by decide))))
local macro_rules | `(tactic| walk_at "eval Name") => `(tactic| (k_here; (with_reducible show wpAny _ _ (eval (Expr.Name (Str.ofString "table") _) (compEnvC _ _ _ _)) _ _ _); k_dflt (refine' lcf_cell (by assumption) rfl (by k_mem) (by assumption) ?_ rfl rfl (by decide))))
local macro_rules | `(tactic| walk_at "call ref") => `(tactic| (k_here; (with_reducible show wpAny _ _ (call (Value.ref 348) _ _) _ _ _); refine Halt.go ?_))
local macro_rules | `(tactic| walk_at "call ref") => `(tactic| (k_here; (with_reducible show wpAny _ _ (call (Value.ref 341) _ _) _ _ _); refine Halt.go ?_))
local macro_rules | `(tactic| walk_at "storeName") => `(tactic| (k_here; (with_reducible show wpAny _ _ (storeName _ (Str.ofString "table") _) _ _ _); refine Halt.go ?_))
local macro_rules | `(tactic| walk_at "storeName") => `(tactic| (k_here; (with_reducible show wpAny _ _ (storeName _ (Str.ofString "free") _) _ _ _); refine Halt.go ?_))
local macro_rules | `(tactic| walk_at "storeName") => `(tactic| (k_here; (with_reducible show wpAny _ _ (storeName _ (Str.ofString "deed") _) _ _ _); refine Halt.go ?_))
local macro_rules | `(tactic| walk_at "eval ListComp") => `(tactic| (k_here; refine Halt.go ?_))
local macro_rules | `(tactic| walk_at "CompSrcT") => `(tactic| (k_here; refine Halt.go ?_))
local macro_rules | `(tactic| walk_at "CompEnd") => `(tactic| (k_here; refine Halt.go ?_))
section
variable {w : World} {p : Program} {loose : List Str} {mean : ExcName → Option Value} {mg mb : Str → Option Value}
  {base h₀ : Heap} {outer : List Env} {A₀ A : Around} {env : Env} {L : Addr} {m : Str → Option Value} {news rest : List (Addr × Obj)} {s : Shared} {R : Result → Shared → Prop}
set_option maxHeartbeats 2000000 in
theorem turn_open {oc : Value} {od : Option Addr} {osl : Array (Option Value)} {fd : FuncData} {body fbody orelse rst : List Stmt} {tgt iter : PySem.Expr} {pos : Pos} {cd : Value} {fa vol dv ma l I : Addr} {io : Obj} {kind bpc i : Int} {vs : List Value} {ns : List Int} {tk1 tk2 ti : Tok}
    {kk : Nat} {css : List (List Int)} {bs : List Bool} {Q : Flow → Shared → Prop} {E : Value → Shared → Prop}
    (hf : (hd.heap_39 w.params).lookup 374 = some ⟨oc, od, .func fd, osl⟩) (hb : fd.body = .stmts body) (hfb : body.drop 10 = .For tgt iter fbody orelse pos :: rst)
    (B : Below callerA base [] h₀) (X : (hd.heap_39 w.params).In h₀) (T : Top p loose mean mg mb h₀)
    (F : Fr h₀ L s.heap (fun y => if y = Str.ofString "turn" then some (.int i ti) else m y)) (N : News h₀ L s.heap ((I, io) :: news)) (hI : TI w l (L + 1) (L + 1 + 1) (L + 1 + 1 + 1) vol dv ma kind bpc bs tk1 tk2 I kk css m news s.gens)
    (hl : base.IsList l vs.toArray) (hvs : IntsAre vs ns) (hn : ns.length ≤ 63) (hi0 : 0 ≤ i) (hi12 : i < 12) (hkk : kk < 12) (hbl : 1 ≤ bs.length ∧ bs.length ≤ 19) (hlast : bs.getD (bs.length - 1) false = true) (hbpc : 1 ≤ bpc ∧ bpc ≤ 40)
    (hK : ∀ d td h' tk' m' news' o3 fr frv nfr, 0 ≤ d → Fr h₀ L h' (fun y => if y = Str.ofString "deed" then some (.int d td) else if y = Str.ofString "turn" then some (.int i ti) else m' y) → News h₀ L h' ((I, io) :: news') → TI w l (L + 1) (L + 1 + 1) (L + 1 + 1 + 1) vol dv ma kind bpc bs tk1 tk2 I kk css m' news' s.gens →
      (L + 1 + 1 + 1, o3) ∈ news'.drop 3 → o3.data = .cell (some (.ref fr)) → (fr, listOf (List.toArray frv) nfr) ∈ news'.drop 3 → IntsAre frv (freeL (tableF kind bs css) 2 bs.length) →
      wpAny (model PySem.Challenge.rw_iw0017_01.row.prog w) (callerA.deeper (envOfC fd.name fd.scope L fa cd)) (execs (fbody.drop 3) (envOfC fd.name fd.scope L fa cd)) Q E { s with heap := h', toks := tk' })
    :
    wpAny (model PySem.Challenge.rw_iw0017_01.row.prog w) (callerA.deeper (envOfC fd.name fd.scope L fa cd)) (execs (fbody) (envOfC fd.name fd.scope L fa cd)) Q E s := by
  revert hf X; k_fill; intro hf X
  refine' use_lookup hf ?e ?_
  case e => k_dflt k_is
  intro hh
  cases hh
  have hf2 := And.intro trivial hf
  cases hb
  clear hf
  cases hfb
  dsimp only [List.drop]
  have hI0 := And.intro trivial hI
  obtain ⟨fat, ca, t, nd, nf, nm, nc, fvs, ce, ffc, rest, o1, o2, o3, v2, v3, hv, hki, hmm, hch, hsz, e, hnr, hma, hca, hce, hcs, hcn, h1, d1, h2, d2, h3, d3, e2, he2, S, hcl, h30, hi, hG, off⟩ := hI
  have htl : (tableF kind bs css).length = bs.length + 2 := tableF_len _ _ _
  have em := names5 hv hki hmm hch hsz
  have F0 := F
  rw [em] at F0
  dsimp only at F0
  replace em := And.intro trivial em
  subst e
  have hdd := And.intro trivial (And.intro d2 d3)
  clear d2 d3 F hv hki hmm hch hsz
  k_steps
  refine ⟨?_⟩
  refine wpAny_call ?_
  refine table_ok (css := css) ⟨B, F0, X, N, T, rfl, rfl, rfl, rfl, Nat.le_of_ble_eq_true rfl, Nat.le_of_ble_eq_true rfl⟩ S.kd (.tail _ (.tail _ (.tail _ (.tail _ hma)))) (.tail _ (.tail _ (.tail _ (.tail _ hca)))) (fun q hq => .tail _ (.tail _ (.tail _ (.tail _ (hce q hq))))) hcs (by omega)
    (fun c hc => ⟨by have := h30 c hc; omega, fun x hx => ⟨(S.out.rng c hc x hx).1, (S.out.rng c hc x hx).2.1⟩⟩) ?_
  intro h6 tk6 D tvs nt F6 N6 lt6 I6
  clear F0 N
  k_steps
  refine ⟨?_⟩
  refine st_cell F6 N6 rfl (.tail _ (.tail _ (.tail _ (.tail _ (.tail _ h2))))) hdd.2.1 ?_ rfl rfl
  intro h7 o2' F7 N7 d2'
  have c2I : (L + 1 + 1 : Addr) ≠ I := off _ (.tail _ (.tail _ (.tail _ h2)))
  have c3I : (L + 1 + 1 + 1 : Addr) ≠ I := off _ (.tail _ (.tail _ (.tail _ h3)))
  have c2D : (L + 1 + 1 : Addr) < D := lt6 _ (.tail _ (.tail _ (.tail _ (.tail _ h2))))
  have ne3 : (L + 1 : Addr) ≠ L + 1 + 1 ∧ (L + 1 : Addr) ≠ L + 1 + 1 + 1 ∧ (L + 1 + 1 : Addr) ≠ L + 1 + 1 + 1 :=
    ⟨Nat.ne_of_lt (Nat.lt_succ_self _), Nat.ne_of_lt (Nat.lt_succ_of_lt (Nat.lt_succ_self _)), Nat.ne_of_lt (Nat.lt_succ_self _)⟩
  obtain ⟨news1, hI1, sub1, m2, mD⟩ := TI.put (D := D) (its := tvs.toArray) (nD := nt) hI0.2 (nsub N6 fun q hq => .tail _ (.tail _ hq)) (.inl rfl) ne3 d2' (fun p hp => Nat.ne_of_lt (lt6 p (.tail _ hp))) (Ne.symm (Nat.ne_of_lt (lt6 (I, io) (.head _))))
  have N8 : News h₀ L h7 ((I, io) :: news1) := nsub N7 (fun p hp => by
    rcases List.mem_cons.mp hp with rfl | hp
    · exact .tail _ (mem_dropC (.tail _ (.head _)) (Ne.symm c2I))
    · rcases List.mem_cons.mp (sub1 p hp) with rfl | hp
      · exact .head _
      · rcases List.mem_cons.mp hp with rfl | hp
        · exact .tail _ (mem_dropC (.head _) (Ne.symm (Nat.ne_of_lt c2D)))
        · exact .tail _ (mem_dropC (.tail _ (.tail _ (of_dropC hp).1)) (of_dropC hp).2))
  replace m2 := List.mem_of_mem_drop m2
  replace mD := List.mem_of_mem_drop mD
  clear F6 N6 N7 hI0 hnr hma hca hce hcs hcn h1 h2 h3 hi hdd lt6 off
  have hI1' := And.intro trivial hI1
  obtain ⟨fat', ca', t', nd', nf', nm', nc', fvs', ce', ffc', rest', o1', o2'', o3', v2', v3', hv, hki, hmm, hch, hsz, e, hnr, hma, hca, hce, hcs, hcn, h1, d1', h2, d2'', h3, d3', e2', he2', S', hcl', h30', hi', hG', off'⟩ := hI1
  clear d2''
  have m1 : (L + 1, o1') ∈ news1 := by rw [e]; exact .tail _ (.tail _ (.tail _ h1))
  have m3 : (L + 1 + 1 + 1, o3') ∈ news1 := by rw [e]; exact .tail _ (.tail _ (.tail _ h3))
  have hdd := And.intro trivial d3'
  clear e hnr hma hca hce hcs hcn h1 h2 h3 hi' hG' off' d3' hv hki hmm hch hsz S' hcl' h30'
  k_steps
  refine ⟨?_⟩
  refine LCt.ListComp_T (F₀ := F7) (by with_unfolding_all rfl) (by decide) (by rfl) (by decide) (by rfl) ?_
  k_steps
  refine ⟨?_⟩
  clear sub1 c2I c2D d1
  rename Fr _ _ _ _ => F9
  rename News _ _ _ _ => N9
  rename IsRange _ _ _ _ _ _ _ _ => IR
  refine LCt.CompSrcT.range rfl F9 N9 IR (small_one (by omega) (by omega) (by omega) (by omega)) (rangeSize_nat _ _) (by rw [PySem.sizeLine_eq]; omega) ?_
  intro g9
  refine kci_range (fun l k => if ((tableF kind bs css).getD k.toNat 0 == 0) = true then l ++ [k] else l) ?turn ?fin (grows_filter _)
  case turn =>
    intro k tk9 I9 oI C oC Dl m9 ys lz h9 tk' E' hlo hhi hIy hC hx Fc Nc offc nec _
    have hku : k < bs.length + 2 := by omega
    clear hhi
    k_steps
    · refine ⟨?_⟩
      rename _ = (0 : Int) => hq
      exact LCg.CompEnd.intro Fc Nc ((I, io) :: news1) (fun p hp => hp) offc trivial (kci_el (if_pos (by rw [hq]; rfl)) rfl rfl)
    · refine ⟨?_⟩
      rename _ ≠ (0 : Int) => hq
      exact LCg.CompEnd.intro Fc Nc ((I, io) :: news1) (fun p hp => hp) offc trivial (kci_no (if_neg (by simpa using hq)) rfl)
  unfold KPfDone
  intro ys hys _
  unfold LCg.FinE
  intro FR h10 tk10 Fd Nd offd
  rw [free_foldl, show (((tableF kind bs css).length : Int) - 2).toNat = bs.length by omega] at hys
  clear F9 N9 IR
  k_steps
  refine ⟨?_⟩
  refine st_cell Fd Nd rfl (.tail _ (.tail _ m3)) hdd.2 ?_ rfl rfl
  intro h11 o3n F11 N11 d3n
  obtain ⟨news2, hI2, sub2, m4, mF⟩ := TI.put (D := FR) (its := ys.toArray) (nD := ys.length) hI1'.2 (nsub Nd fun q hq => .tail _ (.tail _ hq)) (.inr rfl) ne3 d3n (fun p hp => off1_mem offd p (.tail _ hp)) (Ne.symm (off1_mem offd _ (.head _)))
  have N12 : News h₀ L h11 ((I, io) :: news2) := nsub N11 (fun p hp => by
    rcases List.mem_cons.mp hp with rfl | hp
    · exact .tail _ (mem_dropC (.tail _ (.head _)) (Ne.symm c3I))
    · rcases List.mem_cons.mp (sub2 p hp) with rfl | hp
      · exact .head _
      · rcases List.mem_cons.mp hp with rfl | hp
        · exact .tail _ (mem_dropC (.head _) (Ne.symm (off1_mem offd _ (.tail _ m3))))
        · exact .tail _ (mem_dropC (.tail _ (.tail _ (of_dropC hp).1)) (of_dropC hp).2))
  have hI3 := And.intro m4 (And.intro d3n (And.intro mF (And.intro hys hI2)))
  obtain ⟨fat5, ca5, t5, nd5, nf5, nm5, nc5, fvs5, ce5, ffc5, rest5, p1, p2, p3, w2, w3, hv, hki, hmm, hch, hsz, e, hnr, hma, hca, hce, hcs, hcn, h1, e1, h2, e2, h3, e3, e9, he9, S', hcl', h30', hi', hG', off'⟩ := hI2
  have m6 : (L + 1, p1) ∈ news2 := by rw [e]; exact .tail _ (.tail _ (.tail _ h1))
  clear e hnr hma hca hce hcs hcn h1 h2 h3 hi' hG' off' hv hki hmm hch hsz S' hcl' h30' e2 e3 d2' Fd Nd N11 m2 m3 mD d1' m1 m4 mF
  k_steps
  refine ⟨?_⟩
  refine wpAny_call ?_
  rename Fr _ _ _ _ => F13
  rename News _ _ _ _ => N13
  refine take_ok ⟨B, F13, X, N13, T, rfl, rfl, rfl, rfl, Nat.le_of_ble_eq_true rfl, Nat.le_of_ble_eq_true rfl⟩ hl hvs hn (by omega) (by omega) (by decide) (by decide) ?_
  intro tr14 h14 tk14 F14 N14
  have hd0 := takeF_lo ns (20 + 2 * i) (many := 4) (by decide)
  generalize takeF ns (20 + 2 * i) 4 = dd at hd0
  clear F13 N13
  k_steps
  refine ⟨?_⟩
  refine wpAny_storeName_local rfl F14.ns (fun h15 hn15 hs15 => ?_) rfl
  obtain ⟨m4, d3n, mF, hys, hI2⟩ := hI3
  refine hK dd _ h15 _ _ news2 o3n FR ys ys.length hd0 (F14.set hn15 hs15) (N14.set hs15) (by rw [em.2] at hI2; exact hI2) m4 d3n mF hys
end
end Mine

namespace Mine

open PyProof.V
local macro_rules | `(tactic| k_asm) => `(tactic| (refine' Cx.sub ?cxa ?cxb ?cxh ?cxB ?cxF ?cxX ?cxN ?cxT; (case cxa => omega); (case cxb => omega); (case cxh => assumption); (case cxB => assumption); (case cxF => assumption); (case cxX => assumption); (case cxN => assumption); (case cxT => assumption)))
local macro_rules | `(tactic| k_all) => `(tactic| first | assumption | exact allLt_ne (by assumption))
local macro_rules | `(tactic| walk_at "eval Name") => `(tactic| (k_here; (with_reducible show wpAny _ _ (eval (Expr.Name (Str.ofString "script") _) (envOfC _ _ _ _ _)) _ _ _); k_dflt (refine' ldCN (by assumption) rfl (by k_mem) (by assumption) ?_ rfl rfl (by decide))))
local macro_rules | `(tactic| walk_at "call ref") => `(tactic| (k_here; (with_reducible show wpAny _ _ (call (Value.ref 348) _ _) _ _ _); refine Halt.go ?_))
local macro_rules | `(tactic| walk_at "call ref") => `(tactic| (k_here; (with_reducible show wpAny _ _ (call (Value.ref 341) _ _) _ _ _); refine Halt.go ?_))
local macro_rules | `(tactic| walk_at "call ref") => `(tactic| (k_here; (with_reducible show wpAny _ _ (call (Value.ref 189) _ _) _ _ _); refine Halt.go ?_))
local macro_rules | `(tactic| walk_at "storeName") => `(tactic| (k_here; (with_reducible show wpAny _ _ (storeName _ (Str.ofString "chains") _) _ _ _); refine Halt.go ?_))
local macro_rules | `(tactic| walk_at "truthy ref") => `(tactic| (k_here; refine Halt.go ?_))
local macro_rules | `(tactic| walk_at "call builtin:len") => `(tactic| (k_here; refine Halt.go ?_))
local macro_rules | `(tactic| walk_at "subscriptTail") => `(tactic| (k_here; (with_reducible show wpAny _ _ (subscriptTail _ _ (Value.ref _) (Value.int _ _)) _ _ _); refine Halt.go ?_))
local macro_rules | `(tactic| walk_at "subscriptTail") => `(tactic| (k_here; (with_reducible show wpAny _ _ (subscriptTail _ _ (Value.ref _) (Value.ref _)) _ _ _); refine Halt.go ?_))
local macro_rules | `(tactic| walk_at "binaryOp Add ref ref") => `(tactic| (k_here; refine Halt.go ?_))
section
variable {w : World} {p : Program} {loose : List Str} {mean : ExcName → Option Value} {mg mb : Str → Option Value}
  {base h₀ : Heap} {outer : List Env} {A₀ A : Around} {env : Env} {L : Addr} {m : Str → Option Value} {news rest : List (Addr × Obj)} {s : Shared} {R : Result → Shared → Prop}
set_option maxHeartbeats 2000000 in
theorem turn_free {oc : Value} {od : Option Addr} {osl : Array (Option Value)} {fd : FuncData} {body fbody orelse rst : List Stmt} {tgt iter : PySem.Expr} {pos : Pos} {cd : Value} {fa vol dv ma l I : Addr} {io : Obj} {kind bpc i : Int} {vs : List Value} {ns : List Int} {tk1 tk2 ti : Tok}
    {kk : Nat} {css : List (List Int)} {bs : List Bool} {Q : Flow → Shared → Prop} {E : Value → Shared → Prop}
 {td : Tok}
    (hf : (hd.heap_39 w.params).lookup 374 = some ⟨oc, od, .func fd, osl⟩) (hb : fd.body = .stmts body) (hfb : body.drop 10 = .For tgt iter fbody orelse pos :: rst)
    (B : Below callerA base [] h₀) (X : (hd.heap_39 w.params).In h₀) (T : Top p loose mean mg mb h₀)
    (F : Fr h₀ L s.heap (fun y => if y = Str.ofString "deed" then some (.int 3 td) else if y = Str.ofString "turn" then some (.int i ti) else m y)) (N : News h₀ L s.heap ((I, io) :: news)) (hI : TI w l (L + 1) (L + 1 + 1) (L + 1 + 1 + 1) vol dv ma kind bpc bs tk1 tk2 I kk css m news s.gens) (hne : css ≠ [])
    (hl : base.IsList l vs.toArray) (hvs : IntsAre vs ns) (hn : ns.length ≤ 63) (hi0 : 0 ≤ i) (hi12 : i < 12) (hkk : kk < 12) (hbl : 1 ≤ bs.length ∧ bs.length ≤ 19) (hlast : bs.getD (bs.length - 1) false = true) (hbpc : 1 ≤ bpc ∧ bpc ≤ 40)
    (hE : PassesOwn (model PySem.Challenge.rw_iw0017_01.row.prog w) (callerA.deeper (envOfC fd.name fd.scope L fa cd)) (envOfC fd.name fd.scope L fa cd) E)
    (hQ : ∀ h' tk' g m' news' css', Fr h₀ L h' m' → News h₀ L h' ((I, io) :: news') → TI w l (L + 1) (L + 1 + 1) (L + 1 + 1 + 1) vol dv ma kind bpc bs tk1 tk2 I (kk + 1) css' m' news' g → Q .next { s with heap := h', toks := tk', gens := g })
    :
    wpAny (model PySem.Challenge.rw_iw0017_01.row.prog w) (callerA.deeper (envOfC fd.name fd.scope L fa cd)) (execs (fbody.drop 3) (envOfC fd.name fd.scope L fa cd)) Q E s := by
  obtain ⟨fat, ca, t, nd, nf, nm, nc, fvs, ce, ffc, rest, o1, o2, o3, v2, v3, hv, hki, hmm, hch, hsz, e, hnr, hma, hca, hce, hcs, hcn, h1, d1, h2, d2, h3, d3, e2, he2, S, hcl, h30, hi, hG, off⟩ := hI
  have htl : (tableF kind bs css).length = bs.length + 2 := tableF_len _ _ _
  rw [names5 hv hki hmm hch hsz] at F
  dsimp only at F
  subst e
  have hcel : ce.length = css.length := Chs.len hcs
  have hcl1 : 1 ≤ css.length := List.length_pos_iff.mpr hne
  revert hf X; k_fill; intro hf X
  refine' use_lookup hf ?e ?_
  case e => k_dflt k_is
  intro hh
  cases hh
  have hf2 := And.intro trivial hf
  cases hb
  clear hf
  cases hfb
  dsimp only [List.drop]
  have hdd := And.intro trivial (And.intro d2 d3)
  clear d2 d3
  have m1 : (L + 1, o1) ∈ (I, io) :: (vol, instObj 316 dv) :: (dv, dictOf (volD w t bpc ffc kind (.ref fat) true false) nd) :: (fat, listOf fvs.toArray nf) :: rest := .tail _ (.tail _ (.tail _ (.tail _ h1)))
  have mca := isList_of N (.tail _ (.tail _ (.tail _ (.tail _ hca))))
  k_steps
  refine ⟨?_⟩
  rename Fr _ _ _ _ => F1
  rename News _ _ _ _ => N1
  refine wpAny_truthy_list mca (by simp only [List.size_toArray, List.length_map]; omega) ?_
  rw [show (!(List.toArray (ce.map fun p => Value.ref p.1)).isEmpty) = true from by
    cases ce with
    | nil => simp only [List.length_nil] at hcel; omega
    | cons q r => rfl]
  k_steps
  refine ⟨?_⟩
  refine own_len mca (by simp only [List.size_toArray, List.length_map]; omega) ?_
  rw [show (List.toArray (ce.map fun p => Value.ref p.1)).size = css.length from by rw [List.size_toArray, List.length_map, hcel]]
  k_steps
  refine ⟨?_⟩
  rename Fr _ _ _ _ => F2
  rename News _ _ _ _ => N2
  refine wpAny_call ?_
  refine take_ok ⟨B, F2, X, N2, T, rfl, rfl, rfl, rfl, Nat.le_of_ble_eq_true rfl, Nat.le_of_ble_eq_true rfl⟩ hl hvs hn (by omega) (by omega) (by omega) (by omega) ?_
  intro tr3 h4 tk4 F3 N3
  have a0 := takeF_lo ns (21 + 2 * i) (many := (css.length : Int)) (by omega)
  have a1 := takeF_hi ns (21 + 2 * i) (many := (css.length : Int)) (by omega)
  generalize takeF ns (21 + 2 * i) (css.length : Int) = a at a0 a1
  clear F2 N2 mca
  k_steps
  refine ⟨?_⟩
  rename Fr _ _ _ _ => F4
  rename News _ _ _ _ => N4
  have hal : a.toNat < css.length := by omega
  obtain ⟨q, hq⟩ : ∃ q, ce[a.toNat]? = some q := ⟨_, List.getElem?_eq_getElem (by omega)⟩
  obtain ⟨c, cvs, ncv, hci, hq2, IC⟩ := Chs.get hcs _ q hq
  have hce0 : css[a.toNat] = c := by rw [List.getElem?_eq_getElem hal] at hci; exact Option.some.inj hci
  have hcm : c ∈ css := List.mem_of_getElem? hci
  have hqm : (q.1, listOf cvs.toArray ncv) ∈ rest := hq2 ▸ hce q (List.mem_of_getElem? hq)
  have hc1 : 0 < c.length := List.length_pos_iff.mpr (S.out.ne c hcm)
  have hc30 := h30 c hcm
  refine own_item (x := .ref q.1) (isList_of N4 (.tail _ (.tail _ (.tail _ (.tail _ hca))))) a0 (by omega) (by simp only [List.getElem?_toArray, List.getElem?_map]; exact congrArg (Option.map fun p : Addr × Obj => Value.ref p.1) hq) ?_
  k_steps
  refine ⟨?_⟩
  refine ol_item (isList_of N4 (.tail _ (.tail _ (.tail _ (.tail _ hqm))))) IC (by decide) (by omega) (by omega) fun tk8 => ?_
  k_steps
  refine ⟨?_⟩
  rename Fr _ _ _ _ => F5
  rename News _ _ _ _ => N5
  have N6 := nsub N5 (news' := (vol, instObj 316 dv) :: (dv, dictOf (volD w t bpc ffc kind (.ref fat) true false) nd) :: (fat, listOf fvs.toArray nf) :: (I, io) :: rest) (fun p hp => by
      simp only [List.mem_cons] at hp ⊢
      rcases hp with hp | hp | hp | hp | hp
      · exact .inr (.inl hp)
      · exact .inr (.inr (.inl hp))
      · exact .inr (.inr (.inr (.inl hp)))
      · exact .inl hp
      · exact .inr (.inr (.inr (.inr hp))))
  have nvd : vol ≠ dv := apart N6 (.head _) (.tail _ (.head _)) (fun h => by cases h)
  have nfd : fat ≠ dv := apart N6 (.tail _ (.tail _ (.head _))) (.tail _ (.head _)) (fun h => by cases h)
  have f2 := S.f2
  have fN := S.fN
  refine wpAny_call ?_
  refine free_ok (chain := c) (tab := tableF kind bs css) (rest := (I, io) :: rest) ⟨B, F5, X, N6, T, rfl, rfl, rfl, rfl, Nat.le_of_ble_eq_true rfl, Nat.le_of_ble_eq_true rfl⟩ S.kd nvd nfd (fun p hp => by
      rcases List.mem_cons.mp hp with rfl | hp
      · exact Ne.symm (off _ (.tail _ (.head _)))
      · exact (hnr p hp).1) hi (by omega) rfl hc1 hc30 (by omega) (by omega) (chain_ok S.out hcm) ?_
  intro h7 tk7 D dvs nD t' nd' F7 N7 lt7 I7
  clear F5 N5 N6
  k_steps
  refine ⟨?_⟩
  have hcs7 := List.Mem.tail (D, listOf dvs.toArray nD) (.tail (vol, instObj 316 dv) (.tail (dv, dictOf (volD w t' bpc (minF ffc c) kind (.ref D) true false) nd') (.tail (fat, listOf fvs.toArray nf) (.tail (I, io) hca))))
  refine kmk_slice F7 N7 (isList_of N7 hcs7) .none (.int a tr3) ?_ rfl (fun _ => rfl) (by rw [PySem.sizeLine_eq]; simp only [List.size_toArray, List.length_map]; omega)
  intro D8 h8 F8 N8 lt8
  rw [pick_upto _ a0] at N8
  clear F7 N7
  k_steps
  refine ⟨?_⟩
  rename Fr _ _ _ _ => F9
  rename News _ _ _ _ => N9
  refine kmk_slice F9 N9 (isList_of N9 (.tail _ hcs7)) (.int _ _) .none ?_ rfl (fun _ => rfl) (by rw [PySem.sizeLine_eq]; simp only [List.size_toArray, List.length_map]; omega)
  intro D10 h10 F10 N10 lt10
  rw [pick_from _ (by omega)] at N10
  clear F9 N9
  k_steps
  refine ⟨?_⟩
  refine add_new F10 N10 (isList_of N10 (.tail _ (.head _))) (isList_of N10 (.head _)) (by simp only [List.length_take, List.length_drop, List.length_map]; omega) ?_
  intro D11 h11 F11 N11 lt11
  clear F10 N10
  k_steps
  refine ⟨?_⟩
  refine wpAny_storeName_local rfl F11.ns (fun h12 hn12 hs12 => ?_) rfl
  have F13 := F11.set hn12 hs12
  have N13 := N11.set hs12
  clear F11 N11
  have eN : (ce.map fun p : Addr × Obj => Value.ref p.1).take a.toNat ++ (ce.map fun p : Addr × Obj => Value.ref p.1).drop (a + 1).toNat = (ce.take a.toNat ++ ce.drop (a.toNat + 1)).map fun p => Value.ref p.1 := by
    rw [show (a + 1).toNat = a.toNat + 1 by omega, List.map_append, List.map_take, List.map_drop]
  rw [eN] at N13
  have S' := sound_free S a.toNat hal
  have Z := zero_erase (kind := kind) S.out a.toNat hal
  rw [hce0] at S' Z
  rw [Z] at I7
  have N14 := nsub N13 (news' := (I, io) :: (vol, instObj 316 dv) :: (dv, dictOf (volD w t' bpc (minF ffc c) kind (.ref D) true false) nd') :: (D, listOf dvs.toArray nD) :: (D11, listOf ((ce.take a.toNat ++ ce.drop (a.toNat + 1)).map fun p => Value.ref p.1).toArray 0) :: rest) (fun p hp => by
      simp only [List.mem_cons] at hp ⊢
      rcases hp with hp | hp | hp | hp | hp | hp
      · simp only [hp, true_or, or_true]
      · simp only [hp, true_or, or_true]
      · simp only [hp, true_or, or_true]
      · simp only [hp, true_or, or_true]
      · simp only [hp, true_or, or_true]
      · simp only [hp, true_or, or_true])
  clear N13
  have hrl : ∀ p ∈ rest, p.1 < D11 := fun p hp => lt11 p (.tail _ (.tail _ (.tail _ (.tail _ (.tail _ (.tail _ (.tail _ hp)))))))
  have hceM : ∀ q ∈ ce.take a.toNat ++ ce.drop (a.toNat + 1), q ∈ rest := fun q hq => by
    rcases List.mem_append.mp hq with hq | hq
    · exact hce q (List.mem_of_mem_take hq)
    · exact hce q (List.mem_of_mem_drop hq)
  refine wpAny_execs_nil ?_
  refine turn_end (s := { s with heap := h12, toks := _, gens := s.gens.push .finished }) (kk := kk + 1) (css := css.take a.toNat ++ css.drop (a.toNat + 1)) hf2.2 rfl rfl B X T F13 N14 (TI.mk D D11 t' nd' nD nm 0 dvs (ce.take a.toNat ++ ce.drop (a.toNat + 1)) (minF ffc c) _ o1 o2 o3 v2 v3 rfl rfl rfl rfl rfl rfl ?_ (.tail _ hma) (.head _) (fun q hq => .tail _ (hceM q hq)) (chs_append (chs_take hcs _) (chs_drop hcs _)) ⟨Nat.ne_of_lt (hrl _ hma), fun q hq => Nat.ne_of_lt (hrl _ (hceM q hq))⟩ (.tail _ h1) d1 (.tail _ h2) hdd.2.1 (.tail _ h3) hdd.2.2 _ (min_e he2 fun x hx => (S.out.rng c hcm x hx).1) S' ?_ ?_ I7 (hG.push rfl) ?_) hbl.2 hE hQ
  · intro p hp
    rcases List.mem_cons.mp hp with rfl | hp
    · exact ⟨Ne.symm (Nat.ne_of_lt (lt11 (dv, _) (.tail _ (.tail _ (.tail _ (.tail _ (.head _))))))), Ne.symm (Nat.ne_of_lt (lt11 (D, _) (.tail _ (.tail _ (.head _)))))⟩
    · exact ⟨(hnr p hp).1, Nat.ne_of_lt (lt7 p (.tail _ (.tail _ (.tail _ (.tail _ hp)))))⟩
  · simp only [List.length_append, List.length_take, List.length_drop]; omega
  · intro c9 hc9
    rcases List.mem_append.mp hc9 with hc9 | hc9
    · exact h30 c9 (List.mem_of_mem_take hc9)
    · exact h30 c9 (List.mem_of_mem_drop hc9)
  · intro p hp
    simp only [List.mem_cons] at hp
    rcases hp with rfl | rfl | rfl | rfl | hp
    · exact off _ (.head _)
    · exact off (dv, dictOf (volD w t bpc ffc kind (.ref fat) true false) nd) (.tail _ (.head _))
    · exact Ne.symm (Nat.ne_of_lt (lt7 (I, io) (.tail _ (.tail _ (.tail _ (.head _))))))
    · exact Ne.symm (Nat.ne_of_lt (lt11 (I, io) (.tail _ (.tail _ (.tail _ (.tail _ (.tail _ (.tail _ (.head _)))))))))
    · exact off _ (.tail _ (.tail _ (.tail _ hp)))
end
end Mine

namespace Mine

open PyProof.V
local macro_rules | `(tactic| k_asm) => `(tactic| (refine' Cx.sub ?cxa ?cxb ?cxh ?cxB ?cxF ?cxX ?cxN ?cxT; (case cxa => omega); (case cxb => omega); (case cxh => assumption); (case cxB => assumption); (case cxF => assumption); (case cxX => assumption); (case cxN => assumption); (case cxT => assumption)))
local macro_rules | `(tactic| k_all) => `(tactic| first | assumption | exact allLt_ne (by assumption))
local macro_rules | `(tactic| walk_at "eval Name") => `(tactic| (k_here; (with_reducible show wpAny _ _ (eval (Expr.Name (Str.ofString "script") _) (envOfC _ _ _ _ _)) _ _ _); k_dflt (refine' ldCN (by assumption) rfl (by k_mem) (by assumption) ?_ rfl rfl (by decide))))
local macro_rules | `(tactic| walk_at "eval Name") => `(tactic| (k_here; (with_reducible show wpAny _ _ (eval (Expr.Name (Str.ofString "free") _) (envOfC _ _ _ _ _)) _ _ _); k_dflt (refine' ldCN (by assumption) rfl (by k_mem) (by assumption) ?_ rfl rfl (by decide))))
local macro_rules | `(tactic| walk_at "eval Name") => `(tactic| (k_here; (with_reducible show wpAny _ _ (eval (PySem.Expr.Name (Str.ofString "free") _) (compEnvC _ _ _ _)) _ _ _); refine Halt.go ?_))
local macro_rules | `(tactic| walk_at "call ref") => `(tactic| (k_here; (with_reducible show wpAny _ _ (call (Value.ref 348) _ _) _ _ _); refine Halt.go ?_))
local macro_rules | `(tactic| walk_at "call ref") => `(tactic| (k_here; (with_reducible show wpAny _ _ (call (Value.ref 341) _ _) _ _ _); refine Halt.go ?_))
local macro_rules | `(tactic| walk_at "call ref") => `(tactic| (k_here; (with_reducible show wpAny _ _ (call (Value.ref 220) _ _) _ _ _); refine Halt.go ?_))
local macro_rules | `(tactic| walk_at "call ref") => `(tactic| (k_here; (with_reducible show wpAny _ _ (call (Value.ref 362) _ _) _ _ _); refine Halt.go ?_))
local macro_rules | `(tactic| walk_at "storeName") => `(tactic| (k_here; (with_reducible show wpAny _ _ (storeName _ (Str.ofString "due") _) _ _ _); refine Halt.go ?_))
local macro_rules | `(tactic| walk_at "truthy ref") => `(tactic| (k_here; refine Halt.go ?_))
local macro_rules | `(tactic| walk_at "call builtin:len") => `(tactic| (k_here; refine Halt.go ?_))
local macro_rules | `(tactic| walk_at "call type:set") => `(tactic| (k_here; refine Halt.go ?_))
local macro_rules | `(tactic| walk_at "compareOp NotIn int ref") => `(tactic| (k_here; refine Halt.go ?_))
local macro_rules | `(tactic| walk_at "exec If") => `(tactic| (k_here; (with_reducible show wpAny _ _ (exec (Stmt.If (PySem.Expr.BoolOp BoolOp.And _ _) _ _ _) _) _ _ _); refine Halt.go ?_))
local macro_rules | `(tactic| walk_at "execs cons") => `(tactic| (k_here; (with_reducible show wpAny _ _ (execs (Stmt.If (PySem.Expr.Compare (PySem.Expr.Attribute _ _ _) _ _ _) _ _ _ :: _) _) _ _ _); refine Halt.go ?_))
local macro_rules | `(tactic| walk_at "eval ListComp") => `(tactic| (k_here; refine Halt.go ?_))
local macro_rules | `(tactic| walk_at "CompSrcT") => `(tactic| (k_here; refine Halt.go ?_))
local macro_rules | `(tactic| walk_at "CompSrc") => `(tactic| (k_here; refine Halt.go ?_))
local macro_rules | `(tactic| walk_at "CompEnd") => `(tactic| (k_here; refine Halt.go ?_))
local macro_rules | `(tactic| walk_at "compareOp NotEq ref ref") => `(tactic| (k_here; refine Halt.go ?_))
local macro_rules | `(tactic| walk_at "call builtin:list.append") => `(tactic| (k_here; refine Halt.go ?_))
local macro_rules | `(tactic| walk_at "getMethod ref") => `(tactic| (k_here; (with_reducible show wpAny _ _ (getMethod (Value.ref _) (Str.ofString "append") _) _ _ _); refine Halt.go ?_))
section
variable {w : World} {p : Program} {loose : List Str} {mean : ExcName → Option Value} {mg mb : Str → Option Value}
  {base h₀ : Heap} {outer : List Env} {A₀ A : Around} {env : Env} {L : Addr} {m : Str → Option Value} {news rest : List (Addr × Obj)} {s : Shared} {R : Result → Shared → Prop}
set_option maxHeartbeats 2000000 in
theorem turn_ask {oc : Value} {od : Option Addr} {osl : Array (Option Value)} {fd : FuncData} {body fbody orelse rst : List Stmt} {tgt iter : PySem.Expr} {pos : Pos} {cd : Value} {fa vol dv ma l I : Addr} {io : Obj} {kind bpc i : Int} {vs : List Value} {ns : List Int} {tk1 tk2 ti : Tok}
    {kk : Nat} {css : List (List Int)} {bs : List Bool} {Q : Flow → Shared → Prop} {E : Value → Shared → Prop}
 {td : Tok} {d : Int} {fr : Addr} {f3 : Obj} {frv : List Value} {nfr : Nat}
    (hf : (hd.heap_39 w.params).lookup 374 = some ⟨oc, od, .func fd, osl⟩) (hb : fd.body = .stmts body) (hfb : body.drop 10 = .For tgt iter fbody orelse pos :: rst)
    (B : Below callerA base [] h₀) (X : (hd.heap_39 w.params).In h₀) (T : Top p loose mean mg mb h₀)
    (F : Fr h₀ L s.heap (fun y => if y = Str.ofString "deed" then some (.int d td) else if y = Str.ofString "turn" then some (.int i ti) else m y)) (N : News h₀ L s.heap ((I, io) :: news)) (hI : TI w l (L + 1) (L + 1 + 1) (L + 1 + 1 + 1) vol dv ma kind bpc bs tk1 tk2 I kk css m news s.gens) (hne : d = 3 → css = [])
    (hf3 : (L + 1 + 1 + 1, f3) ∈ news.drop 3) (df3 : f3.data = .cell (some (.ref fr))) (hfr : (fr, listOf frv.toArray nfr) ∈ news.drop 3) (hfi : IntsAre frv (freeL (tableF kind bs css) 2 bs.length))
    (hl : base.IsList l vs.toArray) (hvs : IntsAre vs ns) (hn : ns.length ≤ 63) (hi0 : 0 ≤ i) (hi12 : i < 12) (hkk : kk < 12) (hbl : 1 ≤ bs.length ∧ bs.length ≤ 19) (hlast : bs.getD (bs.length - 1) false = true) (hbpc : 1 ≤ bpc ∧ bpc ≤ 40)
    (hE : PassesOwn (model PySem.Challenge.rw_iw0017_01.row.prog w) (callerA.deeper (envOfC fd.name fd.scope L fa cd)) (envOfC fd.name fd.scope L fa cd) E)
    (hQ : ∀ h' tk' g m' news' css', Fr h₀ L h' m' → News h₀ L h' ((I, io) :: news') → TI w l (L + 1) (L + 1 + 1) (L + 1 + 1 + 1) vol dv ma kind bpc bs tk1 tk2 I (kk + 1) css' m' news' g → Q .next { s with heap := h', toks := tk', gens := g })
    :
    wpAny (model PySem.Challenge.rw_iw0017_01.row.prog w) (callerA.deeper (envOfC fd.name fd.scope L fa cd)) (execs (fbody.drop 3) (envOfC fd.name fd.scope L fa cd)) Q E s := by
  obtain ⟨fat, ca, t, nd, nf, nm, nc, fvs, ce, ffc, rest, o1, o2, o3, v2, v3, hv, hki, hmm, hch, hsz, e, hnr, hma, hca, hce, hcs, hcn, h1, d1, h2, d2, h3, d3, e2, he2, S, hcl, h30, hi, hG, off⟩ := hI
  have htl : (tableF kind bs css).length = bs.length + 2 := tableF_len _ _ _
  rw [names5 hv hki hmm hch hsz] at F
  dsimp only at F
  subst e
  dsimp only [List.drop] at hf3 hfr
  have hcel : ce.length = css.length := Chs.len hcs
  revert hf X; k_fill; intro hf X
  refine' use_lookup hf ?e ?_
  case e => k_dflt k_is
  intro hh
  cases hh
  have hf2 := And.intro trivial hf
  cases hb
  clear hf
  cases hfb
  dsimp only [List.drop]
  have hdd := And.intro trivial (And.intro d2 d3)
  clear d2 d3
  have m1 : (L + 1, o1) ∈ (I, io) :: (vol, instObj 316 dv) :: (dv, dictOf (volD w t bpc ffc kind (.ref fat) true false) nd) :: (fat, listOf fvs.toArray nf) :: rest := .tail _ (.tail _ (.tail _ (.tail _ h1)))
  have m3 : (L + 1 + 1 + 1, f3) ∈ (I, io) :: (vol, instObj 316 dv) :: (dv, dictOf (volD w t bpc ffc kind (.ref fat) true false) nd) :: (fat, listOf fvs.toArray nf) :: rest := .tail _ (.tail _ (.tail _ (.tail _ hf3)))
  have mca := isList_of N (.tail _ (.tail _ (.tail _ (.tail _ hca))))
  k_steps
  refine ⟨?_⟩
  rename Fr _ _ _ _ => F1
  rename News _ _ _ _ => N1
  refine wpAny_If (wpAny_mono (Q := fun b s₂ => b = false ∧ ∃ tk, s₂ = { s with toks := tk }) (E := E) ?tst ?cont (fun _ _ h => h))
  case tst =>
    by_cases hd : d = 3
    · have hc0 := hne hd
      subst hd
      k_steps
      refine ⟨?_⟩
      refine wpAny_truthy_list mca (by simp only [List.size_toArray, List.length_map]; subst hc0; simp only [List.length_nil] at hcel; omega) ?_
      rw [show (!(List.toArray (ce.map fun p => Value.ref p.1)).isEmpty) = false from by
        cases ce with
        | nil => rfl
        | cons q r => subst hc0; cases hcel]
      exact ⟨rfl, _, rfl⟩
    · k_steps
      all_goals first | (exfalso; omega) | exact ⟨rfl, _, rfl⟩
  rintro _ _ ⟨rfl, tk0, rfl⟩
  rw [if_neg (by decide)]
  k_steps
  refine ⟨?_⟩
  have hfl : (freeL (tableF kind bs css) 2 bs.length).length ≤ bs.length := freeL_le _ _ _
  have mfr := List.Mem.tail (I, io) (.tail (vol, instObj 316 dv) (.tail (dv, dictOf (volD w t bpc ffc kind (.ref fat) true false) nd) (.tail (fat, listOf fvs.toArray nf) hfr)))
  refine ol_len (isList_of N1 mfr) hfi (by omega) fun tka tkb => ?_
  k_steps
  refine ⟨?_⟩
  rename Fr _ _ _ _ => F3
  rename News _ _ _ _ => N3
  have hmb := mulb hbpc.1 hbpc.2 (n := ((freeL (tableF kind bs css) 2 bs.length).length : Int)) (by omega) (by omega)
  refine wpAny_call ?_
  refine take_ok ⟨B, F3, X, N3, T, rfl, rfl, rfl, rfl, Nat.le_of_ble_eq_true rfl, Nat.le_of_ble_eq_true rfl⟩ hl hvs hn (by omega) (by omega) (by omega) (by omega) ?_
  intro tr4 h4 tk4 F4 N4
  have z0 := takeF_lo ns (21 + 2 * i) (many := bpc * (((freeL (tableF kind bs css) 2 bs.length).length : Int) + 2)) (by omega)
  have z1 := takeF_hi ns (21 + 2 * i) (many := bpc * (((freeL (tableF kind bs css) 2 bs.length).length : Int) + 2)) (by omega)
  have z2 := Int.lt_of_lt_of_le z1 hmb.2
  clear z1 hmb
  generalize takeF ns (21 + 2 * i) (bpc * (((freeL (tableF kind bs css) 2 bs.length).length : Int) + 2)) = z at z0 z2
  clear F3 N3
  k_steps
  refine ⟨?_⟩
  rename Fr _ _ _ _ => F5
  rename News _ _ _ _ => N5
  have du0 := due_nonneg (s := bpc) (by omega) z0
  have du1 := due_le (s := bpc) (by omega) z0
  rw [← due_eq (by omega)] at du0 du1
  generalize hdu : (z + bpc - 1).fdiv bpc = du at du0 du1
  rw [due_eq (by omega)] at hdu
  refine wpAny_storeName_local rfl F5.ns (fun h6 hn6 hs6 => ?_) rfl
  have F6 := F5.set hn6 hs6
  have N6 := N5.set hs6
  clear F5 N5 hn6 hs6
  replace hdu := And.intro trivial hdu
  have N7 := nsub N6 (news' := (vol, instObj 316 dv) :: (dv, dictOf (volD w t bpc ffc kind (.ref fat) true false) nd) :: (fat, listOf fvs.toArray nf) :: (I, io) :: rest) (fun p hp => by
      simp only [List.mem_cons] at hp ⊢
      rcases hp with hp | hp | hp | hp | hp
      · exact .inr (.inl hp)
      · exact .inr (.inr (.inl hp))
      · exact .inr (.inr (.inr (.inl hp)))
      · exact .inl hp
      · exact .inr (.inr (.inr (.inr hp))))
  have nvd : vol ≠ dv := apart N7 (.head _) (.tail _ (.head _)) (fun h => by cases h)
  have nvf : vol ≠ fat := apart N7 (.head _) (.tail _ (.tail _ (.head _))) (fun h => by cases h)
  have nfd : fat ≠ dv := apart N7 (.tail _ (.tail _ (.head _))) (.tail _ (.head _)) (fun h => by cases h)
  have f2 := S.f2
  have fN := S.fN
  have hfa : freeL (tableF kind bs css) 2 bs.length = freeL (tableF kind bs css) e2 (((tableF kind bs css).length : Int) - e2).toNat := by
    rw [htl]; exact free_all S
  have hnrI : ∀ p ∈ (I, io) :: rest, p.1 ≠ dv ∧ p.1 ≠ fat := fun p hp => by
    rcases List.mem_cons.mp hp with rfl | hp
    · exact ⟨Ne.symm (off _ (.tail _ (.head _))), Ne.symm (off _ (.tail _ (.tail _ (.head _))))⟩
    · exact hnr p hp
  replace hfa := And.intro trivial hfa
  have hvca : vol ≠ ca ∧ dv ≠ ca ∧ (L + 1 : Addr) ≠ ca ∧ (L + 1 + 1 : Addr) ≠ ca ∧ (L + 1 + 1 + 1 : Addr) ≠ ca :=
    ⟨apart N7 (.head _) (.tail _ (.tail _ (.tail _ (.tail _ hca)))) (fun h => by cases h), apart N7 (.tail _ (.head _)) (.tail _ (.tail _ (.tail _ (.tail _ hca)))) (fun h => by cases h),
      apart N7 (.tail _ (.tail _ (.tail _ (.tail _ h1)))) (.tail _ (.tail _ (.tail _ (.tail _ hca)))) (by rw [d1]; intro h; cases h), apart N7 (.tail _ (.tail _ (.tail _ (.tail _ h2)))) (.tail _ (.tail _ (.tail _ (.tail _ hca)))) (by rw [hdd.2.1]; intro h; cases h),
      apart N7 (.tail _ (.tail _ (.tail _ (.tail _ h3)))) (.tail _ (.tail _ (.tail _ (.tail _ hca)))) (by rw [hdd.2.2]; intro h; cases h)⟩
  replace hvca := And.intro trivial hvca
  clear N7
  k_steps
  refine ⟨?_⟩
  refine ol_len (isList_of N6 mfr) hfi (by omega) fun tkc tkd => ?_
  k_steps
  · refine ⟨?_⟩
    rename _ < du => hgt
    have N7 := nsub N6 (news' := (vol, instObj 316 dv) :: (dv, dictOf (volD w t bpc ffc kind (.ref fat) true false) nd) :: (fat, listOf fvs.toArray nf) :: (I, io) :: rest) (fun p hp => by
      simp only [List.mem_cons] at hp ⊢
      rcases hp with hp | hp | hp | hp | hp
      · exact .inr (.inl hp)
      · exact .inr (.inr (.inl hp))
      · exact .inr (.inr (.inr (.inl hp)))
      · exact .inl hp
      · exact .inr (.inr (.inr (.inr hp))))
    have hbig : ∀ k : Nat, e2 + (k : Nat) < (tableF kind bs css).length → ((freeL (tableF kind bs css) e2 k).length : Int) ≠ du := fun k hk => by
      have := freeL_mono (tableF kind bs css) e2 (k := k) (n := (((tableF kind bs css).length : Int) - e2).toNat) (by omega)
      rw [← hfa.2] at this
      omega
    refine wpAny_call ?_
    refine refused_ok (c := some 28) (rest := (fat, listOf fvs.toArray nf) :: (I, io) :: rest) ⟨B, F6, X, N7, T, rfl, rfl, rfl, rfl, Nat.le_of_ble_eq_true rfl, Nat.le_of_ble_eq_true rfl⟩ ⟨_, rfl⟩ ?_ ?_
    · exact fun C h => alloc_e (e := e2) (due := du) (tab := tableF kind bs css) (rest := (I, io) :: rest) C S.kd nvd nvf nfd hnrI hi (by omega) he2 (low_bad S) (by omega) (by omega) (last_bad S hbl.1 hlast) (by omega) (by omega) z0 (by omega) hdu.2.symm du0 (by omega) (fun k h1 h2 => absurd h2 (hbig k h1))
        (fun k h1 h2 => absurd h2 (hbig k (by omega))) (fun _ h' tk' e tn fl => h h' tk' e (.int 28 tn) ⟨tn, rfl⟩ fl)
    intro h9 tk9 F9 N9
    clear F6 N6 N7
    have N10 := nsub N9 (news' := (I, io) :: (vol, instObj 316 dv) :: (dv, dictOf (volD w t bpc ffc kind (.ref fat) true false) nd) :: (fat, listOf fvs.toArray nf) :: rest) (fun p hp => by
      simp only [List.mem_cons] at hp ⊢
      rcases hp with hp | hp | hp | hp | hp
      · exact .inr (.inr (.inr (.inl hp)))
      · exact .inl hp
      · exact .inr (.inl hp)
      · exact .inr (.inr (.inl hp))
      · exact .inr (.inr (.inr (.inr hp))))
    clear N9
    k_steps
    refine ⟨?_⟩
    exact turn_end (kk := kk + 1) (css := css) hf2.2 rfl rfl B X T F9 N10 (TI.mk fat ca t nd nf nm nc fvs ce ffc rest o1 o2 o3 v2 v3 rfl rfl rfl rfl rfl rfl hnr hma hca hce hcs hcn h1 d1 h2 hdd.2.1 h3 hdd.2.2 e2 he2 S (by omega) h30 hi hG off) hbl.2 hE hQ
  · refine ⟨?_⟩
    rename ¬ _ < du => hle
    have N7 := nsub N6 (news' := (vol, instObj 316 dv) :: (dv, dictOf (volD w t bpc ffc kind (.ref fat) true false) nd) :: (fat, listOf fvs.toArray nf) :: (I, io) :: rest) (fun p hp => by
      simp only [List.mem_cons] at hp ⊢
      rcases hp with hp | hp | hp | hp | hp
      · exact .inr (.inl hp)
      · exact .inr (.inr (.inl hp))
      · exact .inr (.inr (.inr (.inl hp)))
      · exact .inl hp
      · exact .inr (.inr (.inr (.inr hp))))
    refine wpAny_call ?_
    refine alloc_e (e := e2) (due := du) (tab := tableF kind bs css) (rest := (I, io) :: rest) ⟨B, F6, X, N7, T, rfl, rfl, rfl, rfl, Nat.le_of_ble_eq_true rfl, Nat.le_of_ble_eq_true rfl⟩ S.kd nvd nvf nfd hnrI hi (by omega) he2 (low_bad S) (by omega) (by omega) (last_bad S hbl.1 hlast) (by omega) (by omega) z0 (by omega) hdu.2.symm du0 (by omega) (fun _ _ _ => rfl)
      ?_ (fun hlt => absurd hlt (by rw [← hfa.2]; omega))
    intro k hk hlen h9 tk9 D dvs nD nvs nnf t' nd' F9 N9 lt9 I9 J9
    clear F6 N6 N7
    have hk2 : (k : Int) < bs.length + 2 - e2 := by omega
    have tnd : (freeL (tableF kind bs css) e2 k).Nodup := freeL_nodup _ _ _
    have tsub := told_free S hk2
    have tal := sound_alloc S hk2
    have tst := sound_still S hk2
    generalize freeL (tableF kind bs css) e2 k = tl at hlen I9 J9 tnd tsub tal tst
    replace J9 := And.intro trivial J9
    replace tsub := And.intro trivial tsub
    replace tal := And.intro trivial tal
    replace tst := And.intro trivial tst
    k_steps
    refine ⟨?_⟩
    rename Fr _ _ _ _ => F10
    rename News _ _ _ _ => N10
    refine ol_len (isList_of N10 (.head _)) I9 (by omega) fun tke tkf => ?_
    k_steps
    all_goals try (exfalso; omega)
    refine ⟨?_⟩
    refine set_new F10 N10 rfl (isList_of N10 (.head _)) I9 tnd (by omega) ?_
    intro D11 h11 tk11 so SS F11 N11 hso
    clear F10 N10
    k_steps
    refine ⟨?_⟩
    refine len_sl1 (own := []) N11 hso (by omega) ?_
    k_steps
    all_goals try (exfalso; omega)
    refine ⟨?_⟩
    clear hso
    have tany : ∀ x ∈ tl, (freeL (tableF kind bs css) 2 bs.length).any (· == x) = true := fun x hx => List.any_eq_true.mpr ⟨x, tsub.2 x hx, by simp⟩
    refine LCt.ListComp_T (F₀ := F11) (by with_unfolding_all rfl) (by decide) (by rfl) (by decide) (by rfl) ?_
    k_steps
    refine ⟨?_⟩
    rename Fr _ _ _ _ => F12
    rename News _ _ _ _ => N12
    refine LCt.CompSrcT.ledger rfl F12 N12 (.tail _ (.head _)) (by rw [PySem.sizeLine_eq, List.size_toArray, I9.length]; omega) ?_
    intro g13
    refine kci_list (fun l _ => l) I9 ?turn ?fin (fun l _ => Nat.le_succ _)
    case turn =>
      intro kx t9 I9' oI C oC Dl m9 ys lz h13 tk13 E' hkx hIy hC hx Fc Nc offc nec _
      have hat := tany kx hkx
      k_steps
      refine ⟨?_⟩
      have mf3 := List.Mem.tail (I9', oI) (.tail (C, oC) (.tail (Dl, LCg.lst ys) (.tail (D11, so) (.tail (D, listOf dvs.toArray nD) (.tail (vol, instObj 316 dv) (.tail (dv, dictOf (volD w t' bpc (e2 + (k : Nat)) kind (.ref fat) true false) nd') (.tail (fat, listOf nvs.toArray nnf) (.tail (I, io) hf3))))))))
      refine lcf_cell Nc rfl mf3 df3 ?_ rfl rfl (by decide)
      k_steps
      refine ⟨?_⟩
      refine notin_list_ints (isList_of Nc (.tail _ (.tail _ (.tail _ (.tail _ (.tail _ (.tail _ (.tail _ (.tail _ (.tail _ hfr)))))))))) hfi ?_
      rw [hat]
      k_steps
      refine ⟨?_⟩
      exact LCg.CompEnd.intro Fc Nc _ (fun p hp => hp) offc (.inr ⟨_, .tail _ (.head _), rfl, _, rfl⟩) (kci_no rfl rfl)
    unfold KPfDone
    intro ys hys _
    rw [foldl_const] at hys
    obtain rfl := ints_nil hys
    unfold LCg.FinE
    intro E1 h14 tk14 F14 N14 off14
    clear F12 N12 tany
    k_steps
    refine ⟨?_⟩
    rename Fr _ _ _ _ => F15
    rename News _ _ _ _ => N15
    refine ke_ne_ints (xs := []) (ys := []) (isList_of N15 (.tail _ (.head _))) (isList_of N15 (.head _)) .nil .nil (Nat.le_of_ble_eq_true rfl) ?_
    rw [decide_eq_true rfl]
    k_steps
    refine ⟨?_⟩
    rename Fr _ _ _ _ => F16
    rename News _ _ _ _ => N16
    refine ke_ne_ints (ys := []) (isList_of N16 (.tail _ (.tail _ (.tail _ (.tail _ (.head _)))))) (isList_of N16 (.head _)) I9 .nil (Nat.le_of_ble_eq_true rfl) ?_
    by_cases htn : tl = []
    · rw [decide_eq_true htn]
      have S2 := tst.2 htn
      replace J9 := J9.2
      rw [htn, put_nil] at J9
      have N17 := nsub (nsub N16 (news' := (vol, instObj 316 dv) :: (dv, dictOf (volD w t' bpc (e2 + (k : Nat)) kind (.ref fat) true false) nd') :: (fat, listOf nvs.toArray nnf) :: (I, io) :: rest) (fun p hp => .tail _ (.tail _ (.tail _ (.tail _ (.tail _ hp)))))) (news' := (I, io) :: (vol, instObj 316 dv) :: (dv, dictOf (volD w t' bpc (e2 + (k : Nat)) kind (.ref fat) true false) nd') :: (fat, listOf nvs.toArray nnf) :: rest) (fun p hp => by
        simp only [List.mem_cons] at hp ⊢
        rcases hp with hp | hp | hp | hp | hp
        · exact .inr (.inr (.inr (.inl hp)))
        · exact .inl hp
        · exact .inr (.inl hp)
        · exact .inr (.inr (.inl hp))
        · exact .inr (.inr (.inr (.inr hp))))
      clear N16
      k_steps
      refine ⟨?_⟩
      exact turn_end (kk := kk + 1) (css := css) hf2.2 rfl rfl B X T F16 N17 (TI.mk fat ca t' nd' nnf nm nc nvs ce (e2 + (k : Nat)) rest o1 o2 o3 v2 v3 rfl rfl rfl rfl rfl rfl hnr hma hca hce hcs hcn h1 d1 h2 hdd.2.1 h3 hdd.2.2 _ (.inl ⟨by omega, rfl⟩) S2 (by omega) h30 J9 hG (fun p hp => by
        simp only [List.mem_cons] at hp
        rcases hp with rfl | rfl | rfl | hp
        · exact off _ (.head _)
        · exact off (dv, dictOf (volD w t bpc ffc kind (.ref fat) true false) nd) (.tail _ (.head _))
        · exact off (fat, listOf fvs.toArray nf) (.tail _ (.tail _ (.head _)))
        · exact off _ (.tail _ (.tail _ (.tail _ hp))))) hbl.2 hE hQ
    · rw [decide_eq_false htn]
      have N17 := nsub N16 (news' := (D, listOf dvs.toArray nD) :: (vol, instObj 316 dv) :: (dv, dictOf (volD w t' bpc (e2 + (k : Nat)) kind (.ref fat) true false) nd') :: (fat, listOf nvs.toArray nnf) :: (I, io) :: rest) (fun p hp => .tail _ (.tail _ (.tail _ (.tail _ hp))))
      clear N16
      k_steps
      refine ⟨?_⟩
      have hcaN : (ca, listOf (ce.map fun p => Value.ref p.1).toArray nc) ∈ (D, listOf dvs.toArray nD) :: (vol, instObj 316 dv) :: (dv, dictOf (volD w t' bpc (e2 + (k : Nat)) kind (.ref fat) true false) nd') :: (fat, listOf nvs.toArray nnf) :: (I, io) :: rest := .tail _ (.tail _ (.tail _ (.tail _ (.tail _ hca))))
      refine getMethod_list_append (N17 _ hcaN).1 rfl rfl ?_
      k_steps
      refine ⟨?_⟩
      refine LCg.ListComp_U (F₀ := F16) (by with_unfolding_all rfl) (by decide) (by rfl) (by decide) (by rfl) ?_
      k_steps
      refine ⟨?_⟩
      refine LCg.CompSrc.ledger rfl F16 N17 (.head _) (by rw [PySem.sizeLine_eq, List.size_toArray, I9.length]; omega) ?_
      intro g18
      refine kcf_list (fun x => x) I9 ?turn2 ?fin2
      case turn2 =>
        intro kx t19 I19 oI C oC Dl m19 ys h19 tk19 E' hkx hC hx Fc Nc offc nec _
        k_steps
        refine ⟨?_⟩
        exact LCg.CompEnd.intro Fc Nc _ (fun p hp => hp) offc (.inr ⟨_, .head _, rfl, _, rfl⟩) (kcf_el rfl rfl rfl)
      unfold KPfDone
      intro ys hys
      rw [List.map_id'] at hys
      unfold LCg.FinE
      intro D2 h20 tk20 F20 N20 off20
      clear F16 N17
      k_steps
      refine ⟨?_⟩
      refine app_new F20 N20 (.tail _ (.tail _ (.tail _ (.tail _ (.tail _ (.tail _ hca)))))) (by simp only [List.size_toArray, List.length_map]; omega) ?_
      intro h21 n21 F21 N21
      clear F20 N20
      rw [show (List.toArray (ce.map fun p => Value.ref p.1)).push (.ref D2) = List.toArray ((ce ++ [(D2, LCg.lst ys)]).map fun p => Value.ref p.1) by simp] at N21
      have caI : ca ≠ I := off (ca, _) (.tail _ (.tail _ (.tail _ hca)))
      have nca := hnr _ hca
      have D2n := off1_mem off20
      have D2c : ca ≠ D2 := D2n (ca, _) (.tail _ (.tail _ (.tail _ (.tail _ (.tail _ hca)))))
      have N22 := nsub N21 (news' := (I, io) :: (vol, instObj 316 dv) :: (dv, dictOf (volD w t' bpc (e2 + (k : Nat)) kind (.ref fat) true false) nd') :: (fat, listOf nvs.toArray nnf) :: (ca, listOf (List.toArray ((ce ++ [(D2, LCg.lst ys)]).map fun p => Value.ref p.1)) n21) :: (D2, LCg.lst ys) :: dropC ca rest) (fun p hp => by
        simp only [List.mem_cons] at hp
        rcases hp with rfl | rfl | rfl | rfl | rfl | rfl | hp
        · exact .tail _ (mem_dropC (.tail _ (.tail _ (.tail _ (.tail _ (.tail _ (.head _)))))) (Ne.symm caI))
        · exact .tail _ (mem_dropC (.tail _ (.tail _ (.head _))) hvca.2.1)
        · exact .tail _ (mem_dropC (.tail _ (.tail _ (.tail _ (.head _)))) hvca.2.2.1)
        · exact .tail _ (mem_dropC (.tail _ (.tail _ (.tail _ (.tail _ (.head _))))) (Ne.symm nca.2))
        · exact .head _
        · exact .tail _ (mem_dropC (.head _) (Ne.symm D2c))
        · exact .tail _ (mem_dropC (.tail _ (.tail _ (.tail _ (.tail _ (.tail _ (.tail _ (of_dropC hp).1)))))) (of_dropC hp).2))
      clear N21
      have S2 := tal.2 htn
      replace J9 := J9.2
      rw [← tableF_snoc] at J9
      have hin : ∀ {p : Addr × Obj}, p ∈ rest → p.1 ≠ ca → p ∈ (ca, listOf (List.toArray ((ce ++ [(D2, LCg.lst ys)]).map fun p => Value.ref p.1)) n21) :: (D2, LCg.lst ys) :: dropC ca rest := fun h1 h2 => .tail _ (.tail _ (mem_dropC h1 h2))
      k_steps
      refine ⟨?_⟩
      refine turn_end (kk := kk + 1) (css := css ++ [tl]) hf2.2 rfl rfl B X T F21 N22 (TI.mk fat ca t' nd' nnf nm n21 nvs (ce ++ [(D2, LCg.lst ys)]) (e2 + (k : Nat)) _ o1 o2 o3 v2 v3 rfl rfl rfl rfl rfl rfl ?_ (hin hma hcn.1) (.head _) ?_ (chs_append hcs ⟨⟨ys, _, rfl, hys⟩, trivial⟩) ⟨hcn.1, ?_⟩ (hin h1 hvca.2.2.2.1) d1 (hin h2 hvca.2.2.2.2.1) hdd.2.1 (hin h3 hvca.2.2.2.2.2) hdd.2.2 _ (.inl ⟨by omega, rfl⟩) S2 ?_ ?_ J9 hG ?_) hbl.2 hE hQ
      · intro p hp
        rcases List.mem_cons.mp hp with rfl | hp
        · exact nca
        rcases List.mem_cons.mp hp with rfl | hp
        · exact ⟨Ne.symm (D2n (dv, _) (.tail _ (.tail _ (.head _)))), Ne.symm (D2n (fat, _) (.tail _ (.tail _ (.tail _ (.head _)))))⟩
        · exact hnr p (of_dropC hp).1
      · intro q hq
        rcases List.mem_append.mp hq with hq | hq
        · exact hin (hce q hq) (hcn.2 q hq)
        · rcases List.mem_singleton.mp hq with rfl
          exact .tail _ (.head _)
      · intro q hq
        rcases List.mem_append.mp hq with hq | hq
        · exact hcn.2 q hq
        · rcases List.mem_singleton.mp hq with rfl
          exact Ne.symm D2c
      · rw [List.length_append, List.length_singleton]; omega
      · intro c hc
        rcases List.mem_append.mp hc with hc | hc
        · exact h30 c hc
        · rcases List.mem_singleton.mp hc with rfl
          omega
      · intro p hp
        simp only [List.mem_cons] at hp
        rcases hp with rfl | rfl | rfl | rfl | rfl | hp
        · exact off _ (.head _)
        · exact off (dv, dictOf (volD w t bpc ffc kind (.ref fat) true false) nd) (.tail _ (.head _))
        · exact off (fat, listOf fvs.toArray nf) (.tail _ (.tail _ (.head _)))
        · exact caI
        · exact Ne.symm (D2n (I, io) (.tail _ (.tail _ (.tail _ (.tail _ (.head _))))))
        · exact off _ (.tail _ (.tail _ (.tail _ (of_dropC hp).1)))
end
end Mine

namespace Mine

open PyProof.V
local macro_rules | `(tactic| k_asm) => `(tactic| (refine' Cx.sub ?cxa ?cxb ?cxh ?cxB ?cxF ?cxX ?cxN ?cxT; (case cxa => omega); (case cxb => omega); (case cxh => assumption); (case cxB => assumption); (case cxF => assumption); (case cxX => assumption); (case cxN => assumption); (case cxT => assumption)))
local macro_rules | `(tactic| k_all) => `(tactic| first | assumption | exact allLt_ne (by assumption))
local macro_rules | `(tactic| walk_at "exec For Name Call cons nil") => `(tactic| (k_here; refine Halt.go ?_))
local macro_rules | `(tactic| walk_at "pyIter ref") => `(tactic| (k_here; refine Halt.go ?_))
local macro_rules | `(tactic| walk_at "execs cons") => `(tactic| (k_here; (with_reducible show wpAny _ _ (execs (Stmt.Assign [PySem.Expr.Attribute _ (Str.ofString "is_read_only") _] _ _ :: _) _) _ _ _); refine Halt.go ?_))
section
variable {w : World} {p : Program} {loose : List Str} {mean : ExcName → Option Value} {mg mb : Str → Option Value}
  {base h₀ : Heap} {outer : List Env} {A₀ A : Around} {env : Env} {L : Addr} {m : Str → Option Value} {news rest : List (Addr × Obj)} {s : Shared} {R : Result → Shared → Prop}
set_option maxHeartbeats 2000000 in
theorem turn_ok {oc : Value} {od : Option Addr} {osl : Array (Option Value)} {fd : FuncData} {body fbody orelse rst : List Stmt} {tgt iter : PySem.Expr} {pos : Pos} {cd : Value} {fa vol dv ma l I : Addr} {io : Obj} {kind bpc i : Int} {vs : List Value} {ns : List Int} {tk1 tk2 ti : Tok}
    {kk : Nat} {css : List (List Int)} {bs : List Bool} {Q : Flow → Shared → Prop} {E : Value → Shared → Prop}
    (hf : (hd.heap_39 w.params).lookup 374 = some ⟨oc, od, .func fd, osl⟩) (hb : fd.body = .stmts body) (hfb : body.drop 10 = .For tgt iter fbody orelse pos :: rst)
    (B : Below callerA base [] h₀) (X : (hd.heap_39 w.params).In h₀) (T : Top p loose mean mg mb h₀)
    (F : Fr h₀ L s.heap (fun y => if y = Str.ofString "turn" then some (.int i ti) else m y)) (N : News h₀ L s.heap ((I, io) :: news)) (hI : TI w l (L + 1) (L + 1 + 1) (L + 1 + 1 + 1) vol dv ma kind bpc bs tk1 tk2 I kk css m news s.gens)
    (hl : base.IsList l vs.toArray) (hvs : IntsAre vs ns) (hn : ns.length ≤ 63) (hi0 : 0 ≤ i) (hi12 : i < 12) (hkk : kk < 12) (hbl : 1 ≤ bs.length ∧ bs.length ≤ 19) (hlast : bs.getD (bs.length - 1) false = true) (hbpc : 1 ≤ bpc ∧ bpc ≤ 40)
    (hE : PassesOwn (model PySem.Challenge.rw_iw0017_01.row.prog w) (callerA.deeper (envOfC fd.name fd.scope L fa cd)) (envOfC fd.name fd.scope L fa cd) E)
    (hQ : ∀ h' tk' g m' news' css', Fr h₀ L h' m' → News h₀ L h' ((I, io) :: news') → TI w l (L + 1) (L + 1 + 1) (L + 1 + 1 + 1) vol dv ma kind bpc bs tk1 tk2 I (kk + 1) css' m' news' g → Q .next { s with heap := h', toks := tk', gens := g })
    :
    wpAny (model PySem.Challenge.rw_iw0017_01.row.prog w) (callerA.deeper (envOfC fd.name fd.scope L fa cd)) (execs (fbody) (envOfC fd.name fd.scope L fa cd)) Q E s := by
  refine turn_open hf hb hfb B X T F N hI hl hvs hn hi0 hi12 hkk hbl hlast hbpc (fun d td h' tk' m' news' o3 fr frv nfr hd F' N' hI' h3 d3 hfr hfi => ?_)
  by_cases h : d = 3 ∧ css ≠ []
  · obtain ⟨rfl, hne⟩ := h
    exact turn_free hf hb hfb B X T F' N' hI' hne hl hvs hn hi0 hi12 hkk hbl hlast hbpc hE hQ
  · exact turn_ask hf hb hfb B X T F' N' hI' (fun e => Classical.byContradiction fun hne => h ⟨e, hne⟩) h3 d3 hfr hfi hl hvs hn hi0 hi12 hkk hbl hlast hbpc hE hQ
set_option maxHeartbeats 2000000 in
theorem law_loop {oc : Value} {od : Option Addr} {osl : Array (Option Value)} {fd : FuncData} {body : List Stmt} {cd : Value} {fa vol dv ma l : Addr} {kind bpc : Int} {vs : List Value} {ns : List Int} {tk1 tk2 : Tok}
    {css : List (List Int)} {bs : List Bool} {Q : Flow → Shared → Prop} {E : Value → Shared → Prop}
    (hf : (hd.heap_39 w.params).lookup 374 = some ⟨oc, od, .func fd, osl⟩) (hb : fd.body = .stmts body)
    (B : Below callerA base [] h₀) (X : (hd.heap_39 w.params).In h₀) (T : Top p loose mean mg mb h₀)
    (F : Fr h₀ L s.heap m) (N : News h₀ L s.heap news) (hI : ∀ I : Addr, (∀ p ∈ news, p.1 ≠ I) → TI w l (L + 1) (L + 1 + 1) (L + 1 + 1 + 1) vol dv ma kind bpc bs tk1 tk2 I 0 css m news s.gens)
    (hl : base.IsList l vs.toArray) (hvs : IntsAre vs ns) (hn : ns.length ≤ 63) (hbl : 1 ≤ bs.length ∧ bs.length ≤ 19) (hlast : bs.getD (bs.length - 1) false = true) (hbpc : 1 ≤ bpc ∧ bpc ≤ 40)
    (hE : PassesOwn (model PySem.Challenge.rw_iw0017_01.row.prog w) (callerA.deeper (envOfC fd.name fd.scope L fa cd)) (envOfC fd.name fd.scope L fa cd) E)
    (hQ : ∀ h' tk' g, AllBare g → (∀ b o, h₀.get? b = some o → h'.get? b = some o) → Q (.ret (.bool true)) { s with heap := h', toks := tk', gens := g }) :
    wpAny (model PySem.Challenge.rw_iw0017_01.row.prog w) (callerA.deeper (envOfC fd.name fd.scope L fa cd)) (execs (body.drop 10) (envOfC fd.name fd.scope L fa cd)) Q E s := by
  revert hf X; k_fill; intro hf X
  refine' use_lookup hf ?e ?_
  case e => k_dflt k_is
  intro hh
  cases hh
  have hf2 := And.intro trivial hf
  cases hb
  clear hf
  dsimp only [List.drop]
  k_steps
  refine ⟨?_⟩
  refine For_own (hE := hE) rfl rfl ?_
  k_steps
  refine ⟨?_⟩
  rename IsRange _ _ _ _ _ _ _ _ => IR
  rename Heap => hq
  rename Fr _ _ _ _ => F1
  rename News _ _ _ _ => N1
  refine loop_range (fun i hb m nn g => h₀ = hb ∧ ∃ css, TI w l (L + 1) (L + 1 + 1) (L + 1 + 1 + 1) vol dv ma kind bpc bs tk1 tk2 hq.objs.size i css m nn g) 12 rfl F1 N1 IR (by decide) (by decide) (by decide) (by decide) (by decide)
    ⟨rfl, css, hI _ fun p hp => Nat.ne_of_lt (Heap.lt_size (N1 p hp).1)⟩ ?_ ?_ ?_
  · rintro i hb' m' news' g ⟨_, css', hI'⟩ _
    obtain ⟨fat, ca, t, nd, nf, nm, nc, fvs, ce, ffc, rest, o1, o2, o3, v2, v3, hv, hki, hmm, hch, hsz, e, hnr, hma, hca, hce, hcs, hcn, h1, d1, h2, d2, h3, d3, e2, he2, S, hcl, h30, hi, hG, off⟩ := hI'
    exact off
  · rintro I i t hb' m₁ news₁ io₁ hp tk g hIe hi ⟨rfl, css', hI'⟩ F2 N2
    subst hIe
    refine turn_ok (kk := i) hf2.2 rfl rfl B X T F2 N2 hI' hl hvs hn (by omega) (by omega) hi hbl hlast hbpc hE ?_
    intro h' tk' g' m' news' css'' F3 N3 hI3
    exact ⟨h₀, m', news', ⟨_, _, _, rfl⟩, F3, N3, rfl, css'', hI3⟩
  · rintro hb' m₁ news₁ hp tk g ⟨rfl, css', hI'⟩ F2 N2
    clear F1 N1
    obtain ⟨fat, ca, t, nd, nf, nm, nc, fvs, ce, ffc, rest, o1, o2, o3, v2, v3, hv, hki, hmm, hch, hsz, e, hnr, hma, hca, hce, hcs, hcn, h1, d1, h2, d2, h3, d3, e2, he2, S, hcl, h30, hi, hG, off⟩ := hI'
    have em := names5 hv hki hmm hch hsz
    rw [em] at F2
    subst e
    k_steps
    refine ⟨?_⟩
    rename Fr _ _ _ _ => F3
    rename News _ _ _ _ => N3
    have nvd : vol ≠ dv := apart N3 (.head _) (.tail _ (.head _)) (fun h => by cases h)
    have nfd : fat ≠ dv := apart N3 (.tail _ (.tail _ (.head _))) (.tail _ (.head _)) (fun h => by cases h)
    exact law_end (m₀ := fun y => if y = Str.ofString "size" then some (.int bpc tk2) else m₁ y) hf2.2 rfl B F3 X T N3 nvd (fun p hp => by
      rcases List.mem_cons.mp hp with rfl | hp
      · exact nfd
      · exact (hnr p hp).1) hma hca hce hcs S.kd (by omega) (fun c hc => ⟨S.out.ne c hc, by have := h30 c hc; omega, fun x hx => ⟨(S.out.rng c hc x hx).1, (S.out.rng c hc x hx).2.1⟩⟩) hi (fun h' tk' keep => hQ h' tk' g hG keep)
end
end Mine

namespace Mine

open PyProof.V
local macro_rules | `(tactic| k_asm) => `(tactic| (refine' Cx.sub ?cxa ?cxb ?cxh ?cxB ?cxF ?cxX ?cxN ?cxT; (case cxa => omega); (case cxb => omega); (case cxh => assumption); (case cxB => assumption); (case cxF => assumption); (case cxX => assumption); (case cxN => assumption); (case cxT => assumption)))
local macro_rules | `(tactic| k_all) => `(tactic| first | assumption | exact allLt_ne (by assumption))
local macro_rules | `(tactic| k_mem) => `(tactic| first | assumption | exact List.Mem.head _ | (refine' List.Mem.tail _ ?_; k_mem))
local macro_rules | `(tactic| walk_at "subscriptTail") => `(tactic| (k_here; (with_reducible show wpAny _ _ (subscriptTail _ _ (Value.ref _) (Value.int _ _)) _ _ _); k_dflt (refine' ol_item ?k1 ?k2 ?k3 ?k4 ?k5 ?_ rfl; (case k1 => exact isList_of (by assumption) (by k_mem)); (case k2 => assumption); (case k3 => omega); (case k4 => omega); (case k5 => omega); intro tr)))
local macro_rules | `(tactic| walk_at "call builtin:len") => `(tactic| (k_here; k_dflt (refine' ol_len ?k1 ?k2 ?k5 ?_; (case k1 => exact isList_of (by assumption) (by k_mem)); (case k2 => assumption); (case k5 => omega); intro tl tk)))
local macro_rules | `(tactic| walk_at "call builtin:list.append") => `(tactic| (k_here; k_dflt (refine' ol_append ?F ?N ?U ?k2 ?k3 ?_; (case F => assumption); (case N => assumption); (case U => k_updF); (case k2 => assumption); (case k3 => first | omega | (simp only [List.length_append, List.length_map, List.length_take, List.length_cons, List.length_nil]; omega)); intro h' vs' n' F' N' hi'; (try dsimp only at N'); (try k_sweep))))
local macro_rules | `(tactic| walk_at "setItem ref int") => `(tactic| (k_here; k_dflt (refine' ol_set ?F ?N ?U ?k2 ?k3 ?k4 ?k5 ?_; (case F => assumption); (case N => assumption); (case U => k_updF); (case k2 => assumption); (case k3 => omega); (case k4 => omega); (case k5 => omega); intro h' vs' n' F' N' hi'; (try dsimp only at N'); (try k_sweep))))
local macro_rules | `(tactic| walk_at "setAttr ref int") => `(tactic| (k_here; (with_reducible show wpAny _ _ (setAttr (Value.ref _) (Str.ofString "bytes_per_cluster") _) _ _ _); k_dflt (refine' vset_bpc ?F ?X ?N ?hv ?U ?_; (case F => assumption); (case X => assumption); (case N => assumption); (case hv => k_mem); (case U => k_updF)); intro h' t' n' F' N'; (try dsimp only at N'); (try k_sweep)))
local macro_rules | `(tactic| walk_at "setAttr ref int") => `(tactic| (k_here; (with_reducible show wpAny _ _ (setAttr (Value.ref _) (Str.ofString "first_free_cluster") _) _ _ _); k_dflt (refine' vset_ffc ?F ?X ?N ?hv ?U ?_; (case F => assumption); (case X => assumption); (case N => assumption); (case hv => k_mem); (case U => k_updF)); intro h' t' n' F' N'; (try dsimp only at N'); (try k_sweep)))
local macro_rules | `(tactic| walk_at "setAttr ref int") => `(tactic| (k_here; (with_reducible show wpAny _ _ (setAttr (Value.ref _) (Str.ofString "fat_type") _) _ _ _); k_dflt (refine' vset_kind ?F ?X ?N ?hv ?U ?_; (case F => assumption); (case X => assumption); (case N => assumption); (case hv => k_mem); (case U => k_updF)); intro h' t' n' F' N'; (try dsimp only at N'); (try k_sweep)))
local macro_rules | `(tactic| walk_at "setAttr ref ref") => `(tactic| (k_here; (with_reducible show wpAny _ _ (setAttr (Value.ref _) (Str.ofString "fat") _) _ _ _); k_dflt (refine' vset_fat ?F ?X ?N ?hv ?U ?_; (case F => assumption); (case X => assumption); (case N => assumption); (case hv => k_mem); (case U => k_updF)); intro h' t' n' F' N'; (try dsimp only at N'); (try k_sweep)))
local macro_rules | `(tactic| walk_at "setAttr ref bool") => `(tactic| (k_here; (with_reducible show wpAny _ _ (setAttr (Value.ref _) (Str.ofString "initialized") _) _ _ _); k_dflt (refine' vset_ini ?F ?X ?N ?hv ?U ?_; (case F => assumption); (case X => assumption); (case N => assumption); (case hv => k_mem); (case U => k_updF)); intro h' t' n' F' N'; (try dsimp only at N'); (try k_sweep)))
local macro_rules | `(tactic| walk_at "setAttr ref bool") => `(tactic| (k_here; (with_reducible show wpAny _ _ (setAttr (Value.ref _) (Str.ofString "is_read_only") _) _ _ _); k_dflt (refine' vset_ro ?F ?X ?N ?hv ?U ?_; (case F => assumption); (case X => assumption); (case N => assumption); (case hv => k_mem); (case U => k_updF)); intro h' t' n' F' N'; (try dsimp only at N'); (try k_sweep)))
local macro_rules | `(tactic| walk_at "eval Name") => `(tactic| (k_here; (with_reducible show wpAny _ _ (eval (Expr.Name (Str.ofString "script") _) (envOfC _ _ _ _ _)) _ _ _); k_dflt (refine' ldCN (by assumption) rfl (by k_mem) (by assumption) ?_ rfl rfl (by decide))))
local macro_rules | `(tactic| walk_at "eval Name") => `(tactic| (k_here; (with_reducible show wpAny _ _ (eval (Expr.Name (Str.ofString "script") _) (compEnvC _ _ _ _)) _ _ _); k_dflt (refine' lcf_cell (by assumption) rfl (by k_mem) (by assumption) ?_ rfl rfl (by decide))))
local macro_rules | `(tactic| walk_at "call ref") => `(tactic| (k_here; (with_reducible show wpAny _ _ (call (Value.ref 348) _ _) _ _ _); refine Halt.go ?_))
local macro_rules | `(tactic| walk_at "call ref") => `(tactic| (k_here; (with_reducible show wpAny _ _ (call (Value.ref 341) _ _) _ _ _); refine Halt.go ?_))
local macro_rules | `(tactic| walk_at "eval ListComp") => `(tactic| (k_here; refine Halt.go ?_))
local macro_rules | `(tactic| walk_at "CompSrc") => `(tactic| (k_here; refine Halt.go ?_))
local macro_rules | `(tactic| walk_at "CompEnd") => `(tactic| (k_here; refine Halt.go ?_))
local macro_rules | `(tactic| walk_at "subscriptTail") => `(tactic| (k_here; (with_reducible show wpAny _ _ (subscriptTail _ _ (Value.ref _) (Value.int _ _)) _ _ _); refine Halt.go ?_))
local macro_rules | `(tactic| walk_at "binaryOp Add ref ref") => `(tactic| (k_here; refine Halt.go ?_))
local macro_rules | `(tactic| walk_at "execs cons") => `(tactic| (k_here; (with_reducible show wpAny _ _ (execs (Stmt.For (PySem.Expr.Name (Str.ofString "turn") _) _ _ _ _ :: _) _) _ _ _); refine Halt.go ?_))
local macro_rules | `(tactic| walk_at "storeName") => `(tactic| (k_here; (with_reducible show wpAny _ _ (storeName _ (Str.ofString "kind") _) _ _ _); refine Halt.go ?_))
local macro_rules | `(tactic| walk_at "storeName") => `(tactic| (k_here; (with_reducible show wpAny _ _ (storeName _ (Str.ofString "size") _) _ _ _); refine Halt.go ?_))
local macro_rules | `(tactic| walk_at "storeName") => `(tactic| (k_here; (with_reducible show wpAny _ _ (storeName _ (Str.ofString "marks") _) _ _ _); refine Halt.go ?_))
local macro_rules | `(tactic| walk_at "storeName") => `(tactic| (k_here; (with_reducible show wpAny _ _ (storeName _ (Str.ofString "volume") _) _ _ _); refine Halt.go ?_))
section
variable {w : World} {p : Program} {loose : List Str} {mean : ExcName → Option Value} {mg mb : Str → Option Value}
  {base h₀ : Heap} {outer : List Env} {A₀ A : Around} {env : Env} {L : Addr} {m : Str → Option Value} {news rest : List (Addr × Obj)} {s : Shared} {R : Result → Shared → Prop}
theorem vol_ledger {k0 k1 k2 k3 k4 k5 k6 k7 k8 k9 k10 k11 k12 k13 k14 k15 v1 v2 v5 v6 v7 v8 v9 v10 v13 : Tok} {h₀ h : Heap} {L d x dd : Addr} {o : Obj} {n : Nat} {rest : List (Addr × Obj)} (N : News h₀ L h ((d, o) :: (x, instObj 316 dd) :: (dd, dictOf [⟨PyData.keyHash w.params (Str.ofString "_fp"), .str (Str.ofString "_fp") k0, .none⟩, ⟨PyData.keyHash w.params (Str.ofString "_fp_offset"), .str (Str.ofString "_fp_offset") k1, .int 0 v1⟩, ⟨PyData.keyHash w.params (Str.ofString "_fat_size"), .str (Str.ofString "_fat_size") k2, .int 0 v2⟩, ⟨PyData.keyHash w.params (Str.ofString "bpb_header"), .str (Str.ofString "bpb_header") k3, .none⟩, ⟨PyData.keyHash w.params (Str.ofString "root_dir"), .str (Str.ofString "root_dir") k4, .none⟩, ⟨PyData.keyHash w.params (Str.ofString "root_dir_sector"), .str (Str.ofString "root_dir_sector") k5, .int 0 v5⟩, ⟨PyData.keyHash w.params (Str.ofString "root_dir_sectors"), .str (Str.ofString "root_dir_sectors") k6, .int 0 v6⟩, ⟨PyData.keyHash w.params (Str.ofString "bytes_per_cluster"), .str (Str.ofString "bytes_per_cluster") k7, .int 0 v7⟩, ⟨PyData.keyHash w.params (Str.ofString "first_data_sector"), .str (Str.ofString "first_data_sector") k8, .int 0 v8⟩, ⟨PyData.keyHash w.params (Str.ofString "first_free_cluster"), .str (Str.ofString "first_free_cluster") k9, .int 0 v9⟩, ⟨PyData.keyHash w.params (Str.ofString "fat_type"), .str (Str.ofString "fat_type") k10, .int 0 v10⟩, ⟨PyData.keyHash w.params (Str.ofString "fat"), .str (Str.ofString "fat") k11, .ref d⟩, ⟨PyData.keyHash w.params (Str.ofString "initialized"), .str (Str.ofString "initialized") k12, .bool false⟩, ⟨PyData.keyHash w.params (Str.ofString "encoding"), .str (Str.ofString "encoding") k13, .str (Str.ofString "ibm437") v13⟩, ⟨PyData.keyHash w.params (Str.ofString "is_read_only"), .str (Str.ofString "is_read_only") k14, .bool true⟩, ⟨PyData.keyHash w.params (Str.ofString "lazy_load"), .str (Str.ofString "lazy_load") k15, .bool true⟩] n) :: rest)) :
    ∃ t, News h₀ L h ((x, instObj 316 dd) :: (dd, dictOf (volD w t 0 0 0 (.ref d) false true) n) :: rest) :=
  ⟨fun i => match i with | 0 => k0 | 1 => k1 | 2 => k2 | 3 => k3 | 4 => k4 | 5 => k5 | 6 => k6 | 7 => k7 | 8 => k8 | 9 => k9 | 10 => k10 | 11 => k11 | 12 => k12 | 13 => k13 | 14 => k14 | 15 => k15 | 21 => v1 | 22 => v2 | 25 => v5 | 26 => v6 | 27 => v7 | 28 => v8 | 29 => v9 | 30 => v10 | 33 => v13 | _ => 0, fun p hp => N p (.tail _ hp)⟩
theorem sound_nil {kind : Int} (hk : KindOk kind) {bs : List Bool} (h1 : 1 ≤ bs.length) : Sound kind bs [] 2 :=
  ⟨hk, ⟨fun _ h => (nomatch h), fun _ h => (nomatch h), List.nodup_nil⟩, fun i h2 h3 => absurd h3 (by omega), by omega, by omega⟩
theorem ti_init {l ca D xx vol dv ma c1 c2 c3 L : Addr} {dvs : List Value} {nD nm nd nx : Nat} {ox o1 o2 o3 : Obj} {t : Nat → Tok} {bpc kd : Int} {bs : List Bool} {tk1 tk2 : Tok} {v2 v3 : Option Value} {h₀ h : Heap} {m : Str → Option Value} {g : Array GenState} {w : World}
    (F : Fr h₀ L h m) (N : News h₀ L h ((ca, listOf #[] nx) :: (D, listOf dvs.toArray nD) :: (xx, ox) :: (vol, instObj 316 dv) :: (dv, dictOf (volD w t bpc 0 kd (.ref D) true false) nd) :: (ma, listOf (bs.map Value.bool).toArray nm) :: (c3, o3) :: (c2, o2) :: (c1, o1) :: []))
    (hv : m (Str.ofString "volume") = some (.ref vol)) (hki : m (Str.ofString "kind") = some (.int kd tk1)) (hmm : m (Str.ofString "marks") = some (.ref ma)) (hch : m (Str.ofString "chains") = some (.ref ca)) (hsz : m (Str.ofString "size") = some (.int bpc tk2))
    (d1 : o1.data = .cell (some (.ref l))) (d2 : o2.data = .cell v2) (d3 : o3.data = .cell v3) (hk : KindOk kd) (hb : 1 ≤ bs.length) (hi : IntsAre dvs (tableF kd bs [])) (hG : AllBare g) (n1 : ca ≠ D) (n2 : ma ≠ D) (n3 : ma ≠ ca) :
    ∃ news, News h₀ L h news ∧ ∀ I : Addr, (∀ p ∈ news, p.1 ≠ I) → TI w l c1 c2 c3 vol dv ma kd bpc bs tk1 tk2 I 0 [] m news g := by
  have mca : (ca, listOf #[] nx) ∈ (ca, listOf #[] nx) :: (D, listOf dvs.toArray nD) :: (xx, ox) :: (vol, instObj 316 dv) :: (dv, dictOf (volD w t bpc 0 kd (.ref D) true false) nd) :: (ma, listOf (bs.map Value.bool).toArray nm) :: (c3, o3) :: (c2, o2) :: (c1, o1) :: [] := .head _
  have mD : (D, listOf dvs.toArray nD) ∈ (ca, listOf #[] nx) :: (D, listOf dvs.toArray nD) :: (xx, ox) :: (vol, instObj 316 dv) :: (dv, dictOf (volD w t bpc 0 kd (.ref D) true false) nd) :: (ma, listOf (bs.map Value.bool).toArray nm) :: (c3, o3) :: (c2, o2) :: (c1, o1) :: [] := .tail _ (.head _)
  have mdv : (dv, dictOf (volD w t bpc 0 kd (.ref D) true false) nd) ∈ (ca, listOf #[] nx) :: (D, listOf dvs.toArray nD) :: (xx, ox) :: (vol, instObj 316 dv) :: (dv, dictOf (volD w t bpc 0 kd (.ref D) true false) nd) :: (ma, listOf (bs.map Value.bool).toArray nm) :: (c3, o3) :: (c2, o2) :: (c1, o1) :: [] := .tail _ (.tail _ (.tail _ (.tail _ (.head _))))
  have m3 : (c3, o3) ∈ (ca, listOf #[] nx) :: (D, listOf dvs.toArray nD) :: (xx, ox) :: (vol, instObj 316 dv) :: (dv, dictOf (volD w t bpc 0 kd (.ref D) true false) nd) :: (ma, listOf (bs.map Value.bool).toArray nm) :: (c3, o3) :: (c2, o2) :: (c1, o1) :: [] := .tail _ (.tail _ (.tail _ (.tail _ (.tail _ (.tail _ (.head _))))))
  have m2 : (c2, o2) ∈ (ca, listOf #[] nx) :: (D, listOf dvs.toArray nD) :: (xx, ox) :: (vol, instObj 316 dv) :: (dv, dictOf (volD w t bpc 0 kd (.ref D) true false) nd) :: (ma, listOf (bs.map Value.bool).toArray nm) :: (c3, o3) :: (c2, o2) :: (c1, o1) :: [] := .tail _ (.tail _ (.tail _ (.tail _ (.tail _ (.tail _ (.tail _ (.head _)))))))
  have m1 : (c1, o1) ∈ (ca, listOf #[] nx) :: (D, listOf dvs.toArray nD) :: (xx, ox) :: (vol, instObj 316 dv) :: (dv, dictOf (volD w t bpc 0 kd (.ref D) true false) nd) :: (ma, listOf (bs.map Value.bool).toArray nm) :: (c3, o3) :: (c2, o2) :: (c1, o1) :: [] := .tail _ (.tail _ (.tail _ (.tail _ (.tail _ (.tail _ (.tail _ (.tail _ (.head _))))))))
  have mma : (ma, listOf (bs.map Value.bool).toArray nm) ∈ (ca, listOf #[] nx) :: (D, listOf dvs.toArray nD) :: (xx, ox) :: (vol, instObj 316 dv) :: (dv, dictOf (volD w t bpc 0 kd (.ref D) true false) nd) :: (ma, listOf (bs.map Value.bool).toArray nm) :: (c3, o3) :: (c2, o2) :: (c1, o1) :: [] := .tail _ (.tail _ (.tail _ (.tail _ (.tail _ (.head _)))))
  refine ⟨(vol, instObj 316 dv) :: (dv, dictOf (volD w t bpc 0 kd (.ref D) true false) nd) :: (D, listOf dvs.toArray nD) :: (ca, listOf #[] nx) :: (ma, listOf (bs.map Value.bool).toArray nm) :: (c3, o3) :: (c2, o2) :: (c1, o1) :: [], fun p hp => N p ?_, fun I off => ?_⟩
  · simp only [List.mem_cons, List.not_mem_nil, or_false] at hp
    rcases hp with rfl | rfl | rfl | rfl | rfl | rfl | rfl | rfl
    · exact .tail _ (.tail _ (.tail _ (.head _)))
    · exact mdv
    · exact mD
    · exact mca
    · exact mma
    · exact m3
    · exact m2
    · exact m1
  · refine TI.mk (ce := []) (nc := nx) D ca t nd nD nm dvs 0 _ o1 o2 o3 v2 v3 hv hki hmm hch hsz rfl ?_ (.tail _ (.head _)) (.head _) (fun _ h => nomatch h) trivial ⟨n3, fun _ h => nomatch h⟩ (.tail _ (.tail _ (.tail _ (.tail _ (.head _))))) d1 (.tail _ (.tail _ (.tail _ (.head _)))) d2 (.tail _ (.tail _ (.head _))) d3 2 (.inr ⟨rfl, rfl⟩) (sound_nil hk hb) (Nat.le_refl _) (fun _ h => nomatch h) hi hG off
    intro p hp
    simp only [List.mem_cons, List.not_mem_nil, or_false] at hp
    rcases hp with rfl | rfl | rfl | rfl | rfl
    · exact ⟨apart N mca mdv (fun h => by cases h), n1⟩
    · exact ⟨apart N mma mdv (fun h => by cases h), n2⟩
    · exact ⟨apart N m3 mdv (by rw [d3]; intro h; cases h), apart N m3 mD (by rw [d3]; intro h; cases h)⟩
    · exact ⟨apart N m2 mdv (by rw [d2]; intro h; cases h), apart N m2 mD (by rw [d2]; intro h; cases h)⟩
    · exact ⟨apart N m1 mdv (by rw [d1]; intro h; cases h), apart N m1 mD (by rw [d1]; intro h; cases h)⟩
set_option maxHeartbeats 2000000 in
theorem law_setup {oc : Value} {od : Option Addr} {osl : Array (Option Value)} {fd : FuncData} {body : List Stmt} {cd : Value} {fa l : Addr}  {vs : List Value} {ns : List Int} 
    {Q : Flow → Shared → Prop} {E : Value → Shared → Prop}
    (hf : (hd.heap_39 w.params).lookup 374 = some ⟨oc, od, .func fd, osl⟩) (hb : fd.body = .stmts body)
    (B : Below callerA base [] h₀) (X : (hd.heap_39 w.params).In h₀) (T : Top p loose mean mg mb h₀)
    (F : Fr h₀ L s.heap m) {o1 o2 o3 : Obj} {v2 v3 : Option Value} (N : News h₀ L s.heap ((L + 1 + 1 + 1, o3) :: (L + 1 + 1, o2) :: (L + 1, o1) :: []))
    (d1 : o1.data = .cell (some (.ref l))) (d2 : o2.data = .cell v2) (d3 : o3.data = .cell v3)
    (hl : base.IsList l vs.toArray) (hvs : IntsAre vs ns) (hn : ns.length ≤ 63) (hG : AllBare s.gens)
    (hE : PassesOwn (model PySem.Challenge.rw_iw0017_01.row.prog w) (callerA.deeper (envOfC fd.name fd.scope L fa cd)) (envOfC fd.name fd.scope L fa cd) E)
    (hQ : ∀ h' tk' g, AllBare g → (∀ b o, h₀.get? b = some o → h'.get? b = some o) → Q (.ret (.bool true)) { s with heap := h', toks := tk', gens := g }) :
    wpAny (model PySem.Challenge.rw_iw0017_01.row.prog w) (callerA.deeper (envOfC fd.name fd.scope L fa cd)) (execs (body) (envOfC fd.name fd.scope L fa cd)) Q E s := by
  revert hf X; k_fill; intro hf X
  refine' use_lookup hf ?e ?_
  case e => k_dflt k_is
  intro hh
  cases hh
  have hf2 := And.intro trivial hf
  cases hb
  clear hf
  dsimp only [List.drop]
  k_steps
  refine ⟨?_⟩
  rename Fr _ _ _ _ => F1
  rename News _ _ _ _ => N1
  refine wpAny_call ?_
  refine take_ok ⟨B, F1, X, N1, T, rfl, rfl, rfl, rfl, Nat.le_of_ble_eq_true rfl, Nat.le_of_ble_eq_true rfl⟩ hl hvs hn (by decide) (by decide) (by decide) (by decide) ?_
  intro tr h2 tk2 F2 N2
  have hz0 := takeF_lo ns 0 (many := 3) (by decide)
  have hz3 := takeF_hi ns 0 (many := 3) (by decide)
  generalize takeF ns 0 3 = z at hz0 hz3
  clear F1 N1
  k_steps
  refine ⟨?_⟩
  obtain ⟨kd, kt, hx, hkd⟩ : ∃ kd kt, (#[Value.int 12 s.toks, Value.int 16 (s.toks + 1), Value.int 32 (s.toks + 1 + 1)] : Array Value)[z.toNat]? = some (.int kd kt) ∧ KindOk kd := by
    obtain rfl | rfl | rfl : z = 0 ∨ z = 1 ∨ z = 2 := by omega
    · exact ⟨_, _, rfl, .inl rfl⟩
    · exact ⟨_, _, rfl, .inr (.inl rfl)⟩
    · exact ⟨_, _, rfl, .inr (.inr rfl)⟩
  refine own_item (isList_of N2 (.head _)) hz0 (by omega) hx ?_
  k_steps
  refine ⟨?_⟩
  refine wpAny_storeName_local rfl F2.ns (fun h3 hn3 hs3 => ?_) rfl
  have F3 := F2.set hn3 hs3
  have N3 := nsub (N2.set hs3) (fun q hq => List.Mem.tail _ hq)
  clear F2 N2 hn3 hs3
  k_steps
  refine ⟨?_⟩
  refine wpAny_call ?_
  refine take_ok ⟨B, F3, X, N3, T, rfl, rfl, rfl, rfl, Nat.le_of_ble_eq_true rfl, Nat.le_of_ble_eq_true rfl⟩ hl hvs hn (by decide) (by decide) (by decide) (by decide) ?_
  intro tr4 h4 tk4 F4 N4
  have hy0 := takeF_lo ns 1 (many := 40) (by decide)
  have hy3 := takeF_hi ns 1 (many := 40) (by decide)
  generalize takeF ns 1 40 = y at hy0 hy3
  clear F3 N3
  k_steps
  refine ⟨?_⟩
  rename Fr _ _ _ _ => F4
  rename News _ _ _ _ => N4
  refine wpAny_storeName_local rfl F4.ns (fun h5 hn5 hs5 => ?_) rfl
  have F5 := F4.set hn5 hs5
  have N5 := N4.set hs5
  clear F4 N4 hn5 hs5
  k_steps
  refine ⟨?_⟩
  refine LCg.ListComp_U (F₀ := F5) (by with_unfolding_all rfl) (by decide) (by rfl) (by decide) (by rfl) ?_
  k_steps
  refine ⟨?_⟩
  refine wpAny_call ?_
  refine take_ok ⟨B, F5, X, N5, T, rfl, rfl, rfl, rfl, Nat.le_of_ble_eq_true rfl, Nat.le_of_ble_eq_true rfl⟩ hl hvs hn (by decide) (by decide) (by decide) (by decide) ?_
  intro tr6 h6 tk6 F6 N6
  have hx0 := takeF_lo ns 2 (many := 15) (by decide)
  have hx3 := takeF_hi ns 2 (many := 15) (by decide)
  generalize takeF ns 2 15 = x at hx0 hx3
  clear F5 N5
  k_steps
  refine ⟨?_⟩
  rename IsRange _ _ _ _ _ _ _ _ => IR
  rename Fr _ _ _ _ => F7
  rename News _ _ _ _ => N7
  refine LCg.CompSrc.range rfl F7 N7 IR (small_one (by omega) (by omega) (by omega) (by omega)) (rangeSize_nat _ _) (by rw [PySem.sizeLine_eq]; omega) ?_
  intro g8
  refine comp_bools ?turn ?fin
  case turn =>
    intro j t9 I9 oI C oC Dl m9 ys h9 tk9 E' hj hC hx Fc Nc offc nec
    k_steps
    refine ⟨?_⟩
    refine wpAny_call ?_
    refine take_ok ⟨B, Fc, X, Nc, T, rfl, rfl, rfl, rfl, Nat.le_of_ble_eq_true rfl, Nat.le_of_ble_eq_true rfl⟩ hl (by assumption) hn (by omega) (by omega) (by decide) (by decide) ?_
    intro tr10 h10 tk10 F10 N10
    generalize takeF ns (3 + (0 + (j : Int))) 5 = q5
    clear Fc Nc
    k_steps
    refine ⟨?_⟩
    exact LCg.CompEnd.intro F10 N10 _ (fun p hp => hp) offc trivial ⟨rfl, _, rfl⟩
  intro bs0 hb0
  unfold LCg.FinE
  intro D11 h11 tk11 F11 N11 off11
  clear F7 N7 IR
  k_steps
  refine ⟨?_⟩
  rename Fr _ _ _ _ => F12
  rename News _ _ _ _ => N12
  refine add_new (vs := bs0.map Value.bool) (ws := [Value.bool true]) F12 N12 (isList_of N12 (.tail _ (.head _))) (isList_of N12 (.head _)) (by simp only [List.length_map, List.length_singleton]; omega) ?_
  intro ma h13 F13 N13 lt13
  clear F12 N12
  rw [show bs0.map Value.bool ++ [Value.bool true] = (bs0 ++ [true]).map Value.bool by simp] at N13
  have hbl : (bs0 ++ [true]).length = bs0.length + 1 := by simp
  have hlast : (bs0 ++ [true]).getD ((bs0 ++ [true]).length - 1) false = true := by simp
  generalize bs0 ++ [true] = bs at N13 hbl hlast
  k_steps
  refine ⟨?_⟩
  refine wpAny_storeName_local rfl F13.ns (fun h14 hn14 hs14 => ?_) rfl
  have F14 := F13.set hn14 hs14
  have N14 := nsub (N13.set hs14) (news' := [(ma, listOf (bs.map Value.bool).toArray 0), (L + 1 + 1 + 1, o3), (L + 1 + 1, o2), (L + 1, o1)]) (fun p hp => by
    rcases List.mem_cons.mp hp with rfl | hp
    · exact .head _
    · exact .tail _ (.tail _ (.tail _ hp)))
  clear F13 N13 hn14 hs14
  k_steps
  refine ⟨?_⟩
  rename Fr _ _ _ _ => F15
  rename News _ _ _ _ => N15
  obtain ⟨t, N16⟩ := vol_ledger N15
  clear N15
  refine wpAny_storeName_local rfl F15.ns (fun h17 hn17 hs17 => ?_) rfl
  have F17 := F15.set hn17 hs17
  have N17 := N16.set hs17
  clear F15 N16 hn17 hs17
  k_steps
  refine ⟨?_⟩
  rename Fr _ _ _ _ => F18
  rename News _ _ _ _ => N18
  refine wpAny_call ?_
  refine table_ok (css := []) (ce := []) (bs := bs) ⟨B, F18, X, N18, T, rfl, rfl, rfl, rfl, Nat.le_of_ble_eq_true rfl, Nat.le_of_ble_eq_true rfl⟩ hkd (.tail _ (.tail _ (.tail _ (.head _)))) (.head _) (fun _ h => nomatch h) trivial (by omega) (fun _ h => nomatch h) ?_
  intro h19 tk19 D dvs nD F19 N19 lt19 I19
  replace lt19 := allLt_of lt19
  simp only [AllLt, and_true] at lt19
  replace I19 := And.intro trivial I19
  clear F18 N18
  k_steps
  refine ⟨?_⟩
  rename Fr _ _ _ _ => F21
  rename News _ _ _ _ => N21
  obtain ⟨news, N22, hT⟩ := ti_init (l := l) F21 N21 rfl rfl rfl rfl rfl d1 d2 d3 hkd (by omega) I19.2 hG (by show ¬ @Eq Nat _ _; omega) (by show ¬ @Eq Nat _ _; omega) (by show ¬ @Eq Nat _ _; omega)
  exact law_loop hf2.2 rfl B X T F21 N22 hT hl (by assumption) hn (by omega) hlast (by omega) hE hQ
end
end Mine

namespace Mine
theorem with_lookup {K : Frag} {a : Addr} {o : Obj} {P : Prop} (e : K.lookup a = some o) (k : K.lookup a = some o → P) : P := k e
set_option maxRecDepth 100000 in
set_option maxHeartbeats 8000000 in
theorem whole : PySem.Challenge.rw_iw0017_01.Holds := hd (by
  k_fill
  intro w s₀ s₁ mg mb G Y fa o pm cd doc dV kV ho hd hcd hD hmg hg args vals as hpre hlay hrd hwl hlo
  have KX := kIn_of Y
  have X := (Ground.X G).1
  have V := (Ground.X G).2
  try w_nolog (first | (have GL := glob_more (Ground.glob G (by first | k_qdec | decide +kernel) (by first | k_qdec | decide +kernel)) V) | (have GL := glob_more (Ground.glob G (by decide +kernel)) V))
  refine Ground.open G ?_
  intro T B D TE TW
  try (refine guard_noD D (by decide +kernel) ?_; clear D)
  obtain ⟨_, _, M⟩ := bmod_of_top T
  have TA := at_of_top T
  try (obtain ⟨_, _, he, B0⟩ := based_of_top T rfl hmg ho hd; have he' : cd = _ := he; subst he'; clear he)
  clear hmg
  wrow_args hpre hlay hrd hwl hlo
  all_goals (
    first | refine callC_kw (enter_call ?_) | refine enter_call ?_ | refine callC_kw (enter_callW ?_) | refine enter_callW ?_ | w_how
    w_top on
    have K0 := below_caller (Top.heap T)
    w_call any ho hd hcd hD T F
    clear hd TA
    k_drop
    skip)
  try clear hcd
  try clear GL
  try clear TE
  try clear TW
  try clear M
  try clear V
  try clear Y
  try clear G
  dsimp only at *
  rename News _ _ _ _ => N0
  rename Heap.IsList _ _ _ => hL
  rename IntsAre _ _ => hI
  rename ¬ _ < _ => hle
  refine' with_lookup (K := hd.heap_39 w.params) (a := 374) ?elk ?_
  case elk => k_dflt k_is
  intro hf
  refine law_setup hf rfl K0 KX T F N0 (by assumption) (by assumption) (by assumption) hL hI (by omega) ?_ ?_ ?_
  · exact .of_eq hg
  · with_unfolding_all passes_own
  · intro h' tk' g hg2 keep
    exact ⟨.inl ⟨.bool true, .bool true, [], rfl, raisesW_false (fun ct h => nomatch h), .bool true, postW_of (by rfl) (by wtm_val) (by first | rfl | w_fin), unshared_nil⟩, .of_keep keep, rfl, hg2⟩)
end Mine

theorem PySem.Challenge.cw_iw0017_01_holds : PySem.Challenge.rw_iw0017_01.Holds :=
  Mine.whole
