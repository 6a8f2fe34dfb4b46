import PyProof.Rows.All
import Wide.All
import OpenK.AllK
import Wide.FinOn
import PySem.Challenge.RW_pe0283_01
open PySem PySem.W PyProof.Rows
set_option Elab.async false
/- The library's own command lays these names, so that open_top lays no fast twin for the constants that it makes here:
   their proofs are quadratic in the texts of a constant and would alone pass the size that a compiled file may have. -/
name_quick tw15823609455315575823 for PySem.W.S.findZ by PySem.W.S.findZ_eq
name_quick tw8075568018651887793 for PySem.W.S.findZ by PySem.W.S.findZ_eq
name_quick tw16590529549398636007 for PySem.W.S.findZ by PySem.W.S.findZ_eq
name_quick tw1805090038324652086 for PySem.W.S.findZ by PySem.W.S.findZ_eq
name_quick tw14979626087600564940 for PySem.W.S.findZ by PySem.W.S.findZ_eq
name_quick tw17807336471464407845 for PySem.W.S.findZ by PySem.W.S.findZ_eq
name_quick tw13479600455187215721 for PySem.W.S.findZ by PySem.W.S.findZ_eq
name_quick tw2594094664786655113 for PySem.W.S.findZ by PySem.W.S.findZ_eq
name_quick tw16804044748790271530 for PySem.W.S.findZ by PySem.W.S.findZ_eq
name_quick tw12611609854453135530 for PySem.W.S.findZ by PySem.W.S.findZ_eq
name_quick tw13443845346986579664 for PySem.W.S.findZ by PySem.W.S.findZ_eq
name_quick tw947438040082793914 for PySem.W.S.findZ by PySem.W.S.findZ_eq
name_quick tw227664154600733314 for PySem.W.S.findZ by PySem.W.S.findZ_eq
name_quick tw6363645014702824404 for PySem.W.S.findZ by PySem.W.S.findZ_eq
name_quick tw7397068168572129948 for PySem.W.S.findZ by PySem.W.S.findZ_eq
name_quick tw16176465441171805009 for PySem.W.S.findZ by PySem.W.S.findZ_eq
name_quick tw1706496860858754268 for PySem.W.S.findZ by PySem.W.S.findZ_eq
name_quick tw10227693086864044499 for PySem.W.S.findZ by PySem.W.S.findZ_eq
name_quick tw8376441433122354887 for PySem.W.S.findZ by PySem.W.S.findZ_eq
name_quick tw12813236842856870187 for PySem.W.S.findZ by PySem.W.S.findZ_eq
name_quick tw5731285843209492418 for PySem.W.S.findZ by PySem.W.S.findZ_eq
name_quick tw282004115355043989 for PySem.W.S.findZ by PySem.W.S.findZ_eq
name_quick tw17828083071136270317 for PySem.W.S.findZ by PySem.W.S.findZ_eq
name_quick tw2611137233208623240 for PySem.W.S.findZ by PySem.W.S.findZ_eq
name_quick tw219737044198020058 for PySem.W.S.findZ by PySem.W.S.findZ_eq
name_quick tw15263041282635125899 for PySem.W.S.findZ by PySem.W.S.findZ_eq
name_quick tw8753696776887207221 for PySem.W.S.findZ by PySem.W.S.findZ_eq
name_quick tw2862820112641550484 for PySem.W.S.findZ by PySem.W.S.findZ_eq
name_quick tw17100903815162463580 for PySem.W.S.findZ by PySem.W.S.findZ_eq
name_quick tw4636218855388986860 for PySem.W.S.findZ by PySem.W.S.findZ_eq
name_quick tw4444965560193506482 for PySem.W.S.findZ by PySem.W.S.findZ_eq
name_quick tw151948405760981731 for PySem.W.S.findZ by PySem.W.S.findZ_eq
name_quick tw12850107946570832962 for PySem.W.S.findZ by PySem.W.S.findZ_eq
name_quick tw11277716924127702174 for PySem.W.S.findZ by PySem.W.S.findZ_eq
name_quick tw14834023430324568649 for PySem.W.S.findZ by PySem.W.S.findZ_eq
name_quick tw10314498396905981064 for PySem.W.S.findZ by PySem.W.S.findZ_eq
name_quick tw14376985748213822385 for PySem.W.S.findZ by PySem.W.S.findZ_eq
name_quick tw18340240734955500558 for PySem.W.S.findZ by PySem.W.S.findZ_eq
name_quick tw4797165386629745026 for PySem.W.S.findZ by PySem.W.S.findZ_eq
name_quick tw4921902886906138986 for PySem.W.S.findZ by PySem.W.S.findZ_eq
name_quick tw4527066259768149269 for PySem.W.S.findZ by PySem.W.S.findZ_eq
name_quick tw12268644228514654432 for PySem.W.S.findZ by PySem.W.S.findZ_eq
name_quick tw8693227569615203950 for PySem.W.S.findZ by PySem.W.S.findZ_eq
name_quick tw16145008321745377990 for PySem.W.S.findZ by PySem.W.S.findZ_eq
name_quick tw16414604833108395602 for PySem.W.S.findZ by PySem.W.S.findZ_eq
name_quick tw2660918139993853925 for PySem.W.S.findZ by PySem.W.S.findZ_eq
name_quick tw5591276700874282246 for PySem.W.S.findZ by PySem.W.S.findZ_eq
name_quick tw4275521005467322725 for PySem.W.S.findZ by PySem.W.S.findZ_eq
name_quick tw6947952154114656408 for PySem.W.S.findZ by PySem.W.S.findZ_eq
name_quick tw7269565832213808900 for PySem.W.S.findZ by PySem.W.S.findZ_eq
name_quick tw2670528217467546775 for PySem.W.S.findZ by PySem.W.S.findZ_eq
name_quick tw1617757218408452269 for PySem.W.S.findZ by PySem.W.S.findZ_eq
name_quick tw17000458434675057986 for PySem.W.S.findZ by PySem.W.S.findZ_eq
name_quick tw4090926877573551719 for PySem.W.S.findZ by PySem.W.S.findZ_eq
name_quick tw11985326045990495214 for PySem.W.S.findZ by PySem.W.S.findZ_eq
name_quick tw4011157648589011858 for PySem.W.S.findZ by PySem.W.S.findZ_eq
name_quick tw17274371674624000324 for PySem.W.S.findZ by PySem.W.S.findZ_eq
name_quick tw13054876178653020893 for PySem.W.S.findZ by PySem.W.S.findZ_eq
name_quick tw16531745337717519161 for PySem.W.S.findZ by PySem.W.S.findZ_eq
name_quick tw5882768191206486792 for PySem.W.S.findZ by PySem.W.S.findZ_eq
name_quick tw6004533443673955352 for PySem.W.S.findZ by PySem.W.S.findZ_eq
name_quick tw795377275742717654 for PySem.W.S.findZ by PySem.W.S.findZ_eq
name_quick tw16979494861989939188 for PySem.W.S.findZ by PySem.W.S.findZ_eq
name_quick tw16548257151911338427 for PySem.W.S.findZ by PySem.W.S.findZ_eq
name_quick tw16296994325663420285 for PySem.W.S.findZ by PySem.W.S.findZ_eq
name_quick tw7299951869573292228 for PySem.W.S.findZ by PySem.W.S.findZ_eq
name_quick tw9948023125614773506 for PySem.W.S.findZ by PySem.W.S.findZ_eq
name_quick tw11994158751524154303 for PySem.W.S.findZ by PySem.W.S.findZ_eq
name_quick tw6662432510661729299 for PySem.W.S.findZ by PySem.W.S.findZ_eq
name_quick tw18103910768895448316 for PySem.W.S.findZ by PySem.W.S.findZ_eq
name_quick tw13912434898499826684 for PySem.W.S.findZ by PySem.W.S.findZ_eq
name_quick tw1291980286583624508 for PySem.W.S.findZ by PySem.W.S.findZ_eq
name_quick tw8253183596043897158 for PySem.W.S.findZ by PySem.W.S.findZ_eq
name_quick tw5396446701170858492 for PySem.W.S.findZ by PySem.W.S.findZ_eq
name_quick tw5032809538720368765 for PySem.W.S.findZ by PySem.W.S.findZ_eq
name_quick tw4658958612460137192 for PySem.W.S.findZ by PySem.W.S.findZ_eq
name_quick tw15056778947836399286 for PySem.W.S.findZ by PySem.W.S.findZ_eq
name_quick tw15079194523842364033 for PySem.W.S.findZ by PySem.W.S.findZ_eq
name_quick tw14386061602966655976 for PySem.W.S.findZ by PySem.W.S.findZ_eq
name_quick tw14896874001708588922 for PySem.W.S.findZ by PySem.W.S.findZ_eq
name_quick tw1184552218554016812 for PySem.W.S.findZ by PySem.W.S.findZ_eq
name_quick tw12282317666342685634 for PySem.W.S.findZ by PySem.W.S.findZ_eq
name_quick tw6426273055680023932 for PySem.W.S.findZ by PySem.W.S.findZ_eq
name_quick tw8603108125212654177 for PySem.W.S.findZ by PySem.W.S.findZ_eq
name_quick tw17282375785321111287 for PySem.W.S.findZ by PySem.W.S.findZ_eq
name_quick tw16413264400604254196 for PySem.W.S.findZ by PySem.W.S.findZ_eq
name_quick tw3560238982266916124 for PySem.W.S.findZ by PySem.W.S.findZ_eq
name_quick tw11462045893675790159 for PySem.W.S.findZ by PySem.W.S.findZ_eq
name_quick tw8595292554425487202 for PySem.W.S.findZ by PySem.W.S.findZ_eq
name_quick tw13236226663087606529 for PySem.W.S.findZ by PySem.W.S.findZ_eq
name_quick tw16979880578912567463 for PySem.W.S.findZ by PySem.W.S.findZ_eq
name_quick tw5823794197072137003 for PySem.W.S.findZ by PySem.W.S.findZ_eq
name_quick tw7892128664451923741 for PySem.W.S.findZ by PySem.W.S.findZ_eq
name_quick tw12659028871203227004 for PySem.W.S.findZ by PySem.W.S.findZ_eq
name_quick tw3282434896037501709 for PySem.W.S.findZ by PySem.W.S.findZ_eq
name_quick tw13759679279233594173 for PySem.W.S.findZ by PySem.W.S.findZ_eq
name_quick tw9676229304581654039 for PySem.W.S.findZ by PySem.W.S.findZ_eq
name_quick tw342737451032717037 for PySem.W.S.findZ by PySem.W.S.findZ_eq
name_quick tw13615603153576403970 for PySem.W.S.findZ by PySem.W.S.findZ_eq
name_quick tw17552769576498331613 for PySem.W.S.findZ by PySem.W.S.findZ_eq
name_quick tw667198328695590252 for PySem.W.S.findZ by PySem.W.S.findZ_eq
name_quick tw17532440430192770315 for PySem.W.S.findZ by PySem.W.S.findZ_eq
name_quick tw7783732958741208154 for PySem.W.S.findZ by PySem.W.S.findZ_eq
name_quick tw8727135674562949291 for PySem.W.S.findZ by PySem.W.S.findZ_eq
name_quick tw7299303143086499733 for PySem.W.S.findZ by PySem.W.S.findZ_eq
name_quick tw9931943479562821362 for PySem.W.S.findZ by PySem.W.S.findZ_eq
name_quick tw14884601019740666482 for PySem.W.S.findZ by PySem.W.S.findZ_eq
name_quick tw3972328310683599613 for PySem.W.S.findZ by PySem.W.S.findZ_eq
name_quick tw8860024209350480642 for PySem.W.S.findZ by PySem.W.S.findZ_eq
name_quick tw15900120412870309639 for PySem.W.S.findZ by PySem.W.S.findZ_eq
name_quick tw17517737089405305841 for PySem.W.S.findZ by PySem.W.S.findZ_eq
name_quick tw3039592710220408265 for PySem.W.S.findZ by PySem.W.S.findZ_eq
name_quick tw7496433998918960881 for PySem.W.S.findZ by PySem.W.S.findZ_eq
name_quick tw18416463498863911781 for PySem.W.S.findZ by PySem.W.S.findZ_eq
name_quick tw1402947280878808549 for PySem.W.S.findZ by PySem.W.S.findZ_eq
name_quick tw12371321757623732685 for PySem.W.S.findZ by PySem.W.S.findZ_eq
name_quick tw12022618010286034681 for PySem.W.S.findZ by PySem.W.S.findZ_eq
name_quick tw14530364306720264245 for PySem.W.S.findZ by PySem.W.S.findZ_eq
name_quick tw183835017167291270 for PySem.W.S.findZ by PySem.W.S.findZ_eq
name_quick tw5345256250457102556 for PySem.W.S.findZ by PySem.W.S.findZ_eq
name_quick tw9674257727999782656 for PySem.W.S.findZ by PySem.W.S.findZ_eq
name_quick tw15948953799161713456 for PySem.W.S.findZ by PySem.W.S.findZ_eq
name_quick tw13640514254501968386 for PySem.W.S.findZ by PySem.W.S.findZ_eq
name_quick tw11013792430000457035 for PySem.W.S.findZ by PySem.W.S.findZ_eq
name_quick tw932993149863042379 for PySem.W.S.findZ by PySem.W.S.findZ_eq
name_quick tw18101931140130867144 for PySem.W.S.findZ by PySem.W.S.findZ_eq
name_quick tw11130039905162102590 for PySem.W.S.findZ by PySem.W.S.findZ_eq
name_quick tw460243522976405022 for PySem.W.S.findZ by PySem.W.S.findZ_eq
name_quick tw17164873540382356111 for PySem.W.S.findZ by PySem.W.S.findZ_eq
name_quick tw16741492637210864865 for PySem.W.S.findZ by PySem.W.S.findZ_eq
name_quick tw1258717718454355964 for PySem.W.S.findZ by PySem.W.S.findZ_eq
name_quick tw15007238320947547705 for PySem.W.S.findZ by PySem.W.S.findZ_eq
name_quick tw4292500188555128830 for PySem.W.S.findZ by PySem.W.S.findZ_eq
name_quick tw1886563365779066154 for PySem.W.S.findZ by PySem.W.S.findZ_eq
name_quick tw8708707556590381134 for PySem.W.S.findZ by PySem.W.S.findZ_eq
name_quick tw8032284361305108907 for PySem.W.S.findZ by PySem.W.S.findZ_eq
name_quick tw3820604794100220378 for PySem.W.S.findZ by PySem.W.S.findZ_eq
name_quick tw7721631327575515661 for PySem.W.S.findZ by PySem.W.S.findZ_eq
name_quick tw5076957145309523181 for PySem.W.S.findZ by PySem.W.S.findZ_eq
name_quick tw10323183001455561277 for PySem.W.S.findZ by PySem.W.S.findZ_eq
name_quick tw9285146279643344392 for PySem.W.S.findZ by PySem.W.S.findZ_eq
name_quick tw17047587732179306917 for PySem.W.S.findZ by PySem.W.S.findZ_eq
name_quick tw1702518465993881591 for PySem.W.S.findZ by PySem.W.S.findZ_eq
name_quick tw12233582284571471492 for PySem.W.S.findZ by PySem.W.S.findZ_eq
name_quick tw7745614565497352828 for PySem.W.S.findZ by PySem.W.S.findZ_eq
name_quick tw5770868932273138760 for PySem.W.S.findZ by PySem.W.S.findZ_eq
name_quick tw9136488742655976645 for PySem.W.S.findZ by PySem.W.S.findZ_eq
name_quick tw3105397867545767578 for PySem.W.S.findZ by PySem.W.S.findZ_eq
name_quick tw7275051467321613617 for PySem.W.S.findZ by PySem.W.S.findZ_eq
name_quick tw136631920214876835 for PySem.W.S.findZ by PySem.W.S.findZ_eq
name_quick tw15542503528162795033 for PySem.W.S.findZ by PySem.W.S.findZ_eq
name_quick tw14223099787259518943 for PySem.W.S.findZ by PySem.W.S.findZ_eq
name_quick tw951843321253372498 for PySem.W.S.findZ by PySem.W.S.findZ_eq
name_quick tw4549333791460862111 for PySem.W.S.findZ by PySem.W.S.findZ_eq
name_quick tw912392155897948271 for PySem.W.S.findZ by PySem.W.S.findZ_eq
name_quick tw682011567655089306 for PySem.W.S.findZ by PySem.W.S.findZ_eq
name_quick tw1620339239838986703 for PySem.W.S.findZ by PySem.W.S.findZ_eq
name_quick tw2460228577881660442 for PySem.W.S.findZ by PySem.W.S.findZ_eq
name_quick tw5200128776193632040 for PySem.W.S.findZ by PySem.W.S.findZ_eq
name_quick tw387338674003428930 for PySem.W.S.findZ by PySem.W.S.findZ_eq
name_quick tw12172078356533094185 for PySem.W.S.findZ by PySem.W.S.findZ_eq
name_quick tw7401281599722004195 for PySem.W.S.findZ by PySem.W.S.findZ_eq
name_quick tw18345786424863182364 for PySem.W.S.findZ by PySem.W.S.findZ_eq
name_quick tw10948738476641704880 for PySem.W.S.findZ by PySem.W.S.findZ_eq
name_quick tw7581816359482902497 for PySem.W.S.findZ by PySem.W.S.findZ_eq
name_quick tw13002492023102617099 for PySem.W.S.findZ by PySem.W.S.findZ_eq
name_quick tw14553827428707814869 for PySem.W.S.findZ by PySem.W.S.findZ_eq
name_quick tw17279654841073493023 for PySem.W.S.findZ by PySem.W.S.findZ_eq
name_quick tw10938465397075749097 for PySem.W.S.findZ by PySem.W.S.findZ_eq
name_quick tw14108194823987119177 for PySem.W.S.findZ by PySem.W.S.findZ_eq
name_quick tw4319705520415482375 for PySem.W.S.findZ by PySem.W.S.findZ_eq
name_quick tw10010936943081839664 for PySem.W.S.findZ by PySem.W.S.findZ_eq
name_quick tw6679490504615227074 for PySem.W.S.findZ by PySem.W.S.findZ_eq
name_quick tw17672482021469178181 for PySem.W.S.findZ by PySem.W.S.findZ_eq
name_quick tw17069979004554194336 for PySem.W.S.findZ by PySem.W.S.findZ_eq
name_quick tw11186114360453789277 for PySem.W.S.findZ by PySem.W.S.findZ_eq
name_quick tw6434265647005701932 for PySem.W.S.findZ by PySem.W.S.findZ_eq
name_quick tw13335737130258781183 for PySem.W.S.findZ by PySem.W.S.findZ_eq
name_quick tw12734952128020822468 for PySem.W.S.findZ by PySem.W.S.findZ_eq
name_quick tw12945451867199242903 for PySem.W.S.findZ by PySem.W.S.findZ_eq
name_quick tw3636048126100218174 for PySem.W.S.findZ by PySem.W.S.findZ_eq
name_quick tw1258299570235058372 for PySem.W.S.findZ by PySem.W.S.findZ_eq
name_quick tw15475462885187679331 for PySem.W.S.findZ by PySem.W.S.findZ_eq
name_quick tw12392613427281201732 for PySem.W.S.findZ by PySem.W.S.findZ_eq
name_quick tw9800571698397750058 for PySem.W.S.findZ by PySem.W.S.findZ_eq
name_quick tw9787463984185863102 for PySem.W.S.findZ by PySem.W.S.findZ_eq
name_quick tw7198390536060210744 for PySem.W.S.findZ by PySem.W.S.findZ_eq
name_quick tw16263532188198174459 for PySem.W.S.findZ by PySem.W.S.findZ_eq
name_quick tw11306939235166856333 for PySem.W.S.findZ by PySem.W.S.findZ_eq
name_quick tw17001327861769816259 for PySem.W.S.findZ by PySem.W.S.findZ_eq
name_quick tw8663951642670702713 for PySem.W.S.findZ by PySem.W.S.findZ_eq
name_quick tw16643379632663270332 for PySem.W.S.findZ by PySem.W.S.findZ_eq
name_quick tw3152983702415266003 for PySem.W.S.findZ by PySem.W.S.findZ_eq
name_quick tw15663404670287596823 for PySem.W.S.findZ by PySem.W.S.findZ_eq
name_quick tw8017206721242287953 for PySem.W.S.findZ by PySem.W.S.findZ_eq
name_quick tw15323854079317868165 for PySem.W.S.findZ by PySem.W.S.findZ_eq
name_quick tw13900631225919944168 for PySem.W.S.findZ by PySem.W.S.findZ_eq
name_quick tw16049961110935095269 for PySem.W.S.findZ by PySem.W.S.findZ_eq
name_quick tw6448080314894763839 for PySem.W.S.findZ by PySem.W.S.findZ_eq
name_quick tw7094674258960923220 for PySem.W.S.findZ by PySem.W.S.findZ_eq
name_quick tw7323676302269181137 for PySem.W.S.findZ by PySem.W.S.findZ_eq
name_quick tw9626621113073979434 for PySem.W.S.findZ by PySem.W.S.findZ_eq
name_quick tw9759809726879904816 for PySem.W.S.findZ by PySem.W.S.findZ_eq
name_quick tw43969757491396457 for PySem.W.S.findZ by PySem.W.S.findZ_eq
name_quick tw17000155066101142889 for PySem.W.S.findZ by PySem.W.S.findZ_eq
name_quick tw1355338860687761863 for PySem.W.S.findZ by PySem.W.S.findZ_eq
name_quick tw3093977132361051618 for PySem.W.S.findZ by PySem.W.S.findZ_eq
name_quick tw704327219915372674 for PySem.W.S.findZ by PySem.W.S.findZ_eq
name_quick tw11788150170368784547 for PySem.W.S.findZ by PySem.W.S.findZ_eq
name_quick tw5189142188285759775 for PySem.W.S.findZ by PySem.W.S.findZ_eq
name_quick tw13678640442995254988 for PySem.W.S.findZ by PySem.W.S.findZ_eq
name_quick tw11108263761283441063 for PySem.W.S.findZ by PySem.W.S.findZ_eq
name_quick tw17532718790514356516 for PySem.W.S.findZ by PySem.W.S.findZ_eq
name_quick tw7232422423428716515 for PySem.W.S.findZ by PySem.W.S.findZ_eq
name_quick tw1962928258387122110 for PySem.W.S.findZ by PySem.W.S.findZ_eq
name_quick tw15423634916342008072 for PySem.W.S.findZ by PySem.W.S.findZ_eq
name_quick tw11707433790658880453 for PySem.W.S.findZ by PySem.W.S.findZ_eq
name_quick tw7009043117176579089 for PySem.W.S.findZ by PySem.W.S.findZ_eq
name_quick tw8579058602437062094 for PySem.W.S.findZ by PySem.W.S.findZ_eq
name_quick tw3619232141914619222 for PySem.W.S.findZ by PySem.W.S.findZ_eq
name_quick tw14433975572909055671 for PySem.W.S.findZ by PySem.W.S.findZ_eq
name_quick tw10919533547850550483 for PySem.W.S.findZ by PySem.W.S.findZ_eq
name_quick tw3778451253796500701 for PySem.W.S.findZ by PySem.W.S.findZ_eq
name_quick tw1333364371103165705 for PySem.W.S.findZ by PySem.W.S.findZ_eq
name_quick tw9862997608875712007 for PySem.W.S.findZ by PySem.W.S.findZ_eq
name_quick tw6683783046931543321 for PySem.W.S.findZ by PySem.W.S.findZ_eq
name_quick tw16817318245366136608 for PySem.W.S.findZ by PySem.W.S.findZ_eq
name_quick tw5721027456603625697 for PySem.W.S.findZ by PySem.W.S.findZ_eq
name_quick tw16241802466949684156 for PySem.W.S.findZ by PySem.W.S.findZ_eq
name_quick tw9011979029575296479 for PySem.W.S.findZ by PySem.W.S.findZ_eq
name_quick tw4407734736301137906 for PySem.W.S.findZ by PySem.W.S.findZ_eq
name_quick tw17804436615005485693 for PySem.W.S.findZ by PySem.W.S.findZ_eq
name_quick tw16390375249116991291 for PySem.W.S.findZ by PySem.W.S.findZ_eq
name_quick tw5978237884098788730 for PySem.W.S.findZ by PySem.W.S.findZ_eq
name_quick tw1735497430108182060 for PySem.W.S.findZ by PySem.W.S.findZ_eq
name_quick tw17730448691065144110 for PySem.W.S.findZ by PySem.W.S.findZ_eq
name_quick tw3856783459128436802 for PySem.W.S.findZ by PySem.W.S.findZ_eq
name_quick tw17300597898927385350 for PySem.W.S.findZ by PySem.W.S.findZ_eq
name_quick tw1829445100760108279 for PySem.W.S.findZ by PySem.W.S.findZ_eq
name_quick tw10528696920762540405 for PySem.W.S.findZ by PySem.W.S.findZ_eq
name_quick tw18350330562280901221 for PySem.W.S.findZ by PySem.W.S.findZ_eq
name_quick tw13180171748994924942 for PySem.W.S.findZ by PySem.W.S.findZ_eq
name_quick tw7250012664060256230 for PySem.W.S.findZ by PySem.W.S.findZ_eq
name_quick tw15560500314895047343 for PySem.W.S.findZ by PySem.W.S.findZ_eq
name_quick tw3766158894648301139 for PySem.W.S.findZ by PySem.W.S.findZ_eq
name_quick tw14311459727803291754 for PySem.W.S.findZ by PySem.W.S.findZ_eq
name_quick tw3118938333895590913 for PySem.W.S.findZ by PySem.W.S.findZ_eq
name_quick tw16178412293919577743 for PySem.W.S.findZ by PySem.W.S.findZ_eq
name_quick tw11384798719751882707 for PySem.W.S.findZ by PySem.W.S.findZ_eq
name_quick tw2874504208813169126 for PySem.W.S.findZ by PySem.W.S.findZ_eq
name_quick tw12469489778152837 for PySem.W.S.findZ by PySem.W.S.findZ_eq
name_quick tw8796240567053077481 for PySem.W.S.findZ by PySem.W.S.findZ_eq
name_quick tw8224813933742928703 for PySem.W.S.findZ by PySem.W.S.findZ_eq
name_quick tw2193789692954389824 for PySem.W.S.findZ by PySem.W.S.findZ_eq
name_quick tw2354101950205528012 for PySem.W.S.findZ by PySem.W.S.findZ_eq
name_quick tw18312937565365389666 for PySem.W.S.findZ by PySem.W.S.findZ_eq
name_quick tw13789449189825218787 for PySem.W.S.findZ by PySem.W.S.findZ_eq
name_quick tw6589095468515690095 for PySem.W.S.findZ by PySem.W.S.findZ_eq
name_quick tw9979284746773624096 for PySem.W.S.findZ by PySem.W.S.findZ_eq
name_quick tw2381599553089736043 for PySem.W.S.findZ by PySem.W.S.findZ_eq
name_quick tw6868021626291078005 for PySem.W.S.findZ by PySem.W.S.findZ_eq
name_quick tw3131671291697673992 for PySem.W.S.findZ by PySem.W.S.findZ_eq
name_quick tw1574873078441994576 for PySem.W.S.findZ by PySem.W.S.findZ_eq
name_quick tw12329403913580668285 for PySem.W.S.findZ by PySem.W.S.findZ_eq
name_quick tw12393455550290869266 for PySem.W.S.findZ by PySem.W.S.findZ_eq
name_quick tw11588390666370768167 for PySem.W.S.findZ by PySem.W.S.findZ_eq
name_quick tw16439824349840649037 for PySem.W.S.findZ by PySem.W.S.findZ_eq
name_quick tw13145125596335152023 for PySem.W.S.findZ by PySem.W.S.findZ_eq
name_quick tw11625766737575182897 for PySem.W.S.findZ by PySem.W.S.findZ_eq
name_quick tw9501820088010722379 for PySem.W.S.findZ by PySem.W.S.findZ_eq
name_quick tw10073347824450446311 for PySem.W.S.findZ by PySem.W.S.findZ_eq
name_quick tw1537898542681612871 for PySem.W.S.findZ by PySem.W.S.findZ_eq
name_quick tw9315938663221665524 for PySem.W.S.findZ by PySem.W.S.findZ_eq
name_quick tw16593013826814733010 for PySem.W.S.findZ by PySem.W.S.findZ_eq
name_quick tw10996506086634736982 for PySem.W.S.findZ by PySem.W.S.findZ_eq
name_quick tw15278061642289888581 for PySem.W.S.findZ by PySem.W.S.findZ_eq
name_quick tw14714103240675001986 for PySem.W.S.findZ by PySem.W.S.findZ_eq
name_quick tw12237943961548833269 for PySem.W.S.findZ by PySem.W.S.findZ_eq
name_quick tw13642483538084851733 for PySem.W.S.findZ by PySem.W.S.findZ_eq
name_quick tw10887116778572429059 for PySem.W.S.findZ by PySem.W.S.findZ_eq
name_quick tw4039474712603431140 for PySem.W.S.findZ by PySem.W.S.findZ_eq
name_quick tw1218959903707654005 for PySem.W.S.findZ by PySem.W.S.findZ_eq
name_quick tw3424931102881643321 for PySem.W.S.findZ by PySem.W.S.findZ_eq
name_quick tw10205541121877940668 for PySem.W.S.findZ by PySem.W.S.findZ_eq
name_quick tw8719427161674164953 for PySem.W.S.findZ by PySem.W.S.findZ_eq
name_quick tw12832477231654346042 for PySem.W.S.findZ by PySem.W.S.findZ_eq
name_quick tw8703263022893421829 for PySem.W.S.findZ by PySem.W.S.findZ_eq
name_quick tw11313170107247368264 for PySem.W.S.findZ by PySem.W.S.findZ_eq
name_quick tw6434138532213402376 for PySem.W.S.findZ by PySem.W.S.findZ_eq
name_quick tw5349121933718820234 for PySem.W.S.findZ by PySem.W.S.findZ_eq
name_quick tw7581352650102555174 for PySem.W.S.findZ by PySem.W.S.findZ_eq
name_quick tw9151444980202551346 for PySem.W.S.findZ by PySem.W.S.findZ_eq
name_quick tw16018607276475445134 for PySem.W.S.findZ by PySem.W.S.findZ_eq
name_quick tw17954471519018878134 for PySem.W.S.findZ by PySem.W.S.findZ_eq
name_quick tw9458956999447867950 for PySem.W.S.findZ by PySem.W.S.findZ_eq
name_quick tw2478078296215019888 for PySem.W.S.findZ by PySem.W.S.findZ_eq
name_quick tw17888162413812561239 for PySem.W.S.findZ by PySem.W.S.findZ_eq
name_quick tw721709456127091705 for PySem.W.S.findZ by PySem.W.S.findZ_eq
name_quick tw4302124980754421698 for PySem.W.S.findZ by PySem.W.S.findZ_eq
name_quick tw11682084944484805031 for PySem.W.S.findZ by PySem.W.S.findZ_eq
name_quick tw11964429278604863157 for PySem.W.S.findZ by PySem.W.S.findZ_eq
name_quick tw10942035263794033107 for PySem.W.S.findZ by PySem.W.S.findZ_eq
name_quick tw17018628822417861297 for PySem.W.S.findZ by PySem.W.S.findZ_eq
name_quick tw5706481520468235054 for PySem.W.S.findZ by PySem.W.S.findZ_eq
name_quick tw9594665118957945026 for PySem.W.S.findZ by PySem.W.S.findZ_eq
name_quick tw3698559305507148144 for PySem.W.S.findZ by PySem.W.S.findZ_eq
name_quick tw6929956602132211858 for PySem.W.S.findZ by PySem.W.S.findZ_eq
name_quick tw17057272898397164401 for PySem.W.S.findZ by PySem.W.S.findZ_eq
name_quick tw5529568453561195837 for PySem.W.S.findZ by PySem.W.S.findZ_eq
name_quick tw392140993173905013 for PySem.W.S.findZ by PySem.W.S.findZ_eq
name_quick tw18056578402003937789 for PySem.W.S.findZ by PySem.W.S.findZ_eq
name_quick tw8119918657739134586 for PySem.W.S.findZ by PySem.W.S.findZ_eq
name_quick tw8537084889766193716 for PySem.W.S.findZ by PySem.W.S.findZ_eq
name_quick tw17497748084772794779 for PySem.W.S.findZ by PySem.W.S.findZ_eq
name_quick tw3976722010076183465 for PySem.W.S.findZ by PySem.W.S.findZ_eq
name_quick tw12635297910168745909 for PySem.W.S.findZ by PySem.W.S.findZ_eq
name_quick tw2354135333415324597 for PySem.W.S.findZ by PySem.W.S.findZ_eq
name_quick tw12767683915131110723 for PySem.W.S.findZ by PySem.W.S.findZ_eq
name_quick tw4558998842232669794 for PySem.W.S.findZ by PySem.W.S.findZ_eq
name_quick tw2664551874359636763 for PySem.W.S.findZ by PySem.W.S.findZ_eq
name_quick tw347637069881736656 for PySem.W.S.findZ by PySem.W.S.findZ_eq
name_quick tw13254397897704925713 for PySem.W.S.findZ by PySem.W.S.findZ_eq
name_quick tw8400853705098224536 for PySem.W.S.findZ by PySem.W.S.findZ_eq
name_quick tw18220123701641295943 for PySem.W.S.findZ by PySem.W.S.findZ_eq
name_quick tw13776390136698705113 for PySem.W.S.findZ by PySem.W.S.findZ_eq
name_quick tw9951705424602377420 for PySem.W.S.findZ by PySem.W.S.findZ_eq
name_quick tw5268983451555188008 for PySem.W.S.findZ by PySem.W.S.findZ_eq
name_quick tw6733733256287894996 for PySem.W.S.findZ by PySem.W.S.findZ_eq
name_quick tw4552823106982906706 for PySem.W.S.findZ by PySem.W.S.findZ_eq
name_quick tw11333186260410459676 for PySem.W.S.findZ by PySem.W.S.findZ_eq
name_quick tw4679858250743294509 for PySem.W.S.findZ by PySem.W.S.findZ_eq
name_quick tw4980102563643897964 for PySem.W.S.findZ by PySem.W.S.findZ_eq
name_quick tw6550987210724342151 for PySem.W.S.findZ by PySem.W.S.findZ_eq
name_quick tw9908251947323293946 for PySem.W.S.findZ by PySem.W.S.findZ_eq
name_quick tw505943868828395459 for PySem.W.S.findZ by PySem.W.S.findZ_eq
name_quick tw6792406925840432001 for PySem.W.S.findZ by PySem.W.S.findZ_eq
name_quick tw7276740287692124622 for PySem.W.S.findZ by PySem.W.S.findZ_eq
name_quick tw2905824091091238844 for PySem.W.S.findZ by PySem.W.S.findZ_eq
name_quick tw14333388528381170442 for PySem.W.S.findZ by PySem.W.S.findZ_eq
name_quick tw9763268239775435451 for PySem.W.S.findZ by PySem.W.S.findZ_eq
name_quick tw1092655722715705105 for PySem.W.S.findZ by PySem.W.S.findZ_eq
name_quick tw15766043655864335149 for PySem.W.S.findZ by PySem.W.S.findZ_eq
name_quick tw2627984346626558326 for PySem.W.S.findZ by PySem.W.S.findZ_eq
name_quick tw900395245841561262 for PySem.W.S.findZ by PySem.W.S.findZ_eq
name_quick tw11853533878840232495 for PySem.W.S.findZ by PySem.W.S.findZ_eq
name_quick tw14210447440969649564 for PySem.W.S.findZ by PySem.W.S.findZ_eq
name_quick tw5701610774189311196 for PySem.W.S.findZ by PySem.W.S.findZ_eq
name_quick tw11317593695737139937 for PySem.W.S.findZ by PySem.W.S.findZ_eq
name_quick tw6817277305950994716 for PySem.W.S.findZ by PySem.W.S.findZ_eq
name_quick tw16349216596472256690 for PySem.W.S.findZ by PySem.W.S.findZ_eq
name_quick tw12866136484021002089 for PySem.W.S.findZ by PySem.W.S.findZ_eq
name_quick tw11420187438672877268 for PySem.W.S.findZ by PySem.W.S.findZ_eq
name_quick tw5111356299099525756 for PySem.W.S.findZ by PySem.W.S.findZ_eq
name_quick tw14112274594779413971 for PySem.W.S.findZ by PySem.W.S.findZ_eq
name_quick tw11939915149646268982 for PySem.W.S.findZ by PySem.W.S.findZ_eq
name_quick tw5518745428033880147 for PySem.W.S.findZ by PySem.W.S.findZ_eq
name_quick tw15066959818950650227 for PySem.W.S.findZ by PySem.W.S.findZ_eq
name_quick tw4748654258956052638 for PySem.W.S.findZ by PySem.W.S.findZ_eq
name_quick tw16752143609539240740 for PySem.W.S.findZ by PySem.W.S.findZ_eq
name_quick tw11445135464325071761 for PySem.W.S.findZ by PySem.W.S.findZ_eq
name_quick tw3442601649717412197 for PySem.W.S.findZ by PySem.W.S.findZ_eq
name_quick tw18260038339965228139 for PySem.W.S.findZ by PySem.W.S.findZ_eq
name_quick tw6711915476519705758 for PySem.W.S.findZ by PySem.W.S.findZ_eq
name_quick tw4075660801711882420 for PySem.W.S.findZ by PySem.W.S.findZ_eq
name_quick tw3264259588550801142 for PySem.W.S.findZ by PySem.W.S.findZ_eq
name_quick tw470574548607681690 for PySem.W.S.findZ by PySem.W.S.findZ_eq
name_quick tw11452132507678324671 for PySem.W.S.findZ by PySem.W.S.findZ_eq
name_quick tw2408619945344806742 for PySem.W.S.findZ by PySem.W.S.findZ_eq
name_quick tw8424611434330503625 for PySem.W.S.findZ by PySem.W.S.findZ_eq
name_quick tw14023627001141898710 for PySem.W.S.findZ by PySem.W.S.findZ_eq
name_quick tw15480198773659482676 for PySem.W.S.findZ by PySem.W.S.findZ_eq
name_quick tw15894407043143930727 for PySem.W.S.findZ by PySem.W.S.findZ_eq
name_quick tw12635813782599140982 for PySem.W.S.findZ by PySem.W.S.findZ_eq
name_quick tw4224760802259116069 for PySem.W.S.findZ by PySem.W.S.findZ_eq
name_quick tw11729385059970357855 for PySem.W.S.findZ by PySem.W.S.findZ_eq
name_quick tw13981391230805400906 for PySem.W.S.findZ by PySem.W.S.findZ_eq
name_quick tw14326252917377295143 for PySem.W.S.findZ by PySem.W.S.findZ_eq
name_quick tw6654550962395885724 for PySem.W.S.findZ by PySem.W.S.findZ_eq
name_quick tw6245536207120538393 for PySem.W.S.findZ by PySem.W.S.findZ_eq
name_quick tw16349804527192203551 for PySem.W.S.findZ by PySem.W.S.findZ_eq
name_quick tw13512673800721320934 for PySem.W.S.findZ by PySem.W.S.findZ_eq
name_quick tw1377046205977697930 for PySem.W.S.findZ by PySem.W.S.findZ_eq
name_quick tw9564595351457756722 for PySem.W.S.findZ by PySem.W.S.findZ_eq
name_quick tw6380047634161181297 for PySem.W.S.findZ by PySem.W.S.findZ_eq
name_quick tw5135500740108067664 for PySem.W.S.findZ by PySem.W.S.findZ_eq
name_quick tw2719445374943340272 for PySem.W.S.findZ by PySem.W.S.findZ_eq
name_quick tw10470071008263537045 for PySem.W.S.findZ by PySem.W.S.findZ_eq
name_quick tw14073706353221006472 for PySem.W.S.findZ by PySem.W.S.findZ_eq
name_quick tw1772237422875290029 for PySem.W.S.findZ by PySem.W.S.findZ_eq
name_quick tw7650934615059315214 for PySem.W.S.findZ by PySem.W.S.findZ_eq
name_quick tw13317431791736044220 for PySem.W.S.findZ by PySem.W.S.findZ_eq
name_quick tw16350708796919097252 for PySem.W.S.findZ by PySem.W.S.findZ_eq
name_quick tw9529234661008812162 for PySem.W.S.findZ by PySem.W.S.findZ_eq
name_quick tw18211773271919218964 for PySem.W.S.findZ by PySem.W.S.findZ_eq
name_quick tw9467589175468403638 for PySem.W.S.findZ by PySem.W.S.findZ_eq
name_quick tw5902227825499142635 for PySem.W.S.findZ by PySem.W.S.findZ_eq
name_quick tw15742981410569661332 for PySem.W.S.findZ by PySem.W.S.findZ_eq
name_quick tw4775785305629353868 for PySem.W.S.findZ by PySem.W.S.findZ_eq
name_quick tw10317580896714288900 for PySem.W.S.findZ by PySem.W.S.findZ_eq
name_quick tw17975652961387846372 for PySem.W.S.findZ by PySem.W.S.findZ_eq
name_quick tw11566699232636054958 for PySem.W.S.findZ by PySem.W.S.findZ_eq
name_quick tw3764465048917985505 for PySem.W.S.findZ by PySem.W.S.findZ_eq
name_quick tw11310463157757771331 for PySem.W.S.findZ by PySem.W.S.findZ_eq
name_quick tw10424941004445345732 for PySem.W.S.findZ by PySem.W.S.findZ_eq
name_quick tw6122645084068987007 for PySem.W.S.findZ by PySem.W.S.findZ_eq
namespace Mine
set_option maxRecDepth 100000 in
set_option maxHeartbeats 8000000 in
open_top hd for PySem.Challenge.rw_pe0283_01
end Mine
open PySem PySem.W PyProof.Rows PySem.Spec PySem.Calls
namespace Mine
local macro_rules | `(tactic| omega) => `(tactic| (law_purse 20000 => (law_clear; lia)))
local macro_rules | `(tactic| k_room) => `(tactic| ktr_room)
local macro_rules | `(tactic| walk_at $s:str) => do
  let r := Lean.Syntax.mkStrLit ("mine " ++ s.getString)
  `(tactic| k_extra $r)
section


noncomputable def Keeps (but : List Addr) (h h' : Heap) : Prop := ∀ b o, h.get? b = some o → b ∉ but → h'.get? b = some o
theorem Keeps.all {h h' : Heap} (k : Keeps [] h h') : ∀ b o, h.get? b = some o → h'.get? b = some o := fun b o e => k b o e (fun q => nomatch q)
theorem Keeps.refl (h : Heap) : Keeps [] h h := fun _ _ e _ => e
theorem Keeps.trans {u : List Addr} {h₁ h₂ h₃ : Heap} (a : Keeps u h₁ h₂) (b : Keeps u h₂ h₃) : Keeps u h₁ h₃ := fun x o e n => b x o (a x o e n) n
theorem Keeps.fr {u : List Addr} {g L' h h' m'} (k : Keeps u h g) (F : Fr g L' h' m') : Keeps u h h' := fun b o e n => F.keep b o (k b o e n)

section
variable {prog : Program} {w : World} {A₀ A : Around} {s : Shared} {base h₀ : Heap} {outer : List Env} {L : Addr} {m : Str → Option Value} {env : Env} {news : List (Addr × Obj)} {K : Frag}
  {p : Program} {loose : List Str} {mean : ExcName → Option Value} {mg mb : Str → Option Value}
  {R : Result → Shared → Prop} {name qual : Str} {params : Arguments} {body : List Stmt} {scope : Scope} {cl : List (Str × Addr)} {dV kV doc pm cdv ct oc : Value} {an od : Option Addr} {osl : Array (Option Value)} {f : Addr} {args : Args} {binds : List (Str × Value)}

theorem hide_keeps (l : List (Addr × Obj)) (h : Heap) : Keeps (l.map (·.1)) h (hideAll h (l.map (·.1))) := fun _ _ e n => hideAll_get _ e n

/-- a plain def entered; the ghost below it keeps all but the ledger -/
theorem enterP (B : Below A₀ base outer h₀) (F : Fr h₀ L s.heap m) (X₀ : K.In h₀) (N : News h₀ L s.heap news) (T : Top p loose mean mg mb h₀) (hA : A.frames = some (env :: outer)) (hf : env.frame = some L) (hke : env.scope.kind = .function)
    (ho : K.lookup f = some ⟨oc, od, .func (fnOf name qual params body scope dV kV doc pm an cdv ct), osl⟩) (hcd : codeIn K cdv qual = true) (hroom : A.depth < recursionLimit)
    (hbind : BindsTo s (fnOf name qual params body scope dV kV doc pm an cdv ct) args binds) (hloc : ∀ y ∈ binds, scope.names.lookup y.1 = some .local)
    (h : ∀ g L' h₁, Keeps (news.map (·.1)) s.heap g → Fr h₀ L g m → Fr g L' h₁ (fun y => binds.reverse.lookup y) → News g L' h₁ news → Below A base (env :: outer) g → K.In g → Top p loose mean mg mb g →
      wpAny (model prog w) (A.deeper (envOf qual scope L' f cdv)) (execs body (envOf qual scope L' f cdv))
        (fun fl s' => LeaveK h₀ L m g R (match fl with | .ret v => v | _ => .none) s')
        (fun e s' => wpAny (model prog w) (A.deeper (envOf qual scope L' f cdv)) (leaving (envOf qual scope L' f cdv) e) (fun _ s'' => R (.error e) s'') (fun e' s'' => R (.error e') s'') s')
        { s with heap := h₁, toks := s.toks + binds.length })
    (hco : scope.isCoroutine = false) (hgen : scope.isGenerator = false) (hk : scope.kind = .function)
    (hcell : ∀ x ∈ scope.names, x.2 ≠ .cell) : codeAny (model prog w) A (.call (.ref f) args) R s := by
  obtain ⟨FG, BG, st, lv⟩ := groundX (R := R) B F N hA hf hke
  have X := X₀.keeps F.keep
  refine codeAny_call_def (fd := fnOf name qual params body scope dV kV doc pm an cdv ct) (body := body) (binds := binds) hroom (X _ _ ho) rfl (T.nolimit.keeps F.keep) (codeRec_of X hcd) rfl hbind hcell hloc (fun h₁ hns hk₁ => ?_) hco hgen hk
  refine wpAny_mono (h _ s.heap.objs.size h₁ (hide_keeps news s.heap) FG ⟨hns, fun b o e => hk₁ b o (of_hideAll _ e), Nat.le_of_eq (hideAll_size _ _)⟩ (fun q hq => ⟨hk₁ _ _ (N q hq).1, Nat.ne_of_lt (Heap.lt_size (N q hq).1), hideAll_none _ (List.mem_map_of_mem hq)⟩) BG (X₀.keeps st) (T.keeps st)) (fun fl s' hl => lv _ _ hl) fun _ _ y => y
end

noncomputable abbrev MV := Value
noncomputable abbrev MT := Tok

/-- what a call of the def at f does: m the objects that it may turn, pre what it asks of the heap, post what it hands back -/
noncomputable abbrev Fun (w : World) (f : Addr) (vs : List Value) (mu : List (Addr × Obj)) (d u : Nat) (pre : Heap → Prop) (post : Heap → Value → Heap → Prop) : Prop :=
  ∀ (p : Program) (loose : List Str) (mean : ExcName → Option Value) (mg mb : Str → Option Value) (dp un : Nat) (gd : Option (List Code)) (cn : Str) (cs : Scope) (a : Addr) (ccd : Value) (cl : List (Str × Addr)) (outer : List Env) (A₀ : Around) (base h₀ : Heap) (L : Addr) (m : Str → Option Value) (s : Shared) (Q E : Value → Shared → Prop),
    Below A₀ base outer h₀ → Fr h₀ L s.heap m → (hd.heap_39 w.params).In h₀ → News h₀ L s.heap mu → Top p loose mean mg mb h₀ → cs.kind = .function → pre s.heap → dp + d < recursionLimit → un + u < cLine →
    (∀ v h' tk', Keeps (mu.map (·.1)) s.heap h' → post s.heap v h' → Q v { s with heap := h', toks := tk' }) →
    wpAny (model PySem.Challenge.rw_pe0283_01.row.prog w) (ktrTop dp un gd cn cs L a ccd cl outer) (call (.ref f) vs) Q E s

theorem Fun.use {w : World} {f : Addr} {vs : List Value} {d u : Nat} {pre : Heap → Prop} {post : Heap → Value → Heap → Prop} (C : Fun w f vs [] d u pre post)
    {p : Program} {loose : List Str} {mean : ExcName → Option Value} {mg mb : Str → Option Value} {dp un : Nat} {gd : Option (List Code)} {cn : Str} {cs : Scope} {a : Addr} {ccd : Value} {cl : List (Str × Addr)} {outer : List Env} {A₀ : Around} {base h₀ : Heap} {L : Addr} {m : Str → Option Value} {s : Shared} {Q E : Value → Shared → Prop} {news : List (Addr × Obj)}
    (B : Below A₀ base outer h₀) (F : Fr h₀ L s.heap m) (X : (hd.heap_39 w.params).In h₀) (N : News h₀ L s.heap news) (T : Top p loose mean mg mb h₀) (hk : cs.kind = .function) (hp : pre s.heap) (hd : dp + d < recursionLimit) (hu : un + u < cLine)
    (ret : ∀ v h' tk', Fr h₀ L h' m → News h₀ L h' news → Keeps [] s.heap h' → post s.heap v h' → Q v { s with heap := h', toks := tk' }) :
    wpAny (model PySem.Challenge.rw_pe0283_01.row.prog w) (ktrTop dp un gd cn cs L a ccd cl outer) (call (.ref f) vs) Q E s :=
  C _ _ _ _ _ _ _ _ _ _ _ _ _ _ _ _ _ _ _ _ _ _ B F X News.nil T hk hp hd hu fun v h' tk' k po => ret v h' tk' (F.keeps k.all) (N.grown k.all) k po

theorem ret_pure {h : Heap} {P : Heap → Value → Heap → Prop} {s : Shared} {Q : Value → Shared → Prop} {v : Value} {h' : Heap} {tk : Nat} {g : Heap} {L' : Addr} {m' : Str → Option Value} {u : List Addr}
    (hret : ∀ v h' tk', Keeps u h h' → P h v h' → Q v { s with heap := h', toks := tk' }) (K : Keeps u h g) (F : Fr g L' h' m') (hp : P h v h') : Q v { s with heap := h', toks := tk } := hret v h' tk (K.fr F) hp


end
section
theorem strV {x y : Str} {t : Tok} (h : x = y) : Value.str x t = Value.str y t := by rw [h]
theorem intV {x y : Int} {t : Tok} (h : x = y) : Value.int x t = Value.int y t := by rw [h]
theorem boolV {x y : Bool} (h : x = y) : Value.bool x = Value.bool y := by rw [h]
noncomputable def nameOf (r o : Int) : Str := if 2 * r < o then ⟨#[(96 + r).toNat]⟩ else ⟨#[(64 + o - r).toNat]⟩
set_option maxRecDepth 100000 in
set_option maxHeartbeats 8000000 in
theorem c_name (w : World) (r o : Int) (t1 t2 : Tok) (hr : 1 ≤ r ∧ r < o ∧ o ≤ 33) :
    Fun w 256 [.int r t1, .int o t2] [] 1 8 (fun _ => True) (fun _ v _ => ∃ t, v = .str (nameOf r o) t) := by
  w_top off
  k_with_none
  unfold Fun; k_fill
  intro zp zloose zmean zmg zmb zdp zun zgd zcn zcs za zccd zcl zouter zA zbase zh₀ zL zm zs zQ zE zB zF zX zN zT zhk zhpre zhd zhu hret
  have zmu := fun q hq => And.left (zN q hq)
  refine wpAny_call ?_
  k_dflt (refine' enterP ?k1 ?k2 ?k3 ?k4 ?k5 ?kA ?kF ?kK ?k6 ?k7 ?k8 ?k9 ?kB ?_ ?c2 ?c3 ?c4 ?c5; (case kA => exact rfl); (case kF => exact rfl); (case kK => assumption); (case k1 => k_asm); (case k2 => k_asm); (case k3 => k_asm); (case k4 => k_asm); (case k5 => k_asm); (case k6 => k_is); (case k7 => k_is); (case k8 => ktr_room); (case k9 => first | exact BindsTo.of_eq rfl | exact binds_K (by k_in) rfl (by k_is) rfl rfl rfl); (case c5 => decide); (case kB => exact locs rfl); (case c2 => exact rfl); (case c3 => exact rfl); (case c4 => exact rfl); k_whole)
  intro zg zL' zh' KG zFG zF' zN' zB' zX' zT'
  (try dsimp only)
  (try k_fold)
  k_steps
  all_goals (refine hret _ _ _ (KG.fr (by k_asm)) ⟨_, strV ?_⟩; unfold nameOf; first | rw [if_pos (by omega)] | rw [if_neg (by omega)])
end
section
noncomputable def gcdF : Nat → Int → Int → Int
  | 0, a, _ => a
  | n + 1, a, b => if b = 0 then a else gcdF n b (Int.fmod a b)
noncomputable def GcdInv (x y a b : Int) : Prop := 0 ≤ a ∧ 0 ≤ b ∧ ∃ n, b.toNat < n ∧ gcdF (y.toNat + 1) x y = gcdF n a b
theorem gcd_start {x y : Int} (h : 0 ≤ x ∧ 0 ≤ y) : GcdInv x y x y := ⟨h.1, h.2, _, Nat.lt_succ_self _, rfl⟩
theorem gcd_turn {x y a b : Int} (h : GcdInv x y a b) (hb : b ≠ 0) : GcdInv x y b (Int.fmod a b) := by
  obtain ⟨ha, hb', n, hn, e⟩ := h
  have h1 := Int.fmod_nonneg ha hb'
  have h2 := Int.fmod_lt_of_pos a (show 0 < b by omega)
  cases n with
  | zero => omega
  | succ n => exact ⟨hb', h1, n, by omega, by rw [e]; simp only [gcdF]; rw [if_neg hb]⟩
theorem gcd_falls {x y a b : Int} (h : GcdInv x y a b) (hb : b ≠ 0) : (Int.fmod a b).toNat < b.toNat := by
  have h1 := Int.fmod_nonneg h.1 h.2.1
  have h2 := Int.fmod_lt_of_pos a (show 0 < b by have := h.2.1; omega)
  have := h.2.1
  omega
theorem gcd_end {x y a b : Int} (h : GcdInv x y a b) (hb : b = 0) : a = gcdF (y.toNat + 1) x y := by
  obtain ⟨_, _, n, hn, e⟩ := h
  cases n with
  | zero => omega
  | succ n => rw [e]; simp only [gcdF]; rw [if_pos hb]
set_option maxRecDepth 100000 in
set_option maxHeartbeats 8000000 in
theorem c_shared (w : World) (x y : Int) (t1 t2 : Tok) (hr : 0 ≤ x ∧ 0 ≤ y) :
    Fun w 249 [.int x t1, .int y t2] [] 1 8 (fun _ => True) (fun _ v _ => ∃ t, v = .int (gcdF (y.toNat + 1) x y) t) := by
  w_top off
  k_with_none
  unfold Fun; k_fill
  intro zp zloose zmean zmg zmb zdp zun zgd zcn zcs za zccd zcl zouter zA zbase zh₀ zL zm zs zQ zE zB zF zX zN zT zhk zhpre zhd zhu hret
  have zmu := fun q hq => And.left (zN q hq)
  refine wpAny_call ?_
  k_dflt (refine' enterP ?k1 ?k2 ?k3 ?k4 ?k5 ?kA ?kF ?kK ?k6 ?k7 ?k8 ?k9 ?kB ?_ ?c2 ?c3 ?c4 ?c5; (case kA => exact rfl); (case kF => exact rfl); (case kK => assumption); (case k1 => k_asm); (case k2 => k_asm); (case k3 => k_asm); (case k4 => k_asm); (case k5 => k_asm); (case k6 => k_is); (case k7 => k_is); (case k8 => ktr_room); (case k9 => first | exact BindsTo.of_eq rfl | exact binds_K (by k_in) rfl (by k_is) rfl rfl rfl); (case c5 => decide); (case kB => exact locs rfl); (case c2 => exact rfl); (case c3 => exact rfl); (case c4 => exact rfl); k_whole)
  intro zg zL' zh' KG zFG zF' zN' zB' zX' zT'
  (try dsimp only)
  (try k_fold)
  k_with "state" => first | exact gcd_start hr | exact gcd_turn (by assumption) (by assumption)
  k_with "measure" => exact gcd_falls (by assumption) (by assumption)
  k_with "exec While Compare cons nil" => k_while (fun _ a b => GcdInv x y a b) (fun _ a b => b.toNat) "one" "other"
  k_steps
  all_goals (refine hret _ _ _ (KG.fr (by k_asm)) ⟨_, intV (gcd_end (by assumption) (by assumption))⟩)
end
section
noncomputable def turnsF : Nat → Int → Int → Int
  | 0, _, k => k
  | n + 1, x, k => if Int.fmod (2 ^ k.toNat - 1) x ≠ 0 ∧ Int.fmod (2 ^ k.toNat + 1) x ≠ 0 then turnsF n x (k + 1) else k
noncomputable def TurnInv (x Tv k : Int) : Prop := ∃ n : Nat, (n : Int) = 17 - k ∧ turnsF n x k = Tv
theorem turn_start {x Tv : Int} (h : turnsF 16 x 1 = Tv) : TurnInv x Tv 1 := ⟨16, rfl, h⟩
theorem turn_all {x Tv k : Int} (hT : Tv ≤ 16) (h0 : 1 ≤ k) (hk : k ≤ 16) (h : TurnInv x Tv k) (h1 : Int.fmod (2 ^ k.toNat - 1) x ≠ 0) (h2 : Int.fmod (2 ^ k.toNat + 1) x ≠ 0) : 1 ≤ k + 1 ∧ k + 1 ≤ 16 ∧ TurnInv x Tv (k + 1) := by
  obtain ⟨n, hn, e⟩ := h
  cases n with
  | zero => omega
  | succ n =>
    simp only [turnsF] at e
    rw [if_pos ⟨h1, h2⟩] at e
    refine ⟨by omega, ?_, n, by omega, e⟩
    cases n with
    | zero => simp only [turnsF] at e; omega
    | succ n => omega
theorem turn_end {x Tv k : Int} (h : TurnInv x Tv k) (hk : k ≤ 16) (h1 : Int.fmod (2 ^ k.toNat - 1) x = 0 ∨ Int.fmod (2 ^ k.toNat + 1) x = 0) : k = Tv := by
  obtain ⟨n, hn, e⟩ := h
  cases n with
  | zero => omega
  | succ n =>
    simp only [turnsF] at e
    rw [if_neg (by rintro ⟨a, b⟩; rcases h1 with q | q; exact a q; exact b q)] at e
    exact e
set_option maxRecDepth 100000 in
set_option maxHeartbeats 8000000 in
theorem c_turns (w : World) (x Tv : Int) (t1 : Tok) (hr : 1 ≤ x ∧ x ≤ 33) (he : turnsF 16 x 1 = Tv) (hT : Tv ≤ 16) :
    Fun w 277 [.int x t1] [] 1 8 (fun _ => True) (fun _ v _ => ∃ t, v = .int Tv t) := by
  w_top off
  k_with_none
  unfold Fun; k_fill
  intro zp zloose zmean zmg zmb zdp zun zgd zcn zcs za zccd zcl zouter zA zbase zh₀ zL zm zs zQ zE zB zF zX zN zT zhk zhpre zhd zhu hret
  have zmu := fun q hq => And.left (zN q hq)
  refine wpAny_call ?_
  k_dflt (refine' enterP ?k1 ?k2 ?k3 ?k4 ?k5 ?kA ?kF ?kK ?k6 ?k7 ?k8 ?k9 ?kB ?_ ?c2 ?c3 ?c4 ?c5; (case kA => exact rfl); (case kF => exact rfl); (case kK => assumption); (case k1 => k_asm); (case k2 => k_asm); (case k3 => k_asm); (case k4 => k_asm); (case k5 => k_asm); (case k6 => k_is); (case k7 => k_is); (case k8 => ktr_room); (case k9 => first | exact BindsTo.of_eq rfl | exact binds_K (by k_in) rfl (by k_is) rfl rfl rfl); (case c5 => decide); (case kB => exact locs rfl); (case c2 => exact rfl); (case c3 => exact rfl); (case c4 => exact rfl); k_whole)
  intro zg zL' zh' KG zFG zF' zN' zB' zX' zT'
  (try dsimp only)
  (try k_fold)
  k_with "state" => first | exact ⟨by decide, by decide, turn_start he⟩ | exact turn_all hT (by assumption) (by assumption) (by assumption) (by assumption) (by assumption)
  k_with "measure" => omega
  k_with "exec While BoolOp cons nil" => k_while (fun _ k => 1 ≤ k ∧ k ≤ 16 ∧ TurnInv x Tv k) (fun _ k => (17 - k).toNat) "k"
  k_steps
  all_goals (refine hret _ _ _ (KG.fr (by k_asm)) ⟨_, intV (turn_end (by assumption) (by assumption) (by first | exact .inl (by assumption) | exact .inr (by assumption)))⟩)
end
section
noncomputable def subF (x y : Str) : Int := if (x == y) = true then 0 else if (Txt.lower x == Txt.lower y) = true then 1 else 2
set_option maxRecDepth 100000 in
set_option maxHeartbeats 8000000 in
theorem c_sub (w : World) (x y : Str) (t1 t2 : Tok) (hr : x.length ≤ 1000 ∧ y.length ≤ 1000) :
    Fun w 87 [.str x t1, .str y t2] [] 1 8 (fun _ => True) (fun _ v _ => ∃ t, v = .int (subF x y) t) := by
  w_top off
  k_with_none
  unfold Fun; k_fill
  intro zp zloose zmean zmg zmb zdp zun zgd zcn zcs za zccd zcl zouter zA zbase zh₀ zL zm zs zQ zE zB zF zX zN zT zhk zhpre zhd zhu hret
  have zmu := fun q hq => And.left (zN q hq)
  refine wpAny_call ?_
  k_dflt (refine' enterP ?k1 ?k2 ?k3 ?k4 ?k5 ?kA ?kF ?kK ?k6 ?k7 ?k8 ?k9 ?kB ?_ ?c2 ?c3 ?c4 ?c5; (case kA => exact rfl); (case kF => exact rfl); (case kK => assumption); (case k1 => k_asm); (case k2 => k_asm); (case k3 => k_asm); (case k4 => k_asm); (case k5 => k_asm); (case k6 => k_is); (case k7 => k_is); (case k8 => ktr_room); (case k9 => first | exact BindsTo.of_eq rfl | exact binds_K (by k_in) rfl (by k_is) rfl rfl rfl); (case c5 => decide); (case kB => exact locs rfl); (case c2 => exact rfl); (case c3 => exact rfl); (case c4 => exact rfl); k_whole)
  intro zg zL' zh' KG zFG zF' zN' zB' zX' zT'
  (try dsimp only)
  (try k_fold)
  k_steps
  all_goals (refine hret _ _ _ (KG.fr (by k_asm)) ⟨_, intV ?_⟩; unfold subF; simp_all)
end
section
noncomputable abbrev codes (x : Str) : List Nat := x.cps.toList
theorem codes_len (x : Str) : (codes x).length = x.length := by simp [codes, Str.length]
theorem str_of_codes {x y : Str} (h : codes x = codes y) : x = y := by
  obtain ⟨⟨a⟩⟩ := x; obtain ⟨⟨b⟩⟩ := y
  simp only [codes] at h
  rw [h]
theorem item_at' {x : Str} {k : Int} (h0 : 0 ≤ k) (h1 : k < x.length) : Txt.item x k = ⟨#[(codes x).getD k.toNat 0]⟩ := by
  rw [beq_iff_eq.mp (PyProof.Rows.item_closes ⟨h0, h1⟩)]
  simp [codes]
theorem item_neg' {x : Str} {k : Int} (h0 : k < 0) (h1 : -(x.length : Int) ≤ k) : Txt.item x k = ⟨#[(codes x).getD (x.length + k).toNat 0]⟩ := by
  rw [beq_iff_eq.mp (PyProof.Rows.item_closes_neg (j := k + x.length) h0 h1 rfl), show k + (x.length : Int) = x.length + k by omega]
  simp [codes]
theorem one_inj {a b : Nat} (h : (⟨#[a]⟩ : Str) = ⟨#[b]⟩) : a = b := by
  injection h with h; simpa using h
theorem slice_from' {x : Str} {k : Int} (h0 : 0 ≤ k) (h1 : k ≤ x.length) : codes (Txt.slice x (some k) none) = (codes x).drop k.toNat := by
  rw [PyProof.Rows.slice_from_eq h0 h1 rfl]
  simp only [codes]
  rw [List.take_of_length_le]
  have := codes_len x
  simp only [codes, List.length_drop] at this ⊢
  omega
noncomputable def sl (a : Str) (k : Int) : Str := Txt.slice a none (if k = 0 then none else some k)
theorem slice_whole (x : Str) : Txt.slice x none none = x := by
  unfold Txt.slice
  rw [if_pos]
  have : (PySem.Builtin.Str.strSliceIndices none none 1 x.length).length = x.length := by
    unfold PySem.Builtin.Str.strSliceIndices sliceRange
    simp only [show (1 : Int) > 0 by decide, if_true, List.length_map, List.length_range]
    split <;> omega
  rw [this]
  simp
theorem slice_to_neg' {x : Str} {k : Int} (h0 : k < 0) (h1 : -(x.length : Int) ≤ k) : codes (Txt.slice x none (some k)) = (codes x).take (x.length + k).toNat := by
  rw [beq_iff_eq.mp (PyProof.Rows.slice_closes_to_neg (k := k + x.length) h0 h1 rfl), show k + (x.length : Int) - 0 = x.length + k by omega]
  simp [codes]
theorem sl_codes {x : Str} {k : Int} (h0 : k ≤ 0) (h1 : -(x.length : Int) ≤ k) : codes (sl x k) = (codes x).take (x.length + k).toNat := by
  unfold sl
  by_cases h : k = 0
  · subst h
    rw [if_pos rfl, slice_whole, List.take_of_length_le]
    rw [codes_len]; omega
  · rw [if_neg h]
    exact slice_to_neg' (by omega) h1
theorem len_codes_take {x : Str} {n : Nat} (h : n ≤ x.length) : ((codes x).take n).length = n := by rw [List.length_take, codes_len]; omega
theorem len_of_codes {x : Str} {l : List Nat} (h : codes x = l) : x.length = l.length := by rw [← h, codes_len]

noncomputable def stripL : List Nat → List Nat → List Nat × List Nat
  | a :: as, b :: bs => if a = b then stripL as bs else (a :: as, b :: bs)
  | as, bs => (as, bs)
noncomputable def stripR (as bs : List Nat) : List Nat × List Nat := ((stripL as.reverse bs.reverse).1.reverse, (stripL as.reverse bs.reverse).2.reverse)

theorem stripL_at : ∀ (n : Nat) (as bs : List Nat), as.take n = bs.take n → n < as.length → n < bs.length → as.getD n 0 ≠ bs.getD n 0 → stripL as bs = (as.drop n, bs.drop n)
  | 0, a :: as, b :: bs, _, _, _, hd => by
    simp only [stripL, List.drop_zero]
    rw [if_neg (by simpa using hd)]
  | n + 1, a :: as, b :: bs, he, h1, h2, hd => by
    simp only [List.take_succ_cons, List.cons.injEq] at he
    simp only [stripL, List.drop_succ_cons]
    rw [if_pos he.1]
    exact stripL_at n as bs he.2 (by simpa using h1) (by simpa using h2) (by simpa using hd)
  | _, [], _, _, h1, _, _ => by simp at h1
  | _, _ :: _, [], _, _, h2, _ => by simp at h2

/-- the loop on pre -/
noncomputable def PreI (x y : Str) (k : Int) : Prop := (codes x).take k.toNat = (codes y).take k.toNat
theorem pre_start (x y : Str) : PreI x y 0 := by simp [PreI]
theorem take_succ_eq {as bs : List Nat} {n : Nat} (h : as.take n = bs.take n) (e : as.getD n 0 = bs.getD n 0) (h1 : n < as.length) (h2 : n < bs.length) : as.take (n + 1) = bs.take (n + 1) := by
  rw [List.take_succ_eq_append_getElem h1, List.take_succ_eq_append_getElem h2, h]
  simp only [List.getD_eq_getElem?_getD, List.getElem?_eq_getElem h1, List.getElem?_eq_getElem h2, Option.getD_some] at e
  rw [e]
theorem pre_turn {x y : Str} {k : Int} (h0 : 0 ≤ k) (hx : k < x.length) (hy : k < y.length) (h : PreI x y k) (e : (Txt.item x k == Txt.item y k) = true) : PreI x y (k + 1) := by
  have e' := beq_iff_eq.mp e
  rw [item_at' h0 hx, item_at' h0 hy] at e'
  have := take_succ_eq h (one_inj e') (by rw [codes_len]; omega) (by rw [codes_len]; omega)
  unfold PreI
  rw [show (k + 1).toNat = k.toNat + 1 by omega]
  exact this
/-- what stands behind the first loop -/
noncomputable def PreJ (x y : Str) (k : Int) : Prop := (codes x).take k.toNat = (codes y).take k.toNat ∧ (codes x).getD k.toNat 0 ≠ (codes y).getD k.toNat 0
theorem pre_end {x y : Str} {k : Int} (h0 : 0 ≤ k) (hx : k < x.length) (hy : k < y.length) (h : PreI x y k) (e : (Txt.item x k == Txt.item y k) = false) : PreJ x y k := by
  refine ⟨h, fun q => ?_⟩
  rw [item_at' h0 hx, item_at' h0 hy, q] at e
  simp at e
theorem pre_not {x y : Str} {k : Int} (hl : y.length = x.length) (h : PreI x y k) (hk : x.length ≤ k) (e : (x == y) = false) : False := by
  have : x = y := str_of_codes (by
    unfold PreI at h
    rw [List.take_of_length_le (by rw [codes_len]; omega), List.take_of_length_le (by rw [codes_len]; omega)] at h
    exact h)
  subst this
  simp at e
/-- what stands of the two texts that are left -/
structure Left1 (x y a b : Str) : Prop where
  one : codes a = (stripL (codes x) (codes y)).1
  two : codes b = (stripL (codes x) (codes y)).2
  ne : (codes a).getD 0 0 ≠ (codes b).getD 0 0
theorem left1_of {x y : Str} {k : Int} (hl : y.length = x.length) (h0 : 0 ≤ k) (h1 : k < x.length) (h : PreJ x y k) : Left1 x y (Txt.slice x (some k) none) (Txt.slice y (some k) none) := by
  have q := stripL_at k.toNat (codes x) (codes y) h.1 (by rw [codes_len]; omega) (by rw [codes_len]; omega) h.2
  have e1 := slice_from' (x := x) (k := k) h0 (by omega)
  have e2 := slice_from' (x := y) (k := k) h0 (by omega)
  refine ⟨by rw [e1, q], by rw [e2, q], ?_⟩
  rw [e1, e2]
  have := h.2
  simpa [List.getD_eq_getElem?_getD] using this
/-- the loop on post -/
noncomputable def PostI (a b : Str) (k : Int) : Prop := (codes a).drop (a.length + k).toNat = (codes b).drop (a.length + k).toNat
theorem post_start {a b : Str} (h : b.length = a.length) : PostI a b 0 := by
  unfold PostI
  rw [List.drop_of_length_le (by rw [codes_len]; omega), List.drop_of_length_le (by rw [codes_len]; omega)]
theorem drop_pred {as bs : List Nat} {n : Nat} (h : as.drop (n + 1) = bs.drop (n + 1)) (e : as.getD n 0 = bs.getD n 0) (h1 : n < as.length) (h2 : n < bs.length) : as.drop n = bs.drop n := by
  rw [List.drop_eq_getElem_cons h1, List.drop_eq_getElem_cons h2, h]
  simp only [List.getD_eq_getElem?_getD, List.getElem?_eq_getElem h1, List.getElem?_eq_getElem h2, Option.getD_some] at e
  rw [e]
theorem post_turn {a b : Str} {k : Int} (hl : b.length = a.length) (h0 : k ≤ 0) (h1 : -(a.length : Int) < k) (h : PostI a b k) (e : (Txt.item a (k - 1) == Txt.item b (k - 1)) = true) : PostI a b (k - 1) := by
  have e' := beq_iff_eq.mp e
  rw [item_neg' (by omega) (by omega), item_neg' (by omega) (by omega)] at e'
  have := one_inj e'
  unfold PostI at h ⊢
  rw [show ((a.length : Int) + k).toNat = ((a.length : Int) + (k - 1)).toNat + 1 by omega] at h
  rw [show (b.length : Int) = a.length by omega] at this
  exact drop_pred h this (by rw [codes_len]; omega) (by rw [codes_len]; omega)
noncomputable def PostJ (a b : Str) (k : Int) : Prop := PostI a b k ∧ (codes a).getD (a.length + (k - 1)).toNat 0 ≠ (codes b).getD (a.length + (k - 1)).toNat 0
theorem post_end {a b : Str} {k : Int} (hl : b.length = a.length) (h0 : k ≤ 0) (h1 : -(a.length : Int) < k) (h : PostI a b k) (e : (Txt.item a (k - 1) == Txt.item b (k - 1)) = false) : PostJ a b k := by
  refine ⟨h, fun q => ?_⟩
  rw [item_neg' (by omega) (by omega), item_neg' (by omega) (by omega), show (b.length : Int) = a.length by omega, q] at e
  simp at e
theorem post_not {x y a b : Str} {k : Int} (h : PostI a b k) (hk : k = -(a.length : Int)) (l : Left1 x y a b) : False := by
  unfold PostI at h
  rw [show ((a.length : Int) + k).toNat = 0 by omega] at h
  simp only [List.drop_zero] at h
  exact l.ne (by rw [h])
theorem rev_getD {l : List Nat} {i : Nat} (h : i < l.length) : l.reverse.getD i 0 = l.getD (l.length - 1 - i) 0 := by
  simp only [List.getD_eq_getElem?_getD]
  rw [List.getElem?_reverse h]
structure Left2 (x y a b : Str) : Prop where
  one : codes a = (stripR (stripL (codes x) (codes y)).1 (stripL (codes x) (codes y)).2).1
  two : codes b = (stripR (stripL (codes x) (codes y)).1 (stripL (codes x) (codes y)).2).2
theorem nk_eq {n : Nat} {k : Int} (h0 : k ≤ 0) (h1 : -(n : Int) < k) : n - (-k).toNat = ((n : Int) + k).toNat ∧ n - 1 - (-k).toNat = ((n : Int) + (k - 1)).toNat ∧ (-k).toNat < n := by omega
theorem left2_of {x y a b : Str} {k : Int} (hl : b.length = a.length) (h0 : k ≤ 0) (h1 : -(a.length : Int) < k) (l : Left1 x y a b) (h : PostJ a b k) : Left2 x y (sl a k) (sl b k) := by
  have e1 := sl_codes (x := a) (k := k) h0 (by omega)
  have e2 := sl_codes (x := b) (k := k) h0 (by omega)
  obtain ⟨n1, n2, n3⟩ := nk_eq h0 h1
  have la := codes_len a
  have lb := codes_len b
  have q := stripL_at (-k).toNat (codes a).reverse (codes b).reverse (by
      rw [List.take_reverse, List.take_reverse]
      have := h.1
      unfold PostI at this
      rw [la, lb, hl, n1, this]) (by rw [List.length_reverse, la]; exact n3) (by rw [List.length_reverse, lb, hl]; exact n3)
    (by
      rw [rev_getD (by rw [la]; exact n3), rev_getD (by rw [lb, hl]; exact n3), la, lb, hl, n2]
      exact h.2)
  have r1 : codes (sl a k) = (stripR (codes a) (codes b)).1 := by
    unfold stripR
    rw [q, e1]
    simp only
    rw [List.drop_reverse, List.reverse_reverse, la, n1]
  have r2 : codes (sl b k) = (stripR (codes a) (codes b)).2 := by
    unfold stripR
    rw [q, e2]
    simp only
    rw [List.drop_reverse, List.reverse_reverse, lb, hl, n1]
  exact ⟨by rw [r1, ← l.one, ← l.two], by rw [r2, ← l.one, ← l.two]⟩
theorem sl_len {x : Str} {k : Int} (h0 : k ≤ 0) (h1 : -(x.length : Int) ≤ k) : ((sl x k).length : Int) = x.length + k := by
  rw [len_of_codes (sl_codes h0 h1), len_codes_take (by omega)]
  omega
theorem slice_neg_len {x : Str} {k : Int} (h1 : -(x.length : Int) ≤ k) : k < 0 → ((Txt.slice x none (some k)).length : Int) = x.length + k := fun h0 => by
  rw [len_of_codes (slice_to_neg' h0 h1), len_codes_take (by omega)]
  omega
theorem sl_zero (a : Str) : sl a 0 = Txt.slice a none none := by unfold sl; rw [if_pos rfl]
theorem sl_neg {a : Str} {k : Int} (h : k ≠ 0) : sl a k = Txt.slice a none (some k) := by unfold sl; rw [if_neg h]
theorem from_len {x : Str} {k : Int} (h0 : 0 ≤ k) (h1 : k ≤ x.length) : (Txt.slice x (some k) none).length = x.length - k.toNat := by
  rw [len_of_codes (slice_from' h0 h1), List.length_drop, codes_len]
end
section
theorem ints_of_items {f : Nat → Int} : ∀ (vs : List Value) (n k : Nat), vs.length = n → (∀ (j : Nat) (v : Value), vs[j]? = some v → ∃ t, v = .int (f (j + k)) t) → IntsAre vs ((List.range n).map fun (i : Nat) => f (i + k))
  | [], n, k, e, _ => by
    subst e
    exact IntsAre.nil
  | v :: r, n, k, e, h => by
    subst e
    obtain ⟨t, ht⟩ := h 0 v rfl
    rw [List.length_cons, List.range_succ_eq_map, List.map_cons, List.map_map, ht]
    refine IntsAre.cons _ _ ?_
    have := ints_of_items (f := f) r r.length (k + 1) rfl fun j v hj => by
      obtain ⟨t', ht'⟩ := h (j + 1) v hj
      exact ⟨t', by rw [ht', show j + 1 + k = j + (k + 1) by omega]⟩
    have e : ((fun i => f (i + k)) ∘ Nat.succ) = fun i => f (i + (k + 1)) := by
      funext i
      simp only [Function.comp, show i.succ + k = i + (k + 1) by omega]
    rw [e]
    exact this
noncomputable def row0 (n : Nat) : List Int := (List.range n).map fun (i : Nat) => 2 + (i : Int) * 2
theorem row0_len (n : Nat) : (row0 n).length = n := by simp [row0]
theorem small_two {b : Int} (h0 : 0 ≤ b) (h1 : b ≤ 1000) : Builtin.Range.small 2 b 2 = true := by
  unfold Builtin.Range.small Builtin.Range.rangeSize
  simp only [Builtin.Range.rangeFitsLong, Bool.and_eq_true, Bool.or_eq_true, decide_eq_true_eq, beq_iff_eq, show (2 : Int) > 0 by decide, if_true]
  split <;> omega
theorem size_two {n : Nat} (h : 1 ≤ n) : Builtin.Range.rangeSize 2 (2 * ((n : Int) + 1)) 2 = (n : Int) := by
  unfold Builtin.Range.rangeSize
  rw [if_pos (by decide), if_pos (by omega)]
  omega
section
variable {prog : Program} {w : World} {A : Around} {E : Value → Shared → Prop} {s : Shared} {h₀ : Heap} {L r : Addr} {m : Str → Option Value} {news : List (Addr × Obj)} {t₀ u₀ v₀ : Tok} {n : Nat} {Q : Value → Shared → Prop}
theorem list_range2 (hh : A.handled = none) (F : Fr h₀ L s.heap m) (N : News h₀ L s.heap news) (hr : IsRange s.heap r 2 (2 * ((n : Int) + 1)) 2 t₀ u₀ v₀) (h1 : 1 ≤ n) (h2 : n ≤ 100)
    (h : ∀ D us c h' tk, Fr h₀ L h' m → News h₀ L h' ((D, listOf (List.toArray us) c) :: news) → (∀ p ∈ news, p.1 < D) → IntsAre us (row0 n) → Q (.ref D) { s with heap := h', toks := tk }) :
    wpAny (model prog w) A (call (.type "list") [.ref r]) Q E s := by
  refine call_list_range hh hr (small_two (by omega) (by omega)) (size_two h1) (by omega) fun h' tk acc c hk hD hI => ?_
  have hD' : h'.get? s.heap.objs.size = some (listOf (List.toArray acc.toList) c) := by
    rw [Array.toArray_toList]
    exact hD
  refine h _ acc.toList c h' tk (F.keeps hk) (news_pushed F N hk hD' rfl) (fun p hp => Heap.lt_size (N p hp).1) ?_
  have := ints_of_items (f := fun i => 2 + (i : Int) * 2) acc.toList n 0 (by rw [Array.length_toList]; exact hI.1) fun j v hj => hI.2 j v (by rw [← hj, Array.getElem?_toList])
  exact this
end
end
section
noncomputable def Hold (P : Prop) : Prop := P
theorem Hold.out {P : Prop} (h : Hold P) : P := h
section
variable {prog : Program} {w : World} {A : Around} {E : Value → Shared → Prop} {s : Shared} {env : Env} {st : Stmt} {rest : List Stmt} {Q : Flow → Shared → Prop} {g : Heap} {L : Addr} {m0 : Str → Option Value} {news : List (Addr × Obj)}
/-- what a cut asks of a statement's end: it goes on, and the frame is as before but for the named -/
noncomputable def CutEnd (g : Heap) (L : Addr) (m0 : Str → Option Value) (news : List (Addr × Obj)) {σ : Type} (upd : σ → List (Str × Value)) (P : σ → Prop) (s : Shared) (fl : Flow) (s' : Shared) : Prop :=
  ∃ (c : σ) (h' : Heap) (tk' : Nat), fl = .next ∧ s' = { s with heap := h', toks := tk' } ∧ Fr g L h' (kstB m0 (upd c)) ∧ News g L h' news ∧ P c
theorem cutEnd {σ : Type} {upd : σ → List (Str × Value)} {P : σ → Prop} (c : σ) {h' : Heap} {tk' : Nat} {m' : Str → Option Value} {news' : List (Addr × Obj)} (F : Fr g L h' m') (e : m' = kstB m0 (upd c)) (N : News g L h' news') (hn : ∀ p ∈ news, p ∈ news') (hp : P c) :
    CutEnd g L m0 news upd P s .next { s with heap := h', toks := tk' } := ⟨c, h', tk', rfl, rfl, e ▸ F, fun p hp => N p (hn p hp), hp⟩
theorem cut {σ : Type} (upd : σ → List (Str × Value)) (P : σ → Prop) (_F : Fr g L s.heap m0) (_N : News g L s.heap news)
    (h1 : wpAny (model prog w) A (exec st env) (CutEnd g L m0 news upd P s) E s)
    (h2 : ∀ c h' tk', P c → Fr g L h' (kstB m0 (upd c)) → News g L h' news → wpAny (model prog w) A (execs rest env) Q E { s with heap := h', toks := tk' }) :
    wpAny (model prog w) A (execs (st :: rest) env) Q E s := by
  refine wpAny_execs_cons (wpAny_mono h1 (fun fl s' h => ?_) fun _ _ x => x)
  obtain ⟨c, h', tk', rfl, rfl, F, N, p⟩ := h
  exact h2 c h' tk' p F N
/-- a cut that drops the ledger's made things to a part of it -/
theorem cutN {σ : Type} (upd : σ → List (Str × Value)) (P : σ → Prop) (news' : List (Addr × Obj)) (_F : Fr g L s.heap m0) (_N : News g L s.heap news)
    (h1 : wpAny (model prog w) A (exec st env) (CutEnd g L m0 news' upd P s) E s)
    (h2 : ∀ c h' tk', P c → Fr g L h' (kstB m0 (upd c)) → News g L h' news' → wpAny (model prog w) A (execs rest env) Q E { s with heap := h', toks := tk' }) :
    wpAny (model prog w) A (execs (st :: rest) env) Q E s := by
  refine wpAny_execs_cons (wpAny_mono h1 (fun fl s' h => ?_) fun _ _ x => x)
  obtain ⟨c, h', tk', rfl, rfl, F, N, p⟩ := h
  exact h2 c h' tk' p F N
end
theorem cutEndB {σ : Type} {g h' : Heap} {L : Addr} {m0 m' : Str → Option Value} {news news' : List (Addr × Obj)} {s : Shared} {upd : σ → List (Str × Value)} {P : σ → Prop} {tk' : Nat} (c : σ)
    (F : Fr g L h' m') (hk : ∀ p ∈ upd c, m' p.1 = some p.2) (hr : ∀ z, (∀ p ∈ upd c, z ≠ p.1) → m' z = m0 z) (N : News g L h' news') (hn : ∀ p ∈ news, p ∈ news') (hp : P c) :
    CutEnd g L m0 news upd P s .next { s with heap := h', toks := tk' } :=
  cutEnd c F (funext fun _ => (kstB_eq hk fun hz => (hr _ hz).symm).symm) N hn hp
theorem cutEnd1 {σ : Type} {g h' : Heap} {L : Addr} {m0 m' : Str → Option Value} {news news' : List (Addr × Obj)} {s : Shared} {x : Str} {v : σ → Value} {P : σ → Prop} {tk' : Nat} (c : σ)
    (F : Fr g L h' m') (hk : m' x = some (v c)) (hr : ∀ z, z ≠ x → m' z = m0 z) (N : News g L h' news') (hn : ∀ p ∈ news, p ∈ news') (hp : P c) :
    CutEnd g L m0 news (fun c => [(x, v c)]) P s .next { s with heap := h', toks := tk' } :=
  cutEndB c F (fun p hp => by rw [List.mem_singleton.mp hp]; exact hk) (fun z h => hr z (h _ (.head _))) N hn hp
theorem cutEnd2 {σ : Type} {g h' : Heap} {L : Addr} {m0 m' : Str → Option Value} {news news' : List (Addr × Obj)} {s : Shared} {x y : Str} {v u : σ → Value} {P : σ → Prop} {tk' : Nat} (c : σ)
    (F : Fr g L h' m') (hk : m' x = some (v c)) (hk2 : m' y = some (u c)) (hr : ∀ z, z ≠ x ∧ z ≠ y → m' z = m0 z) (N : News g L h' news') (hn : ∀ p ∈ news, p ∈ news') (hp : P c) :
    CutEnd g L m0 news (fun c => [(x, v c), (y, u c)]) P s .next { s with heap := h', toks := tk' } :=
  cutEndB c F (fun p hp => by rcases List.mem_cons.mp hp with rfl | hp; exact hk; rw [List.mem_singleton.mp hp]; exact hk2) (fun z h => hr z ⟨h _ (.head _), h _ (.tail _ (.head _))⟩) N hn hp
theorem fr_has {g h : Heap} {L : Addr} {m0 : Str → Option Value} (_F : Fr g L h m0) (x : Str) {v : Value} (_e : m0 x = some v) : True := trivial
theorem fr_map {g h : Heap} {L : Addr} {m m' : Str → Option Value} (F : Fr g L h m) (e : ∀ z, m z = m' z) : Fr g L h m' := (funext e : m = m') ▸ F
theorem lookup_kst : ∀ (l : List (Str × Value)) (z : Str), List.lookup z l = kstB (fun _ => none) l z
  | [], _ => rfl
  | (k, v) :: l, z => by
    show (match z == k with | true => some v | false => List.lookup z l) = if z = k then some v else kstB (fun _ => none) l z
    by_cases h : z = k
    · rw [if_pos h, beq_iff_eq.mpr h]
    · rw [if_neg h, beq_eq_false_iff_ne.mpr h]
      exact lookup_kst l z
theorem fr_lookup {g h : Heap} {L : Addr} {l : List (Str × Value)} (F : Fr g L h (fun y => List.lookup y l)) : Fr g L h (kstB (fun _ => none) l) := fr_map F (lookup_kst l)
end
section
structure LevS where
  d : Int
  r : Int
  m : Int
  row : List Int
noncomputable def levX (bc A : Str) (d r : Int) (row : List Int) (i : Int) : Int :=
  if d + subF bc (Txt.item A i) < (if row.getD i.toNat 0 < r then row.getD i.toNat 0 else r) + 2 then d + subF bc (Txt.item A i) else (if row.getD i.toNat 0 < r then row.getD i.toNat 0 else r) + 2
noncomputable def levIn (bc A : Str) (c : LevS) (i : Int) : LevS :=
  ⟨c.row.getD i.toNat 0, levX bc A c.d c.r c.row i, if levX bc A c.d c.r c.row i < c.m then levX bc A c.d c.r c.row i else c.m, c.row.set i.toNat (levX bc A c.d c.r c.row i)⟩
noncomputable def levRow (A B : Str) (n : Nat) (bi : Int) (row : List Int) : LevS := (rangeKs 0 n).foldl (levIn (Txt.item B bi) A) ⟨bi * 2, bi * 2, 9223372036854775807, row⟩
noncomputable def levO (mx : Int) (A B : Str) (n : Nat) : List Int → Int → List Int → Int
  | [], r, _ => r
  | bi :: rest, _, row => if mx < (levRow A B n bi row).m then mx + 1 else levO mx A B n rest (levRow A B n bi row).r (levRow A B n bi row).row
noncomputable def strOf (l : List Nat) : Str := ⟨l.toArray⟩
noncomputable def levF (mx : Int) (x y : Str) : Int :=
  if (x == y) = true then 0 else
    let p := stripL (codes x) (codes y)
    let q := stripR p.1 p.2
    levO mx (strOf q.1) (strOf q.2) q.1.length (rangeKs 0 q.1.length) 0 (row0 q.1.length)
theorem strOf_codes {x : Str} {l : List Nat} (h : codes x = l) : x = strOf l := str_of_codes (by rw [h]; simp [codes, strOf])
noncomputable def LevOut (mx : Int) (a b : Str) (V : Int) (pre : List Int) (r : Int) (row : List Int) : Prop := levO mx a b a.length ((rangeKs 0 a.length).drop pre.length) r row = V
theorem lev_start {x y a b : Str} {mx : Int} (h : Left2 x y a b) (e : (x == y) = false) : LevOut mx a b (levF mx x y) [] 0 (row0 a.length) := by
  unfold LevOut levF
  rw [if_neg (by rw [e]; decide)]
  simp only [List.length_nil, List.drop_zero]
  rw [← h.one, ← h.two, ← strOf_codes (x := a) rfl, ← strOf_codes (x := b) rfl, codes_len]
/-- the inner loop's state: what the fold has come to -/
noncomputable def LevMid (a : Str) (bc : Str) (d0 : Int) (row₀ : List Int) (pre : List Int) (d r m : Int) (row : List Int) : Prop :=
  pre.foldl (levIn bc a) ⟨d0, d0, 9223372036854775807, row₀⟩ = ⟨d, r, m, row⟩
theorem lev_mid_start {a bc : Str} {d0 : Int} {row : List Int} (h : row.length = a.length) : row.length = a.length ∧ LevMid a bc d0 row [] d0 d0 9223372036854775807 row := ⟨h, rfl⟩
theorem lev_mid_turn {a bc : Str} {d0 d r m i m' X : Int} {row₀ row : List Int} {pre : List Int} (hl : row.length = a.length) (h : LevMid a bc d0 row₀ pre d r m row) (hX : X = levX bc a d r row i) (hm : (X < m ∧ m' = X) ∨ (¬ X < m ∧ m' = m)) :
    (row.set i.toNat X).length = a.length ∧ LevMid a bc d0 row₀ (pre ++ [i]) (row.getD i.toNat 0) X m' (row.set i.toNat X) := by
  refine ⟨by rw [List.length_set]; exact hl, ?_⟩
  unfold LevMid at h ⊢
  rw [List.foldl_append, h, hX]
  simp only [List.foldl_cons, List.foldl_nil, levIn]
  rw [← hX]
  rcases hm with ⟨a, b⟩ | ⟨a, b⟩
  · rw [if_pos a, b]
  · rw [if_neg a, b]
theorem drop_range {n k : Nat} (h : k < n) : (rangeKs 0 n).drop k = (k : Int) :: (rangeKs 0 n).drop (k + 1) := by
  have hl : k < (rangeKs 0 n).length := by rw [rangeKs_length]; exact h
  rw [List.drop_eq_getElem_cons hl]
  congr 1
  simp [rangeKs]
theorem lev_row {mx : Int} {a b : Str} {V r0 bi : Int} {row₀ : List Int} {pre : List Int} (hO : LevOut mx a b V pre r0 row₀) (hb : bi = (pre.length : Int)) (hlt : pre.length < a.length) :
    (if mx < (levRow a b a.length bi row₀).m then mx + 1 else levO mx a b a.length ((rangeKs 0 a.length).drop (pre.length + 1)) (levRow a b a.length bi row₀).r (levRow a b a.length bi row₀).row) = V := by
  unfold LevOut at hO
  rw [drop_range hlt, ← hb] at hO
  exact hO
theorem lev_mid_row {a b : Str} {d r m bi : Int} {row₀ row : List Int} {k : Nat} (hk : k = a.length) (hM : LevMid a (Txt.item b bi) (bi * 2) row₀ (rangeKs 0 k) d r m row) : levRow a b a.length bi row₀ = ⟨d, r, m, row⟩ := by
  subst hk
  exact hM
theorem lev_out_turn {mx : Int} {a b : Str} {V r0 d r m bi : Int} {row₀ row : List Int} {pre : List Int} {k : Nat} (hl : row.length = a.length) (hO : LevOut mx a b V pre r0 row₀) (hM : LevMid a (Txt.item b bi) (bi * 2) row₀ (rangeKs 0 k) d r m row)
    (hn : ¬ mx < m) (hk : k = a.length) (hb : bi = (pre.length : Int)) (hlt : pre.length < a.length) : row.length = a.length ∧ LevOut mx a b V (pre ++ [bi]) r row := by
  refine ⟨hl, ?_⟩
  have := lev_row hO hb hlt
  rw [lev_mid_row hk hM, if_neg hn] at this
  unfold LevOut
  rw [List.length_append]
  exact this
theorem lev_out_exit {mx : Int} {a b : Str} {V r0 d r m bi : Int} {row₀ row : List Int} {pre : List Int} {k : Nat} (hO : LevOut mx a b V pre r0 row₀) (hM : LevMid a (Txt.item b bi) (bi * 2) row₀ (rangeKs 0 k) d r m row)
    (hn : mx < m) (hk : k = a.length) (hb : bi = (pre.length : Int)) (hlt : pre.length < a.length) : mx + 1 = V := by
  have := lev_row hO hb hlt
  rw [lev_mid_row hk hM, if_pos hn] at this
  exact this
theorem lev_out_done {mx : Int} {a b : Str} {V r : Int} {row : List Int} {k : Nat} (hO : LevOut mx a b V (rangeKs 0 k) r row) (hk : k = a.length) : r = V := by
  unfold LevOut at hO
  rw [rangeKs_length, List.drop_of_length_le (by rw [rangeKs_length]; omega)] at hO
  exact hO
theorem lev_eq {mx : Int} {x y : Str} (h : (x == y) = true) : 0 = levF mx x y := by unfold levF; rw [if_pos h]
end
section
section
variable {prog : Program} {w : World} {A₀ A : Around} {s : Shared} {base h₀ : Heap} {outer : List Env} {L : Addr} {m : Str → Option Value} {env : Env} {news : List (Addr × Obj)} {K : Frag}
  {p : Program} {loose : List Str} {mean : ExcName → Option Value} {mg mb : Str → Option Value}
  {R : Result → Shared → Prop} {name qual : Str} {params : Arguments} {body : List Stmt} {scope : Scope} {cl : List (Str × Addr)} {dV kV doc pm cdv ct oc : Value} {an od : Option Addr} {osl : Array (Option Value)} {f : Addr} {args : Args} {binds : List (Str × Value)}
/-- a def with cells entered; the ghost below it keeps all but the ledger -/
theorem enterC (B : Below A₀ base outer h₀) (F : Fr h₀ L s.heap m) (X₀ : K.In h₀) (N : News h₀ L s.heap news) (T : Top p loose mean mg mb h₀) (hA : A.frames = some (env :: outer)) (hf : env.frame = some L) (hke : env.scope.kind = .function)
    (ho : K.lookup f = some ⟨oc, od, .func (fnOf name qual params body scope dV kV doc pm an cdv ct), osl⟩) (hcd : codeIn K cdv qual = true) (hroom : A.depth < recursionLimit)
    (hbind : BindsTo s (fnOf name qual params body scope dV kV doc pm an cdv ct) args binds) (hkind : (binds.all fun y => scope.names.lookup y.1 == some .local || scope.names.lookup y.1 == some .cell) = true)
    (hnd : ((cellsFrom 0 scope.names []).map (·.1)).Nodup)
    (h : ∀ g L' h₁ tk cells, Keeps (news.map (·.1)) s.heap g → s.heap.objs.size ≤ L' → Fr h₀ L g m → Fr g L' h₁ (bindL (envOfC qual scope L' f cdv).kindOf binds fun _ => none) → News g L' h₁ (cells ++ news) →
      CellsAre (bindC (envOfC qual scope L' f cdv).kindOf binds fun _ => none) (cellsFrom (L' + 1) scope.names []) cells → Below A base (env :: outer) g → K.In g → Top p loose mean mg mb g → (∀ p ∈ news, p.1 < L') →
      wpAny (model prog w) (A.deeper (envOfC qual scope L' f cdv)) (execs body (envOfC qual scope L' f cdv))
        (fun fl s' => LeaveK h₀ L m g R (match fl with | .ret v => v | _ => .none) s')
        (fun e s' => wpAny (model prog w) (A.deeper (envOfC qual scope L' f cdv)) (leaving (envOfC qual scope L' f cdv) e) (fun _ s'' => R (.error e) s'') (fun e' s'' => R (.error e') s'') s')
        { s with heap := h₁, toks := tk })
    (hco : scope.isCoroutine = false) (hgen : scope.isGenerator = false) (hk : scope.kind = .function) : codeAny (model prog w) A (.call (.ref f) args) R s := by
  obtain ⟨FG, BG, st, lv⟩ := groundX (R := R) B F N hA hf hke
  have X := X₀.keeps F.keep
  have lim := T.nolimit.keeps F.keep
  refine codeAny_call_function hroom (X _ _ ho) rfl hco hgen rfl (codeRec_of X hcd) (hbind _ _ _ _ ?_)
  refine wpAny_newFunctionEnv_cells hk (kindsX hkind _) fun env' he s' x => ?_
  subst he
  have up := x.toInCall.keep
  refine ⟨lim.keeps up, codeAny_func ?_⟩
  obtain ⟨h₁, tk, rfl, _⟩ := x.done
  obtain ⟨cells, NC, Y⟩ := Cl.news (h₀ := s.heap) (Nat.le_refl _) fun n c hm => ⟨x.cell n c (lookup_of_mem_nodup (cellsFrom_names scope.names 0 (s.heap.objs.size + 1) [] [] rfl ▸ hnd) hm), x.above n c hm⟩
  have NN : News (hideAll s.heap (news.map (·.1))) s.heap.objs.size h₁ (cells ++ news) := fun q hq => by
    rcases List.mem_append.mp hq with hq | hq
    · refine ⟨(NC q hq).1, (NC q hq).2.1, ?_⟩
      cases e : (hideAll s.heap (news.map (·.1))).get? q.1 with
      | none => rfl
      | some o => have := of_hideAll _ e; rw [(NC q hq).2.2] at this; cases this
    · exact ⟨up _ _ (N q hq).1, Nat.ne_of_lt (Heap.lt_size (N q hq).1), hideAll_none _ (List.mem_map_of_mem hq)⟩
  exact wpAny_mono (h _ s.heap.objs.size h₁ tk cells (hide_keeps news s.heap) (Nat.le_refl _) FG ⟨x.toInCall.ns, fun b o e => up b o (of_hideAll _ e), Nat.le_of_eq (hideAll_size _ _)⟩ NN Y BG (X₀.keeps st) (T.keeps st) (fun q hq => Heap.lt_size (N q hq).1)) (fun fl s' hl => lv _ _ hl) fun _ _ y => y
end
end
section
noncomputable def NewAt (h h' : Heap) (v : Value) (o : Obj) : Prop := ∃ D, v = .ref D ∧ h.get? D = none ∧ h'.get? D = some o
theorem newAt {h g h' : Heap} {L D : Addr} {o : Obj} {news : List (Addr × Obj)} (K : Keeps [] h g) (N : News g L h' news) (hm : (D, o) ∈ news) : NewAt h h' (.ref D) o := by
  have n := N _ hm
  refine ⟨D, rfl, ?_, n.1⟩
  cases e : h.get? D with
  | none => rfl
  | some o' => have := K.all _ _ e; rw [n.2.2] at this; cases this
noncomputable def AllNe (d : Addr) : List (Addr × Obj) → Prop
  | [] => True
  | p :: r => @Ne Nat p.1 d ∧ AllNe d r
theorem allNe_of {d : Addr} : ∀ {l : List (Addr × Obj)}, (∀ p ∈ l, p.1 ≠ d) → AllNe d l
  | [], _ => trivial
  | p :: _, h => ⟨h p (.head _), allNe_of fun q hq => h q (.tail _ hq)⟩
theorem news_new {h₀ h h' : Heap} {L D : Addr} {m : Str → Option Value} {o : Obj} {news : List (Addr × Obj)} (F : Fr h₀ L h m) (N : News h₀ L h news) (k : Keeps [] h h') (hn : h.get? D = none) (ho : h'.get? D = some o) :
    News h₀ L h' ((D, o) :: news) ∧ ∀ p ∈ news, p.1 ≠ D := by
  refine ⟨fun p hp => ?_, fun p hp e => ?_⟩
  · rcases List.mem_cons.mp hp with rfl | hp
    · refine ⟨ho, fun e => ?_, ?_⟩
      · obtain ⟨oL, _, _, hL, _⟩ := F.ns
        rw [show L = D from e.symm] at hL
        rw [hn] at hL; cases hL
      · cases e : h₀.get? D with
        | none => rfl
        | some o' => have := F.keep _ _ e; rw [hn] at this; cases this
    · exact ⟨k.all _ _ (N p hp).1, (N p hp).2⟩
  · have := (N p hp).1; rw [e, hn] at this; cases this
theorem Fun.useNew {w : World} {f : Addr} {vs : List Value} {d u : Nat} {pre : Heap → Prop} {σ : Type} {o : σ → Obj} {Rr : σ → Prop} (C : Fun w f vs [] d u pre (fun h v h' => ∃ x : σ, NewAt h h' v (o x) ∧ Rr x))
    {p : Program} {loose : List Str} {mean : ExcName → Option Value} {mg mb : Str → Option Value} {dp un : Nat} {gd : Option (List Code)} {cn : Str} {cs : Scope} {a : Addr} {ccd : Value} {cl : List (Str × Addr)} {outer : List Env} {A₀ : Around} {base h₀ : Heap} {L : Addr} {m : Str → Option Value} {s : Shared} {Q E : Value → Shared → Prop} {news : List (Addr × Obj)}
    (B : Below A₀ base outer h₀) (F : Fr h₀ L s.heap m) (X : (hd.heap_39 w.params).In h₀) (N : News h₀ L s.heap news) (T : Top p loose mean mg mb h₀) (hk : cs.kind = .function) (hp : pre s.heap) (hd : dp + d < recursionLimit) (hu : un + u < cLine)
    (ret : ∀ D x h' tk', Fr h₀ L h' m → News h₀ L h' ((D, o x) :: news) → (∀ p ∈ news, p.1 ≠ D) → Rr x → Q (.ref D) { s with heap := h', toks := tk' }) :
    wpAny (model PySem.Challenge.rw_pe0283_01.row.prog w) (ktrTop dp un gd cn cs L a ccd cl outer) (call (.ref f) vs) Q E s :=
  C _ _ _ _ _ _ _ _ _ _ _ _ _ _ _ _ _ _ _ _ _ _ B F X News.nil T hk hp hd hu fun v h' tk' k po => by
    obtain ⟨x, ⟨D, rfl, hn, ho⟩, r⟩ := po
    obtain ⟨N', ne⟩ := news_new F N k hn ho
    exact ret D x h' tk' (F.keeps k.all) N' ne r
noncomputable abbrev tupOf (vs : List Value) : Obj := { cls := .type "tuple", data := .seq vs.toArray }
theorem keeps_ro {mu news' : List (Addr × Obj)} {h g h' : Heap} {L' : Addr} {m' : Str → Option Value} (zmu : ∀ q ∈ mu, h.get? q.1 = some q.2) (K : Keeps (mu.map (·.1)) h g) (F : Fr g L' h' m') (N : News g L' h' news') (hs : ∀ p ∈ mu, p ∈ news') : Keeps [] h h' := fun b o e _ => by
  by_cases hb : b ∈ mu.map (·.1)
  · obtain ⟨p, hp, rfl⟩ := List.mem_map.mp hb
    have q := zmu p hp
    rw [e] at q
    rw [Option.some.inj q]
    exact (N p (hs p hp)).1
  · exact F.keep b o (K b o e hb)
end
section
theorem plainAttrs_re : PlainAttrs "re.Pattern" :=
  ⟨⟨"object.__getattribute__", by rw [typeLookup_type, builtinLookup_eq_fast]; kernel_rfl, by decide +kernel⟩, by rw [typeLookup_type, builtinLookup_eq_fast]; kernel_rfl⟩
theorem slot_re_search : Slot "re.Pattern" "search" "re.Pattern.search" :=
  .of (owner := "re.Pattern") (n := "search") (by rw [typeLookup_type, builtinLookup_eq_fast]; kernel_rfl) (by decide +kernel) (by decide +kernel) (by decide +kernel)
    (by first | exact .inl (by decide +kernel) | exact .inr (by decide +kernel)) (by rw [isSubtype_type]; kernel_rfl)
theorem type_re_search : typeOf (.builtin "re.Pattern.search") = pure (.type "method_descriptor") := by show builtinType _ = _; rw [builtinType_eq_fast]; kernel_rfl
theorem entry_re_search : entryFor table "re.Pattern.search" = some Builtin.«re.Pattern.search» := entryFor_of_tree (by kernel_rfl)
theorem args_re_search (a b : Value) : argsOk "re.Pattern.search" ⟨[a, b], []⟩ := by
  unfold argsOk; kernel_rfl
open PySem.Builtin.Re in
/-- the machine's run told to its end -/
noncomputable def reEnds : Nat → Sre.M → Option Sre.M
  | 0, _ => none
  | n + 1, m => match (m.runFor reTurnSteps).outcome.isSome with
    | true => some (m.runFor reTurnSteps)
    | false => reEnds n (m.runFor reTurnSteps)
noncomputable def reFails (m : Sre.M) : Bool := match reEnds 40 m with
  | some m' => match m'.outcome with
    | some .failed => true
    | _ => false
  | none => false
section
open PySem.Builtin.Re
variable {M : Model} {w : World} {A : Around} {E : Value → Shared → Prop} {s : Shared}
theorem drive_ends : ∀ (n turns : Nat) (m m' : Sre.M) {Q : Sre.M → Shared → Prop}, reEnds n m = some m' → n ≤ turns → Q m' s → wpAny M A (reDrive turns m) Q E s
  | 0, _, _, _, _, e, _, _ => by cases e
  | n + 1, 0, _, _, _, _, h, _ => by omega
  | n + 1, t + 1, m, m', Q, e, h, hQ => by
    unfold reEnds at e
    unfold reDrive
    cases hb : (m.runFor reTurnSteps).outcome.isSome with
    | true =>
      rw [hb] at e
      cases e
      simp only [hb, if_true]
      exact wpAny_pure hQ
    | false =>
      rw [hb] at e
      simp only [hb, Bool.false_eq_true, if_false]
      exact wpAny_bind (wpAny_rule (drive_ends n t _ m' e (by omega) hQ))
theorem rules_pass {f : Nat → PUnit → Sem (ForInStep PUnit)} (hf : ∀ i u (Q : ForInStep PUnit → Shared → Prop), Q (.yield ⟨⟩) s → wpAny M A (f i u) Q E s) : ∀ (l : List Nat) (u : PUnit) {Q : PUnit → Shared → Prop}, (∀ u, Q u s) →
    wpAny M A (forIn l u f) Q E s
  | [], _, _, h => by rw [List.forIn_nil]; exact wpAny_pure (h _)
  | i :: l, u, _, h => by
    rw [List.forIn_cons]
    exact wpAny_bind (hf i u _ (rules_pass hf l _ h))
theorem run_fails {m : Sre.M} (h : reFails m = true) {Q : Option Sre.M → Shared → Prop} (hQ : Q none s) : wpAny M A (reRunToEnd m) Q E s := by
  unfold reFails at h
  cases e : reEnds 40 m with
  | none => rw [e] at h; cases h
  | some m' =>
    rw [e] at h
    unfold reRunToEnd
    refine wpAny_bind (drive_ends 40 _ m m' e (by decide) ?_)
    have ho : m'.outcome = some .failed := by
      dsimp only at h
      cases q : m'.outcome with
      | none => rw [q] at h; cases h
      | some o => cases o <;> first | rfl | (rw [q] at h; cases h)
    refine wpAny_bind (rules_pass (fun i u Q hq => ?_) _ _ fun _ => ?_)
    · split
      · exact wpAny_bind (wpAny_rule (wpAny_pure hq))
      · exact wpAny_pure hq
    · rw [ho]
      exact wpAny_pure hQ
theorem search_none {a c : Addr} {o oc : Obj} {fs items : Array Value} {n : Nat} {x : Str} {t : Tok} {Q : Value → Shared → Prop} (ho : s.heap.get? a = some o) (hd : o.data = .fields fs) (hcls : o.cls = .type "re.Pattern") (h5 : fs.getD 5 .none = .ref c) (h6 : reRawNat (fs.getD 6 .none) = 0)
    (hc : s.heap.get? c = some oc) (hcd : oc.data = .seq items n) (hf : reFails (Sre.forSearch ((items.map reRawOf).map (·.toNat)) x.cps (reRawNat (fs.getD 2 .none)) 0 x.length false) = true) (hx : x.length ≤ 1000) (h : Q .none s) :
    wpAny (model PySem.Challenge.rw_pe0283_01.row.prog w) A (call (.builtin "re.Pattern.search") [.ref a, .str x t]) Q E s := by
  refine wpAny_call_entry slot_re_search ⟨_, ho, hcls⟩ entry_re_search ?_ (args_re_search _ _)
  unfold Builtin.«re.Pattern.search»
  have hn : reNamed "re.Pattern.search" "search" ["string", "pos", "endpos"] 1 [.str x t] [] = pure [some (.str x t), none, none] := by kernel_rfl
  unfold reTarget
  simp only [hn]
  refine wpAny_bind (wpAny_bind (wpAny_pure ?_))
  dsimp only
  refine wpAny_bind (wpAny_pure (wpAny_bind (wpAny_pure (wpAny_bind (wpAny_fieldsOf ho hd ?_)))))
  refine wpAny_bind (m := reTextOf (.str x t)) (wpAny_pure ?_)
  rw [h6]
  dsimp only
  rw [if_neg (by decide), if_neg (by decide)]
  refine wpAny_bind (m := reNoCollectionInside _ _) (wpAny_pure ?_)
  rw [h5]
  refine wpAny_bind (m := reRawItems (.ref c)) (wpAny_bind (wpAny_seqItems hc hcd (wpAny_pure ?_)))
  refine wpAny_pure ?_
  unfold reAnswer
  refine wpAny_bind (run_fails ?_ (wpAny_pure ⟨_, rfl, h⟩))
  dsimp only
  rw [show min (Int.toNat 0) x.cps.size = 0 by simp, show min (2 ^ 63 - 1 : Int).toNat x.cps.size = x.length from Nat.min_eq_right (by show x.length ≤ _; omega)]
  exact hf
end
noncomputable def codeOf (K : Frag) (c : Addr) : Array Nat := match K.lookup c with
  | some ⟨_, _, .seq items _, _⟩ => (items.map PySem.Builtin.Re.reRawOf).map (·.toNat)
  | _ => #[]
noncomputable def reOk (K : Frag) (c : Addr) (x : Str) : Bool := reFails (Sre.forSearch (codeOf K c) x.cps 0 0 x.length false)
section
open PySem.Builtin.Re
variable {w : World} {A : Around} {E : Value → Shared → Prop} {s : Shared} {K : Frag} {g : Heap} {L a c : Addr} {m : Str → Option Value} {fs items : Array Value} {sl sl' : Array (Option Value)} {nn : Nat} {x : Str} {t : Tok}
theorem re_method {pl : Sem Bool} {Q : Value × List Value → Shared → Prop} (F : Fr g L s.heap m) (X : K.In g) (hl : K.lookup a = some ⟨.type "re.Pattern", none, .fields fs, sl⟩) (h : Q (.builtin "re.Pattern.search", [.ref a]) s) :
    wpAny (model PySem.Challenge.rw_pe0283_01.row.prog w) A (getMethod (.ref a) (Str.ofString "search") pl) Q E s :=
  have ho := F.keep _ _ (X _ _ hl)
  getMethod_builtin ⟨_, ho, rfl⟩ plainAttrs_re slot_re_search type_re_search (fun b e => by cases e; exact ⟨_, ho, rfl⟩) h
theorem search_K {Q : Value → Shared → Prop} (F : Fr g L s.heap m) (X : K.In g) (hl : K.lookup a = some ⟨.type "re.Pattern", none, .fields fs, sl⟩) (h5 : fs.getD 5 .none = .ref c) (h6 : reRawNat (fs.getD 6 .none) = 0) (h2 : reRawNat (fs.getD 2 .none) = 0)
    (hlc : K.lookup c = some ⟨.type "tuple", none, .seq items nn, sl'⟩) (hf : reOk K c x = true) (hx : x.length ≤ 1000) (h : Q .none s) :
    wpAny (model PySem.Challenge.rw_pe0283_01.row.prog w) A (call (.builtin "re.Pattern.search") [.ref a, .str x t]) Q E s := by
  refine search_none (F.keep _ _ (X _ _ hl)) rfl rfl h5 h6 (F.keep _ _ (X _ _ hlc)) rfl ?_ hx h
  have : codeOf K c = (items.map reRawOf).map (·.toNat) := by unfold codeOf; rw [hlc]
  rw [← this, h2]
  exact hf
end
inductive PairsAt (h : Heap) : List Value → List (Str × Str) → Prop
  | nil : PairsAt h [] []
  | cons {a : Addr} {k v : Str} {t u : Tok} {r : List Value} {ps : List (Str × Str)} : h.get? a = some (tupOf [.str k t, .str v u]) → k.length ≤ 16 → v.length ≤ 16 → PairsAt h r ps → PairsAt h (.ref a :: r) ((k, v) :: ps)
theorem PairsAt.keep {h h' : Heap} (k : ∀ a vs, h.get? a = some (tupOf vs) → h'.get? a = some (tupOf vs)) {r : List Value} {ps : List (Str × Str)} (P : PairsAt h r ps) : PairsAt h' r ps := by
  induction P with
  | nil => exact .nil
  | cons e a b _ ih => exact .cons (k _ _ e) a b ih
noncomputable def findF (x : Str) : List (Str × Str) → Option Str
  | [] => none
  | p :: r => if (Txt.lower p.1 == x) = true then some p.2 else findF x r
end
section
section
variable {prog : Program} {w : World} {A : Around} {E : Value → Shared → Prop} {s : Shared} {env : Env} {h₀ : Heap} {target : Expr} {body : List Stmt} {Q : Flow → Shared → Prop}
/-- the end of a turn of a loop over a list: the state c' that it comes to -/
noncomputable def TurnEnd {σ : Type} (h₀ : Heap) (L : Addr) (I : Addr) (it : Obj) (stored : List Str) (m₀ : Str → Option Value) (Led : σ → List (Addr × Obj)) (ps : σ → List (Str × Value)) (P : σ → Prop) (s₁ s₂ : Shared) : Prop :=
  ∃ (c : σ) (h' : Heap) (tk : Nat) (m' : Str → Option Value) (news' : List (Addr × Obj)), s₂ = { s₁ with heap := h', toks := tk } ∧ Fr h₀ L h' m' ∧ News h₀ L h' news' ∧ (I, it) ∈ news' ∧ (∀ p ∈ Led c, p ∈ news') ∧ (∀ p ∈ Led c, p.1 ≠ I) ∧
    (∀ p ∈ ps c, m' p.1 = some p.2) ∧ (∀ z, (∀ p ∈ ps c, z ≠ p.1) → stored.contains z = false → m' z = m₀ z) ∧ P c
noncomputable def TurnPost {σ : Type} (h₀ : Heap) (L : Addr) (I : Addr) (it : Obj) (stored : List Str) (m₀ : Str → Option Value) (Led : σ → List (Addr × Obj)) (ps : σ → List (Str × Value)) (P : σ → Prop) (s₁ : Shared) (Q : Flow → Shared → Prop) (f : Flow) (s₂ : Shared) : Prop :=
  match f with
  | .ret v => Q (.ret v) s₂
  | .brk => Q .next s₂
  | _ => TurnEnd h₀ L I it stored m₀ Led ps P s₁ s₂
theorem turnEnd {σ : Type} {L : Addr} {I : Addr} {it : Obj} {stored : List Str} {m₀ m' : Str → Option Value} {Led : σ → List (Addr × Obj)} {ps : σ → List (Str × Value)} {P : σ → Prop} {s₁ : Shared} {h' : Heap} {tk : Nat} {news' : List (Addr × Obj)} (c : σ)
    (F : Fr h₀ L h' m') (N : News h₀ L h' news') (hI : (I, it) ∈ news') (hn : ∀ p ∈ Led c, p ∈ news') (hne : ∀ p ∈ Led c, p.1 ≠ I) (hk : ∀ p ∈ ps c, m' p.1 = some p.2) (hr : ∀ z, (∀ p ∈ ps c, z ≠ p.1) → stored.contains z = false → m' z = m₀ z) (hp : P c) :
    TurnEnd h₀ L I it stored m₀ Led ps P s₁ { s₁ with heap := h', toks := tk } := ⟨c, h', tk, m', news', rfl, F, N, hI, hn, hne, hk, hr, hp⟩

theorem list_loop {σ : Type} {l : Addr} {n : Nat} {vs : List Value} {m₀ : Str → Option Value} (stored : List Str) (Led : σ → List (Addr × Obj)) (ps : σ → List (Str × Value)) (P : List Value → σ → Prop) (c₀ : σ)
    (hh : A.handled = none) (F : Fr h₀ env.locals s.heap m₀) (N : News h₀ env.locals s.heap (Led c₀)) (hm : ∀ c, (l, listOf vs.toArray n) ∈ Led c) (hk : ∀ p ∈ ps c₀, m₀ p.1 = some p.2) (h0 : P vs c₀)
    (turn : ∀ (c : σ) (I : Addr) (it : Obj) (v : Value) (r : List Value) (u : Str → Option Value) (h : Heap) (tk : Nat), it.cls = .type "list_iterator" → P (v :: r) c → Fr h₀ env.locals h (kstB (fun z => if stored.contains z then u z else m₀ z) (ps c)) → News h₀ env.locals h ((I, it) :: Led c) →
      wpAny (model prog w) A (assign target env v) (fun _ s₂ => wpAny (model prog w) A (execs body env) (TurnPost h₀ env.locals I it stored m₀ Led ps (P r) { s with heap := h, toks := tk } Q) E s₂) E { s with heap := h, toks := tk })
    (done : ∀ (c : σ) (u : Str → Option Value) (h : Heap) (tk : Nat), P [] c → Fr h₀ env.locals h (kstB (fun z => if stored.contains z then u z else m₀ z) (ps c)) → News h₀ env.locals h (Led c) → Q .next { s with heap := h, toks := tk }) :
    wpAny (model prog w) A (pyIter (.ref l)) (fun it s₂ => TurnsAt prog w A h₀ env target body Q E it s₂) E s := by
  refine iter_listTurns hh F N (hm c₀) rfl rfl fun I _ => ?_
  have key : ∀ (xs : List Value) (m : Str → Option Value) (c : σ), (∀ p ∈ ps c, m p.1 = some p.2) → (∀ z, (∀ p ∈ ps c, z ≠ p.1) → stored.contains z = false → m z = m₀ z) → P xs c →
      ItemsRest prog w A E h₀ env target body Q s [(I, "list_iterator")] [(l, listOf vs.toArray n)] (xs.map .val) m (Led c) := by
    intro xs
    induction xs with
    | nil => exact fun m c h1 h2 hp h tk F N => done c m h tk hp (ksw_fr h1 h2 F) N
    | cons v r ih =>
      intro m c h1 h2 hp
      refine ItemsRest.val fun h tk F => AllObj.cons fun it hit => AllObj.nil fun N => ?_
      refine wpAny_mono (turn c I it v r m h tk hit hp (ksw_fr h1 h2 F) N) (fun _ s₂ q => wpAny_mono q (fun f s₃ q => ?_) fun _ _ e => e) fun _ _ e => e
      have fin : TurnEnd h₀ env.locals I it stored m₀ Led ps (P r) { s with heap := h, toks := tk } s₃ → UnrEndW h₀ env.locals { s with heap := h, toks := tk } [(I, it)] (fun m' n' => SubL [(l, listOf vs.toArray n)] n' ∧ ItemsRest prog w A E h₀ env target body Q s [(I, "list_iterator")] [(l, listOf vs.toArray n)] (r.map .val) m' n') s₃ := by
        rintro ⟨c', h', tk', m', news', rfl, F', N', hI, hn, hne, hk', hr', hp'⟩
        refine ⟨h', tk', m', Led c', rfl, F', fun p hp => ?_, fun p hp q hq => ?_, ⟨hm c', trivial⟩, ih m' c' hk' hr' hp'⟩
        · rcases List.mem_append.mp hp with hp | hp
          · rw [List.mem_singleton.mp hp]; exact N' _ hI
          · exact N' _ (hn p hp)
        · rw [List.mem_singleton.mp hq]; exact hne p hp
      cases f with
      | ret v => exact q
      | brk => exact q
      | next => exact fin q
      | cont => exact fin q
  exact key vs m₀ c₀ hk (fun _ _ _ => rfl) h0
end
theorem ne_of_cls {h₀ h : Heap} {L I : Addr} {it : Obj} {news : List (Addr × Obj)} {p : Addr × Obj} (N : News h₀ L h news) (hI : (I, it) ∈ news) (hp : p ∈ news) (hc : p.2.cls ≠ it.cls) : p.1 ≠ I := fun e => by
  have h1 := (N _ hp).1
  rw [e, (N _ hI).1] at h1
  exact hc (by rw [← Option.some.inj h1])
end
section
noncomputable def hdrOf (w : World) (tk : Tok) (l : Addr) : List DictEntry := [⟨PyData.keyHash w.params (Str.ofString "_headers"), .str (Str.ofString "_headers") tk, .ref l⟩]
theorem pairs_get {h g : Heap} {L tb dx l : Addr} {refs : List Value} {ps : List (Str × Str)} {w : World} {n nn : Nat} {tk : Tok} {h₀ : Heap} (N : ∀ q ∈ [(tb, instObj 238 dx), (dx, dictOf (hdrOf w tk l) n), (l, listOf refs.toArray nn)], h.get? q.1 = some q.2)
    (K : Keeps ([(tb, instObj 238 dx), (dx, dictOf (hdrOf w tk l) n), (l, listOf refs.toArray nn)].map (·.1)) h g) (P : PairsAt h refs ps) : PairsAt g refs ps := by
  refine P.keep fun a vs e => K a _ e fun hm => ?_
  simp only [List.map_cons, List.map_nil, List.mem_cons, List.not_mem_nil, or_false] at hm
  have h1 := N (tb, instObj 238 dx) (by simp)
  have h2 := N (dx, dictOf (hdrOf w tk l) n) (by simp)
  have h3 := N (l, listOf refs.toArray nn) (by simp)
  rcases hm with rfl | rfl | rfl
  · rw [e] at h1; exact absurd (congrArg Obj.cls (Option.some.inj h1)) (by simp)
  · rw [e] at h2; exact absurd (congrArg Obj.cls (Option.some.inj h2)) (by simp)
  · rw [e] at h3; exact absurd (congrArg Obj.cls (Option.some.inj h3)) (by simp)
set_option maxRecDepth 100000 in
set_option maxHeartbeats 8000000 in
theorem c_get (w : World) (tb dx l : Addr) (refs : List Value) (ps : List (Str × Str)) (n nn : Nat) (tk : Tok) (name : Str) (t1 : Tok) (hn : name.length ≤ 16) (hre : reOk (hd.heap_39 w.params) 103 (Txt.lower name) = true) :
    Fun w 185 [.ref tb, .str name t1] [(tb, instObj 238 dx), (dx, dictOf (hdrOf w tk l) n), (l, listOf refs.toArray nn)] 2 16 (fun h => PairsAt h refs ps) (fun h v h' => Keeps [] h h' ∧ ∃ t, v = match findF (Txt.lower name) ps with | some x => .str x t | none => .none) := by
  w_top off
  k_with_none
  k_with "mine getMethod ref" => ((with_reducible show wpAny _ _ (getMethod (Value.ref _) (Str.ofString "search") _) _ _ _); refine re_method (by k_asm) (by k_asm) (by k_is) ?_)
  k_with "mine call builtin:re.Pattern.search" => (refine search_K (by k_asm) (by k_asm) (by k_is) (by rfl) (by rfl) (by rfl) (by k_is) (by assumption) (by first | omega | (str_facts; omega)) ?_)
  k_with "mine exec For" => ((with_reducible show wpAny _ _ (exec (Stmt.For (Expr.Tuple _ _ _) (Expr.Attribute _ _ _) _ [] _) _) _ _ _); (rename Fr _ _ _ _ => lF'); (with_unfolding_all refine For_turns lF' ?_))
  k_with "mine TurnPost" => (unfold TurnPost; dsimp only)
  unfold Fun; k_fill
  intro zp zloose zmean zmg zmb zdp zun zgd zcn zcs za zccd zcl zouter zA zbase zh₀ zL zm zs zQ zE zB zF zX zN zT zhk zhpre zhd zhu hret
  have zmu := fun q hq => And.left (zN q hq)
  refine wpAny_call ?_
  k_dflt (refine' enterP ?k1 ?k2 ?k3 ?k4 ?k5 ?kA ?kF ?kK ?k6 ?k7 ?k8 ?k9 ?kB ?_ ?c2 ?c3 ?c4 ?c5; (case kA => exact rfl); (case kF => exact rfl); (case kK => assumption); (case k1 => k_asm); (case k2 => k_asm); (case k3 => k_asm); (case k4 => k_asm); (case k5 => k_asm); (case k6 => k_is); (case k7 => k_is); (case k8 => ktr_room); (case k9 => first | exact BindsTo.of_eq rfl | exact binds_K (by k_in) rfl (by k_is) rfl rfl rfl); (case c5 => decide); (case kB => exact locs rfl); (case c2 => exact rfl); (case c3 => exact rfl); (case c4 => exact rfl); k_whole)
  intro zg zL' zh' KG zFG zF' zN' zB' zX' zT'
  (try dsimp only)
  (try k_fold)
  (have zF2 := fr_lookup (l := [(Str.ofString "default", .none), (Str.ofString "name", .str name t1), (Str.ofString "self", .ref tb)]) (by with_unfolding_all exact zF'))
  dsimp only [kstB] at zF2
  clear zF'
  k_steps
  dsimp only
  (with_reducible show wpAny _ _ (pyIter (Value.ref _)) (fun it s₂ => TurnsAt _ _ _ _ _ _ _ _ _ it s₂) _ _)
  (rename Fr _ _ _ _ => lF')
  (rename News _ _ _ _ => lN')
  (with_unfolding_all refine list_loop (vs := refs) (n := nn) (σ := Unit) [Str.ofString "k", Str.ofString "v"] (fun _ => _) (fun _ => []) (fun r _ => ∃ q, PairsAt zg r q ∧ findF (Txt.lower name) ps = findF (Txt.lower name) q) () rfl lF' lN' ?hm ?hk ?h0 ?_ ?_)
  (case hm => (intro _; k_mem))
  (case hk => (intro p hp; exact absurd hp (by simp)))
  (case h0 => exact ⟨ps, pairs_get (L := 0) (h₀ := zs.heap) zmu KG zhpre, rfl⟩)
  (all_goals clear lF' lN')
  rotate_left
  · intro _ u h tk hP F' N'
    (try dsimp only [kstB] at F')
    obtain ⟨q, hP, e⟩ := hP
    cases hP
    (try dsimp only)
    (try k_fold)
    k_steps
    exact hret _ _ _ (KG.fr (by k_asm)) ⟨keeps_ro zmu KG (by k_asm) (by k_asm) (by simp), 0, by rw [e]; rfl⟩
  · intro _ I it v r u h tk hit hP F' N'
    (try dsimp only [kstB] at F')
    obtain ⟨q, hP, e⟩ := hP
    cases hP
    rename_i a k v t u ps' ha hk hv hr
    have hT : IsTup zg a #[.str k t, .str v u] := ⟨_, ha, rfl, 0, rfl⟩
    (try dsimp only)
    (try k_fold)
    k_steps
    · refine hret _ _ _ (KG.fr (by k_asm)) ⟨keeps_ro zmu KG (by k_asm) (by k_asm) (fun _ h => .tail _ h), u, ?_⟩
      rw [e]; unfold findF; rw [if_pos (by assumption)]
    · refine turnEnd () (by k_asm) (by k_asm) List.mem_cons_self (fun _ h => .tail _ h) (fun p hp => ne_of_cls (by k_asm) List.mem_cons_self (.tail _ hp) ?_) (fun p hp => absurd hp (by simp)) ?_ ⟨ps', hr, by rw [e]; simp only [findF]; rw [if_neg (by simp_all)]⟩
      · rw [hit]
        simp only [List.mem_cons, List.not_mem_nil, or_false] at hp
        rcases hp with rfl | rfl | rfl <;> simp
      · intro z _ h3
        have h4 := h3
        simp only [List.contains_cons, List.contains_nil, Bool.or_false, Bool.or_eq_false_iff, beq_eq_false_iff_ne, ne_eq] at h4
        (try dsimp only)
        rw [if_neg h4.2, if_neg h4.1, h3]
        rfl
end
section
theorem wp_of_peekA_keep {α : Type} {K : Frag} {M : Model} {A : Around} {E : Value → Shared → Prop} {Q : α → Shared → Prop} {s : Shared} {h₀ : Heap} {L : Addr} {m : Str → Option Value} {news : List (Addr × Obj)} {o : Obj}
    (F : Fr h₀ L s.heap m) (N : News h₀ L s.heap news) (X : K.In s.heap) (hf : o.isFreed = false) :
    ∀ (t : Sem α) (g : Addr → Sem α), peekA K ⟨M.prog, M.w.params⟩ t = some (o, g) →
      (∀ h', Fr h₀ L h' m → News h₀ L h' ((s.heap.objs.size, o) :: news) → (∀ p ∈ news, p.1 < s.heap.objs.size) → (∀ b o, s.heap.get? b = some o → h'.get? b = some o) → s.heap.get? s.heap.objs.size = none → wpAny M A (g s.heap.objs.size) Q E { s with heap := h' }) → wpAny M A t Q E s := by
  intro t
  induction t with
  | rule _ k ih => intro g e q Γ p hΓ; exact ih () g e q Γ p hΓ
  | point _ k ih => intro g e q Γ p hΓ; exact ih () g e q Γ p hΓ
  | ask k ih => intro g e q Γ p hΓ; exact ih _ g e q Γ p hΓ
  | load a _ k ih =>
    intro g e q Γ p hΓ
    simp only [peekA] at e
    split at e
    · rename_i ob ho; exact ⟨ob, X _ _ ho, ih ob g e q Γ p hΓ⟩
    · cases e
  | alloc ob k _ =>
    intro g e q
    have e : some (ob, k) = some (o, g) := e
    obtain ⟨e1, e2⟩ := Prod.mk.inj (Option.some.inj e)
    subst e1
    subst e2
    show wpAny M A (alloc ob >>= k) Q E s
    refine wpAny_bind (wpAny_alloc (q _ (F.push ob) (News.push F N ob hf) (fun p hp => Heap.lt_size (N p hp).1) (fun b o e => Heap.get?_push_of_some _ e) ?_))
    cases e : s.heap.get? s.heap.objs.size with
    | none => rfl
    | some o' => exact absurd (Heap.lt_size e) (Nat.lt_irrefl _)
  | _ => intro g e; cases e
section
variable {prog : Program} {w : World} {A₀ A : Around} {s : Shared} {base h₀ : Heap} {outer : List Env} {L : Addr} {m : Str → Option Value} {env : Env} {news : List (Addr × Obj)} {K : Frag}
  {p : Program} {loose : List Str} {mean : ExcName → Option Value} {mg mb : Str → Option Value}
  {R : Result → Shared → Prop} {name qual : Str} {params : Arguments} {body : List Stmt} {scope : Scope} {dV kV doc pm cdv ct oc : Value} {an od : Option Addr} {osl : Array (Option Value)} {f : Addr} {args : Args} {binds : Addr → List (Str × Value)} {g₁ : Addr → Sem (List (Str × Value))}

theorem Keeps.tail {q : Addr} {u : List Addr} {h h₁ g : Heap} (a : ∀ b o, h.get? b = some o → h₁.get? b = some o) (n : h.get? q = none) (k : Keeps (q :: u) h₁ g) : Keeps u h g := fun b o e x =>
  k b o (a b o e) (fun hm => by
    rcases List.mem_cons.mp hm with rfl | hm
    · rw [n] at e; cases e
    · exact x hm)

/-- a plain def with a `**more` parameter entered, called with no keyword -/
theorem enterM (B : Below A₀ base outer h₀) (F : Fr h₀ L s.heap m) (X₀ : K.In h₀) (N : News h₀ L s.heap news) (T : Top p loose mean mg mb h₀) (hA : A.frames = some (env :: outer)) (hf : env.frame = some L) (hke : env.scope.kind = .function)
    (ho : K.lookup f = some ⟨oc, od, .func (fnOf name qual params body scope dV kV doc pm an cdv ct), osl⟩) (hcd : codeIn K cdv qual = true) (hroom : A.depth < recursionLimit)
    (hp : peekA K ⟨prog, w.params⟩ (bindArgs (fnOf name qual params body scope dV kV doc pm an cdv ct) args) = some (dictOf [] 0, g₁)) (hg : ∀ D, g₁ D = pure (binds D)) (hloc : ∀ D, ∀ y ∈ binds D, scope.names.lookup y.1 = some .local)
    (h : ∀ D g L' h₁ tk, AllNe D news → (D == sysModules) = false → Keeps (news.map (·.1)) s.heap g → Fr h₀ L g m → Fr g L' h₁ (fun y => (binds D).reverse.lookup y) → News g L' h₁ ((D, dictOf [] 0) :: news) → Below A base (env :: outer) g → K.In g → Top p loose mean mg mb g →
      wpAny (model prog w) (A.deeper (envOf qual scope L' f cdv)) (execs body (envOf qual scope L' f cdv))
        (fun fl s' => LeaveK h₀ L m g R (match fl with | .ret v => v | _ => .none) s')
        (fun e s' => wpAny (model prog w) (A.deeper (envOf qual scope L' f cdv)) (leaving (envOf qual scope L' f cdv) e) (fun _ s'' => R (.error e) s'') (fun e' s'' => R (.error e') s'') s')
        { s with heap := h₁, toks := tk })
    (hco : scope.isCoroutine = false) (hgen : scope.isGenerator = false) (hk : scope.kind = .function)
    (hcell : ∀ x ∈ scope.names, x.2 ≠ .cell) : codeAny (model prog w) A (.call (.ref f) args) R s := by
  refine codeAny_call_function (fd := fnOf name qual params body scope dV kV doc pm an cdv ct) (body := body) hroom ((X₀.keeps F.keep) _ _ ho) rfl hco hgen rfl (codeRec_of (X₀.keeps F.keep) hcd) ?_
  refine wp_of_peekA_keep (o := dictOf [] 0) F N (X₀.keeps F.keep) rfl _ g₁ hp fun h' F' N' l kh hn => ?_
  rw [hg]
  refine wpAny_pure ?_
  obtain ⟨FG, BG, st, lv⟩ := groundX (s := { s with heap := h' }) (R := R) B F' N' hA hf hke
  refine wpAny_newFunctionEnv hcell (hloc _) (fun h₁ hns hsb => ⟨(T.nolimit.keeps F'.keep).fresh _ hsb, codeAny_func ?_⟩) hk
  have hk₁ : ∀ b o, h'.get? b = some o → h₁.get? b = some o := fun b o e => hsb.extBut b o (Nat.ne_of_lt (Heap.lt_size e)) (Heap.get?_push_of_some _ e)
  exact wpAny_mono (h s.heap.objs.size _ h'.objs.size h₁ _ (allNe_of fun p hp => Nat.ne_of_lt (l p hp)) (F.notModules (modules_low T.nolimit)) (Keeps.tail kh hn (hide_keeps ((s.heap.objs.size, dictOf [] 0) :: news) h')) FG ⟨hns, fun b o e => hk₁ b o (of_hideAll _ e), Nat.le_of_eq (hideAll_size _ _)⟩
    (fun p hp => ⟨hk₁ _ _ (N' p hp).1, Nat.ne_of_lt (Heap.lt_size (N' p hp).1), hideAll_none _ (List.mem_map_of_mem hp)⟩) BG (X₀.keeps st) (T.keeps st)) (fun fl s' hl => lv _ _ hl) fun _ _ y => y
end
theorem empty_isDict {prog : Program} {w : World} : (dictOf [] 0).IsDictOf (strKind prog w) [] := kp_isDict (prog := prog) (w := w) (ex := []) 0 0 List.nodup_nil
end
section
theorem keeps_but {mu news' : List (Addr × Obj)} {u : List Addr} {h g h' : Heap} {L' : Addr} {m' : Str → Option Value} (zmu : ∀ q ∈ mu, h.get? q.1 = some q.2) (K : Keeps (mu.map (·.1)) h g) (F : Fr g L' h' m') (N : News g L' h' news') (hs : ∀ p ∈ mu, p ∈ news' ∨ p.1 ∈ u) : Keeps u h h' := fun b o e hn => by
  by_cases hb : b ∈ mu.map (·.1)
  · obtain ⟨p, hp, rfl⟩ := List.mem_map.mp hb
    have q := zmu p hp
    rw [e] at q
    rw [Option.some.inj q]
    rcases hs p hp with h1 | h1
    · exact (N p h1).1
    · exact absurd h1 hn
  · exact F.keep b o (K b o e hb)
theorem new_none {u : List Addr} {h g : Heap} {D : Addr} (K : Keeps u h g) (n : g.get? D = none) (hu : D ∉ u) : h.get? D = none := by
  cases e : h.get? D with
  | none => rfl
  | some o => rw [K D o e hu] at n; cases n
theorem join_one (a val : Str) : Txt.join a [val] = val := by
  first | rfl | simp [Txt.join]
theorem ne_cls {h : Heap} {a b : Addr} {o o' : Obj} (ha : h.get? a = some o) (hb : h.get? b = some o') (hc : o.cls ≠ o'.cls) : @Ne Nat a b := fun e => by
  subst e
  rw [ha] at hb
  exact hc (by rw [Option.some.inj hb])
set_option maxRecDepth 100000 in
set_option maxHeartbeats 8000000 in
theorem c_add (w : World) (tb dx l : Addr) (refs : List Value) (n nn : Nat) (tk : Tok) (name val : Str) (t1 t2 : Tok) (hl : refs.length ≤ 1000) (hn : name.length ≤ 16) (hv : val.length ≤ 16) (hre : reOk (hd.heap_39 w.params) 103 name = true) (hrv : reOk (hd.heap_39 w.params) 108 val = true) :
    Fun w 235 [.ref tb, .str name t1, .str val t2] [(tb, instObj 238 dx), (dx, dictOf (hdrOf w tk l) n), (l, listOf refs.toArray nn)] 2 24 (fun _ => True) (fun h v h' => v = Value.none ∧ ∃ (D : Addr) (u v' : Tok), h.get? D = none ∧ h'.get? D = some (tupOf [.str name u, .str val v']) ∧ h'.get? l = some (listOf (refs.toArray.push (.ref D)) (nn + 1)) ∧ Keeps [l] h h') := by
  w_top off
  k_with_none
  k_with "mine getMethod ref" => ((with_reducible show wpAny _ _ (getMethod (Value.ref _) (Str.ofString "search") _) _ _ _); refine re_method (by k_asm) (by k_asm) (by k_is) ?_)
  k_with "mine call builtin:re.Pattern.search" => (refine search_K (by k_asm) (by k_asm) (by k_is) (by rfl) (by rfl) (by rfl) (by k_is) (by assumption) (by first | omega | (str_facts; omega)) ?_)
  k_with "mine exec For" => ((with_reducible show wpAny _ _ (exec (Stmt.For (Expr.Tuple _ _ _) (Expr.Call _ _ _ _) _ [] _) _) _ _ _); (rename Fr _ _ _ _ => lF'); (rename News _ _ _ _ => lN'); with_unfolding_all ((refine' For_turns lF' ?_); k_whole; (refine MethodCall_ ?_); (refine ld lF' (by rfl) ?_); (refine kdl_method (knd := strKind _ _) (kvs := []) PySem.F.slot_dict_items PySem.F.type_dict_items lN' (by k_mem) empty_isDict ?_); (refine callWith_method0 ?_); (refine kta_callItems (knd := strKind _ _) (kvs := []) lF' lN' (by k_mem) empty_isDict (by assumption) ?_); intro h' hv' F' N'; (refine kta_items (knd := strKind _ _) (enc := PyData.str) (kvs := []) (xs := []) (by rfl) F' N' hv' (by k_mem) empty_isDict (fun _ _ h => Value.isStrOf_shape h) (by rfl) ?_)); clear lF' lN'; intro i' l1; intro h' tk' F' N')
  unfold Fun; k_fill
  intro zp zloose zmean zmg zmb zdp zun zgd zcn zcs za zccd zcl zouter zA zbase zh₀ zL zm zs zQ zE zB zF zX zN zT zhk zhpre zhd zhu hret
  have zmu := fun q hq => And.left (zN q hq)
  refine wpAny_call ?_
  k_dflt (refine' enterM ?k1 ?k2 ?k3 ?k4 ?k5 ?kA ?kF ?kK ?k6 ?k7 ?k8 ?k9 ?kg ?kB ?_ ?c2 ?c3 ?c4 ?c5; (case kA => exact rfl); (case kF => exact rfl); (case kK => assumption); (case k1 => k_asm); (case k2 => k_asm); (case k3 => k_asm); (case k4 => k_asm); (case k5 => k_asm); (case k6 => k_is); (case k7 => k_is); (case k8 => ktr_room); (case k9 => exact rfl); (case kg => exact fun _ => rfl); (case kB => exact fun _ => locs rfl); (case c5 => decide); (case c2 => exact rfl); (case c3 => exact rfl); (case c4 => exact rfl); k_whole)
  intro zD zg zL' zh' ztk znD zlo KG zFG zF' zN' zB' zX' zT'
  (try simp only [AllNe, and_true] at znD)
  (try simp only [List.cons_append, List.nil_append] at zN')
  (try dsimp only)
  (try k_fold)
  (have zF2 := fr_lookup (l := [(Str.ofString "_params", .ref zD), (Str.ofString "_value", .str val t2), (Str.ofString "_name", .str name t1), (Str.ofString "self", .ref tb)]) (by with_unfolding_all exact zF'))
  dsimp only [kstB] at zF2
  clear zF'
  have z1 := ne_cls (zmu _ (.head _)) (zmu _ (.tail _ (.tail _ (.head _)))) (by simp)
  have z2 := ne_cls (zmu _ (.tail _ (.head _))) (zmu _ (.tail _ (.tail _ (.head _)))) (by simp)
  k_steps
  (rename News zg _ _ _ => lN')
  (rename Fr zg _ _ _ => lF')
  rw [join_one] at lN'
  have q1 := lN' _ (.head _)
  refine hret _ _ _ (KG.fr lF') ⟨rfl, _, _, _, new_none KG q1.2.2 (fun hm => ?_), q1.1, (lN' _ (.tail _ (.tail _ (.tail _ (.tail _ (.tail _ (.head _))))))).1, keeps_but zmu KG lF' lN' (fun p hp => ?_)⟩
  · simp only [List.map_cons, List.map_nil, List.mem_cons, List.not_mem_nil, or_false] at hm
    rcases hm with e | e | e <;> (have e := (show @Eq Nat _ _ from e); omega)
  · simp only [List.mem_cons, List.not_mem_nil, or_false] at hp
    rcases hp with rfl | rfl | rfl
    · exact .inl (by k_mem)
    · exact .inl (by k_mem)
    · exact .inr (.head _)
end
section
section
open PyProof.Rows.LCg PyProof.Rows.LCt
theorem CompEnd.map {h₀ : Heap} {L I C D : Addr} {m : Str → Option Value} {s₁ s₂ : Shared} {oI oC oD : Obj} {S : List (Addr × Obj) → Prop} {rest rest' : Value → List (Addr × Obj) → Prop} {y : Value}
    (h : CompEnd h₀ L m s₁ I oI C oC D oD S rest y s₂) (f : ∀ n, rest y n → rest' y n) : CompEnd h₀ L m s₁ I oI C oC D oD S rest' y s₂ := by
  obtain ⟨h', tk, n, e, F, N, o, hS, r⟩ := h
  exact ⟨h', tk, n, e, F, N, o, hS, f n r⟩
/-- a comprehension with a test over the values of an array, by an invariant; the ledger below it stays -/
theorem compT_all {prog : Program} {w : World} {A : Around} {h₀ : Heap} {L : Addr} {m : Str → Option Value} {env : Env} {ct elt : Expr} {x : Str} {scope : Scope} {cl : List (Str × Addr)} {s : Shared} {S : List (Addr × Obj) → Prop} {Fin : List Value → List (Addr × Obj) → Prop} {its : Array Value} {led : List (Addr × Obj)}
    (Inv : List Value → List Value → Prop)
    (turn : ∀ v r ys I oI C oC D m₂ h tk (E' : Value → Shared → Prop), Inv (v :: r) ys → NsObj oC m₂ → m₂ x = some v → Fr h₀ L h m → News h₀ L h ((I, oI) :: (C, oC) :: (D, lst ys) :: led) → Off3 I C D led → ((@Ne Nat I C) ∧ (@Ne Nat I D) ∧ (@Ne Nat C D)) →
      wpAny (model prog w) A (isTrue ct (compEnvC scope cl C env) (eval ct (compEnvC scope cl C env))) (fun ok s' => if ok = true then
        wpAny (model prog w) A (eval elt (compEnvC scope cl C env)) (CompEnd h₀ L m { s with heap := h, toks := tk } I oI C oC D (lst ys) S (fun y news' => news' = led ∧ Inv r (ys ++ [y]))) E' s'
        else CompEnd h₀ L m { s with heap := h, toks := tk } I oI C oC D (lst ys) S (fun _ news' => news' = led ∧ Inv r ys) Value.none s') E' { s with heap := h, toks := tk })
    (h0 : Inv its.toList []) (fin : ∀ ys, Inv [] ys → Fin ys led) :
    CompRestT prog w A h₀ L m env ct elt x scope cl s S (fun i v => its[i]? = some v) Fin its.size 0 [] led := by
  have key : ∀ (k i : Nat) (ys : List Value), i + k = its.size → Inv (its.toList.drop i) ys → CompRestT prog w A h₀ L m env ct elt x scope cl s S (fun i v => its[i]? = some v) Fin k i ys led := by
    intro k
    induction k with
    | zero =>
      intro i ys hi hv
      refine CompRestT.zero (fin ys ?_)
      rw [List.drop_eq_nil_of_le (by rw [Array.length_toList]; omega)] at hv
      exact hv
    | succ k ih =>
      intro i ys hi hv
      refine CompRestT.succ fun v I oI C oC D m₂ h tk E' hp hC hx F N o3 ne => ?_
      have hd : its.toList.drop i = v :: its.toList.drop (i + 1) := by
        have hlt : i < its.toList.length := by rw [Array.length_toList]; omega
        rw [List.drop_eq_getElem_cons hlt]
        have : its[i]? = some its.toList[i] := by rw [← Array.getElem?_toList, List.getElem?_eq_getElem hlt]
        rw [this] at hp
        rw [Option.some.inj hp]
      rw [hd] at hv
      refine wpAny_mono (turn v _ ys I oI C oC D m₂ h tk E' hv hC hx F N o3 ne) (fun ok s' q => ?_) fun _ _ e => e
      cases ok with
      | true =>
        simp only [if_true] at q ⊢
        refine wpAny_mono q (fun y s'' q => CompEnd.map q fun n hn => ?_) fun _ _ e => e
        obtain ⟨rfl, hn⟩ := hn
        exact ih (i + 1) _ (by omega) hn
      | false =>
        simp only [Bool.false_eq_true, if_false] at q ⊢
        refine CompEnd.map q fun n hn => ?_
        obtain ⟨rfl, hn⟩ := hn
        exact ih (i + 1) _ (by omega) hn
  exact key its.size 0 [] (by omega) h0
end
end
section
noncomputable def StrsAre : List Value → List Str → Prop
  | [], [] => True
  | v :: r, x :: l => (∃ t, v = .str x t) ∧ StrsAre r l
  | _, _ => False
theorem StrsAre.snoc {x : Str} {t : Tok} : ∀ {ys : List Value} {l : List Str}, StrsAre ys l → StrsAre (ys ++ [.str x t]) (l ++ [x])
  | [], [], _ => ⟨⟨t, rfl⟩, trivial⟩
  | _ :: _, _ :: _, h => ⟨h.1, StrsAre.snoc h.2⟩
noncomputable def allF (nm : Str) : List (Str × Str) → List Str
  | [] => []
  | p :: r => if Txt.lower p.1 = nm then p.2 :: allF nm r else allF nm r
noncomputable def GaInv (zg : Heap) (nm : Str) (ps : List (Str × Str)) (r ys : List Value) : Prop := ∃ q a, PairsAt zg r q ∧ StrsAre ys a ∧ allF nm ps = a ++ allF nm q
theorem GaInv.yes {zg : Heap} {nm k v : Str} {u : Tok} {ps ps' : List (Str × Str)} {r ys : List Value} {a : List Str} (hr : PairsAt zg r ps') (hS : StrsAre ys a) (e : allF nm ps = a ++ allF nm ((k, v) :: ps')) (h : (Txt.lower k == nm) = true) : GaInv zg nm ps r (ys ++ [.str v u]) :=
  ⟨ps', a ++ [v], hr, hS.snoc, by rw [e]; show a ++ (if Txt.lower k = nm then _ else _) = _; rw [if_pos (eq_of_beq h), List.append_assoc]; rfl⟩
theorem GaInv.no {zg : Heap} {nm k v : Str} {ps ps' : List (Str × Str)} {r ys : List Value} {a : List Str} (hr : PairsAt zg r ps') (hS : StrsAre ys a) (e : allF nm ps = a ++ allF nm ((k, v) :: ps')) (h : (Txt.lower k == nm) = false) : GaInv zg nm ps r ys :=
  ⟨ps', a, hr, hS, by rw [e]; show a ++ (if Txt.lower k = nm then _ else _) = _; rw [if_neg (beq_eq_false_iff_ne.mp h)]⟩
set_option maxRecDepth 100000 in
set_option maxHeartbeats 8000000 in
theorem c_getall (w : World) (tb dx l : Addr) (refs : List Value) (ps : List (Str × Str)) (n nn : Nat) (tk : Tok) (name : Str) (t1 : Tok) (hl : refs.length ≤ 1000) (hn : name.length ≤ 16) (hre : reOk (hd.heap_39 w.params) 103 (Txt.lower name) = true) :
    Fun w 177 [.ref tb, .str name t1] [(tb, instObj 238 dx), (dx, dictOf (hdrOf w tk l) n), (l, listOf refs.toArray nn)] 2 24 (fun h => PairsAt h refs ps) (fun h v h' => Keeps [] h h' ∧ ∃ ys : List Value, NewAt h h' v (PyProof.Rows.LCg.lst ys) ∧ StrsAre ys (allF (Txt.lower name) ps)) := by
  w_top off
  k_with_none
  k_with "mine getMethod ref" => ((with_reducible show wpAny _ _ (getMethod (Value.ref _) (Str.ofString "search") _) _ _ _); refine re_method (by k_asm) (by k_asm) (by k_is) ?_)
  k_with "mine call builtin:re.Pattern.search" => (refine search_K (by k_asm) (by k_asm) (by k_is) (by rfl) (by rfl) (by rfl) (by k_is) (by assumption) (by first | omega | (str_facts; omega)) ?_)
  k_with "mine eval ListComp" => (k_dflt (refine PyProof.Rows.LCt.ListComp_T (F₀ := by k_asm) (by with_unfolding_all rfl) (by decide) (by rfl) (by decide) (by rfl) ?_))
  k_with "mine CompEnd" => (refine Hold.out ?_)
  unfold Fun; k_fill
  intro zp zloose zmean zmg zmb zdp zun zgd zcn zcs za zccd zcl zouter zA zbase zh₀ zL zm zs zQ zE zB zF zX zN zT zhk zhpre zhd zhu hret
  have zmu := fun q hq => And.left (zN q hq)
  refine wpAny_call ?_
  k_dflt (refine' enterC ?k1 ?k2 ?k3 ?k4 ?k5 ?kA ?kF ?kK ?k6 ?k7 ?k8 ?k9 ?kB ?kD ?_ ?c2 ?c3 ?c4; (case kA => exact rfl); (case kF => exact rfl); (case kK => assumption); (case k1 => k_asm); (case k2 => k_asm); (case k3 => k_asm); (case k4 => k_asm); (case k5 => k_asm); (case k6 => k_is); (case k7 => k_is); (case k8 => ktr_room); (case k9 => first | exact BindsTo.of_eq rfl | exact binds_K (by k_in) rfl (by k_is) rfl rfl rfl); (case kB => exact rfl); (case kD => decide +kernel); (case c2 => exact rfl); (case c3 => exact rfl); (case c4 => exact rfl); k_whole)
  intro zg zL' zh' ztk zcells KG zsz zFG zF' zN' zY zB' zX' zT' zl1
  (try k_lt zl1)
  k_cells zY
  (try simp only [List.cons_append, List.nil_append] at zN')
  (try dsimp only)
  (try k_fold)
  (have zF2 : Fr zg zL' zh' (kstB (fun _ => none) [(Str.ofString "self", .ref tb)]) := by with_unfolding_all exact zF')
  dsimp only [kstB] at zF2
  clear zF'
  k_steps
  (rename Fr zg _ _ _ => lF')
  (rename News zg _ _ _ => lN')
  refine PyProof.Rows.LCt.CompSrcT.ledger (by rfl) lF' lN' (by k_mem) (by size_fits) fun g' => compT_all (GaInv zg (Txt.lower name) ps) ?_ ⟨ps, [], pairs_get (L := 0) (h₀ := zs.heap) zmu KG zhpre, trivial, rfl⟩ ?_
  · intro v r ys I oI C oC D m₂ h tk E' hI hC hx F' N' o3 ne
    clear lF' lN'
    obtain ⟨q, a, hP, hS, e⟩ := hI
    cases hP
    rename_i a k v t u ps' ha hk hv hr
    have hT : IsTup zg a #[.str k t, .str v u] := ⟨_, ha, rfl, 0, rfl⟩
    (try dsimp only)
    k_steps
    all_goals unfold Hold
    all_goals (rename Fr zg _ _ _ => F8; rename News zg _ _ _ => N8)
    · exact PyProof.Rows.LCg.CompEnd.intro F8 N8 _ (fun _ h => h) o3 (.inr ⟨_, by k_mem, rfl, _, rfl⟩) ⟨rfl, GaInv.yes hr hS e (by assumption)⟩
    · exact PyProof.Rows.LCg.CompEnd.intro F8 N8 _ (fun _ h => h) o3 (.inr ⟨_, by k_mem, rfl, _, rfl⟩) ⟨rfl, GaInv.no hr hS e (by assumption)⟩
  · intro ys hI
    clear lF' lN'
    obtain ⟨q, a, hP, hS, e⟩ := hI
    cases hP
    intro D h tk F' N' o1
    (try simp only [PyProof.Rows.LCg.Off1, and_true] at o1)
    have hS' : StrsAre ys (allF (Txt.lower name) ps) := by rw [e]; simp only [allF, List.append_nil]; exact hS
    have hG := F'
    have hM := N'
    (try dsimp only)
    k_steps
    refine hret _ _ _ (KG.fr hG) ⟨keeps_ro zmu KG hG hM (fun _ h => .tail _ (.tail _ h)), ys, ⟨D, rfl, new_none KG (hM _ (.head _)).2.2 (fun hm => ?_), (hM _ (.head _)).1⟩, hS'⟩
    simp only [List.map_cons, List.map_nil, List.mem_cons, List.not_mem_nil, or_false] at hm
    rcases hm with e | e | e <;> (have e := (show @Eq Nat _ _ from e); omega)
end
section
section
open PyProof.Rows.LCg PyProof.Rows.LCp
/-- a comprehension that unpacks pairs, over the values of an array, by an invariant; the ledger below it stays -/
theorem compP_all {prog : Program} {w : World} {A : Around} {h₀ : Heap} {L : Addr} {m : Str → Option Value} {env : Env} {elt : Expr} {x x₂ : Str} {scope : Scope} {cl : List (Str × Addr)} {s : Shared} {S : List (Addr × Obj) → Prop} {Fin : List Value → List (Addr × Obj) → Prop} {its : Array Value} {led : List (Addr × Obj)}
    (Inv : List Value → List Value → Prop)
    (turn : ∀ v r ys, Inv (v :: r) ys → ∃ (t : Addr) (ot : Obj) (v₁ v₂ : Value) (nt : Nat), v = .ref t ∧ (t, ot) ∈ led ∧ ot.cls = .type "tuple" ∧ ot.data = .seq #[v₁, v₂] nt ∧
      ∀ I oI C oC D m₂ h tk (E' : Value → Shared → Prop), NsObj oC m₂ → m₂ x = some v₁ → m₂ x₂ = some v₂ → Fr h₀ L h m → News h₀ L h ((I, oI) :: (C, oC) :: (D, lst ys) :: led) → Off3 I C D led → ((@Ne Nat I C) ∧ (@Ne Nat I D) ∧ (@Ne Nat C D)) →
      wpAny (model prog w) A (eval elt (compEnvC scope cl C env)) (CompEnd h₀ L m { s with heap := h, toks := tk } I oI C oC D (lst ys) S (fun y news' => news' = led ∧ Inv r (ys ++ [y]))) E' { s with heap := h, toks := tk })
    (h0 : Inv its.toList []) (fin : ∀ ys, Inv [] ys → Fin ys led) :
    CompRestP prog w A h₀ L m env elt x x₂ scope cl s S (fun i v => its[i]? = some v) Fin its.size 0 [] led := by
  have key : ∀ (k i : Nat) (ys : List Value), i + k = its.size → Inv (its.toList.drop i) ys → CompRestP prog w A h₀ L m env elt x x₂ scope cl s S (fun i v => its[i]? = some v) Fin k i ys led := by
    intro k
    induction k with
    | zero =>
      intro i ys hi hv
      refine CompRestP.zero (fin ys ?_)
      rw [List.drop_eq_nil_of_le (by rw [Array.length_toList]; omega)] at hv
      exact hv
    | succ k ih =>
      intro i ys hi hv
      refine CompRestP.succ fun v hp => ?_
      have hd : its.toList.drop i = v :: its.toList.drop (i + 1) := by
        have hlt : i < its.toList.length := by rw [Array.length_toList]; omega
        rw [List.drop_eq_getElem_cons hlt]
        have : its[i]? = some its.toList[i] := by rw [← Array.getElem?_toList, List.getElem?_eq_getElem hlt]
        rw [this] at hp
        rw [Option.some.inj hp]
      rw [hd] at hv
      obtain ⟨t, ot, v₁, v₂, nt, e1, e2, e3, e4, T⟩ := turn v _ ys hv
      refine ⟨t, ot, v₁, v₂, nt, e1, e2, e3, e4, fun I oI C oC D m₂ h tk E' hC hx hy F N o3 ne => wpAny_mono (T I oI C oC D m₂ h tk E' hC hx hy F N o3 ne) (fun y s' q => CompEnd.map q fun n hn => ?_) fun _ _ e => e⟩
      obtain ⟨rfl, hn⟩ := hn
      exact ih (i + 1) _ (by omega) hn
  exact key its.size 0 [] (by omega) h0
end
inductive TupsOf : List (Addr × Obj) → List Value → List (Str × Str) → Prop
  | nil : TupsOf [] [] []
  | cons {a : Addr} {k v : Str} {t u : Tok} {ts r ps} : TupsOf ts r ps → TupsOf ((a, tupOf [.str k t, .str v u]) :: ts) (.ref a :: r) ((k, v) :: ps)
noncomputable def KeInv (tups : List (Addr × Obj)) (ps : List (Str × Str)) (r ys : List Value) : Prop := ∃ ts q a, TupsOf ts r q ∧ (∀ p ∈ ts, p ∈ tups) ∧ StrsAre ys a ∧ ps.map (·.1) = a ++ q.map (·.1)
theorem off1_not {D : Addr} : ∀ {led : List (Addr × Obj)}, PyProof.Rows.LCg.Off1 D led → D ∉ led.map (·.1)
  | [], _, h => nomatch h
  | p :: r, o, h => by
    rcases List.mem_cons.mp h with e | h
    · exact o.1 e.symm
    · exact off1_not o.2 h
end
section
section
variable {prog : Program} {w : World} {A : Around} {E : Value → Shared → Prop} {s : Shared} {env : Env} {h₀ : Heap} {body : List Stmt} {Q : Flow → Shared → Prop}
theorem rev_loop {σ : Type} {ax I : Addr} {lo : Obj} {n : Nat} {x : Str} {vs : List Value} {m₀ : Str → Option Value} (stored : List Str) (Led : σ → List (Addr × Obj)) (ps : σ → List (Str × Value)) (P : List Value → σ → Prop) (c₀ : σ)
    (hh : A.handled = none) (F : Fr h₀ env.locals s.heap m₀) (N : News h₀ env.locals s.heap ((I, revObj ax ((vs.length : Int) - 1)) :: Led c₀)) (hof : OffI I (revObj ax ((vs.length : Int) - 1)) (Led c₀)) (hm : ∀ c, (ax, lo) ∈ Led c) (hc : lo.cls = .type "list") (hd : lo.data = .seq vs.toArray n)
    (hk : ∀ p ∈ ps c₀, m₀ p.1 = some p.2) (h0 : P vs.reverse c₀)
    (turn : ∀ (c : σ) (it : Obj) (v : Value) (r : List Value) (m : Str → Option Value) (h : Heap) (tk : Nat), it.cls = .type "list_reverseiterator" → P (v :: r) c → (∃ u : Str → Option Value, m = kstB (fun z => if stored.contains z then u z else m₀ z) (ps c)) → Fr h₀ env.locals h (fun y => if y = x then some v else m y) → News h₀ env.locals h ((I, it) :: Led c) →
      wpAny (model prog w) A (execs body env) (TurnPost h₀ env.locals I it stored m₀ Led ps (P r) { s with heap := h, toks := tk } Q) E { s with heap := h, toks := tk })
    (done : ∀ (c : σ) (u : Str → Option Value) (h : Heap) (tk : Nat), P [] c → Fr h₀ env.locals h (kstB (fun z => if stored.contains z then u z else m₀ z) (ps c)) → News h₀ env.locals h (Led c) → Q .next { s with heap := h, toks := tk }) :
    wpAny (model prog w) A (pyIter (.ref I)) (fun it s₂ => LoopAtV prog w A h₀ env x body Q E it s₂) E s := by
  have key : ∀ (xs : List Value) (m : Str → Option Value) (c : σ), (∀ p ∈ ps c, m p.1 = some p.2) → (∀ z, (∀ p ∈ ps c, z ≠ p.1) → stored.contains z = false → m z = m₀ z) → P xs c →
      RevRest prog w A E h₀ env x body Q s I (ax, lo) xs m (Led c) := by
    intro xs
    induction xs with
    | nil => exact fun m c h1 h2 hp => RevRest.zero fun h tk F N => done c m h tk hp (ksw_fr h1 h2 F) N
    | cons v r ih =>
      intro m c h1 h2 hp
      refine RevRest.succ fun it h tk hit F N => ?_
      refine wpAny_mono (turn c it v r m h tk hit hp ⟨m, funext fun z => ?_⟩ F N) (fun f s₃ q => ?_) fun _ _ e => e
      · exact (kstB_eq h1 fun hz => by
          by_cases hs : stored.contains z = true
          · rw [if_pos hs]
          · rw [if_neg hs]; exact (h2 z hz (by simpa using hs)).symm).symm
      have fin : TurnEnd h₀ env.locals I it stored m₀ Led ps (P r) { s with heap := h, toks := tk } s₃ → UnrEnd h₀ env.locals { s with heap := h, toks := tk } I it (fun m' n' => (ax, lo) ∈ n' ∧ RevRest prog w A E h₀ env x body Q s I (ax, lo) r m' n') s₃ := by
        rintro ⟨c', h', tk', m', news', rfl, F', N', hI, hn, hne, hk', hr', hp'⟩
        refine ⟨h', tk', m', Led c', rfl, F', fun p hp => ?_, hne, hm c', ih m' c' hk' hr' hp'⟩
        rcases List.mem_cons.mp hp with rfl | hp
        · exact N' _ hI
        · exact N' _ (hn p hp)
      cases f with
      | ret v => exact q
      | brk => exact q
      | next => exact fin q
      | cont => exact fin q
  exact iter_revUnr hh F N hof (hm c₀) hc hd (key vs.reverse m₀ c₀ hk (fun _ _ _ => rfl) h0)
end
end
section
theorem bits_le {x : Int} (h : 0 ≤ x ∧ x < 2 ^ 40) : ((Builtin.Int.intBits x : Nat) : Int) ≤ 64 := by
  have := PySem.intBits_le_64 (k := x) (by omega) (by omega)
  omega
set_option maxRecDepth 100000 in
set_option maxHeartbeats 8000000 in
theorem c_div2 (w : World) (x y n : Int) (t1 t2 t3 : Tok) (hx : 0 ≤ x ∧ x < 2 ^ 40) (hy : 0 < y ∧ y < 1000) (hn : 0 ≤ n ∧ n ≤ 100) :
    Fun w 45 [.int x t1, .int y t2, .int n t3] [] 2 16 (fun _ => True) (fun h v h' => ∃ c : Tok × Tok, NewAt h h' v (tupOf [.int (x.fdiv y) c.1, .int (x.fmod y) c.2]) ∧ True) := by
  have hb := bits_le hx
  w_top off
  k_with_none
  unfold Fun; k_fill
  intro zp zloose zmean zmg zmb zdp zun zgd zcn zcs za zccd zcl zouter zA zbase zh₀ zL zm zs zQ zE zB zF zX zN zT zhk zhpre zhd zhu hret
  have zmu := fun q hq => And.left (zN q hq)
  refine wpAny_call ?_
  k_dflt (refine' enterP ?k1 ?k2 ?k3 ?k4 ?k5 ?kA ?kF ?kK ?k6 ?k7 ?k8 ?k9 ?kB ?_ ?c2 ?c3 ?c4 ?c5; (case kA => exact rfl); (case kF => exact rfl); (case kK => assumption); (case k1 => k_asm); (case k2 => k_asm); (case k3 => k_asm); (case k4 => k_asm); (case k5 => k_asm); (case k6 => k_is); (case k7 => k_is); (case k8 => ktr_room); (case k9 => first | exact BindsTo.of_eq rfl | exact binds_K (by k_in) rfl (by k_is) rfl rfl rfl); (case c5 => decide); (case kB => exact locs rfl); (case c2 => exact rfl); (case c3 => exact rfl); (case c4 => exact rfl); k_whole)
  intro zg zL' zh' KG zFG zF' zN' zB' zX' zT'
  (try dsimp only)
  (try k_fold)
  (have zF2 := fr_lookup (l := [(Str.ofString "n", .int n t3), (Str.ofString "b", .int y t2), (Str.ofString "a", .int x t1)]) (by with_unfolding_all exact zF'))
  dsimp only [kstB] at zF2
  clear zF'
  k_steps
  all_goals (refine hret _ _ _ (KG.fr (by k_asm)) ⟨(_, _), newAt KG (by k_asm) (by k_mem), trivial⟩)
end
section
section
variable {prog : Program} {w : World} {A₀ A : Around} {s : Shared} {base h₀ : Heap} {outer : List Env} {L : Addr} {m : Str → Option Value} {env : Env} {news : List (Addr × Obj)} {K : Frag}
  {p : Program} {loose : List Str} {mean : ExcName → Option Value} {mg mb : Str → Option Value}
  {R : Result → Shared → Prop} {name qual : Str} {params : Arguments} {body : List Stmt} {scope : Scope} {cl : List (Str × Addr)} {doc pm ctv : Value} {c' f : Addr} {args : Args} {binds : List (Str × Value)}
/-- a def that a call has made entered; the ghost below it keeps all but the ledger -/
theorem enterN (B : Below A₀ base outer h₀) (F : Fr h₀ L s.heap m) (X₀ : K.In h₀) (N : News h₀ L s.heap news) (T : Top p loose mean mg mb h₀) (hA : A.frames = some (env :: outer)) (hf : env.frame = some L) (hke : env.scope.kind = .function)
    (ho : (f, fnMade name qual params body scope cl doc pm c' ctv) ∈ news) (hcd : s.heap.CodeRec (.ref c') qual) (hroom : A.depth < recursionLimit)
    (hbind : BindsTo s (fnX name qual params body scope cl .none .none doc pm none (.ref c') ctv) args binds) (hloc : ∀ y ∈ binds, scope.names.lookup y.1 = some .local)
    (h : ∀ g L' h₁, Keeps (news.map (·.1)) s.heap g → Fr h₀ L g m → Fr g L' h₁ (fun y => binds.reverse.lookup y) → News g L' h₁ news → Below A base (env :: outer) g → K.In g → Top p loose mean mg mb g → (∀ q ∈ news, q.1 < L') →
      wpAny (model prog w) (A.deeper (envX qual scope L' f (.ref c') cl)) (execs body (envX qual scope L' f (.ref c') cl))
        (fun fl s' => LeaveK h₀ L m g R (match fl with | .ret v => v | _ => .none) s')
        (fun e s' => wpAny (model prog w) (A.deeper (envX qual scope L' f (.ref c') cl)) (leaving (envX qual scope L' f (.ref c') cl) e) (fun _ s'' => R (.error e) s'') (fun e' s'' => R (.error e') s'') s')
        { s with heap := h₁, toks := s.toks + binds.length })
    (hco : scope.isCoroutine = false) (hgen : scope.isGenerator = false) (hk : scope.kind = .function)
    (hcell : ∀ x ∈ scope.names, x.2 ≠ .cell) : codeAny (model prog w) A (.call (.ref f) args) R s := by
  obtain ⟨FG, BG, st, lv⟩ := groundX (R := R) B F N hA hf hke
  refine codeAny_call_def (fd := fnX name qual params body scope cl .none .none doc pm none (.ref c') ctv) (body := body) (binds := binds) hroom (N _ ho).1 rfl (T.nolimit.keeps F.keep) hcd rfl hbind hcell hloc (fun h₁ hns hk₁ => ?_) hco hgen hk
  exact wpAny_mono (h _ s.heap.objs.size h₁ (hide_keeps news s.heap) FG ⟨hns, fun b o e => hk₁ b o (of_hideAll _ e), Nat.le_of_eq (hideAll_size _ _)⟩
    (fun p hp => ⟨hk₁ _ _ (N p hp).1, Nat.ne_of_lt (Heap.lt_size (N p hp).1), hideAll_none _ (List.mem_map_of_mem hp)⟩) BG (X₀.keeps st) (T.keeps st) (fun p hp => Heap.lt_size (N p hp).1)) (fun fl s' hl => lv _ _ hl) fun _ _ y => y
theorem fr_mu {mu : List (Addr × Obj)} {h h' : Heap} (F : Fr h₀ L h m) (N : News h₀ L h mu) (k : Keeps (mu.map (·.1)) h h') : Fr h₀ L h' m := by
  refine ⟨?_, fun b o e => k b o (F.keep b o e) (fun hm => ?_), F.above⟩
  · obtain ⟨oL, es, ep, e, r⟩ := F.ns
    refine ⟨oL, es, ep, k L oL e (fun hm => ?_), r⟩
    obtain ⟨q, hq, e⟩ := List.mem_map.mp hm
    exact (N q hq).2.1 e
  · obtain ⟨q, hq, e2⟩ := List.mem_map.mp hm
    have := (N q hq).2.2
    rw [e2, e] at this; cases this
theorem news_upd {h h' : Heap} {l : Addr} {o o' : Obj} {g : Obj → List (Addr × Obj)} (N : News h₀ L h news) (k : Keeps [l] h h') (ho : h'.get? l = some o') (U : UpdF l o news g) : News h₀ L h' (g o') := by
  obtain ⟨pre, post, rfl, hg, h1, h2⟩ := U.split
  rw [hg]
  intro p hp
  rcases List.mem_append.mp hp with hp | hp
  · have n := N p (List.mem_append_left _ hp)
    exact ⟨k _ _ n.1 (fun q => h1 p hp (List.mem_singleton.mp q)), n.2⟩
  · rcases List.mem_cons.mp hp with rfl | hp
    · have n := N (l, o) (List.mem_append_right _ (.head _))
      exact ⟨ho, n.2⟩
    · have n := N p (List.mem_append_right _ (.tail _ hp))
      exact ⟨k _ _ n.1 (fun q => h2 p hp (List.mem_singleton.mp q)), n.2⟩
theorem codeRec_mu {mu : List (Addr × Obj)} {h g : Heap} {c : Addr} {q : Str} (zmu : ∀ q ∈ mu, h.get? q.1 = some q.2) (k : Keeps (mu.map (·.1)) h g) (x : h.CodeRec (.ref c) q) (hd2 : ∀ q ∈ mu, ∀ vs, q.2.data = .fields vs → ∀ t u, vs[1]? ≠ some (.str t u)) : g.CodeRec (.ref c) q := by
  obtain ⟨c₂, o, vs, t, e, g1, g2, g3⟩ := x
  cases e
  refine ⟨c, o, vs, t, rfl, k _ _ g1 (fun hm => ?_), g2, g3⟩
  obtain ⟨r, hr, e2⟩ := List.mem_map.mp hm
  have := zmu r hr
  rw [e2, g1] at this
  have := Option.some.inj this
  subst this
  exact hd2 r hr vs g2 _ _ g3
end
theorem Fun.useMu {w : World} {f : Addr} {vs : List Value} {mu : List (Addr × Obj)} {d u : Nat} {pre : Heap → Prop} {post : Heap → Value → Heap → Prop} (C : Fun w f vs mu d u pre post)
    {p : Program} {loose : List Str} {mean : ExcName → Option Value} {mg mb : Str → Option Value} {dp un : Nat} {gd : Option (List Code)} {cn : Str} {cs : Scope} {a : Addr} {ccd : Value} {cl : List (Str × Addr)} {outer : List Env} {A₀ : Around} {base h₀ : Heap} {L : Addr} {m : Str → Option Value} {s : Shared} {Q E : Value → Shared → Prop} {news : List (Addr × Obj)}
    (B : Below A₀ base outer h₀) (F : Fr h₀ L s.heap m) (X : (hd.heap_39 w.params).In h₀) (N : News h₀ L s.heap news) (hs : ∀ p ∈ mu, p ∈ news) (T : Top p loose mean mg mb h₀) (hk : cs.kind = .function) (hp : pre s.heap) (hd : dp + d < recursionLimit) (hu : un + u < cLine)
    (ret : ∀ v h' tk', Fr h₀ L h' m → Keeps (mu.map (·.1)) s.heap h' → post s.heap v h' → Q v { s with heap := h', toks := tk' }) :
    wpAny (model PySem.Challenge.rw_pe0283_01.row.prog w) (ktrTop dp un gd cn cs L a ccd cl outer) (call (.ref f) vs) Q E s :=
  C _ _ _ _ _ _ _ _ _ _ _ _ _ _ _ _ _ _ _ _ _ _ B F X (fun q hq => N q (hs q hq)) T hk hp hd hu fun v h' tk' k po => ret v h' tk' (fr_mu F (fun q hq => N q (hs q hq)) k) k po
noncomputable def innerOf (K : Frag) (f : Addr) : Option (Arguments × List Stmt × Scope) := match K.lookup f with
  | some ⟨_, _, .func fd, _⟩ => match fd.body with
    | .stmts (.FunctionDef _ p b _ _ _ s _ _ _ :: _) => some (p, b, s)
    | .stmts (_ :: .FunctionDef _ p b _ _ _ s _ _ _ :: _) => some (p, b, s)
    | _ => none
  | _ => none
theorem codeHd_K {K : Frag} {h : Heap} {c P : Addr} {od : Option Addr} {vs : Array Value} {sl : Array (Option Value)} {file : Str} {tf : Tok} {flags : Int} {tg : Tok} {inF : Bool} {text : Int} {tt : Tok} (X : K.In h) (hl : K.lookup c = some ⟨.type "code", od, .fields vs, sl⟩)
    (h1 : vs[11]? = some (.ref P)) (h3 : vs.getD 18 .none = .str file tf) (h4 : vs.getD 7 .none = .int flags tg) (h5 : vs.getD 9 .none = .bool inF) (h6 : vs.getD 10 .none = .int text tt) (hne : c ≠ P) : CodeHd h c P :=
  ⟨_, vs, file, tf, flags, tg, inF, text, tt, X _ _ hl, rfl, rfl, h1, by rw [← Array.getElem?_eq_some_iff.mp h1 |>.2]; simp [Array.getD, (Array.getElem?_eq_some_iff.mp h1).1], h3, h4, h5, h6, hne⟩
theorem ne_data {h : Heap} {a b : Addr} {o o' : Obj} (ha : h.get? a = some o) (hb : h.get? b = some o') (hc : o.data ≠ o'.data) : @Ne Nat a b := fun e => by
  subst e
  rw [ha] at hb
  exact hc (by rw [Option.some.inj hb])
theorem hd_58 {w : World} {h : Heap} (X : (hd.heap_39 w.params).In h) : CodeHd h 58 54 := by
  revert X
  suffices q : (fun (_ : Program) => (hd.heap_39 w.params).In h → CodeHd h 58 54) PySem.Challenge.rw_pe0283_01.row.prog from q
  k_fill
  intro X
  k_dflt (refine' codeHd_K X (?l) ?h1 ?h3 ?h4 ?h5 ?h6 ?h7; (case l => k_is); (case h1 => exact rfl); (case h3 => exact rfl); (case h4 => exact rfl); (case h5 => exact rfl); (case h6 => exact rfl); (case h7 => decide))
theorem hd_65 {w : World} {h : Heap} (X : (hd.heap_39 w.params).In h) : CodeHd h 65 61 := by
  revert X
  suffices q : (fun (_ : Program) => (hd.heap_39 w.params).In h → CodeHd h 65 61) PySem.Challenge.rw_pe0283_01.row.prog from q
  k_fill
  intro X
  k_dflt (refine' codeHd_K X (?l) ?h1 ?h3 ?h4 ?h5 ?h6 ?h7; (case l => k_is); (case h1 => exact rfl); (case h3 => exact rfl); (case h4 => exact rfl); (case h5 => exact rfl); (case h6 => exact rfl); (case h7 => decide))
theorem keeps_butN {mu news' : List (Addr × Obj)} {u : List Addr} {h g h' : Heap} {L' : Addr} {m' : Str → Option Value} (zmu : ∀ q ∈ mu, h.get? q.1 = some q.2) (K : Keeps (mu.map (·.1)) h g) (F : Fr g L' h' m') (N : News g L' h' news') (hs : ∀ p ∈ mu, p ∈ news' ∨ p.1 ∈ u) : Keeps u h h' := fun b o e hn => by
  by_cases hb : b ∈ mu.map (·.1)
  · obtain ⟨p, hp, rfl⟩ := List.mem_map.mp hb
    have q := zmu p hp
    rw [e] at q
    rw [Option.some.inj q]
    rcases hs p hp with h1 | h1
    · exact (N p h1).1
    · exact absurd h1 hn
  · exact F.keep b o (K b o e hb)
theorem new_noneN {u : List Addr} {h g : Heap} {D : Addr} (K : Keeps u h g) (n : g.get? D = none) (hu : D ∉ u) : h.get? D = none := by
  cases e : h.get? D with
  | none => rfl
  | some o => rw [K D o e hu] at n; cases n
theorem last_or {a b c d e e' : Addr × Obj} {u : List Addr} (h : e.1 ∈ u) : ∀ p ∈ [a, b, c, d, e], p ∈ [a, b, c, d, e'] ∨ p.1 ∈ u := by
  intro p hp
  simp only [List.mem_cons, List.not_mem_nil, or_false] at hp ⊢
  rcases hp with rfl | rfl | rfl | rfl | rfl
  · exact .inl (.inl rfl)
  · exact .inl (.inr (.inl rfl))
  · exact .inl (.inr (.inr (.inl rfl)))
  · exact .inl (.inr (.inr (.inr (.inl rfl))))
  · exact .inr h
end
section
noncomputable abbrev midF (L R : Int) : Int := (L + R).fdiv (2 ^ Int.toNat 1)
noncomputable abbrev shF (n L R : Int) : Int := (midF L R - L) * n
noncomputable abbrev upF (n x L R : Int) : Int := x.fdiv (2 ^ (shF n L R).toNat)
noncomputable abbrev loF (n x L R : Int) : Int := Builtin.bitXor x (upF n x L R * 2 ^ (shF n L R).toNat)
noncomputable def digF : Nat → Int → Int → Int → Int → List Int → List Int
  | 0, _, _, _, _, ds => ds
  | k + 1, n, x, L, R, ds => if L + 1 = R then ds.set L.toNat x else digF k n (upF n x L R) (midF L R) R (digF k n (loF n x L R) L (midF L R) ds)
theorem digF_len : ∀ (k : Nat) (n x L R : Int) (ds : List Int), (digF k n x L R ds).length = ds.length
  | 0, _, _, _, _, _ => rfl
  | k + 1, n, x, L, R, ds => by
    unfold digF
    split
    · exact List.length_set ..
    · rw [digF_len, digF_len]
theorem inn_facts {n x L R : Int} (hx : 0 ≤ x ∧ x < 2 ^ 40) (hn : 1 ≤ n ∧ n ≤ 10) (hL : 0 ≤ L ∧ L < R) (hR : R ≤ 40) (h : L + 1 ≠ R) :
    L < midF L R ∧ midF L R < R ∧ 0 ≤ shF n L R ∧ shF n L R ≤ 400 ∧ 0 ≤ upF n x L R ∧ upF n x L R < 2 ^ 40 ∧ 0 ≤ loF n x L R ∧ loF n x L R < 2 ^ 40 := by
  have e : midF L R = (L + R) / 2 := by
    show (L + R).fdiv 2 = _
    rw [Int.fdiv_eq_ediv_of_nonneg _ (by decide)]
  have m1 : L < midF L R := by omega
  have m2 : midF L R < R := by omega
  have s0 : 0 ≤ shF n L R := Int.mul_nonneg (by omega) (by omega)
  have s1 : shF n L R ≤ 400 := by
    have : (midF L R - L) * n ≤ 40 * 10 := Int.mul_le_mul (by omega) hn.2 (by omega) (by decide)
    exact this
  obtain ⟨X, rfl⟩ := Int.eq_ofNat_of_zero_le hx.1
  generalize hS : (shF n L R).toNat = S
  have u : upF n (X : Int) L R = ((X / 2 ^ S : Nat) : Int) := by
    show (X : Int).fdiv (2 ^ (shF n L R).toNat) = _
    rw [hS, Int.fdiv_eq_ediv_of_nonneg _ (Int.le_of_lt (Int.pow_pos (by decide)))]
    norm_cast
  have hX : X < 2 ^ 40 := by have := hx.2; exact_mod_cast this
  have u2 : X / 2 ^ S < 2 ^ 40 := Nat.lt_of_le_of_lt (Nat.div_le_self _ _) hX
  have hand : X &&& (X / 2 ^ S * 2 ^ S) = X / 2 ^ S * 2 ^ S := by
    rw [← Nat.shiftRight_eq_div_pow, ← Nat.shiftLeft_eq]
    apply Nat.eq_of_testBit_eq
    intro i
    rw [Nat.testBit_and, Nat.testBit_shiftLeft, Nat.testBit_shiftRight]
    by_cases hi : S ≤ i
    · rw [show S + (i - S) = i by omega]; simp
    · simp [hi]
  have l2 := Nat.div_mul_le_self X (2 ^ S)
  have lo : loF n (X : Int) L R = ((X - X / 2 ^ S * 2 ^ S : Nat) : Int) := by
    show Builtin.bitXor _ (upF n X L R * 2 ^ (shF n L R).toNat) = _
    rw [u, hS]
    have : (((X / 2 ^ S : Nat) : Int) * 2 ^ S) = ((X / 2 ^ S * 2 ^ S : Nat) : Int) := by norm_cast
    rw [this, bitXor_and]
    have h2 : Builtin.bitAnd (X : Int) ((X / 2 ^ S * 2 ^ S : Nat) : Int) = ((X &&& (X / 2 ^ S * 2 ^ S) : Nat) : Int) := by
      unfold Builtin.bitAnd
      rw [decide_eq_true (Int.natCast_nonneg _), decide_eq_true (Int.natCast_nonneg _)]
      rfl
    rw [h2, hand]
    omega
  refine ⟨m1, m2, s0, s1, ?_, ?_, ?_, ?_⟩
  · rw [u]; exact Int.natCast_nonneg _
  · rw [u]; exact_mod_cast u2
  · rw [lo]; exact Int.natCast_nonneg _
  · rw [lo]; exact_mod_cast (show X - X / 2 ^ S * 2 ^ S < 2 ^ 40 by omega)
noncomputable def InnA (w : World) (p : Arguments) (b : List Stmt) (sc : Scope) (k : Nat) : Prop := ∀ (f c1 c2 c3 l c' : Addr) (qual : Str) (doc pm ctv : Value) (o1 o2 o3 : Obj) (n x L R : Int) (tn t1 t2 t3 : Tok) (vs : List Value) (nn : Nat) (ns : List Int),
    o1.data = .cell (some (.ref l)) → o2.data = .cell (some (.ref f)) → o3.data = .cell (some (.int n tn)) → 0 ≤ x ∧ x < 2 ^ 40 → 1 ≤ n ∧ n ≤ 10 → 0 ≤ L ∧ L < R ∧ R ≤ ns.length → ns.length ≤ 40 → R - L ≤ k → IntsAre vs ns →
    Fun w f [.int x t1, .int L t2, .int R t3] [(f, fnMade (Str.ofString "inner") qual p b sc [(Str.ofString "n", c3), (Str.ofString "inner", c2), (Str.ofString "a_digits", c1)] doc pm c' ctv), (c1, o1), (c2, o2), (c3, o3), (l, listOf vs.toArray nn)] (k + 1) (4 * k + 16) (fun h => h.CodeRec (.ref c') qual)
      (fun h v h' => v = .none ∧ ∃ vs', h'.get? l = some (listOf vs'.toArray nn) ∧ IntsAre vs' (digF k n x L R ns) ∧ Keeps [l] h h')
set_option maxRecDepth 100000 in
set_option maxHeartbeats 8000000 in
theorem c_innerA (w : World) : ∃ p b sc, innerOf (hd.heap_39 w.params) 59 = some (p, b, sc) ∧ ∀ k, InnA w p b sc k → InnA w p b sc (k + 1) := by
  refine ⟨?p, ?b, ?s, ?e, ?_⟩
  (case e => with_unfolding_all exact rfl)
  intro k ih
  unfold InnA
  intro f c1 c2 c3 l c' qual doc pm ctv o1 o2 o3 n x L R tn t1 t2 t3 vs nn ns e1 e2 e3 hx hn hL hle hk hI
  w_top off
  k_with_none
  unfold Fun; k_fill
  intro zp zloose zmean zmg zmb zdp zun zgd zcn zcs za zccd zcl zouter zA zbase zh₀ zL zm zs zQ zE zB zF zX zN zT zhk zhpre zhd zhu hret
  have zmu := fun q hq => And.left (zN q hq)
  refine wpAny_call ?_
  k_dflt (refine' enterN ?k1 ?k2 ?k3 ?k4 ?k5 ?kA ?kF ?kK ?k6 ?k7 ?k8 ?k9 ?kB ?_ ?c2 ?c3 ?c4 ?c5; (case kA => exact rfl); (case kF => exact rfl); (case kK => assumption); (case k1 => k_asm); (case k2 => k_asm); (case k3 => k_asm); (case k4 => k_asm); (case k5 => k_asm); (case k6 => k_mem); (case k7 => exact zhpre); (case k8 => ktr_room); (case k9 => exact BindsTo.of_eq rfl); (case c5 => decide); (case kB => exact locs rfl); (case c2 => exact rfl); (case c3 => exact rfl); (case c4 => exact rfl); k_whole)
  intro zg zL' zh' KG zFG zF' zN' zB' zX' zT' zlt
  (try dsimp only)
  (try k_fold)
  (have zF2 := fr_lookup (l := [(Str.ofString "R", .int R t3), (Str.ofString "L", .int L t2), (Str.ofString "x", .int x t1)]) (by with_unfolding_all exact zF'))
  dsimp only [kstB] at zF2
  clear zF'
  have n1 := ne_data (zmu _ (.head _)) (zmu _ (.tail _ (.tail _ (.tail _ (.tail _ (.head _)))))) (by simp)
  have n2 := ne_data (zmu _ (.tail _ (.head _))) (zmu _ (.tail _ (.tail _ (.tail _ (.tail _ (.head _)))))) (by rw [e1]; simp)
  have n3 := ne_data (zmu _ (.tail _ (.tail _ (.head _)))) (zmu _ (.tail _ (.tail _ (.tail _ (.tail _ (.head _)))))) (by rw [e2]; simp)
  have n4 := ne_data (zmu _ (.tail _ (.tail _ (.tail _ (.head _))))) (zmu _ (.tail _ (.tail _ (.tail _ (.tail _ (.head _)))))) (by rw [e3]; simp)
  have hC := hd_58 zX'
  have hcr := codeRec_mu zmu KG zhpre (by simp [e1, e2, e3])
  unfold InnA at ih
  k_with "execs cons" => ((with_reducible show wpAny _ _ (execs (Stmt.Assign [Expr.Name (Str.ofString "mid") _] _ _ :: _) _) _ _ _); (have hLR : L + 1 ≠ R := by assumption); (obtain ⟨f1, f2, f3, f4, f5, f6, f7, f8⟩ := inn_facts hx hn ⟨hL.1, hL.2.1⟩ (by omega) hLR); (dsimp only [midF, shF, upF, loF] at f1 f2 f3 f4 f5 f6 f7 f8); refine wpAny_execs_cons ?_)
  k_with "mine call ref" => ((with_reducible show wpAny _ _ (call (Value.ref f) _) _ _ _); (try dsimp only); k_dflt (refine' Fun.useMu (ih f c1 c2 c3 l c' qual doc pm ctv o1 o2 o3 n _ _ _ tn _ _ _ _ nn _ e1 e2 e3 ?b1 hn ?b2 ?b3 ?b4 ?b5) ?k1 ?k2 ?k3 ?k4 ?hs ?k5 ?kK ?kp ?kd ?ku ?_; (case b5 => assumption); (case k1 => k_asm); (case k2 => k_asm); (case k3 => k_asm); (case k4 => k_asm); (case hs => exact fun _ h => h); (case k5 => k_asm); (case kK => first | exact rfl | assumption); (case kp => exact hcr.keeps (Fr.keep (by k_asm))); (case b1 => first | exact ⟨f7, f8⟩ | exact ⟨f5, f6⟩); (case b2 => (try rw [digF_len]); refine ⟨?_, ?_, ?_⟩ <;> omega); (case b3 => (try rw [digF_len]); omega); (case b4 => omega); (case kd => ktr_room); (case ku => ktr_units); intro v9 h9 tk9 F9 K9 P9; obtain ⟨q9, vs9, g9, I9, K9⟩ := P9; subst q9; (rename News _ _ _ _ => N9); (replace N9 := news_upd N9 K9 g9 (.tail n1 (.tail n2 (.tail n3 (.tail n4 (.head (fun _ h => nomatch h))))))); (try dsimp only); (try k_sweep)))
  k_steps
  all_goals (rename Fr zg _ _ _ => lF'; rename News zg _ _ _ => lN')
  · refine hret _ _ _ (KG.fr lF') ⟨rfl, _, (lN' _ (.tail _ (.tail _ (.tail _ (.tail _ (.head _)))))).1, ?_, keeps_butN zmu KG lF' lN' (last_or (.head _))⟩
    unfold digF
    rw [if_pos (by assumption)]
    assumption
  · refine hret _ _ _ (KG.fr lF') ⟨rfl, _, (lN' _ (.tail _ (.tail _ (.tail _ (.tail _ (.head _)))))).1, ?_, keeps_butN zmu KG lF' lN' (last_or (.head _))⟩
    unfold digF
    rw [if_neg (by assumption)]
    assumption
theorem innA_zero (w : World) (p : Arguments) (b : List Stmt) (sc : Scope) : InnA w p b sc 0 := by
  unfold InnA
  intros
  omega
theorem innA_all {w : World} {p : Arguments} {b : List Stmt} {sc : Scope} (e : innerOf (hd.heap_39 w.params) 59 = some (p, b, sc)) (k : Nat) : InnA w p b sc k := by
  obtain ⟨p', b', sc', e', st⟩ := c_innerA w
  rw [e] at e'
  cases e'
  induction k with
  | zero => exact innA_zero w p b sc
  | succ k ih => exact st k ih
end
section
theorem bits_le40 {x : Int} (h : 0 ≤ x ∧ x < 2 ^ 40) : ((Builtin.Int.intBits x : Nat) : Int) ≤ 40 := by
  have : Builtin.Int.intBits x ≤ 40 := intBits_le_iff.mpr (by have := h.2; omega)
  omega
noncomputable def cntF (n x : Int) : Int := (((Builtin.Int.intBits x : Nat) : Int) + n - 1).fdiv n
theorem cnt_le {n x : Int} (h : 0 ≤ x ∧ x < 2 ^ 40) (hn : 1 ≤ n ∧ n ≤ 10) : 0 ≤ cntF n x ∧ cntF n x ≤ 40 ∧ (x ≠ 0 → 1 ≤ cntF n x) := by
  have hb := bits_le40 h
  have hp : x ≠ 0 → 1 ≤ Builtin.Int.intBits x := by
    intro hx
    unfold Builtin.Int.intBits
    rw [if_neg (by simpa using hx)]
    omega
  unfold cntF
  generalize Builtin.Int.intBits x = b at hb hp
  rw [Int.fdiv_eq_ediv_of_nonneg _ (by omega)]
  refine ⟨Int.ediv_nonneg (by omega) (by omega), Int.ediv_le_of_le_mul (by omega) (by omega), fun hx => Int.le_ediv_of_mul_le (by omega) ?_⟩
  have := hp hx
  omega
noncomputable abbrev tabF (ln : Int) (c' : Addr) : Array Value := #[rawInt ln, rawInt 4, .ref c']
noncomputable abbrev qualA : Str := Str.ofString "_int2digits.<locals>.inner"
noncomputable def digitsF (n x : Int) : List Int := if x = 0 then List.replicate (cntF n x).toNat 0 else digF (cntF n x).toNat n x 0 (cntF n x) (List.replicate (cntF n x).toNat 0)
theorem rep_ints {t : Tok} : ∀ k : Nat, IntsAre (List.replicate k [Value.int 0 t]).flatten (List.replicate k 0)
  | 0 => .nil
  | k + 1 => .cons 0 t (rep_ints k)
theorem mul_zero_list {prog : Program} {w : World} {A : Around} {E : Value → Shared → Prop} {s : Shared} {h₀ : Heap} {L : Addr} {m : Str → Option Value} {news : List (Addr × Obj)} {l : Addr} {x : Int} {u t : Tok} {Q : Value → Shared → Prop}
    (Fm : Fr h₀ L s.heap m) (N : News h₀ L s.heap news) (hl : s.heap.IsList l [Value.int 0 t].toArray) (hlo : 0 ≤ x) (hhi : x ≤ 40)
    (h : ∀ D h' vs, Fr h₀ L h' m → News h₀ L h' ((D, listOf (List.toArray vs) 0) :: news) → (∀ p ∈ news, p.1 < D) → IntsAre vs (List.replicate x.toNat 0) → (vs.length : Int) = x → Q (.ref D) { s with heap := h' }) : wpAny (model prog w) A (binaryOp .Mult (.ref l) (.int x u)) Q E s := by
  refine KMa.mul Fm N hl (by omega) (by omega) (by simp only [List.length_cons, List.length_nil]; omega) rfl fun D h' F' N' l1 => ?_
  refine h D h' _ F' N' l1 (rep_ints _) ?_
  have := IntsAre.length (rep_ints (t := t) x.toNat)
  rw [List.length_replicate] at this
  omega
theorem mem5 {a b c d e : Addr × Obj} {news : List (Addr × Obj)} (h1 : a ∈ news) (h2 : b ∈ news) (h3 : c ∈ news) (h4 : d ∈ news) (h5 : e ∈ news) : ∀ p ∈ [a, b, c, d, e], p ∈ news := by
  intro p hp
  simp only [List.mem_cons, List.not_mem_nil, or_false] at hp
  rcases hp with rfl | rfl | rfl | rfl | rfl <;> assumption
theorem tab_noStr {ln : Int} {c' P : Addr} (q : Addr × Obj) : q ∈ [(P, tabObj (tabF ln c'))] → ∀ vs, q.2.data = .fields vs → ∀ t u, vs[1]? ≠ some (.str t u) := by
  intro hq vs e t u
  rw [List.mem_singleton.mp hq] at e
  cases e
  simp [rawInt]
theorem size_int {vs : List Value} {k : Int} (h : (vs.length : Int) = k) : ((vs.toArray.size : Nat) : Int) = k := by rw [List.size_toArray]; exact h
theorem tab_first {h : Heap} {P c : Addr} {a b : Value} (e : h.get? P = some (tabObj (#[] ++ #[a, b, .ref c]))) : h.get? P = some (tabObj #[a, b, .ref c]) := by rw [Array.empty_append] at e; exact e
set_option maxRecDepth 100000 in
set_option maxHeartbeats 8000000 in
theorem c_digits (w : World) (x n : Int) (c' : Addr) (t1 t3 : Tok) (hx : 0 ≤ x ∧ x < 2 ^ 40) (hn : 1 ≤ n ∧ n ≤ 10) :
    Fun w 59 [.int x t1, .int n t3] [(54, tabObj (tabF 36 c'))] 43 200 (fun h => h.CodeRec (.ref c') qualA) (fun h v h' => Keeps [] h h' ∧ ∃ vs nn, NewAt h h' v (listOf vs.toArray nn) ∧ IntsAre vs (digitsF n x)) := by
  obtain ⟨hc1, hc2, hc3⟩ := cnt_le hx hn
  have hb := bits_le hx
  have hcf : (cntF n x).toNat ≤ 40 := by omega
  unfold cntF at hc1 hc2 hc3
  w_top off
  k_with_none
  k_with "mine binaryOp Mult ref int" => ((with_reducible show wpAny _ _ (binaryOp Operator.Mult (Value.ref _) (Value.int _ _)) _ _ _); k_dflt (refine mul_zero_list (by k_asm) (by k_asm) (by is_list) (by omega) (by omega) ?_; k_whole); intro D' h' vs' F' N' l1 hi' hl'; (try k_lt l1); (try dsimp only); (try k_sweep))
  k_with "mine call builtin:len" => ((with_reducible show wpAny _ _ (call (Value.builtin "len") [Value.ref _]) _ _ _); k_dflt (refine kun_lenL (by exact News.isList (by k_asm) (by k_mem)) (by exact size_int (by assumption)) (by omega) ?_; k_whole); (try dsimp only))
  unfold Fun; k_fill
  intro zp zloose zmean zmg zmb zdp zun zgd zcn zcs za zccd zcl zouter zA zbase zh₀ zL zm zs zQ zE zB zF zX zN zT zhk zhpre zhd zhu hret
  have zmu := fun q hq => And.left (zN q hq)
  refine wpAny_call ?_
  k_dflt (refine' enterC ?k1 ?k2 ?k3 ?k4 ?k5 ?kA ?kF ?kK ?k6 ?k7 ?k8 ?k9 ?kB ?kD ?_ ?c2 ?c3 ?c4; (case kA => exact rfl); (case kF => exact rfl); (case kK => assumption); (case k1 => k_asm); (case k2 => k_asm); (case k3 => k_asm); (case k4 => k_asm); (case k5 => k_asm); (case k6 => k_is); (case k7 => k_is); (case k8 => ktr_room); (case k9 => first | exact BindsTo.of_eq rfl | exact binds_K (by k_in) rfl (by k_is) rfl rfl rfl); (case kB => exact rfl); (case kD => decide +kernel); (case c2 => exact rfl); (case c3 => exact rfl); (case c4 => exact rfl); k_whole)
  intro zg zL' zh' ztk zcells KG zsz zFG zF' zN' zY zB' zX' zT' zl1
  (try k_lt zl1)
  k_cells zY
  (try simp only [List.cons_append, List.nil_append] at zN')
  (try dsimp only)
  (try k_fold)
  (have zF2 : Fr zg zL' zh' (kstB (fun _ => none) [(Str.ofString "a", .int x t1)]) := by with_unfolding_all exact zF')
  dsimp only [kstB] at zF2
  clear zF'
  have hC := hd_58 zX'
  have hcr := codeRec_mu zmu KG zhpre tab_noStr
  k_with "mine eval Call" => ((with_reducible show wpAny _ _ (eval (Expr.Call (Expr.Name (Str.ofString "inner") _) _ _ _) _) _ _ _); refine Call_ ?_)
  k_with "mine call ref" => ((with_reducible show wpAny _ _ (call (Value.ref _) [Value.int _ _, Value.int _ _, Value.int _ _]) _ _ _); (try dsimp only); k_dflt (refine' Fun.useMu (innA_all ?ei (cntF n x).toNat _ _ _ _ _ _ _ _ _ _ _ _ _ n _ _ _ t3 _ _ _ _ _ _ ?e1 ?e2 ?e3 hx hn ?b2 ?b3 ?b4 ?b5) ?k1 ?k2 ?k3 ?k4 (mem5 ?m1 ?m2 ?m3 ?m4 ?m5) ?k5 ?kK ?kp ?kd ?ku ?_; (case k1 => k_asm); (case k2 => k_asm); (case k3 => k_asm); (case k4 => k_asm); (case m1 => k_mem); (case m2 => k_mem); (case m3 => k_mem); (case m4 => k_mem); (case e1 => assumption); (case m5 => k_mem); (case b5 => assumption); (case ei => with_unfolding_all exact rfl); (case e2 => assumption); (case e3 => first | assumption | (refine Eq.trans (by assumption) ?_; with_unfolding_all rfl)); (case k5 => k_asm); (case kK => first | exact rfl | assumption); (case kp => exact hcr.keeps (Fr.keep (by k_asm))); (case b2 => rw [List.length_replicate]; refine ⟨?_, ?_, ?_⟩ <;> omega); (case b3 => rw [List.length_replicate]; omega); (case b4 => unfold cntF; omega); (case kd => ktr_room); (case ku => ktr_units); intro v9 h9 tk9 F9 K9 P9; obtain ⟨q9, vs9, g9, I9, K9⟩ := P9; subst q9; (rename News _ _ _ _ => N9); (replace N9 := news_upd N9 K9 g9 (by k_updF)); (try dsimp only); (try k_sweep)))
  k_steps
  all_goals (rename Fr zg _ _ _ => lF'; rename News zg _ _ _ => lN')
  · refine hret _ _ _ (KG.fr lF') ⟨keeps_butN zmu KG lF' lN' (fun p hp => by rw [List.mem_singleton.mp hp]; exact .inl (by k_mem)), _, _, ⟨_, rfl, new_noneN KG (lN' _ (.tail _ (.head _))).2.2 (fun hm => ?_), (lN' _ (.tail _ (.head _))).1⟩, ?_⟩
    · have e := (show @Eq Nat _ _ from List.mem_singleton.mp hm); dsimp only at e; omega
    · unfold digitsF; rw [if_neg (by assumption)]; assumption
  · refine hret _ _ _ (KG.fr lF') ⟨keeps_butN zmu KG lF' lN' (fun p hp => by rw [List.mem_singleton.mp hp]; exact .inl (by k_mem)), _, _, ⟨_, rfl, new_noneN KG (lN' _ (.tail _ (.head _))).2.2 (fun hm => ?_), (lN' _ (.tail _ (.head _))).1⟩, ?_⟩
    · have e := (show @Eq Nat _ _ from List.mem_singleton.mp hm); dsimp only at e; omega
    · unfold digitsF; rw [if_pos (by assumption)]; assumption
set_option maxRecDepth 100000 in
set_option maxHeartbeats 8000000 in
theorem c_digits0 (w : World) (x n : Int) (t1 t3 : Tok) (hx : 0 ≤ x ∧ x < 2 ^ 40) (hn : 1 ≤ n ∧ n ≤ 10) :
    Fun w 59 [.int x t1, .int n t3] [(54, tabObj #[])] 43 200 (fun _ => True) (fun h v h' => (∃ c', h.get? c' = none ∧ h'.get? 54 = some (tabObj (tabF 36 c')) ∧ h'.CodeRec (.ref c') qualA) ∧ Keeps [54] h h' ∧ ∃ vs nn, NewAt h h' v (listOf vs.toArray nn) ∧ IntsAre vs (digitsF n x)) := by
  obtain ⟨hc1, hc2, hc3⟩ := cnt_le hx hn
  have hb := bits_le hx
  have hcf : (cntF n x).toNat ≤ 40 := by omega
  unfold cntF at hc1 hc2 hc3
  w_top off
  k_with_none
  k_with "mine binaryOp Mult ref int" => ((with_reducible show wpAny _ _ (binaryOp Operator.Mult (Value.ref _) (Value.int _ _)) _ _ _); k_dflt (refine mul_zero_list (by k_asm) (by k_asm) (by is_list) (by omega) (by omega) ?_; k_whole); intro D' h' vs' F' N' l1 hi' hl'; (try k_lt l1); (try dsimp only); (try k_sweep))
  k_with "mine call builtin:len" => ((with_reducible show wpAny _ _ (call (Value.builtin "len") [Value.ref _]) _ _ _); k_dflt (refine kun_lenL (by exact News.isList (by k_asm) (by k_mem)) (by exact size_int (by assumption)) (by omega) ?_; k_whole); (try dsimp only))
  k_with "mine call ref" => ((with_reducible show wpAny _ _ (call (Value.ref _) [Value.int _ _, Value.int _ _, Value.int _ _]) _ _ _); (try dsimp only); k_dflt (refine' Fun.useMu (innA_all ?ei (cntF ?zn ?zx).toNat _ _ _ _ _ _ _ _ _ _ _ _ _ ?zn ?zx _ _ _ _ _ _ _ _ _ ?e1 ?e2 ?e3 ?bx ?bn ?b2 ?b3 ?b4 ?b5) ?k1 ?k2 ?k3 ?k4 (mem5 ?m1 ?m2 ?m3 ?m4 ?m5) ?k5 ?kK ?kp ?kd ?ku ?_; (case bx => assumption); (case k1 => k_asm); (case k2 => k_asm); (case k3 => k_asm); (case k4 => k_asm); (case m1 => k_mem); (case m2 => k_mem); (case m3 => k_mem); (case m4 => k_mem); (case e1 => assumption); (case m5 => k_mem); (case b5 => assumption); (case ei => with_unfolding_all exact rfl); (case e2 => assumption); (case e3 => first | assumption | (refine Eq.trans (by assumption) ?_; with_unfolding_all rfl)); (case bn => assumption); (case k5 => k_asm); (case kK => first | exact rfl | assumption); (case kp => exact codeRec_news (by k_asm) (by k_mem) (by assumption) (by assumption)); (case b2 => rw [List.length_replicate]; refine ⟨?_, ?_, ?_⟩ <;> omega); (case b3 => rw [List.length_replicate]; omega); (case b4 => unfold cntF; omega); (case kd => ktr_room); (case ku => ktr_units); intro v9 h9 tk9 F9 K9 P9; obtain ⟨q9, vs9, g9, I9, K9⟩ := P9; subst q9; (rename News _ _ _ _ => N9); (replace N9 := news_upd N9 K9 g9 (by k_updF)); (try dsimp only); (try k_sweep)))
  unfold Fun; k_fill
  intro zp zloose zmean zmg zmb zdp zun zgd zcn zcs za zccd zcl zouter zA zbase zh₀ zL zm zs zQ zE zB zF zX zN zT zhk zhpre zhd zhu hret
  have zmu := fun q hq => And.left (zN q hq)
  refine wpAny_call ?_
  k_dflt (refine' enterC ?k1 ?k2 ?k3 ?k4 ?k5 ?kA ?kF ?kK ?k6 ?k7 ?k8 ?k9 ?kB ?kD ?_ ?c2 ?c3 ?c4; (case kA => exact rfl); (case kF => exact rfl); (case kK => assumption); (case k1 => k_asm); (case k2 => k_asm); (case k3 => k_asm); (case k4 => k_asm); (case k5 => k_asm); (case k6 => k_is); (case k7 => k_is); (case k8 => ktr_room); (case k9 => first | exact BindsTo.of_eq rfl | exact binds_K (by k_in) rfl (by k_is) rfl rfl rfl); (case kB => exact rfl); (case kD => decide +kernel); (case c2 => exact rfl); (case c3 => exact rfl); (case c4 => exact rfl); k_whole)
  intro zg zL' zh' ztk zcells KG zsz zFG zF' zN' zY zB' zX' zT' zl1
  (try k_lt zl1)
  k_cells zY
  (try simp only [List.cons_append, List.nil_append] at zN')
  (try dsimp only)
  (try k_fold)
  (have zF2 : Fr zg zL' zh' (kstB (fun _ => none) [(Str.ofString "a", .int x t1)]) := by with_unfolding_all exact zF')
  dsimp only [kstB] at zF2
  clear zF'
  have hC := hd_58 zX'
  k_steps
  all_goals (rename Fr zg _ _ _ => lF'; rename News zg _ _ _ => lN')
  · refine hret _ _ _ (KG.fr lF') ⟨⟨_, new_noneN KG (lN' _ (.tail _ (.head _))).2.2 (fun hm => by have e := (show @Eq Nat _ _ from List.mem_singleton.mp hm); dsimp only at e; omega), tab_first (lN' (54, _) (by k_mem)).1, codeRec_news lN' (.tail _ (.head _)) (by assumption) (by assumption)⟩, keeps_butN zmu KG lF' lN' (fun p hp => by rw [List.mem_singleton.mp hp]; exact .inr (.head _)), _, _, ⟨_, rfl, new_noneN KG (lN' _ (.tail _ (.tail _ (.head _)))).2.2 (fun hm => ?_), (lN' _ (.tail _ (.tail _ (.head _)))).1⟩, ?_⟩
    · have e := (show @Eq Nat _ _ from List.mem_singleton.mp hm); dsimp only at e; omega
    · unfold digitsF; rw [if_neg (by assumption)]; assumption
  · refine hret _ _ _ (KG.fr lF') ⟨⟨_, new_noneN KG (lN' _ (.tail _ (.head _))).2.2 (fun hm => by have e := (show @Eq Nat _ _ from List.mem_singleton.mp hm); dsimp only at e; omega), tab_first (lN' (54, _) (by k_mem)).1, codeRec_news lN' (.tail _ (.head _)) (by assumption) (by assumption)⟩, keeps_butN zmu KG lF' lN' (fun p hp => by rw [List.mem_singleton.mp hp]; exact .inr (.head _)), _, _, ⟨_, rfl, new_noneN KG (lN' _ (.tail _ (.tail _ (.head _)))).2.2 (fun hm => ?_), (lN' _ (.tail _ (.tail _ (.head _)))).1⟩, ?_⟩
    · have e := (show @Eq Nat _ _ from List.mem_singleton.mp hm); dsimp only at e; omega
    · unfold digitsF; rw [if_pos (by assumption)]; assumption
end
section
noncomputable def valF : Nat → Int → Int → Int → List Int → Int
  | 0, _, _, _, _ => 0
  | k + 1, n, L, R, ds => if L + 1 = R then ds.getD L.toNat 0 else valF k n (midF L R) R ds * 2 ^ (shF n L R).toNat + valF k n L (midF L R) ds
theorem valF_one {k : Nat} {n L R : Int} {ds : List Int} (h : L + 1 = R) : valF (k + 1) n L R ds = ds.getD L.toNat 0 := by
  rw [valF, if_pos h]
theorem valF_more {k : Nat} {n L R : Int} {ds : List Int} (h : L + 1 ≠ R) : valF (k + 1) n L R ds = valF k n (midF L R) R ds * 2 ^ (shF n L R).toNat + valF k n L (midF L R) ds := by
  rw [valF, if_neg h]
theorem shF_nonneg {n L R : Int} (hn : 1 ≤ n) (hL : 0 ≤ L ∧ L < R) (h : L + 1 ≠ R) : L < midF L R ∧ midF L R < R ∧ 0 ≤ shF n L R := by
  have e : midF L R = (L + R) / 2 := by
    show (L + R).fdiv 2 = _
    rw [Int.fdiv_eq_ediv_of_nonneg _ (by decide)]
  exact ⟨by omega, by omega, Int.mul_nonneg (by omega) (by omega)⟩
theorem val_bound {n : Int} {ds : List Int} (hn : 1 ≤ n) (hd : ∀ d ∈ ds, 0 ≤ d ∧ d < 2 ^ n.toNat) : ∀ (k : Nat) (L R : Int), 0 ≤ L ∧ L < R ∧ R ≤ ds.length → R - L ≤ k → 0 ≤ valF k n L R ds ∧ valF k n L R ds < 2 ^ ((R - L) * n).toNat
  | 0, _, _, h, hk => by omega
  | k + 1, L, R, h, hk => by
    unfold valF
    by_cases hLR : L + 1 = R
    · rw [if_pos hLR]
      have : ds.getD L.toNat 0 ∈ ds := by
        rw [List.getD_eq_getElem?_getD, List.getElem?_eq_getElem (show L.toNat < ds.length by omega)]
        exact List.getElem_mem ..
      have := hd _ this
      rw [show R - L = 1 by omega, Int.one_mul]
      exact this
    · rw [if_neg hLR]
      obtain ⟨m1, m2, s0⟩ := shF_nonneg (n := n) hn ⟨h.1, h.2.1⟩ hLR
      have a := val_bound hn hd k (midF L R) R ⟨by omega, m2, h.2.2⟩ (by omega)
      have b := val_bound hn hd k L (midF L R) ⟨h.1, m1, by omega⟩ (by omega)
      have e : ((R - L) * n).toNat = ((R - midF L R) * n).toNat + (shF n L R).toNat := by
        have t0 : 0 ≤ (R - midF L R) * n := Int.mul_nonneg (by omega) (by omega)
        have t1 : (R - L) * n = (R - midF L R) * n + shF n L R := by
          show _ = _ + (midF L R - L) * n
          rw [← Int.add_mul]; congr 1; omega
        omega
      generalize valF k n (midF L R) R ds = A at a ⊢
      generalize valF k n L (midF L R) ds = B at b ⊢
      rw [e, Int.pow_add]
      have b2 : B < 2 ^ (shF n L R).toNat := b.2
      generalize (2 : Int) ^ (shF n L R).toNat = S at b2 ⊢
      have hS : 0 ≤ S := by omega
      refine ⟨Int.add_nonneg (Int.mul_nonneg a.1 hS) b.1, ?_⟩
      have : (A + 1) * S ≤ 2 ^ ((R - midF L R) * n).toNat * S := Int.mul_le_mul_of_nonneg_right (by omega) hS
      rw [Int.add_mul, Int.one_mul] at this
      omega
theorem pow40 {j : Int} (h : j ≤ 40) : (2 : Int) ^ j.toNat ≤ 2 ^ 40 := by
  have : (2 : Nat) ^ j.toNat ≤ 2 ^ 40 := Nat.pow_le_pow_right (by decide) (by omega)
  exact_mod_cast this
theorem mul_le40 {n a b : Int} (hn : 1 ≤ n) (h : a ≤ b) (hb : b * n ≤ 40) : a * n ≤ 40 := Int.le_trans (Int.mul_le_mul_of_nonneg_right h (by omega)) hb
noncomputable def InnB (w : World) (p : Arguments) (b : List Stmt) (sc : Scope) (k : Nat) : Prop := ∀ (f c1 c2 c3 l c' : Addr) (qual : Str) (doc pm ctv : Value) (o1 o2 o3 : Obj) (n L R : Int) (tn t2 t3 : Tok) (vs : List Value) (nn : Nat) (ns : List Int),
    o1.data = .cell (some (.ref l)) → o2.data = .cell (some (.ref f)) → o3.data = .cell (some (.int n tn)) → 1 ≤ n → (ns.length : Int) * n ≤ 40 → 0 ≤ L ∧ L < R ∧ R ≤ ns.length → ns.length ≤ 40 → R - L ≤ k → IntsAre vs ns → (∀ d ∈ ns, 0 ≤ d ∧ d < 2 ^ n.toNat) →
    Fun w f [.int L t2, .int R t3] [(f, fnMade (Str.ofString "inner") qual p b sc [(Str.ofString "n", c3), (Str.ofString "inner", c2), (Str.ofString "digits", c1)] doc pm c' ctv), (c1, o1), (c2, o2), (c3, o3), (l, listOf vs.toArray nn)] (k + 1) (4 * k + 16) (fun h => h.CodeRec (.ref c') qual)
      (fun h v h' => Keeps [] h h' ∧ ∃ t, v = .int (valF k n L R ns) t)
set_option maxRecDepth 100000 in
set_option maxHeartbeats 8000000 in
theorem c_innerB (w : World) : ∃ p b sc, innerOf (hd.heap_39 w.params) 66 = some (p, b, sc) ∧ ∀ k, InnB w p b sc k → InnB w p b sc (k + 1) := by
  refine ⟨?p, ?b, ?s, ?e, ?_⟩
  (case e => with_unfolding_all exact rfl)
  intro k ih
  unfold InnB
  intro f c1 c2 c3 l c' qual doc pm ctv o1 o2 o3 n L R tn t2 t3 vs nn ns e1 e2 e3 hn hnl hL hle hk hI hd
  w_top off
  k_with_none
  unfold Fun; k_fill
  intro zp zloose zmean zmg zmb zdp zun zgd zcn zcs za zccd zcl zouter zA zbase zh₀ zL zm zs zQ zE zB zF zX zN zT zhk zhpre zhd zhu hret
  have zmu := fun q hq => And.left (zN q hq)
  refine wpAny_call ?_
  k_dflt (refine' enterN ?k1 ?k2 ?k3 ?k4 ?k5 ?kA ?kF ?kK ?k6 ?k7 ?k8 ?k9 ?kB ?_ ?c2 ?c3 ?c4 ?c5; (case kA => exact rfl); (case kF => exact rfl); (case kK => assumption); (case k1 => k_asm); (case k2 => k_asm); (case k3 => k_asm); (case k4 => k_asm); (case k5 => k_asm); (case k6 => k_mem); (case k7 => exact zhpre); (case k8 => ktr_room); (case k9 => exact BindsTo.of_eq rfl); (case c5 => decide); (case kB => exact locs rfl); (case c2 => exact rfl); (case c3 => exact rfl); (case c4 => exact rfl); k_whole)
  intro zg zL' zh' KG zFG zF' zN' zB' zX' zT' zlt
  (try dsimp only)
  (try k_fold)
  (have zF2 := fr_lookup (l := [(Str.ofString "R", .int R t3), (Str.ofString "L", .int L t2)]) (by with_unfolding_all exact zF'))
  dsimp only [kstB] at zF2
  clear zF'
  have hC := hd_65 zX'
  have hcr := codeRec_mu zmu KG zhpre (by simp [e1, e2, e3])
  unfold InnB at ih
  k_with "execs cons" => ((with_reducible show wpAny _ _ (execs (Stmt.Assign [Expr.Name (Str.ofString "mid") _] _ _ :: _) _) _ _ _); (have hLR : L + 1 ≠ R := by assumption); (obtain ⟨f1, f2, f3⟩ := shF_nonneg (n := n) hn ⟨hL.1, hL.2.1⟩ hLR); (have f4 := mul_le40 hn (show midF L R - L ≤ ns.length by omega) hnl); (have f5 := (val_bound hn hd k (midF L R) R ⟨by omega, f2, hL.2.2⟩ (by omega))); (have f6 := Int.lt_of_lt_of_le f5.2 (pow40 (mul_le40 hn (show R - midF L R ≤ ns.length by omega) hnl))); (have f5 := f5.1); (dsimp only [midF, shF] at f1 f2 f3 f4 f5 f6); refine wpAny_execs_cons ?_)
  k_with "mine call ref" => ((with_reducible show wpAny _ _ (call (Value.ref f) _) _ _ _); (try dsimp only); k_dflt (refine' Fun.useMu (ih f c1 c2 c3 l c' qual doc pm ctv o1 o2 o3 n _ _ tn _ _ vs nn ns e1 e2 e3 hn hnl ?b2 hle ?b4 hI hd) ?k1 ?k2 ?k3 ?k4 ?hs ?k5 ?kK ?kp ?kd ?ku ?_; (case k1 => k_asm); (case k2 => k_asm); (case k3 => k_asm); (case k4 => k_asm); (case hs => exact fun _ h => h); (case k5 => k_asm); (case kK => first | exact rfl | assumption); (case kp => exact hcr.keeps (Fr.keep (by k_asm))); (case b2 => refine ⟨?_, ?_, ?_⟩ <;> omega); (case b4 => omega); (case kd => ktr_room); (case ku => ktr_units); intro v9 h9 tk9 F9 K9 P9; obtain ⟨K9, t9, q9⟩ := P9; subst q9; (rename News _ _ _ _ => N9); (replace N9 := N9.grown (Keeps.all K9)); (try dsimp only); (try k_sweep)))
  k_steps
  all_goals (rename Fr zg _ _ _ => lF'; rename News zg _ _ _ => lN')
  · refine hret _ _ _ (KG.fr lF') ⟨keeps_butN zmu KG lF' lN' (fun p hp => .inl hp), _, intV ?_⟩
    exact (valF_one (by assumption)).symm
  · refine hret _ _ _ (KG.fr lF') ⟨keeps_butN zmu KG lF' lN' (fun p hp => .inl hp), _, intV ?_⟩
    exact (valF_more (by assumption)).symm
theorem innB_zero (w : World) (p : Arguments) (b : List Stmt) (sc : Scope) : InnB w p b sc 0 := by
  unfold InnB
  intros
  omega
theorem innB_all {w : World} {p : Arguments} {b : List Stmt} {sc : Scope} (e : innerOf (hd.heap_39 w.params) 66 = some (p, b, sc)) (k : Nat) : InnB w p b sc k := by
  obtain ⟨p', b', sc', e', st⟩ := c_innerB w
  rw [e] at e'
  cases e'
  induction k with
  | zero => exact innB_zero w p b sc
  | succ k ih => exact st k ih
end
section
noncomputable abbrev qualB : Str := Str.ofString "_digits2int.<locals>.inner"
noncomputable def intF (n : Int) (ds : List Int) : Int := if ds = [] then 0 else valF ds.length n 0 ds.length ds
theorem tab_noStr2 {ln : Int} {c' P : Addr} {l : Addr} {vs : Array Value} {nn : Nat} (q : Addr × Obj) : q ∈ [(P, tabObj (tabF ln c')), (l, listOf vs nn)] → ∀ vs, q.2.data = .fields vs → ∀ t u, vs[1]? ≠ some (.str t u) := by
  intro hq vs e t u
  rcases List.mem_cons.mp hq with rfl | hq
  · cases e
    simp [rawInt]
  · rw [List.mem_singleton.mp hq] at e
    cases e
theorem last2 {a b : Addr × Obj} {news : List (Addr × Obj)} (h1 : a ∈ news) (h2 : b ∈ news) : ∀ p ∈ [a, b], p ∈ news ∨ p.1 ∈ ([] : List Addr) := by
  intro p hp
  simp only [List.mem_cons, List.not_mem_nil, or_false] at hp
  rcases hp with rfl | rfl <;> exact .inl (by assumption)
theorem last2' {a b : Addr × Obj} {news : List (Addr × Obj)} (h2 : b ∈ news) : ∀ p ∈ [a, b], p ∈ news ∨ p.1 ∈ [a.1] := by
  intro p hp
  simp only [List.mem_cons, List.not_mem_nil, or_false] at hp
  rcases hp with rfl | rfl
  · exact .inr (.head _)
  · exact .inl h2
theorem nil_len {ds : List Int} (h : (ds.length : Int) = 0) : ds = [] := List.eq_nil_of_length_eq_zero (by omega)
set_option maxRecDepth 100000 in
set_option maxHeartbeats 8000000 in
theorem c_dint (w : World) (l : Addr) (vs : List Value) (nn : Nat) (ds : List Int) (n : Int) (c' : Addr) (t3 : Tok) (hn : 1 ≤ n) (hnl : (ds.length : Int) * n ≤ 40) (hle : ds.length ≤ 40) (hI : IntsAre vs ds) (hd : ∀ d ∈ ds, 0 ≤ d ∧ d < 2 ^ n.toNat) :
    Fun w 66 [.ref l, .int n t3] [(61, tabObj (tabF 51 c')), (l, listOf vs.toArray nn)] 43 200 (fun h => h.CodeRec (.ref c') qualB) (fun h v h' => Keeps [] h h' ∧ ∃ t, v = .int (intF n ds) t) := by
  have hlv := hI.length
  w_top off
  k_with_none
  k_with "mine call ref" => ((with_reducible show wpAny _ _ (call (Value.ref _) [Value.int _ _, Value.int _ _]) _ _ _); (try dsimp only); k_dflt (refine' Fun.useMu (innB_all ?ei (List.length ?zd) _ _ _ _ _ _ _ _ _ _ _ _ _ ?zn _ _ _ _ _ _ _ ?zd ?e1 ?e2 ?e3 ?b0 ?b1 ?b2 ?b3 ?b4 ?b5 ?b6) ?k1 ?k2 ?k3 ?k4 (mem5 ?m1 ?m2 ?m3 ?m4 ?m5) ?k5 ?kK ?kp ?kd ?ku ?_; (case k1 => k_asm); (case k2 => k_asm); (case k3 => k_asm); (case k4 => k_asm); (case m1 => k_mem); (case m2 => k_mem); (case m3 => k_mem); (case m4 => k_mem); (case e1 => first | assumption | (refine Eq.trans (by assumption) ?_; with_unfolding_all rfl)); (case m5 => k_mem); (case b5 => assumption); (case ei => with_unfolding_all exact rfl); (case e2 => assumption); (case e3 => first | assumption | (refine Eq.trans (by assumption) ?_; with_unfolding_all rfl)); (case b0 => assumption); (case b1 => assumption); (case b6 => assumption); (case k5 => k_asm); (case kK => first | exact rfl | assumption); (case kp => first | exact codeRec_news (by k_asm) (by k_mem) (by assumption) (by assumption) | (rename Heap.CodeRec _ _ _ => hcr9; exact hcr9.keeps (Fr.keep (by k_asm)))); (case b2 => refine ⟨?_, ?_, ?_⟩ <;> omega); (case b3 => assumption); (case b4 => omega); (case kd => ktr_room); (case ku => ktr_units); intro v9 h9 tk9 F9 K9 P9; obtain ⟨K9, t9, q9⟩ := P9; subst q9; (rename News _ _ _ _ => N9); (replace N9 := N9.grown (Keeps.all K9)); (try dsimp only); (try k_sweep)))
  unfold Fun; k_fill
  intro zp zloose zmean zmg zmb zdp zun zgd zcn zcs za zccd zcl zouter zA zbase zh₀ zL zm zs zQ zE zB zF zX zN zT zhk zhpre zhd zhu hret
  have zmu := fun q hq => And.left (zN q hq)
  refine wpAny_call ?_
  k_dflt (refine' enterC ?k1 ?k2 ?k3 ?k4 ?k5 ?kA ?kF ?kK ?k6 ?k7 ?k8 ?k9 ?kB ?kD ?_ ?c2 ?c3 ?c4; (case kA => exact rfl); (case kF => exact rfl); (case kK => assumption); (case k1 => k_asm); (case k2 => k_asm); (case k3 => k_asm); (case k4 => k_asm); (case k5 => k_asm); (case k6 => k_is); (case k7 => k_is); (case k8 => ktr_room); (case k9 => first | exact BindsTo.of_eq rfl | exact binds_K (by k_in) rfl (by k_is) rfl rfl rfl); (case kB => exact rfl); (case kD => decide +kernel); (case c2 => exact rfl); (case c3 => exact rfl); (case c4 => exact rfl); k_whole)
  intro zg zL' zh' ztk zcells KG zsz zFG zF' zN' zY zB' zX' zT' zl1
  (try k_lt zl1)
  k_cells zY
  (try simp only [List.cons_append, List.nil_append] at zN')
  (try dsimp only)
  (try k_fold)
  (have zF2 : Fr zg zL' zh' (kstB (fun _ => none) []) := by with_unfolding_all exact zF')
  dsimp only [kstB] at zF2
  clear zF'
  have hC := hd_65 zX'
  have hcr := codeRec_mu zmu KG zhpre tab_noStr2
  k_steps
  all_goals (rename Fr zg _ _ _ => lF'; rename News zg _ _ _ => lN')
  · refine hret _ _ _ (KG.fr lF') ⟨keeps_butN zmu KG lF' lN' (last2 (by k_mem) (by k_mem)), _, intV ?_⟩
    unfold intF; rw [if_neg (fun e => by subst e; simp at *)]
  · refine hret _ _ _ (KG.fr lF') ⟨keeps_butN zmu KG lF' lN' (last2 (by k_mem) (by k_mem)), _, intV ?_⟩
    unfold intF; rw [if_pos (nil_len (by omega))]
set_option maxRecDepth 100000 in
set_option maxHeartbeats 8000000 in
theorem c_dint0 (w : World) (l : Addr) (vs : List Value) (nn : Nat) (ds : List Int) (n : Int) (t3 : Tok) (hn : 1 ≤ n) (hnl : (ds.length : Int) * n ≤ 40) (hle : ds.length ≤ 40) (hI : IntsAre vs ds) (hd : ∀ d ∈ ds, 0 ≤ d ∧ d < 2 ^ n.toNat) :
    Fun w 66 [.ref l, .int n t3] [(61, tabObj #[]), (l, listOf vs.toArray nn)] 43 200 (fun _ => True) (fun h v h' => (∃ c', h.get? c' = none ∧ h'.get? 61 = some (tabObj (tabF 51 c')) ∧ h'.CodeRec (.ref c') qualB) ∧ Keeps [61] h h' ∧ ∃ t, v = .int (intF n ds) t) := by
  have hlv := hI.length
  w_top off
  k_with_none
  k_with "mine call ref" => ((with_reducible show wpAny _ _ (call (Value.ref _) [Value.int _ _, Value.int _ _]) _ _ _); (try dsimp only); k_dflt (refine' Fun.useMu (innB_all ?ei (List.length ?zd) _ _ _ _ _ _ _ _ _ _ _ _ _ ?zn _ _ _ _ _ _ _ ?zd ?e1 ?e2 ?e3 ?b0 ?b1 ?b2 ?b3 ?b4 ?b5 ?b6) ?k1 ?k2 ?k3 ?k4 (mem5 ?m1 ?m2 ?m3 ?m4 ?m5) ?k5 ?kK ?kp ?kd ?ku ?_; (case k1 => k_asm); (case k2 => k_asm); (case k3 => k_asm); (case k4 => k_asm); (case m1 => k_mem); (case m2 => k_mem); (case m3 => k_mem); (case m4 => k_mem); (case e1 => first | assumption | (refine Eq.trans (by assumption) ?_; with_unfolding_all rfl)); (case m5 => k_mem); (case b5 => assumption); (case ei => with_unfolding_all exact rfl); (case e2 => assumption); (case e3 => first | assumption | (refine Eq.trans (by assumption) ?_; with_unfolding_all rfl)); (case b0 => assumption); (case b1 => assumption); (case b6 => assumption); (case k5 => k_asm); (case kK => first | exact rfl | assumption); (case kp => first | exact codeRec_news (by k_asm) (by k_mem) (by assumption) (by assumption) | (rename Heap.CodeRec _ _ _ => hcr9; exact hcr9.keeps (Fr.keep (by k_asm)))); (case b2 => refine ⟨?_, ?_, ?_⟩ <;> omega); (case b3 => assumption); (case b4 => omega); (case kd => ktr_room); (case ku => ktr_units); intro v9 h9 tk9 F9 K9 P9; obtain ⟨K9, t9, q9⟩ := P9; subst q9; (rename News _ _ _ _ => N9); (replace N9 := N9.grown (Keeps.all K9)); (try dsimp only); (try k_sweep)))
  unfold Fun; k_fill
  intro zp zloose zmean zmg zmb zdp zun zgd zcn zcs za zccd zcl zouter zA zbase zh₀ zL zm zs zQ zE zB zF zX zN zT zhk zhpre zhd zhu hret
  have zmu := fun q hq => And.left (zN q hq)
  refine wpAny_call ?_
  k_dflt (refine' enterC ?k1 ?k2 ?k3 ?k4 ?k5 ?kA ?kF ?kK ?k6 ?k7 ?k8 ?k9 ?kB ?kD ?_ ?c2 ?c3 ?c4; (case kA => exact rfl); (case kF => exact rfl); (case kK => assumption); (case k1 => k_asm); (case k2 => k_asm); (case k3 => k_asm); (case k4 => k_asm); (case k5 => k_asm); (case k6 => k_is); (case k7 => k_is); (case k8 => ktr_room); (case k9 => first | exact BindsTo.of_eq rfl | exact binds_K (by k_in) rfl (by k_is) rfl rfl rfl); (case kB => exact rfl); (case kD => decide +kernel); (case c2 => exact rfl); (case c3 => exact rfl); (case c4 => exact rfl); k_whole)
  intro zg zL' zh' ztk zcells KG zsz zFG zF' zN' zY zB' zX' zT' zl1
  (try k_lt zl1)
  k_cells zY
  (try simp only [List.cons_append, List.nil_append] at zN')
  (try dsimp only)
  (try k_fold)
  (have zF2 : Fr zg zL' zh' (kstB (fun _ => none) []) := by with_unfolding_all exact zF')
  dsimp only [kstB] at zF2
  clear zF'
  have hC := hd_65 zX'
  have hne1 := ne_data (zmu _ (.head _)) (zmu _ (.tail _ (.head _))) (by simp)
  have hne2 := hne1.symm
  dsimp only at hne1 hne2
  k_steps
  all_goals (rename Fr zg _ _ _ => lF'; rename News zg _ _ _ => lN')
  · refine hret _ _ _ (KG.fr lF') ⟨⟨_, new_noneN KG (lN' _ (.tail _ (.head _))).2.2 (fun hm => by
    simp only [List.map_cons, List.map_nil, List.mem_cons, List.not_mem_nil, or_false] at hm
    rcases hm with e | e <;> (have e := (show @Eq Nat _ _ from e); omega)), tab_first (lN' (61, _) (by k_mem)).1, codeRec_news lN' (.tail _ (.head _)) (by assumption) (by assumption)⟩, keeps_butN zmu KG lF' lN' (last2' (by k_mem)), _, intV ?_⟩
    unfold intF; rw [if_neg (fun e => by subst e; simp at *)]
  · refine hret _ _ _ (KG.fr lF') ⟨⟨_, new_noneN KG (lN' _ (.tail _ (.head _))).2.2 (fun hm => by
    simp only [List.map_cons, List.map_nil, List.mem_cons, List.not_mem_nil, or_false] at hm
    rcases hm with e | e <;> (have e := (show @Eq Nat _ _ from e); omega)), tab_first (lN' (61, _) (by k_mem)).1, codeRec_news lN' (.tail _ (.head _)) (by assumption) (by assumption)⟩, keeps_butN zmu KG lF' lN' (last2' (by k_mem)), _, intV ?_⟩
    unfold intF; rw [if_pos (nil_len (by omega))]
end
section
noncomputable abbrev bitsF (b : Int) : Int := ((Builtin.Int.intBits b : Nat) : Int)
noncomputable def stepF (n b : Int) (s : Int × List Int) (d : Int) : Int × List Int := (Int.fmod (s.1 * 2 ^ n.toNat + d) b, s.2 ++ [Int.fdiv (s.1 * 2 ^ n.toNat + d) b])
noncomputable def runF (n b : Int) (ds : List Int) : Int × List Int := ds.reverse.foldl (stepF n b) (0, [])
noncomputable def divOk (a b : Int) : Bool := (digitsF (bitsF b) a).all (fun d => decide (0 ≤ d ∧ d < 2 ^ (bitsF b).toNat)) && decide (((digitsF (bitsF b) a).length : Int) * bitsF b ≤ 40) && decide ((digitsF (bitsF b) a).length ≤ 40)
  && (runF (bitsF b) b (digitsF (bitsF b) a)).2.all (fun d => decide (0 ≤ d ∧ d < 2 ^ (bitsF b).toNat)) && decide ((runF (bitsF b) b (digitsF (bitsF b) a)).2.length = (digitsF (bitsF b) a).length)
  && decide (intF (bitsF b) (runF (bitsF b) b (digitsF (bitsF b) a)).2.reverse = a.fdiv b) && decide ((runF (bitsF b) b (digitsF (bitsF b) a)).1 = a.fmod b)
theorem news_add {h₀ h h' : Heap} {L D : Addr} {m : Str → Option Value} {o : Obj} {news news' : List (Addr × Obj)} (F : Fr h₀ L h m) (N : News h₀ L h news) (N' : News h₀ L h' news') (hn : h.get? D = none) (ho : h'.get? D = some o) :
    News h₀ L h' ((D, o) :: news') ∧ AllNe D news := by
  refine ⟨fun p hp => ?_, allNe_of fun p hp e => ?_⟩
  · rcases List.mem_cons.mp hp with rfl | hp
    · refine ⟨ho, fun e => ?_, ?_⟩
      · obtain ⟨oL, _, _, hL, _⟩ := F.ns
        rw [show L = D from e.symm] at hL
        rw [hn] at hL; cases hL
      · cases e : h₀.get? D with
        | none => rfl
        | some o' => have := F.keep _ _ e; rw [hn] at this; cases this
    · exact N' p hp
  · have := (N p hp).1; rw [e, hn] at this; cases this
noncomputable abbrev tabsF (c1 c2 : Addr) : List (Addr × Obj) := [(54, tabObj (tabF 36 c1)), (61, tabObj (tabF 51 c2))]
noncomputable def TabsOk (c1 c2 : Addr) (h : Heap) : Prop := h.CodeRec (.ref c1) qualA ∧ h.CodeRec (.ref c2) qualB
theorem tabs_noStr {c1 c2 : Addr} (q : Addr × Obj) : q ∈ tabsF c1 c2 → ∀ vs, q.2.data = .fields vs → ∀ t u, vs[1]? ≠ some (.str t u) := by
  intro hq vs e t u
  rcases List.mem_cons.mp hq with rfl | hq
  · cases e
    simp [rawInt]
  · rw [List.mem_singleton.mp hq] at e
    cases e
    simp [rawInt]
theorem mem1 {a : Addr × Obj} {news : List (Addr × Obj)} (h1 : a ∈ news) : ∀ p ∈ [a], p ∈ news := fun p hp => by rw [List.mem_singleton.mp hp]; exact h1
theorem mem2 {a b : Addr × Obj} {news : List (Addr × Obj)} (h1 : a ∈ news) (h2 : b ∈ news) : ∀ p ∈ [a, b], p ∈ news := fun p hp => by
  simp only [List.mem_cons, List.not_mem_nil, or_false] at hp
  rcases hp with rfl | rfl <;> assumption
theorem cr_fr {g h : Heap} {L : Addr} {m : Str → Option Value} {c : Value} {q : Str} (F : Fr g L h m) (x : g.CodeRec c q) : h.CodeRec c q := x.keeps F.keep
noncomputable def DpInv (n b : Int) (ds : List Int) (r : List Value) (c : (Int × Tok) × List Value × Nat) : Prop := ∃ pre suf qs, ds.reverse = pre ++ suf ∧ IntsAre r suf ∧ (c.1.1, qs) = pre.foldl (stepF n b) (0, []) ∧ IntsAre c.2.1 qs ∧ qs.length = pre.length ∧ 0 ≤ c.1.1 ∧ c.1.1 < b
theorem ints_snoc {x : Int} {t : Tok} : ∀ {vs : List Value} {ns : List Int}, IntsAre vs ns → IntsAre (vs ++ [.int x t]) (ns ++ [x])
  | _, _, .nil => .cons x t .nil
  | _, _, .cons i u h => .cons i u (ints_snoc h)
theorem ints_rev : ∀ {vs : List Value} {ns : List Int}, IntsAre vs ns → IntsAre vs.reverse ns.reverse
  | _, _, .nil => .nil
  | _, _, .cons i u h => by rw [List.reverse_cons, List.reverse_cons]; exact ints_snoc (ints_rev h)
theorem rev_list {prog : Program} {w : World} {A : Around} {E : Value → Shared → Prop} {s : Shared} {h₀ : Heap} {L D : Addr} {m : Str → Option Value} {news news' : List (Addr × Obj)} {vs : List Value} {n : Nat} {Q : Value → Shared → Prop} (F : Fr h₀ L s.heap m) (N : News h₀ L s.heap news)
    (U : Upd D (listOf vs.toArray n) (listOf vs.reverse.toArray n) news news') (hz : vs.length ≤ 40) (h : ∀ h', Fr h₀ L h' m → News h₀ L h' news' → Q .none { s with heap := h' }) : wpAny (model prog w) A (call (.builtin "list.reverse") [.ref D]) Q E s :=
  kl_reverse F N rfl U (by rw [sizeLine_eq]; show vs.length ≤ _; omega) h
theorem bits_range {b : Int} (hb : 1 ≤ b ∧ b ≤ 63) : 1 ≤ bitsF b ∧ bitsF b ≤ 6 := by
  have h1 : Builtin.Int.intBits b ≤ 6 := intBits_le_iff.mpr (by omega)
  have h2 : 1 ≤ Builtin.Int.intBits b := by
    unfold Builtin.Int.intBits
    rw [if_neg (by simp; omega)]
    omega
  exact ⟨by unfold bitsF; omega, by unfold bitsF; omega⟩
theorem divOk_facts {a b : Int} (h : divOk a b = true) : (∀ d ∈ digitsF (bitsF b) a, 0 ≤ d ∧ d < 2 ^ (bitsF b).toNat) ∧ ((digitsF (bitsF b) a).length : Int) * bitsF b ≤ 40 ∧ (digitsF (bitsF b) a).length ≤ 40 ∧
    (∀ q ∈ (runF (bitsF b) b (digitsF (bitsF b) a)).2, 0 ≤ q ∧ q < 2 ^ (bitsF b).toNat) ∧ (runF (bitsF b) b (digitsF (bitsF b) a)).2.length = (digitsF (bitsF b) a).length ∧
    intF (bitsF b) (runF (bitsF b) b (digitsF (bitsF b) a)).2.reverse = a.fdiv b ∧ (runF (bitsF b) b (digitsF (bitsF b) a)).1 = a.fmod b := by
  unfold divOk at h
  simp only [Bool.and_eq_true, decide_eq_true_eq, List.all_eq_true] at h
  obtain ⟨⟨⟨⟨⟨⟨h1, h2⟩, h3⟩, h4⟩, h5⟩, h6⟩, h7⟩ := h
  exact ⟨h1, h2, h3, h4, h5, h6, h7⟩
theorem dp_bound {n b r d : Int} (hn : 1 ≤ n ∧ n ≤ 6) (hb : b ≤ 63) (hr : 0 ≤ r ∧ r < b) (hd : 0 ≤ d ∧ d < 2 ^ n.toNat) : 0 ≤ r * 2 ^ n.toNat + d ∧ r * 2 ^ n.toNat + d < 2 ^ 40 := by
  have hp : (2 : Int) ^ n.toNat ≤ 2 ^ 6 := by
    have : (2 : Nat) ^ n.toNat ≤ 2 ^ 6 := Nat.pow_le_pow_right (by decide) (by omega)
    exact_mod_cast this
  generalize (2 : Int) ^ n.toNat = P at hd hp ⊢
  have h1 : 0 ≤ r * P := Int.mul_nonneg hr.1 (by omega)
  have h2 : r * P ≤ 62 * 64 := Int.mul_le_mul (by omega) (by omega) (by omega) (by decide)
  omega
theorem dp_next {n b r d : Int} {t' u : Tok} {ds pre suf qs : List Int} {qv rest : List Value} {j' : Nat} (hb : 1 ≤ b) (h0 : 0 ≤ r * 2 ^ n.toNat + d) (e1 : ds.reverse = pre ++ d :: suf) (e2 : IntsAre rest suf) (e3 : (r, qs) = pre.foldl (stepF n b) (0, [])) (e4 : IntsAre qv qs) (e5 : qs.length = pre.length) :
    DpInv n b ds rest ((Int.fmod (r * 2 ^ n.toNat + d) b, t'), qv ++ [.int (Int.fdiv (r * 2 ^ n.toNat + d) b) u], j') := by
  refine ⟨pre ++ [d], suf, qs ++ [Int.fdiv (r * 2 ^ n.toNat + d) b], by rw [e1]; simp, e2, ?_, ints_snoc e4, by simp [e5], Int.fmod_nonneg h0 (by omega), Int.fmod_lt_of_pos _ (by omega)⟩
  rw [List.foldl_append, ← e3]
  rfl
set_option maxRecDepth 100000 in
set_option maxHeartbeats 2000000 in
theorem c_dpos (w : World) (a b : Int) (c1 c2 : Addr) (t1 t2 : Tok) (ha : 0 ≤ a ∧ a < 2 ^ 40) (hb : 1 ≤ b ∧ b ≤ 63) (hO : divOk a b = true) :
    Fun w 73 [.int a t1, .int b t2] (tabsF c1 c2) 46 240 (TabsOk c1 c2) (fun h v h' => Keeps [] h h' ∧ ∃ c : Tok × Tok, NewAt h h' v (tupOf [.int (a.fdiv b) c.1, .int (a.fmod b) c.2])) := by
  w_top off
  k_with_none
  k_with "mine call ref" => ((with_reducible show wpAny _ _ (call (Value.ref 59) _) _ _ _); (try dsimp only); k_dflt (refine Fun.useMu (c_digits _ _ _ _ _ _ (by assumption) (by omega)) (by k_asm) (by k_asm) (by k_asm) (by k_asm) (mem1 (by k_mem)) (by k_asm) (by first | exact rfl | assumption) (by exact cr_fr (by k_asm) (by assumption)) (by ktr_room) (by ktr_units) ?_; intro v9 h9 tk9 F9 K9 P9; obtain ⟨K9, vs9, nn9, ⟨D9, q9, n9, g9⟩, I9⟩ := P9; subst q9; (rename News _ _ _ _ => N9); (have o9 := news_add (by k_asm) N9 (N9.grown (Keeps.all K9)) n9 g9); clear N9; (obtain ⟨N9, o9⟩ := o9); (try simp only [AllNe, and_true] at o9); (try dsimp only); (try k_sweep)))
  k_with "mine call ref" => ((with_reducible show wpAny _ _ (call (Value.ref 66) _) _ _ _); (try dsimp only); k_dflt (refine Fun.useMu (c_dint _ _ _ _ _ _ _ _ (by omega) (by assumption) (by assumption) (by assumption) (by assumption)) (by k_asm) (by k_asm) (by k_asm) (by k_asm) (mem2 (by k_mem) (by k_mem)) (by k_asm) (by first | exact rfl | assumption) (by exact cr_fr (by k_asm) (by assumption)) (by ktr_room) (by ktr_units) ?_; intro v9 h9 tk9 F9 K9 P9; obtain ⟨K9, t9, q9⟩ := P9; subst q9; (rename News _ _ _ _ => N9); (replace N9 := N9.grown (Keeps.all K9)); (try dsimp only); (try k_sweep)))
  k_with "mine call ref" => ((with_reducible show wpAny _ _ (call (Value.ref 45) _) _ _ _); k_dflt (refine Fun.useNew (c_div2 _ _ _ _ _ _ _ (by omega) (by omega) (by omega)) (by k_asm) (by k_asm) (by k_asm) (by k_asm) (by k_asm) (by first | exact rfl | assumption) (by trivial) (by ktr_room) (by ktr_units) ?_; intro D9 x9 h9 tk9 F9 N9 o9 r9; (have o9 := allNe_of o9); (try simp only [AllNe, and_true] at o9); (try k_sweep); (try dsimp only)))
  k_with "mine call builtin:list.reverse" => ((with_reducible show wpAny _ _ (call (Value.builtin _) [Value.ref _]) _ _ _); k_dflt (refine rev_list (by k_asm) (by k_asm) (by k_upd) (by assumption) ?_); (intro h' F' N'; (try dsimp only [List.nil_append, List.cons_append] at N'); (try k_sweep)))
  unfold Fun; k_fill
  intro zp zloose zmean zmg zmb zdp zun zgd zcn zcs za zccd zcl zouter zA zbase zh₀ zL zm zs zQ zE zB zF zX zN zT zhk zhpre zhd zhu hret
  have zmu := fun q hq => And.left (zN q hq)
  refine wpAny_call ?_
  k_dflt (refine' enterP ?k1 ?k2 ?k3 ?k4 ?k5 ?kA ?kF ?kK ?k6 ?k7 ?k8 ?k9 ?kB ?_ ?c2 ?c3 ?c4 ?c5; (case kA => exact rfl); (case kF => exact rfl); (case kK => assumption); (case k1 => k_asm); (case k2 => k_asm); (case k3 => k_asm); (case k4 => k_asm); (case k5 => k_asm); (case k6 => k_is); (case k7 => k_is); (case k8 => ktr_room); (case k9 => first | exact BindsTo.of_eq rfl | exact binds_K (by k_in) rfl (by k_is) rfl rfl rfl); (case c5 => decide); (case kB => exact locs rfl); (case c2 => exact rfl); (case c3 => exact rfl); (case c4 => exact rfl); k_whole)
  intro zg zL' zh' KG zFG zF' zN' zB' zX' zT'
  (try dsimp only)
  (try k_fold)
  (have zF2 := fr_lookup (l := [(Str.ofString "b", .int b t2), (Str.ofString "a", .int a t1)]) (by with_unfolding_all exact zF'))
  dsimp only [kstB] at zF2
  clear zF'
  have hc1 := codeRec_mu zmu KG zhpre.1 tabs_noStr
  have hc2 := codeRec_mu zmu KG zhpre.2 tabs_noStr
  dsimp only [tabsF] at zN'
  have hnb := bits_range hb
  obtain ⟨o1, o2, o3, o4, o5, o6, o7⟩ := divOk_facts hO
  have hnb2 := hnb
  dsimp only [bitsF] at hnb2
  k_steps
  rename_i h5 tk5 h6 l h7 l1a h8 D h10 lF' lN' l1b
  refine rev_loop (ax := D9) (lo := listOf vs9.toArray nn9) (n := nn9) (vs := vs9) (σ := (Int × Tok) × List Value × Nat) [Str.ofString "a_digit", Str.ofString "q_digit"] (fun c => [(l, listOf c.2.1.toArray c.2.2), (D9, listOf vs9.toArray nn9), (54, tabObj (tabF 36 c1)), (61, tabObj (tabF 51 c2))]) (fun c => [(Str.ofString "r", .int c.1.1 c.1.2)])
    (DpInv (bitsF b) b (digitsF (bitsF b) a)) ((0, tk5), [], 0) rfl lF' lN' ?hof ?hm rfl rfl ?hk ?h0 ?_ ?_
  (case hof => exact ⟨.inl (Nat.ne_of_lt l1b.1), .inl (Nat.ne_of_lt l1b.2.1), .inl (Nat.ne_of_lt l1b.2.2.1), .inl (Nat.ne_of_lt l1b.2.2.2), trivial⟩)
  (case hm => intro _; k_mem)
  (case hk => intro p hp; rw [List.mem_singleton.mp hp]; rfl)
  (case h0 => exact ⟨[], _, [], rfl, ints_rev I9, rfl, .nil, rfl, Int.le_refl 0, (show (0 : Int) < b by omega)⟩)
  (all_goals clear lF' lN')
  · intro c it v r m h tk hit hP hu F' N'
    obtain ⟨u, rfl⟩ := hu
    obtain ⟨⟨r0, t0⟩, qv, j⟩ := c
    obtain ⟨pre, suf, qs, e1, e2, e3, e4, e5, e6, e7⟩ := hP
    cases e2
    rename_i d td suf' e2
    have hdd := o1 d (by have : d ∈ (digitsF (bitsF b) a).reverse := by rw [e1]; simp
                         exact List.mem_reverse.mp this)
    have hbd := dp_bound hnb hb.2 ⟨e6, e7⟩ hdd
    dsimp only [bitsF] at hbd
    have hql : qv.length ≤ 40 := by have h1 : qv.length = qs.length := e4.length; have h2 := congrArg List.length e1; simp only [List.length_reverse, List.length_append, List.length_cons] at h2; omega
    (try dsimp only [kstB] at F')
    (try dsimp only at N' e3 e4 e6 e7)
    (try dsimp only)
    (try k_fold)
    k_steps
    unfold TurnPost
    dsimp only
    (rename Fr zg _ _ _ => lF'; rename News zg _ _ _ => lN')
    rw [List.push_toArray] at lN'
    (rename Tok × Tok => xx)
    refine turnEnd ((_, xx.2), qv ++ [.int _ xx.1], j + 1) lF' lN' (by k_mem) ?_ ?_ ?_ ?_ (dp_next hb.1 hbd.1 e1 e2 e3 e4 e5)
    · intro p hp
      simp only [List.mem_cons, List.not_mem_nil, or_false] at hp
      rcases hp with rfl | rfl | rfl | rfl <;> k_mem
    · intro p hp
      simp only [List.mem_cons, List.not_mem_nil, or_false] at hp
      rcases hp with rfl | rfl | rfl | rfl
      · exact Nat.ne_of_lt l1b.1
      · exact Nat.ne_of_lt l1b.2.1
      · exact Nat.ne_of_lt l1b.2.2.1
      · exact Nat.ne_of_lt l1b.2.2.2
    · intro p hp; rw [List.mem_singleton.mp hp]; rfl
    · intro z h2 h3
      have h4 := h3
      have h5 := h2 _ (List.mem_singleton.mpr rfl)
      simp only [List.contains_cons, List.contains_nil, Bool.or_false, Bool.or_eq_false_iff, beq_eq_false_iff_ne, ne_eq] at h4
      (try dsimp only at h5)
      (try dsimp only)
      rw [if_neg h5, if_neg h4.2, if_neg h4.1]
      (try simp only [kstB])
      rw [if_neg h5, h3]
      rfl
  · intro c u h tk hP F' N'
    obtain ⟨⟨r0, t0⟩, qv, j⟩ := c
    obtain ⟨pre, suf, qs, e1, e2, e3, e4, e5, e6, e7⟩ := hP
    cases e2
    have hql : qv.length ≤ 40 := by have h1 : qv.length = qs.length := e4.length; have h2 := congrArg List.length e1; simp only [List.length_reverse, List.length_append, List.length_cons] at h2; omega
    (try dsimp only [kstB] at F')
    (try dsimp only at N' e3 e4 e6 e7)
    rw [List.append_nil] at e1
    have eq : (r0, qs) = runF (bitsF b) b (digitsF (bitsF b) a) := by unfold runF; rw [e1]; exact e3
    have eq2 : qs = (runF (bitsF b) b (digitsF (bitsF b) a)).2 := by rw [← eq]
    have eq1 : r0 = (runF (bitsF b) b (digitsF (bitsF b) a)).1 := by rw [← eq]
    have hI := ints_rev e4
    have g1 : ∀ d ∈ qs.reverse, 0 ≤ d ∧ d < 2 ^ (bitsF b).toNat := fun d hd => by
      have := List.mem_reverse.mp hd
      rw [eq2] at this
      exact o4 d this
    have g2 : qs.reverse.length = (digitsF (bitsF b) a).length := by rw [List.length_reverse, eq2]; exact o5
    have g3 : (qs.reverse.length : Int) * bitsF b ≤ 40 := by rw [g2]; exact o2
    have g4 : qs.reverse.length ≤ 40 := by rw [g2]; exact o3
    dsimp only [bitsF] at g1 g3
    (try dsimp only)
    (try k_fold)
    k_steps
    (rename Fr zg _ _ _ => lF'; rename News zg _ _ _ => lN')
    have r1 : intF (Builtin.Int.intBits b : Nat) qs.reverse = a.fdiv b := by rw [eq2]; exact o6
    rw [r1, eq1, o7] at lN'
    refine hret _ _ _ (KG.fr lF') ⟨keeps_butN zmu KG lF' lN' (last2 (by k_mem) (by k_mem)), (_, _), _, rfl, new_noneN KG (lN' _ (.head _)).2.2 (fun hm => ?_), (lN' _ (.head _)).1⟩
    simp only [List.map_cons, List.map_nil, List.mem_cons, List.not_mem_nil, or_false] at hm
    rcases hm with e | e <;> (have e := (show @Eq Nat _ _ from e); omega)
end
section
theorem ne2 {a b c : Addr} {oa ob : Obj} (h1 : @Ne Nat a c) (h2 : @Ne Nat b c) : c ∉ [(a, oa), (b, ob)].map (·.1) := by
  intro hm
  simp only [List.map_cons, List.map_nil, List.mem_cons, List.not_mem_nil, or_false] at hm
  rcases hm with e | e
  · exact h1 e.symm
  · exact h2 e.symm
noncomputable abbrev tabs0 : List (Addr × Obj) := [(54, tabObj #[]), (61, tabObj #[])]
set_option maxRecDepth 100000 in
set_option maxHeartbeats 2000000 in
theorem c_dpos0 (w : World) (a b : Int) (t1 t2 : Tok) (ha : 0 ≤ a ∧ a < 2 ^ 40) (hb : 1 ≤ b ∧ b ≤ 63) (hO : divOk a b = true) :
    Fun w 73 [.int a t1, .int b t2] tabs0 46 240 (fun _ => True) (fun h v h' => (∃ c1 c2, h.get? c1 = none ∧ h.get? c2 = none ∧ h'.get? 54 = some (tabObj (tabF 36 c1)) ∧ h'.get? 61 = some (tabObj (tabF 51 c2)) ∧ TabsOk c1 c2 h') ∧ Keeps [54, 61] h h' ∧ ∃ c : Tok × Tok, NewAt h h' v (tupOf [.int (a.fdiv b) c.1, .int (a.fmod b) c.2])) := by
  w_top off
  k_with_none
  k_with "mine call ref" => ((with_reducible show wpAny _ _ (call (Value.ref 59) _) _ _ _); (try dsimp only); k_dflt (refine Fun.useMu (c_digits0 _ _ _ _ _ (by assumption) (by omega)) (by k_asm) (by k_asm) (by k_asm) (by k_asm) (mem1 (by k_mem)) (by k_asm) (by first | exact rfl | assumption) (by trivial) (by ktr_room) (by ktr_units) ?_; intro v9 h9 tk9 F9 K9 P9; obtain ⟨⟨cA, nA, gA, crA⟩, K9, vs9, nn9, ⟨D9, q9, n9, g9⟩, I9⟩ := P9; subst q9; (rename News _ _ _ _ => N9); (have o9 := news_add (by k_asm) N9 (news_upd N9 K9 gA (by k_updF)) n9 g9); (obtain ⟨N8, o9⟩ := o9); (obtain ⟨c2, oA, vsA, tA, ec, gcA, dA, sA⟩ := crA); cases ec; (have o8 := news_add (by k_asm) N9 N8 nA gcA); clear N9 N8; (obtain ⟨N9, o8⟩ := o8); (try simp only [AllNe, and_true] at o9 o8); (try dsimp only); (try k_sweep)))
  k_with "mine call ref" => ((with_reducible show wpAny _ _ (call (Value.ref 66) _) _ _ _); (try dsimp only); k_dflt (refine' Fun.useMu (c_dint0 _ _ _ _ _ _ _ ?b0 ?b1 ?b3 ?b5 ?b6) ?k1 ?k2 ?k3 ?k4 (mem2 ?m1 ?m2) ?k5 ?kK ?kp ?kd ?ku ?_; (case k1 => k_asm); (case k2 => k_asm); (case k3 => k_asm); (case k4 => k_asm); (case m1 => k_mem); (case m2 => k_mem); (case k5 => k_asm); (case kK => first | exact rfl | assumption); (case kp => trivial); (case b5 => assumption); (case b0 => omega); (case b1 => assumption); (case b3 => assumption); (case b6 => assumption); (case kd => ktr_room); (case ku => ktr_units); intro v9 h9 tk9 F9 K9 P9; obtain ⟨⟨cB, nB, gB, crB⟩, K9, tz9, q9⟩ := P9; subst q9; (rename News _ _ _ _ => N9); (have N8 := news_upd N9 K9 gB (by k_updF)); (obtain ⟨c3z, oB, vsB, tB, ec2, gcB, dB, sB⟩ := crB); cases ec2; (have oz8 := news_add (by k_asm) N9 N8 nB gcB); clear N9 N8; (obtain ⟨N9, oz8⟩ := oz8); (try simp only [AllNe, and_true] at oz8); (try dsimp only); (try k_sweep)))
  k_with "mine call ref" => ((with_reducible show wpAny _ _ (call (Value.ref 45) _) _ _ _); k_dflt (refine Fun.useNew (c_div2 _ _ _ _ _ _ _ (by omega) (by omega) (by omega)) (by k_asm) (by k_asm) (by k_asm) (by k_asm) (by k_asm) (by first | exact rfl | assumption) (by trivial) (by ktr_room) (by ktr_units) ?_; intro D9 x9 h9 tk9 F9 N9 o9 r9; (have o9 := allNe_of o9); (try simp only [AllNe, and_true] at o9); (try k_sweep); (try dsimp only)))
  k_with "mine call builtin:list.reverse" => ((with_reducible show wpAny _ _ (call (Value.builtin _) [Value.ref _]) _ _ _); k_dflt (refine rev_list (by k_asm) (by k_asm) (by k_upd) (by assumption) ?_); (intro h' F' N'; (try dsimp only [List.nil_append, List.cons_append] at N'); (try k_sweep)))
  unfold Fun; k_fill
  intro zp zloose zmean zmg zmb zdp zun zgd zcn zcs za zccd zcl zouter zA zbase zh₀ zL zm zs zQ zE zB zF zX zN zT zhk zhpre zhd zhu hret
  have zmu := fun q hq => And.left (zN q hq)
  refine wpAny_call ?_
  k_dflt (refine' enterP ?k1 ?k2 ?k3 ?k4 ?k5 ?kA ?kF ?kK ?k6 ?k7 ?k8 ?k9 ?kB ?_ ?c2 ?c3 ?c4 ?c5; (case kA => exact rfl); (case kF => exact rfl); (case kK => assumption); (case k1 => k_asm); (case k2 => k_asm); (case k3 => k_asm); (case k4 => k_asm); (case k5 => k_asm); (case k6 => k_is); (case k7 => k_is); (case k8 => ktr_room); (case k9 => first | exact BindsTo.of_eq rfl | exact binds_K (by k_in) rfl (by k_is) rfl rfl rfl); (case c5 => decide); (case kB => exact locs rfl); (case c2 => exact rfl); (case c3 => exact rfl); (case c4 => exact rfl); k_whole)
  intro zg zL' zh' KG zFG zF' zN' zB' zX' zT'
  (try dsimp only)
  (try k_fold)
  (have zF2 := fr_lookup (l := [(Str.ofString "b", .int b t2), (Str.ofString "a", .int a t1)]) (by with_unfolding_all exact zF'))
  dsimp only [kstB] at zF2
  clear zF'
  dsimp only [tabs0] at zN'
  have hnb := bits_range hb
  obtain ⟨o1, o2, o3, o4, o5, o6, o7⟩ := divOk_facts hO
  have hnb2 := hnb
  dsimp only [bitsF] at hnb2
  k_steps
  rename_i h5 tk5 h6 l h7 l1a h8 D h10 lF' lN' l1b
  refine rev_loop (ax := D9) (lo := listOf vs9.toArray nn9) (n := nn9) (vs := vs9) (σ := (Int × Tok) × List Value × Nat) [Str.ofString "a_digit", Str.ofString "q_digit"] (fun c => [(l, listOf c.2.1.toArray c.2.2), (cA, oA), (D9, listOf vs9.toArray nn9), (54, tabObj (tabF 36 cA)), (61, tabObj #[])]) (fun c => [(Str.ofString "r", .int c.1.1 c.1.2)])
    (DpInv (bitsF b) b (digitsF (bitsF b) a)) ((0, tk5), [], 0) rfl lF' lN' ?hof ?hm rfl rfl ?hk ?h0 ?_ ?_
  (case hof => exact ⟨.inl (Nat.ne_of_lt l1b.1), .inl (Nat.ne_of_lt l1b.2.1), .inl (Nat.ne_of_lt l1b.2.2.1), .inl (Nat.ne_of_lt l1b.2.2.2.1), .inl (Nat.ne_of_lt l1b.2.2.2.2), trivial⟩)
  (case hm => intro _; k_mem)
  (case hk => intro p hp; rw [List.mem_singleton.mp hp]; rfl)
  (case h0 => exact ⟨[], _, [], rfl, ints_rev I9, rfl, .nil, rfl, Int.le_refl 0, (show (0 : Int) < b by omega)⟩)
  (all_goals clear lF' lN')
  · intro c it v r m h tk hit hP hu F' N'
    obtain ⟨u, rfl⟩ := hu
    obtain ⟨⟨r0, t0⟩, qv, j⟩ := c
    obtain ⟨pre, suf, qs, e1, e2, e3, e4, e5, e6, e7⟩ := hP
    cases e2
    rename_i d td suf' e2
    have hdd := o1 d (by have : d ∈ (digitsF (bitsF b) a).reverse := by rw [e1]; simp
                         exact List.mem_reverse.mp this)
    have hbd := dp_bound hnb hb.2 ⟨e6, e7⟩ hdd
    dsimp only [bitsF] at hbd
    have hql : qv.length ≤ 40 := by have h1 : qv.length = qs.length := e4.length; have h2 := congrArg List.length e1; simp only [List.length_reverse, List.length_append, List.length_cons] at h2; omega
    (try dsimp only [kstB] at F')
    (try dsimp only at N' e3 e4 e6 e7)
    (try dsimp only)
    (try k_fold)
    k_steps
    unfold TurnPost
    dsimp only
    (rename Fr zg _ _ _ => lF'; rename News zg _ _ _ => lN')
    rw [List.push_toArray] at lN'
    (rename Tok × Tok => xx)
    refine turnEnd ((_, xx.2), qv ++ [.int _ xx.1], j + 1) lF' lN' (by k_mem) ?_ ?_ ?_ ?_ (dp_next hb.1 hbd.1 e1 e2 e3 e4 e5)
    · intro p hp
      simp only [List.mem_cons, List.not_mem_nil, or_false] at hp
      rcases hp with rfl | rfl | rfl | rfl | rfl <;> k_mem
    · intro p hp
      simp only [List.mem_cons, List.not_mem_nil, or_false] at hp
      rcases hp with rfl | rfl | rfl | rfl | rfl
      · exact Nat.ne_of_lt l1b.1
      · exact Nat.ne_of_lt l1b.2.1
      · exact Nat.ne_of_lt l1b.2.2.1
      · exact Nat.ne_of_lt l1b.2.2.2.1
      · exact Nat.ne_of_lt l1b.2.2.2.2
    · intro p hp; rw [List.mem_singleton.mp hp]; rfl
    · intro z h2 h3
      have h4 := h3
      have h5 := h2 _ (List.mem_singleton.mpr rfl)
      simp only [List.contains_cons, List.contains_nil, Bool.or_false, Bool.or_eq_false_iff, beq_eq_false_iff_ne, ne_eq] at h4
      (try dsimp only at h5)
      (try dsimp only)
      rw [if_neg h5, if_neg h4.2, if_neg h4.1]
      (try simp only [kstB])
      rw [if_neg h5, h3]
      rfl
  · intro c u h tk hP F' N'
    obtain ⟨⟨r0, t0⟩, qv, j⟩ := c
    obtain ⟨pre, suf, qs, e1, e2, e3, e4, e5, e6, e7⟩ := hP
    cases e2
    have hql : qv.length ≤ 40 := by have h1 : qv.length = qs.length := e4.length; have h2 := congrArg List.length e1; simp only [List.length_reverse, List.length_append, List.length_cons] at h2; omega
    (try dsimp only [kstB] at F')
    (try dsimp only at N' e3 e4 e6 e7)
    rw [List.append_nil] at e1
    have eq : (r0, qs) = runF (bitsF b) b (digitsF (bitsF b) a) := by unfold runF; rw [e1]; exact e3
    have eq2 : qs = (runF (bitsF b) b (digitsF (bitsF b) a)).2 := by rw [← eq]
    have eq1 : r0 = (runF (bitsF b) b (digitsF (bitsF b) a)).1 := by rw [← eq]
    have hI := ints_rev e4
    have g1 : ∀ d ∈ qs.reverse, 0 ≤ d ∧ d < 2 ^ (bitsF b).toNat := fun d hd => by
      have := List.mem_reverse.mp hd
      rw [eq2] at this
      exact o4 d this
    have g2 : qs.reverse.length = (digitsF (bitsF b) a).length := by rw [List.length_reverse, eq2]; exact o5
    have g3 : (qs.reverse.length : Int) * bitsF b ≤ 40 := by rw [g2]; exact o2
    have g4 : qs.reverse.length ≤ 40 := by rw [g2]; exact o3
    dsimp only [bitsF] at g1 g3
    (try dsimp only)
    (try k_fold)
    k_steps
    (rename Fr zg _ _ _ => lF'; rename News zg _ _ _ => lN')
    have r1 : intF (Builtin.Int.intBits b : Nat) qs.reverse = a.fdiv b := by rw [eq2]; exact o6
    rw [r1, eq1, o7] at lN'
    (rename l ≠ _ ∧ _ => o8b)
    refine hret _ _ _ (KG.fr lF') ⟨⟨cA, _, new_noneN KG (lN' (cA, oA) (.tail _ (.tail _ (.tail _ (.head _))))).2.2 (ne2 o8.1 o8.2), new_noneN KG (lN' _ (.tail _ (.head _))).2.2 (ne2 o8b.2.2.2.1 o8b.2.2.2.2), (lN' (54, _) (.tail _ (.tail _ (.tail _ (.tail _ (.tail _ (.head _))))))).1, (lN' (61, _) (.tail _ (.tail _ (.tail _ (.tail _ (.tail _ (.tail _ (.head _)))))))).1, codeRec_news lN' (.tail _ (.tail _ (.tail _ (.head _)))) dA sA, codeRec_news lN' (.tail _ (.head _)) (by assumption) (by assumption)⟩,
      keeps_butN zmu KG lF' lN' (fun p hp => .inr (List.mem_map_of_mem (f := (·.1)) hp)), (_, _), _, rfl, new_noneN KG (lN' _ (.head _)).2.2 (fun hm => ?_), (lN' _ (.head _)).1⟩
    simp only [List.map_cons, List.map_nil, List.mem_cons, List.not_mem_nil, or_false] at hm
    rcases hm with e | e <;> (have e := (show @Eq Nat _ _ from e); omega)
end
section
theorem upd_mem {d : Addr} {o o' : Obj} {l : List (Addr × Obj)} {g : Obj → List (Addr × Obj)} (U : UpdF d o l g) : (d, o) ∈ l ∧ ∀ p ∈ g o', p = (d, o') ∨ (p ∈ l ∧ p.1 ≠ d) := by
  obtain ⟨pre, post, rfl, hg, h1, h2⟩ := U.split
  refine ⟨List.mem_append_right _ (.head _), fun p hp => ?_⟩
  rw [hg] at hp
  rcases List.mem_append.mp hp with hp | hp
  · exact .inr ⟨List.mem_append_left _ hp, h1 p hp⟩
  · rcases List.mem_cons.mp hp with rfl | hp
    · exact .inl rfl
    · exact .inr ⟨List.mem_append_right _ (.tail _ hp), h2 p hp⟩
theorem news_upd2 {h₀ h h' : Heap} {L a b : Addr} {oa oa' ob ob' : Obj} {news : List (Addr × Obj)} {g g' : Obj → List (Addr × Obj)} (N : News h₀ L h news) (k : Keeps [a, b] h h') (ha : h'.get? a = some oa') (hb : h'.get? b = some ob') (U : UpdF a oa news g) (V : UpdF b ob (g oa') g') : News h₀ L h' (g' ob') := by
  obtain ⟨m1, s1⟩ := upd_mem (o' := oa') U
  obtain ⟨m2, s2⟩ := upd_mem (o' := ob') V
  intro p hp
  rcases s2 p hp with rfl | ⟨hp, hn⟩
  · refine ⟨hb, ?_⟩
    rcases s1 _ m2 with e | ⟨q, _⟩
    · have e1 : b = a := congrArg Prod.fst e
      rw [e1]
      exact (N _ m1).2
    · exact (N _ q).2
  · rcases s1 _ hp with rfl | ⟨q, hn2⟩
    · exact ⟨ha, (N _ m1).2⟩
    · refine ⟨k _ _ (N _ q).1 (fun hm => ?_), (N _ q).2⟩
      simp only [List.mem_cons, List.not_mem_nil, or_false] at hm
      rcases hm with e | e
      · exact hn2 e
      · exact hn e
set_option maxRecDepth 100000 in
set_option maxHeartbeats 2000000 in
theorem c_divmod (w : World) (a b : Int) (c1 c2 : Addr) (t1 t2 : Tok) (ha : 0 ≤ a ∧ a < 2 ^ 40) (hb : 1 ≤ b ∧ b ≤ 63) (hO : divOk a b = true) :
    Fun w 80 [.int a t1, .int b t2] (tabsF c1 c2) 48 260 (TabsOk c1 c2) (fun h v h' => Keeps [] h h' ∧ ∃ c : Tok × Tok, NewAt h h' v (tupOf [.int (a.fdiv b) c.1, .int (a.fmod b) c.2])) := by
  w_top off
  k_with_none
  k_with "mine call ref" => ((with_reducible show wpAny _ _ (call (Value.ref 73) _) _ _ _); (try dsimp only); k_dflt (refine Fun.useMu (c_dpos _ _ _ _ _ _ _ (by assumption) (by assumption) (by assumption)) (by k_asm) (by k_asm) (by k_asm) (by k_asm) (mem2 (by k_mem) (by k_mem)) (by k_asm) (by first | exact rfl | assumption) (by exact ⟨cr_fr (by k_asm) (by assumption), cr_fr (by k_asm) (by assumption)⟩) (by ktr_room) (by ktr_units) ?_; intro v9 h9 tk9 F9 K9 P9; obtain ⟨K9, x9, D9, q9, n9, g9⟩ := P9; subst q9; (rename News _ _ _ _ => N9); (have o9 := news_add (by k_asm) N9 (N9.grown (Keeps.all K9)) n9 g9); clear N9; (obtain ⟨N9, o9⟩ := o9); (try simp only [AllNe, and_true] at o9); (try dsimp only); (try k_sweep)))
  unfold Fun; k_fill
  intro zp zloose zmean zmg zmb zdp zun zgd zcn zcs za zccd zcl zouter zA zbase zh₀ zL zm zs zQ zE zB zF zX zN zT zhk zhpre zhd zhu hret
  have zmu := fun q hq => And.left (zN q hq)
  refine wpAny_call ?_
  k_dflt (refine' enterP ?k1 ?k2 ?k3 ?k4 ?k5 ?kA ?kF ?kK ?k6 ?k7 ?k8 ?k9 ?kB ?_ ?c2 ?c3 ?c4 ?c5; (case kA => exact rfl); (case kF => exact rfl); (case kK => assumption); (case k1 => k_asm); (case k2 => k_asm); (case k3 => k_asm); (case k4 => k_asm); (case k5 => k_asm); (case k6 => k_is); (case k7 => k_is); (case k8 => ktr_room); (case k9 => first | exact BindsTo.of_eq rfl | exact binds_K (by k_in) rfl (by k_is) rfl rfl rfl); (case c5 => decide); (case kB => exact locs rfl); (case c2 => exact rfl); (case c3 => exact rfl); (case c4 => exact rfl); k_whole)
  intro zg zL' zh' KG zFG zF' zN' zB' zX' zT'
  (try dsimp only)
  (try k_fold)
  (have zF2 := fr_lookup (l := [(Str.ofString "b", .int b t2), (Str.ofString "a", .int a t1)]) (by with_unfolding_all exact zF'))
  dsimp only [kstB] at zF2
  clear zF'
  have hc1 := codeRec_mu zmu KG zhpre.1 tabs_noStr
  have hc2 := codeRec_mu zmu KG zhpre.2 tabs_noStr
  dsimp only [tabsF] at zN'
  k_steps
  · (rename Fr zg _ _ _ => lF'; rename News zg _ _ _ => lN')
    refine hret _ _ _ (KG.fr lF') ⟨keeps_butN zmu KG lF' lN' (last2 (by k_mem) (by k_mem)), _, _, rfl, new_noneN KG (lN' _ (.head _)).2.2 (fun hm => ?_), (lN' _ (.head _)).1⟩
    simp only [List.map_cons, List.map_nil, List.mem_cons, List.not_mem_nil, or_false] at hm
    rcases hm with e | e <;> (have e := (show @Eq Nat _ _ from e); omega)
set_option maxRecDepth 100000 in
set_option maxHeartbeats 2000000 in
theorem c_divmod0 (w : World) (a b : Int) (t1 t2 : Tok) (ha : 0 ≤ a ∧ a < 2 ^ 40) (hb : 1 ≤ b ∧ b ≤ 63) (hO : divOk a b = true) :
    Fun w 80 [.int a t1, .int b t2] tabs0 48 260 (fun _ => True) (fun h v h' => (∃ c1 c2, h.get? c1 = none ∧ h.get? c2 = none ∧ h'.get? 54 = some (tabObj (tabF 36 c1)) ∧ h'.get? 61 = some (tabObj (tabF 51 c2)) ∧ TabsOk c1 c2 h') ∧ Keeps [54, 61] h h' ∧ ∃ c : Tok × Tok, NewAt h h' v (tupOf [.int (a.fdiv b) c.1, .int (a.fmod b) c.2])) := by
  w_top off
  k_with_none
  k_with "mine call ref" => ((with_reducible show wpAny _ _ (call (Value.ref 73) _) _ _ _); (try dsimp only); k_dflt (refine Fun.useMu (c_dpos _ _ _ _ _ _ _ (by assumption) (by assumption) (by assumption)) (by k_asm) (by k_asm) (by k_asm) (by k_asm) (mem2 (by k_mem) (by k_mem)) (by k_asm) (by first | exact rfl | assumption) (by exact ⟨cr_fr (by k_asm) (by assumption), cr_fr (by k_asm) (by assumption)⟩) (by ktr_room) (by ktr_units) ?_; intro v9 h9 tk9 F9 K9 P9; obtain ⟨K9, x9, D9, q9, n9, g9⟩ := P9; subst q9; (rename News _ _ _ _ => N9); (have o9 := news_add (by k_asm) N9 (N9.grown (Keeps.all K9)) n9 g9); clear N9; (obtain ⟨N9, o9⟩ := o9); (try simp only [AllNe, and_true] at o9); (try dsimp only); (try k_sweep)))
  k_with "mine call ref" => ((with_reducible show wpAny _ _ (call (Value.ref 73) _) _ _ _); (try dsimp only); k_dflt (refine Fun.useMu (c_dpos0 _ _ _ _ _ (by assumption) (by assumption) (by assumption)) (by k_asm) (by k_asm) (by k_asm) (by k_asm) (mem2 (by k_mem) (by k_mem)) (by k_asm) (by first | exact rfl | assumption) (by trivial) (by ktr_room) (by ktr_units) ?_; intro v9 h9 tk9 F9 K9 P9; obtain ⟨⟨cA, cB, nA, nB, gA, gB, crA, crB⟩, K9, x9, D9, q9, n9, g9⟩ := P9; subst q9; (rename News _ _ _ _ => N9); (have N8 := news_upd2 N9 K9 gA gB (by k_updF) (by k_updF)); (obtain ⟨c2, oA, vsA, tA, ec, gcA, dA, sA⟩ := crA); cases ec; (obtain ⟨c3, oB, vsB, tB, ec, gcB, dB, sB⟩ := crB); cases ec; (have o8 := news_add (by k_asm) N9 N8 nB gcB); (obtain ⟨N8, o8⟩ := o8); (have o7 := news_add (by k_asm) N9 N8 nA gcA); (obtain ⟨N8, o7⟩ := o7); (have o9 := news_add (by k_asm) N9 N8 n9 g9); clear N9 N8; (obtain ⟨N9, o9⟩ := o9); (try simp only [AllNe, and_true] at o9 o8 o7); (try dsimp only); (try k_sweep)))
  unfold Fun; k_fill
  intro zp zloose zmean zmg zmb zdp zun zgd zcn zcs za zccd zcl zouter zA zbase zh₀ zL zm zs zQ zE zB zF zX zN zT zhk zhpre zhd zhu hret
  have zmu := fun q hq => And.left (zN q hq)
  refine wpAny_call ?_
  k_dflt (refine' enterP ?k1 ?k2 ?k3 ?k4 ?k5 ?kA ?kF ?kK ?k6 ?k7 ?k8 ?k9 ?kB ?_ ?c2 ?c3 ?c4 ?c5; (case kA => exact rfl); (case kF => exact rfl); (case kK => assumption); (case k1 => k_asm); (case k2 => k_asm); (case k3 => k_asm); (case k4 => k_asm); (case k5 => k_asm); (case k6 => k_is); (case k7 => k_is); (case k8 => ktr_room); (case k9 => first | exact BindsTo.of_eq rfl | exact binds_K (by k_in) rfl (by k_is) rfl rfl rfl); (case c5 => decide); (case kB => exact locs rfl); (case c2 => exact rfl); (case c3 => exact rfl); (case c4 => exact rfl); k_whole)
  intro zg zL' zh' KG zFG zF' zN' zB' zX' zT'
  (try dsimp only)
  (try k_fold)
  (have zF2 := fr_lookup (l := [(Str.ofString "b", .int b t2), (Str.ofString "a", .int a t1)]) (by with_unfolding_all exact zF'))
  dsimp only [kstB] at zF2
  clear zF'
  dsimp only [tabs0] at zN'
  k_steps
  · (rename Fr zg _ _ _ => lF'; rename News zg _ _ _ => lN')
    refine hret _ _ _ (KG.fr lF') ⟨⟨_, _, new_noneN KG (lN' _ (.tail _ (.head _))).2.2 (ne2 ?n1 ?n2), new_noneN KG (lN' _ (.tail _ (.tail _ (.head _)))).2.2 (ne2 ?n3 ?n4), (lN' (54, _) (.tail _ (.tail _ (.tail _ (.head _))))).1, (lN' (61, _) (.tail _ (.tail _ (.tail _ (.tail _ (.head _)))))).1, codeRec_news lN' (.tail _ (.head _)) (by assumption) (by assumption), codeRec_news lN' (.tail _ (.tail _ (.head _))) (by assumption) (by assumption)⟩,
      keeps_butN zmu KG lF' lN' (fun p hp => .inr (List.mem_map_of_mem (f := (·.1)) hp)), _, _, rfl, new_noneN KG (lN' _ (.head _)).2.2 (ne2 ?n5 ?n6), (lN' _ (.head _)).1⟩ <;> omega
end
section
/-- every doubled rest is divided rightly, and leaves a rest that is not nought -/
noncomputable def Divs (o : Int) : Prop := ∀ x, 1 ≤ x → x < o → divOk (2 * x) o = true ∧ 1 ≤ Int.fmod (2 * x) o
theorem divs_at {o x : Int} (h : Divs o) (h1 : 1 ≤ x) (h2 : x < o) : divOk (2 * x) o = true := (h x h1 h2).1
noncomputable def onP (o r0 : Int) : Nat → Str × Int
  | 0 => (Str.ofString "", r0)
  | i + 1 => ((onP o r0 i).1 ++ nameOf (onP o r0 i).2 o, Int.fmod (2 * (onP o r0 i).2) o)
noncomputable def OnInv (o r0 : Int) (i : Nat) (r : Int) (word : Str) : Prop := word = (onP o r0 i).1 ∧ r = (onP o r0 i).2
theorem name_len (r o : Int) : (nameOf r o).length = 1 := by unfold nameOf; split <;> rfl
theorem on_start {o r0 : Int} (hr : 1 ≤ r0 ∧ r0 < o ∧ o ≤ 33) : 1 ≤ r0 ∧ r0 < o ∧ (Str.ofString "").length = ([] : List Int).length ∧ (nameOf r0 o).length = 1 ∧ OnInv o r0 ([] : List Int).length r0 (Str.ofString "") := ⟨hr.1, hr.2.1, by rw [PySem.ofString_length]; rfl, name_len _ _, rfl, rfl⟩
theorem on_turn {o r0 r : Int} {word : Str} {l : List Int} {k : Int} (h1 : 1 ≤ Int.fmod (2 * r) o) (h2 : 0 < o) (h3 : word.length = l.length) (h : OnInv o r0 l.length r word) :
    1 ≤ Int.fmod (2 * r) o ∧ Int.fmod (2 * r) o < o ∧ (word ++ nameOf r o).length = (l ++ [k]).length ∧ (nameOf (Int.fmod (2 * r) o) o).length = 1 ∧ OnInv o r0 (l ++ [k]).length (Int.fmod (2 * r) o) (word ++ nameOf r o) := by
  refine ⟨h1, Int.fmod_lt_of_pos _ h2, ?_, name_len _ _, ?_⟩
  · rw [List.length_append, PySem.Str.length_append, name_len, h3]; rfl
  · obtain ⟨rfl, rfl⟩ := h
    rw [List.length_append]
    exact ⟨rfl, rfl⟩
set_option maxRecDepth 100000 in
set_option maxHeartbeats 8000000 in
theorem c_onward (w : World) (r o : Int) (n : Nat) (t1 t2 t3 : Tok) (hr : 1 ≤ r ∧ r < o ∧ o ≤ 33) (hn : n ≤ 20) (c1 c2 : Addr) (hD : Divs o) :
    Fun w 270 [.int r t1, .int o t2, .int n t3] (tabsF c1 c2) 52 280 (TabsOk c1 c2) (fun h v h' => Keeps [] h h' ∧ ∃ t, v = .str (onP o r n).1 t) := by
  w_top off
  k_with_none
  k_with "mine call ref" => ((with_reducible show wpAny _ _ (call (Value.ref 80) _) _ _ _); (try dsimp only); k_dflt (refine Fun.useMu (c_divmod _ _ _ _ _ _ _ (by omega) (by omega) (by exact divs_at (by assumption) (by assumption) (by assumption))) (by k_asm) (by k_asm) (by k_asm) (by k_asm) (mem2 (by k_mem) (by k_mem)) (by k_asm) (by first | exact rfl | assumption) (by exact ⟨cr_fr (by k_asm) (by assumption), cr_fr (by k_asm) (by assumption)⟩) (by ktr_room) (by ktr_units) ?_; intro v9 h9 tk9 F9 K9 P9; obtain ⟨K9, x9, D9, q9, n9, g9⟩ := P9; subst q9; (rename News _ _ _ _ => N9); (have o9 := news_add (by k_asm) N9 (N9.grown (Keeps.all K9)) n9 g9); clear N9; (obtain ⟨N9, o9⟩ := o9); (try simp only [AllNe, and_true] at o9); (try dsimp only); (try k_sweep)))
  unfold Fun; k_fill
  intro zp zloose zmean zmg zmb zdp zun zgd zcn zcs za zccd zcl zouter zA zbase zh₀ zL zm zs zQ zE zB zF zX zN zT zhk zhpre zhd zhu hret
  have zmu := fun q hq => And.left (zN q hq)
  refine wpAny_call ?_
  k_dflt (refine' enterP ?k1 ?k2 ?k3 ?k4 ?k5 ?kA ?kF ?kK ?k6 ?k7 ?k8 ?k9 ?kB ?_ ?c2 ?c3 ?c4 ?c5; (case kA => exact rfl); (case kF => exact rfl); (case kK => assumption); (case k1 => k_asm); (case k2 => k_asm); (case k3 => k_asm); (case k4 => k_asm); (case k5 => k_asm); (case k6 => k_is); (case k7 => k_is); (case k8 => ktr_room); (case k9 => first | exact BindsTo.of_eq rfl | exact binds_K (by k_in) rfl (by k_is) rfl rfl rfl); (case c5 => decide); (case kB => exact locs rfl); (case c2 => exact rfl); (case c3 => exact rfl); (case c4 => exact rfl); k_whole)
  intro zg zL' zh' KG zFG zF' zN' zB' zX' zT'
  (try dsimp only)
  (try k_fold)
  (have zF2 := fr_lookup (l := [(Str.ofString "count", .int n t3), (Str.ofString "odd", .int o t2), (Str.ofString "rest", .int r t1)]) (by with_unfolding_all exact zF'))
  dsimp only [kstB] at zF2
  clear zF'
  have hc1 := codeRec_mu zmu KG zhpre.1 tabs_noStr
  have hc2 := codeRec_mu zmu KG zhpre.2 tabs_noStr
  dsimp only [tabsF] at zN'
  k_with "exec For Name Call cons nil" => ((rename Fr _ _ _ _ => lF'); (with_unfolding_all refine' For_invVF lF' ?k1 ?k2 ?_; (case k1 => exact rfl); (case k2 => exact rfl); k_whole))
  k_with "call ref" => k_dflt ((with_reducible show wpAny _ _ (call (Value.ref 256) _) _ _ _); k_dflt (refine' Fun.use (c_name _ _ _ _ _ ?hr) ?k1 ?k2 ?k3 ?k4 ?k5 ?kK ?kp ?kd ?ku ?_); (case k1 => k_asm); (case k2 => k_asm); (case k3 => k_asm); (case k4 => k_asm); (case k5 => k_asm); (case kK => first | exact rfl | assumption); (case kp => trivial); (case kd => ktr_room); (case ku => ktr_units); (case hr => omega); intro v9 h9 tk9 F9 N9 K9 P9; (try k_sweep); obtain ⟨t9, P9⟩ := P9; subst P9; (try dsimp only))
  k_with "state" => first | exact on_start hr | exact on_turn (hD _ (by assumption) (by assumption)).2 (by omega) (by assumption) (by assumption)
  k_with "pyIter ref" => k_state (fun pre word rest => 1 ≤ rest ∧ rest < o ∧ word.length = pre.length ∧ (nameOf rest o).length = 1 ∧ OnInv o r pre.length rest word) "word" "rest"
  k_steps
  (rename Fr zg _ _ _ => lF'; rename News zg _ _ _ => lN')
  refine hret _ _ _ (KG.fr lF') ⟨keeps_butN zmu KG lF' lN' (last2 (by k_mem) (by k_mem)), _, strV ?_⟩
  (rename OnInv _ _ _ _ _ => hI)
  have e := hI.1
  rw [rangeKs_length] at e
  rw [e]
  congr 2
end
section
section
variable {prog : Program} {w : World} {A : Around} {E : Value → Shared → Prop} {s : Shared} {env : Env} {h₀ : Heap} {body : List Stmt} {Q : Flow → Shared → Prop}
/-- a loop over a range by ones, by an invariant over its turn, the ledger and the frame -/
theorem range_loop {σ : Type} {x : Str} {r : Addr} {a₀ b₀ : Int} {t₀ u₀ v₀ : Tok} {n : Nat} {m₀ : Str → Option Value} (stored : List Str) (Led : σ → List (Addr × Obj)) (ps : σ → List (Str × Value)) (P : Nat → σ → Prop) (c₀ : σ)
    (hh : A.handled = none) (hr : IsRange s.heap r a₀ b₀ 1 t₀ u₀ v₀) (hsmall : Builtin.Range.small a₀ b₀ 1 = true) (hn : Builtin.Range.rangeSize a₀ b₀ 1 = (n : Int)) (F : Fr h₀ env.locals s.heap m₀) (N : News h₀ env.locals s.heap (Led c₀))
    (hk : ∀ p ∈ ps c₀, m₀ p.1 = some p.2) (h0 : P 0 c₀)
    (turn : ∀ (c : σ) (I : Addr) (it : Obj) (i : Nat) (t : Tok) (m : Str → Option Value) (h : Heap) (tk : Nat), i < n → P i c → (∀ p ∈ Led c, p.1 ≠ I) → (∃ u : Str → Option Value, m = kstB (fun z => if stored.contains z then u z else m₀ z) (ps c)) →
      Fr h₀ env.locals h (fun y => if y = x then some (.int (a₀ + (i : Int)) t) else m y) → News h₀ env.locals h ((I, it) :: Led c) →
      wpAny (model prog w) A (execs body env) (TurnPost h₀ env.locals I it stored m₀ Led ps (P (i + 1)) { s with heap := h, toks := tk } Q) E { s with heap := h, toks := tk })
    (done : ∀ (c : σ) (u : Str → Option Value) (h : Heap) (tk : Nat), P n c → Fr h₀ env.locals h (kstB (fun z => if stored.contains z then u z else m₀ z) (ps c)) → News h₀ env.locals h (Led c) → Q .next { s with heap := h, toks := tk }) :
    wpAny (model prog w) A (pyIter (.ref r)) (fun it s₂ => LoopAtV prog w A h₀ env x body Q E it s₂) E s := by
  refine iter_rangeUnr hh hr hsmall hn F N fun I hI => ?_
  have key : ∀ (k i : Nat) (m : Str → Option Value) (c : σ), i + k = n → (∀ p ∈ Led c, p.1 ≠ I) → (∀ p ∈ ps c, m p.1 = some p.2) → (∀ z, (∀ p ∈ ps c, z ≠ p.1) → stored.contains z = false → m z = m₀ z) → P i c →
      RangeRest prog w A E h₀ env x body Q s I a₀ n k i m (Led c) := by
    intro k
    induction k with
    | zero =>
      intro i m c hi _ h1 h2 hp
      refine RangeRest.zero fun h tk F N => ?_
      rw [show i = n by omega] at hp
      exact done c m h tk hp (ksw_fr h1 h2 F) N
    | succ k ih =>
      intro i m c hi ho h1 h2 hp
      refine RangeRest.succ fun t h tk F N => ?_
      refine wpAny_mono (turn c I _ i t m h tk (by omega) hp ho ⟨m, funext fun z => ?_⟩ F N) (fun f s₃ q => ?_) fun _ _ e => e
      · exact (kstB_eq h1 fun hz => by
          by_cases hs : stored.contains z = true
          · rw [if_pos hs]
          · rw [if_neg hs]; exact (h2 z hz (by simpa using hs)).symm).symm
      have fin : TurnEnd h₀ env.locals I (itR (a₀ + ((i + 1 : Nat) : Int)) ((n : Int) - ((i + 1 : Nat) : Int))) stored m₀ Led ps (P (i + 1)) { s with heap := h, toks := tk } s₃ → UnrEnd h₀ env.locals { s with heap := h, toks := tk } I (itR (a₀ + ((i + 1 : Nat) : Int)) ((n : Int) - ((i + 1 : Nat) : Int))) (RangeRest prog w A E h₀ env x body Q s I a₀ n k (i + 1)) s₃ := by
        rintro ⟨c', h', tk', m', news', rfl, F', N', hI, hn, hne, hk', hr', hp'⟩
        refine ⟨h', tk', m', Led c', rfl, F', fun p hp => ?_, hne, ih (i + 1) m' c' (by omega) hne hk' hr' hp'⟩
        rcases List.mem_cons.mp hp with rfl | hp
        · exact N' _ hI
        · exact N' _ (hn p hp)
      cases f with
      | ret v => exact q
      | brk => exact q
      | next => exact fin q
      | cont => exact fin q
  exact key n 0 m₀ c₀ (by omega) (fun p hp => Nat.ne_of_lt (hI p hp)) hk (fun _ _ _ => rfl) h0
end
end
section
/-! what _law_rounds does, in plain Lean -/
noncomputable def sOf (b : Int) : Str := Str.ofString (toString b)
noncomputable abbrev Pairs := List (Str × Str)
noncomputable def walkF : Nat → Int → Int → Pairs → Int → Str → Option (Pairs × Int × Str)
  | 0, _, _, _, _, _ => none
  | k + 1, o, b, ps, r, wd => match findF (Txt.lower (nameOf r o)) ps with
    | some _ => some (ps, r, wd)
    | none => walkF k o b (ps ++ [(nameOf r o, sOf b)]) (Int.fmod (2 * r) o) (wd ++ nameOf r o)
noncomputable def rndsF (o : Int) : Nat → Option (Pairs × List (Int × Str × Int))
  | 0 => some ([], [])
  | i + 1 => match rndsF o i with
    | none => none
    | some (ps, rs) => match walkF 40 o (1 + (i : Int)) ps (1 + (i : Int)) (Str.ofString "") with
      | none => none
      | some (ps', r, wd) => some (ps', if (wd == Str.ofString "") = true then rs else rs ++ [(1 + (i : Int), wd, r)])
theorem walk_len : ∀ (k : Nat) (o b : Int) (ps : Pairs) (r : Int) (wd : Str) (ps' : Pairs) (r' : Int) (wd' : Str), walkF k o b ps r wd = some (ps', r', wd') → ps.length ≤ ps'.length ∧ wd.length ≤ wd'.length
  | 0, _, _, _, _, _, _, _, _, h => by cases h
  | k + 1, o, b, ps, r, wd, ps', r', wd', h => by
    unfold walkF at h
    split at h
    · cases h; exact ⟨Nat.le_refl _, Nat.le_refl _⟩
    · have := walk_len k _ _ _ _ _ _ _ _ h
      rw [List.length_append, PySem.Str.length_append] at this
      exact ⟨by omega, by omega⟩
theorem rnds_prev {o : Int} : ∀ {n : Nat} {R : Pairs × List (Int × Str × Int)}, rndsF o n = some R → ∀ i, i ≤ n → ∃ S, rndsF o i = some S ∧ S.1.length ≤ R.1.length ∧ S.2.length ≤ R.2.length
  | 0, R, h, i, hi => ⟨R, by rw [Nat.le_zero.mp hi]; exact h, Nat.le_refl _, Nat.le_refl _⟩
  | n + 1, R, h, i, hi => by
    by_cases e : i = n + 1
    · exact ⟨R, by rw [e]; exact h, Nat.le_refl _, Nat.le_refl _⟩
    · unfold rndsF at h
      split at h
      · cases h
      · rename_i ps rs h1
        split at h
        · cases h
        · rename_i ps' r wd h2
          cases h
          obtain ⟨S, hS, l1, l2⟩ := rnds_prev h1 i (by omega)
          have l3 := (walk_len _ _ _ _ _ _ _ _ _ h2).1
          refine ⟨S, hS, Nat.le_trans l1 l3, ?_⟩
          dsimp only at l2 ⊢
          split
          · exact l2
          · rw [List.length_append]; omega
/-! the ledger -/
noncomputable abbrev TabSt := Option ((Addr × Obj) × Addr × Obj)
noncomputable def tabL : TabSt → List (Addr × Obj)
  | none => tabs0
  | some (p, q) => (54, tabObj (tabF 36 p.1)) :: (61, tabObj (tabF 51 q.1)) :: p :: q :: []
noncomputable def codeOkO (o : Obj) (q : Str) : Prop := ∃ vs t, o.data = .fields vs ∧ vs[1]? = some (.str q t)
noncomputable def tabOk : TabSt → Prop
  | none => True
  | some (p, q) => codeOkO p.2 qualA ∧ codeOkO q.2 qualB
noncomputable abbrev ledR (w : World) (tk : Tok) (n : Nat) (tb dx l R : Addr) (refs : List Value) (nn : Nat) (rrefs : List Value) (rn : Nat) (tl : List (Addr × Obj)) : List (Addr × Obj) :=
  (tb, instObj 238 dx) :: (dx, dictOf (hdrOf w tk l) n) :: (l, listOf (List.toArray refs) nn) :: (R, listOf (List.toArray rrefs) rn) :: tl
structure TailOk (t : TabSt) (X : List (Addr × Obj)) : Prop where
  tup : ∀ p ∈ X, p.2.cls = .type "tuple"
  tab : tabOk t
theorem TailOk.notList {t : TabSt} {X : List (Addr × Obj)} (T : TailOk t X) : ∀ p ∈ tabL t ++ X, ∀ vs n, p.2 ≠ listOf vs n := by
  intro p hp vs n e
  rcases List.mem_append.mp hp with hp | hp
  · cases t with
    | none =>
      simp only [tabL, tabs0, List.mem_cons, List.not_mem_nil, or_false] at hp
      rcases hp with rfl | rfl <;> cases e
    | some c =>
      obtain ⟨p1, q1⟩ := c
      obtain ⟨⟨v1, t1, d1, _⟩, ⟨v2, t2, d2, _⟩⟩ := T.tab
      simp only [tabL, List.mem_cons, List.not_mem_nil, or_false] at hp
      rcases hp with rfl | rfl | rfl | rfl
      · cases e
      · cases e
      · rw [e] at d1; cases d1
      · rw [e] at d2; cases d2
  · have := T.tup p hp
    rw [e] at this
    simp at this
theorem news_fun {h₀ h : Heap} {L : Addr} {news : List (Addr × Obj)} (N : News h₀ L h news) {p q : Addr × Obj} (hp : p ∈ news) (hq : q ∈ news) (e : p.1 = q.1) : p = q := by
  have a := (N p hp).1
  have b := (N q hq).1
  rw [e, b] at a
  exact Prod.ext e (Option.some.inj a).symm
theorem news_step {h₀ h h' : Heap} {L : Addr} {m : Str → Option Value} {U : List Addr} {news news' : List (Addr × Obj)} (F : Fr h₀ L h m) (N : News h₀ L h news) (k : Keeps U h h')
    (hs : ∀ p ∈ news', (p ∈ news ∧ p.1 ∉ U) ∨ (h'.get? p.1 = some p.2 ∧ (h.get? p.1 = none ∨ ∃ o, (p.1, o) ∈ news))) : News h₀ L h' news' := by
  intro p hp
  rcases hs p hp with ⟨h1, h2⟩ | ⟨h1, h2⟩
  · exact ⟨k _ _ (N p h1).1 h2, (N p h1).2⟩
  · refine ⟨h1, ?_⟩
    rcases h2 with h2 | ⟨o, h2⟩
    · refine ⟨fun e => ?_, ?_⟩
      · obtain ⟨oL, _, _, hL, _⟩ := F.ns
        rw [e, hL] at h2; cases h2
      · cases q : h₀.get? p.1 with
        | none => rfl
        | some o' => have := F.keep _ _ q; rw [h2] at this; cases this
    · exact (N _ h2).2
theorem new_ne {h₀ h : Heap} {L D : Addr} {news : List (Addr × Obj)} (N : News h₀ L h news) (hn : h.get? D = none) : ∀ p ∈ news, D ≠ p.1 := fun p hp e => by
  have := (N p hp).1
  rw [← e, hn] at this; cases this
theorem TupsOf.snoc {a : Addr} {k v : Str} {t u : Tok} : ∀ {ts : List (Addr × Obj)} {r : List Value} {ps : Pairs}, TupsOf ts r ps → TupsOf (ts ++ [(a, tupOf [.str k t, .str v u])]) (r ++ [.ref a]) (ps ++ [(k, v)])
  | _, _, _, .nil => .cons .nil
  | _, _, _, .cons h => .cons h.snoc
theorem TupsOf.len : ∀ {ts : List (Addr × Obj)} {r : List Value} {ps : Pairs}, TupsOf ts r ps → r.length = ps.length
  | _, _, _, .nil => rfl
  | _, _, _, .cons h => by simp [h.len]
theorem pairs_of {h₀ h : Heap} {L : Addr} {news : List (Addr × Obj)} (N : News h₀ L h news) : ∀ {ts : List (Addr × Obj)} {r : List Value} {ps : Pairs}, TupsOf ts r ps → (∀ p ∈ ts, p ∈ news) → (∀ p ∈ ps, p.1.length ≤ 16 ∧ p.2.length ≤ 16) → PairsAt h r ps
  | _, _, _, .nil, _, _ => .nil
  | _, _, _, .cons h, hs, hl => .cons (N _ (hs _ (.head _))).1 (hl _ (.head _)).1 (hl _ (.head _)).2 (pairs_of N h (fun p hp => hs p (.tail _ hp)) fun p hp => hl p (.tail _ hp))
inductive RndsOf : List (Addr × Obj) → List Value → List (Int × Str × Int) → Prop
  | nil : RndsOf [] [] []
  | cons {a : Addr} {b r : Int} {wd : Str} {t u v : Tok} {ts rr xs} : RndsOf ts rr xs → RndsOf ((a, tupOf [.int b t, .str wd u, .int r v]) :: ts) (.ref a :: rr) ((b, wd, r) :: xs)
theorem RndsOf.snoc {a : Addr} {b r : Int} {wd : Str} {t u v : Tok} : ∀ {ts : List (Addr × Obj)} {rr : List Value} {xs : List (Int × Str × Int)}, RndsOf ts rr xs → RndsOf (ts ++ [(a, tupOf [.int b t, .str wd u, .int r v])]) (rr ++ [.ref a]) (xs ++ [(b, wd, r)])
  | _, _, _, .nil => .cons .nil
  | _, _, _, .cons h => .cons h.snoc
theorem RndsOf.len : ∀ {ts : List (Addr × Obj)} {r : List Value} {xs : List (Int × Str × Int)}, RndsOf ts r xs → r.length = xs.length
  | _, _, _, .nil => rfl
  | _, _, _, .cons h => by simp [h.len]
/-! the calls over this ledger -/
section
variable {w : World} {p : Program} {loose : List Str} {mean : ExcName → Option Value} {mg mb : Str → Option Value} {dp un : Nat} {gd : Option (List Code)} {cn : Str} {cs : Scope} {a : Addr} {ccd : Value} {cl : List (Str × Addr)} {outer : List Env} {A₀ : Around} {base h₀ : Heap} {L : Addr} {m : Str → Option Value} {s : Shared} {Q E : Value → Shared → Prop}
  {news : List (Addr × Obj)} {tk t1 t2 : Tok} {n nn rn : Nat} {tb dx l R I : Addr} {it : Obj} {refs rrefs : List Value} {t : TabSt} {X tups : List (Addr × Obj)} {ps : Pairs} {name val : Str}
theorem mem3 {x y z : Addr × Obj} (h1 : x ∈ news) (h2 : y ∈ news) (h3 : z ∈ news) : ∀ p ∈ [x, y, z], p ∈ news := fun p hp => by
  simp only [List.mem_cons, List.not_mem_nil, or_false] at hp
  rcases hp with rfl | rfl | rfl <;> assumption
theorem get_rule (B : Below A₀ base outer h₀) (F : Fr h₀ L s.heap m) (Xk : (hd.heap_39 w.params).In h₀) (N : News h₀ L s.heap ((I, it) :: ledR w tk n tb dx l R refs nn rrefs rn (tabL t ++ X))) (T : Top p loose mean mg mb h₀) (hk : cs.kind = .function)
    (hT : TupsOf tups refs ps) (hs : ∀ p ∈ tups, p ∈ X) (hl : ∀ p ∈ ps, p.1.length ≤ 16 ∧ p.2.length ≤ 16) (hn : name.length ≤ 16) (hre : reOk (hd.heap_39 w.params) 103 (Txt.lower name) = true) (hd : dp + 2 < recursionLimit) (hu : un + 16 < cLine)
    (ret : ∀ h' tk', Fr h₀ L h' m → News h₀ L h' ((I, it) :: ledR w tk n tb dx l R refs nn rrefs rn (tabL t ++ X)) → ∀ v, (findF (Txt.lower name) ps = none ∧ v = .none ∨ ∃ x u, findF (Txt.lower name) ps = some x ∧ v = .str x u) → Q v { s with heap := h', toks := tk' }) :
    wpAny (model PySem.Challenge.rw_pe0283_01.row.prog w) (ktrTop dp un gd cn cs L a ccd cl outer) (call (.ref 185) [.ref tb, .str name t1]) Q E s := by
  refine Fun.useMu (c_get w tb dx l refs ps n nn tk name t1 hn hre) B F Xk N (mem3 (.tail _ (.head _)) (.tail _ (.tail _ (.head _))) (.tail _ (.tail _ (.tail _ (.head _))))) T hk (pairs_of N hT (fun p hp => .tail _ (.tail _ (.tail _ (.tail _ (.tail _ (List.mem_append_right _ (hs p hp))))))) hl) hd hu ?_
  intro v h' tk' F' K' P
  obtain ⟨K, u, rfl⟩ := P
  refine ret h' tk' F' (N.grown K.all) _ ?_
  cases e : findF (Txt.lower name) ps with
  | none => exact .inl ⟨rfl, rfl⟩
  | some x => exact .inr ⟨x, u, rfl, rfl⟩
theorem add_rule (B : Below A₀ base outer h₀) (F : Fr h₀ L s.heap m) (Xk : (hd.heap_39 w.params).In h₀) (N : News h₀ L s.heap ((I, it) :: ledR w tk n tb dx l R refs nn rrefs rn (tabL t ++ X))) (T : Top p loose mean mg mb h₀) (hk : cs.kind = .function)
    (hIl : I ≠ l) (hRl : R ≠ l) (hO : TailOk t X) (hl : refs.length ≤ 1000) (hn : name.length ≤ 16) (hv : val.length ≤ 16) (hre : reOk (hd.heap_39 w.params) 103 name = true) (hrv : reOk (hd.heap_39 w.params) 108 val = true) (hd : dp + 2 < recursionLimit) (hu : un + 24 < cLine)
    (ret : ∀ h' tk' D u v, D ≠ I → Fr h₀ L h' m → News h₀ L h' ((I, it) :: ledR w tk n tb dx l R (refs ++ [.ref D]) (nn + 1) rrefs rn (tabL t ++ (D, tupOf [.str name u, .str val v]) :: X)) → Q .none { s with heap := h', toks := tk' }) :
    wpAny (model PySem.Challenge.rw_pe0283_01.row.prog w) (ktrTop dp un gd cn cs L a ccd cl outer) (call (.ref 235) [.ref tb, .str name t1, .str val t2]) Q E s := by
  refine Fun.useMu (c_add w tb dx l refs n nn tk name val t1 t2 hl hn hv hre hrv) B F Xk N (mem3 (.tail _ (.head _)) (.tail _ (.tail _ (.head _))) (.tail _ (.tail _ (.tail _ (.head _))))) T hk trivial hd hu ?_
  intro v h' tk' F' K' P
  obtain ⟨rfl, D, u, v', nD, gD, gl, K⟩ := P
  have hD := new_ne N nD
  refine ret h' tk' D u v' (hD (I, it) (.head _)) F' (news_step F N K fun p hp => ?_)
  have hlm : (l, listOf (List.toArray refs) nn) ∈ (I, it) :: ledR w tk n tb dx l R refs nn rrefs rn (tabL t ++ X) := .tail _ (.tail _ (.tail _ (.head _)))
  have ne : ∀ q ∈ tabL t ++ X, q.1 ∉ [l] := fun q hq hm => by
    have e := news_fun N (p := q) (.tail _ (.tail _ (.tail _ (.tail _ (.tail _ hq))))) hlm (List.mem_singleton.mp hm)
    exact hO.notList q hq _ _ (by rw [e])
  rcases List.mem_cons.mp hp with rfl | hp
  · exact .inl ⟨.head _, fun hm => hIl (List.mem_singleton.mp hm)⟩
  rcases List.mem_cons.mp hp with rfl | hp
  · exact .inl ⟨.tail _ (.head _), fun hm => by have e := news_fun N (.tail _ (.head _)) hlm (List.mem_singleton.mp hm); exact absurd (congrArg (fun q => q.2.cls) e) (by simp)⟩
  rcases List.mem_cons.mp hp with rfl | hp
  · exact .inl ⟨.tail _ (.tail _ (.head _)), fun hm => by have e := news_fun N (.tail _ (.tail _ (.head _))) hlm (List.mem_singleton.mp hm); exact absurd (congrArg (fun q => q.2.cls) e) (by simp)⟩
  rcases List.mem_cons.mp hp with rfl | hp
  · refine .inr ⟨?_, .inr ⟨_, hlm⟩⟩
    rw [← List.push_toArray]; exact gl
  rcases List.mem_cons.mp hp with rfl | hp
  · exact .inl ⟨.tail _ (.tail _ (.tail _ (.tail _ (.head _)))), fun hm => hRl (List.mem_singleton.mp hm)⟩
  rcases List.mem_append.mp hp with hp | hp
  · exact .inl ⟨.tail _ (.tail _ (.tail _ (.tail _ (.tail _ (List.mem_append_left _ hp))))), ne p (List.mem_append_left _ hp)⟩
  rcases List.mem_cons.mp hp with rfl | hp
  · exact .inr ⟨gD, .inl nD⟩
  · exact .inl ⟨.tail _ (.tail _ (.tail _ (.tail _ (.tail _ (List.mem_append_right _ hp))))), ne p (List.mem_append_right _ hp)⟩
theorem div_rule {x o : Int} (B : Below A₀ base outer h₀) (F : Fr h₀ L s.heap m) (Xk : (hd.heap_39 w.params).In h₀) (N : News h₀ L s.heap ((I, it) :: ledR w tk n tb dx l R refs nn rrefs rn (tabL t ++ X))) (T : Top p loose mean mg mb h₀) (hk : cs.kind = .function)
    (hO : TailOk t X) (hIt : ∀ p ∈ tabL t, p.1 ≠ I) (hx : 0 ≤ x ∧ x < 2 ^ 40) (ho : 1 ≤ o ∧ o ≤ 63) (hok : divOk x o = true) (hd : dp + 48 < recursionLimit) (hu : un + 260 < cLine)
    (ret : ∀ h' tk' D c t', TailOk t' X → t'.isSome = true → (∀ p ∈ tabL t', p.1 ≠ I) → Fr h₀ L h' m → News h₀ L h' ((D, tupOf [.int (x.fdiv o) (Prod.fst c), .int (x.fmod o) (Prod.snd c)]) :: (I, it) :: ledR w tk n tb dx l R refs nn rrefs rn (tabL t' ++ X)) → Q (.ref D) { s with heap := h', toks := tk' }) :
    wpAny (model PySem.Challenge.rw_pe0283_01.row.prog w) (ktrTop dp un gd cn cs L a ccd cl outer) (call (.ref 80) [.int x t1, .int o t2]) Q E s := by
  have up : ∀ {q : Addr × Obj}, q ∈ tabL t ++ X → q ∈ (I, it) :: ledR w tk n tb dx l R refs nn rrefs rn (tabL t ++ X) := fun hq => .tail _ (.tail _ (.tail _ (.tail _ (.tail _ hq))))
  cases t with
  | none =>
    have m54 : (54, tabObj #[]) ∈ (I, it) :: ledR w tk n tb dx l R refs nn rrefs rn (tabL none ++ X) := up (.head _)
    have m61 : (61, tabObj #[]) ∈ (I, it) :: ledR w tk n tb dx l R refs nn rrefs rn (tabL none ++ X) := up (.tail _ (.head _))
    refine Fun.useMu (c_divmod0 w x o t1 t2 hx ho hok) B F Xk N (mem2 m54 m61) T hk trivial hd hu ?_
    intro v h' tk' F' K' P
    obtain ⟨⟨c1, c2, n1, n2, g1, g2, cr1, cr2⟩, K, c, D, rfl, nD, gD⟩ := P
    obtain ⟨_, o1, v1, u1, e1, go1, d1, s1⟩ := cr1
    cases e1
    obtain ⟨_, o2, v2, u2, e2, go2, d2, s2⟩ := cr2
    cases e2
    have other : ∀ q ∈ (I, it) :: ledR w tk n tb dx l R refs nn rrefs rn (tabL none ++ X), q.2.cls ≠ .none → q.1 ∉ [54, 61] := fun q hq hc hm => by
      simp only [List.mem_cons, List.not_mem_nil, or_false] at hm
      rcases hm with e | e
      · exact hc (by rw [news_fun N hq m54 e])
      · exact hc (by rw [news_fun N hq m61 e])
    refine ret h' tk' D c (some ((c1, o1), (c2, o2))) ⟨hO.tup, ⟨⟨v1, u1, d1, s1⟩, ⟨v2, u2, d2, s2⟩⟩⟩ rfl (fun q hq => ?_) F' (news_step F N K fun q hq => ?_)
    · simp only [tabL, List.mem_cons, List.not_mem_nil, or_false] at hq
      rcases hq with rfl | rfl | rfl | rfl
      · exact hIt (54, tabObj #[]) (.head _)
      · exact hIt (61, tabObj #[]) (.tail _ (.head _))
      · exact new_ne N n1 (I, it) (.head _)
      · exact new_ne N n2 (I, it) (.head _)
    · rcases List.mem_cons.mp hq with rfl | hq
      · exact .inr ⟨gD, .inl nD⟩
      rcases List.mem_cons.mp hq with rfl | hq
      · refine .inl ⟨.head _, fun hm => ?_⟩
        simp only [List.mem_cons, List.not_mem_nil, or_false] at hm
        rcases hm with e | e
        · exact hIt (54, tabObj #[]) (.head _) e.symm
        · exact hIt (61, tabObj #[]) (.tail _ (.head _)) e.symm
      rcases List.mem_cons.mp hq with rfl | hq
      · exact .inl ⟨.tail _ (.head _), other _ (.tail _ (.head _)) (by simp)⟩
      rcases List.mem_cons.mp hq with rfl | hq
      · exact .inl ⟨.tail _ (.tail _ (.head _)), other _ (.tail _ (.tail _ (.head _))) (by simp)⟩
      rcases List.mem_cons.mp hq with rfl | hq
      · exact .inl ⟨.tail _ (.tail _ (.tail _ (.head _))), other _ (.tail _ (.tail _ (.tail _ (.head _)))) (by simp)⟩
      rcases List.mem_cons.mp hq with rfl | hq
      · exact .inl ⟨.tail _ (.tail _ (.tail _ (.tail _ (.head _)))), other _ (.tail _ (.tail _ (.tail _ (.tail _ (.head _))))) (by simp)⟩
      rcases List.mem_append.mp hq with hq | hq
      · simp only [tabL, List.mem_cons, List.not_mem_nil, or_false] at hq
        rcases hq with rfl | rfl | rfl | rfl
        · exact .inr ⟨g1, .inr ⟨_, m54⟩⟩
        · exact .inr ⟨g2, .inr ⟨_, m61⟩⟩
        · exact .inr ⟨go1, .inl n1⟩
        · exact .inr ⟨go2, .inl n2⟩
      · exact .inl ⟨up (List.mem_append_right _ hq), other _ (up (List.mem_append_right _ hq)) (by rw [hO.tup q hq]; simp)⟩
  | some pq =>
    obtain ⟨⟨c1, o1⟩, ⟨c2, o2⟩⟩ := pq
    obtain ⟨⟨v1, u1, d1, s1⟩, ⟨v2, u2, d2, s2⟩⟩ := hO.tab
    refine Fun.useMu (c_divmod w x o c1 c2 t1 t2 hx ho hok) B F Xk N (mem2 (up (.head _)) (up (.tail _ (.head _)))) T hk ⟨codeRec_news N (up (.tail _ (.tail _ (.head _)))) d1 s1, codeRec_news N (up (.tail _ (.tail _ (.tail _ (.head _))))) d2 s2⟩ hd hu ?_
    intro v h' tk' F' K' P
    obtain ⟨K, c, D, rfl, nD, gD⟩ := P
    exact ret h' tk' D c _ hO rfl hIt F' (news_add F N (N.grown K.all) nD gD).1
theorem append_rule {T0 : Addr} {v : Value} {o0 : Obj} (F : Fr h₀ L s.heap m) (N : News h₀ L s.heap ((T0, o0) :: (I, it) :: ledR w tk n tb dx l R refs nn rrefs rn (tabL t ++ X))) (hO : TailOk t X) (hTR : T0 ≠ R) (hIR : I ≠ R) (hlR : l ≠ R) (hz : rrefs.length ≤ 1000) {prog : Program} {A : Around}
    (ret : ∀ h', Fr h₀ L h' m → News h₀ L h' ((T0, o0) :: (I, it) :: ledR w tk n tb dx l R refs nn (rrefs ++ [v]) (rn + 1) (tabL t ++ X)) → Q .none { s with heap := h' }) :
    wpAny (model prog w) A (call (.builtin "list.append") [.ref R, v]) Q E s := by
  have hRm : (R, listOf (List.toArray rrefs) rn) ∈ (T0, o0) :: (I, it) :: ledR w tk n tb dx l R refs nn rrefs rn (tabL t ++ X) := .tail _ (.tail _ (.tail _ (.tail _ (.tail _ (.head _)))))
  have ne : ∀ q ∈ tabL t ++ X, q.1 ≠ R := fun q hq e => by
    have e := news_fun N (p := q) (.tail _ (.tail _ (.tail _ (.tail _ (.tail _ (.tail _ hq)))))) hRm e
    exact hO.notList q hq _ _ (by rw [e])
  refine append_K F N (.tail hTR (.tail hIR (.tail (fun e => ?_) (.tail (fun e => ?_) (.tail hlR (.head ne)))))) (fun h' F' N' => ?_) (by rw [sizeLine_eq]; simp; omega)
  · exact absurd (congrArg (fun q => q.2.cls) (news_fun N (.tail _ (.tail _ (.head _))) hRm e)) (by simp)
  · exact absurd (congrArg (fun q => q.2.cls) (news_fun N (.tail _ (.tail _ (.tail _ (.head _)))) hRm e)) (by simp)
  · rw [List.push_toArray] at N'
    exact ret h' F' N'
end
end
section
noncomputable def signs : List Nat := [65, 66, 67, 68, 69, 70, 71, 72, 73, 74, 75, 76, 77, 78, 79, 80, 97, 98, 99, 100, 101, 102, 103, 104, 105, 106, 107, 108, 109, 110, 111, 112]
noncomputable def nums : List Int := [1, 2, 3, 4, 5, 6, 7, 8, 9, 10, 11, 12, 13, 14, 15, 16]
theorem code_intro {K : Frag} {c : Addr} {P : Array Value → Prop} {items : Array Value} {n : Nat} {sl : Array (Option Value)} (e : K.lookup c = some ⟨.type "tuple", none, .seq items n, sl⟩) (h : P items) : ∃ items n sl, K.lookup c = some ⟨.type "tuple", none, .seq items n, sl⟩ ∧ P items := ⟨items, n, sl, e, h⟩
open PySem.Builtin.Re in
theorem code103 (w : World) : ∃ items n sl, (hd.heap_39 w.params).lookup 103 = some ⟨.type "tuple", none, .seq items n, sl⟩ ∧ ∀ c ∈ signs,
    reFails (Sre.forSearch ((items.map reRawOf).map (·.toNat)) #[c] 0 0 1 false) = true ∧ reFails (Sre.forSearch ((items.map reRawOf).map (·.toNat)) (Txt.lower ⟨#[c]⟩).cps 0 0 (Txt.lower ⟨#[c]⟩).length false) = true := by
  suffices q : (fun (_ : Program) => ∃ items n sl, (hd.heap_39 w.params).lookup 103 = some ⟨.type "tuple", none, .seq items n, sl⟩ ∧ ∀ c ∈ signs,
    reFails (Sre.forSearch ((items.map reRawOf).map (·.toNat)) #[c] 0 0 1 false) = true ∧ reFails (Sre.forSearch ((items.map reRawOf).map (·.toNat)) (Txt.lower ⟨#[c]⟩).cps 0 0 (Txt.lower ⟨#[c]⟩).length false) = true) PySem.Challenge.rw_pe0283_01.row.prog from q
  k_fill
  k_dflt (refine' code_intro ?e ?_; (case e => k_is))
  decide +kernel
open PySem.Builtin.Re in
theorem code108 (w : World) : ∃ items n sl, (hd.heap_39 w.params).lookup 108 = some ⟨.type "tuple", none, .seq items n, sl⟩ ∧ ∀ b ∈ nums,
    reFails (Sre.forSearch ((items.map reRawOf).map (·.toNat)) (Str.ofString (toString b)).cps 0 0 (Str.ofString (toString b)).length false) = true ∧ (Str.ofString (toString b)).length ≤ 2 := by
  suffices q : (fun (_ : Program) => ∃ items n sl, (hd.heap_39 w.params).lookup 108 = some ⟨.type "tuple", none, .seq items n, sl⟩ ∧ ∀ b ∈ nums,
    reFails (Sre.forSearch ((items.map reRawOf).map (·.toNat)) (Str.ofString (toString b)).cps 0 0 (Str.ofString (toString b)).length false) = true ∧ (Str.ofString (toString b)).length ≤ 2) PySem.Challenge.rw_pe0283_01.row.prog from q
  k_fill
  k_dflt (refine' code_intro ?e ?_; (case e => k_is))
  decide +kernel
open PySem.Builtin.Re in
theorem reOk_at {w : World} {c : Addr} {x : Str} {items : Array Value} {n : Nat} {sl : Array (Option Value)} (e : (hd.heap_39 w.params).lookup c = some ⟨.type "tuple", none, .seq items n, sl⟩)
    (h : reFails (Sre.forSearch ((items.map reRawOf).map (·.toNat)) x.cps 0 0 x.length false) = true) : reOk (hd.heap_39 w.params) c x = true := by
  unfold reOk codeOf
  rw [e]
  exact h
theorem small_sign : ∀ n : Nat, n < 17 → 1 ≤ n → 96 + n ∈ signs ∧ 64 + n ∈ signs := by decide
theorem small_num : ∀ n : Nat, n < 17 → 1 ≤ n → (n : Int) ∈ nums := by decide
theorem sign_of {r o : Int} (h1 : 1 ≤ r) (h2 : r < o) (h3 : o ≤ 33) : ∃ c ∈ signs, nameOf r o = ⟨#[c]⟩ := by
  unfold nameOf
  split
  · obtain ⟨n, rfl⟩ := Int.eq_ofNat_of_zero_le (show 0 ≤ r by omega)
    refine ⟨_, ?_, rfl⟩
    rw [show (96 + (n : Int)).toNat = 96 + n by clear h1 h2 h3; omega]
    exact (small_sign n (by omega) (by omega)).1
  · obtain ⟨n, hn⟩ := Int.eq_ofNat_of_zero_le (show 0 ≤ o - r by omega)
    refine ⟨_, ?_, rfl⟩
    rw [show (64 + o - r).toNat = 64 + n by omega]
    exact (small_sign n (by omega) (by omega)).2
theorem num_of {b : Int} (h1 : 1 ≤ b) (h2 : b ≤ 16) : b ∈ nums := by
  obtain ⟨n, rfl⟩ := Int.eq_ofNat_of_zero_le (show 0 ≤ b by omega)
  exact small_num n (by omega) (by omega)
theorem re_name {w : World} {r o : Int} (h1 : 1 ≤ r) (h2 : r < o) (h3 : o ≤ 33) : reOk (hd.heap_39 w.params) 103 (nameOf r o) = true := by
  obtain ⟨c, hc, e⟩ := sign_of h1 h2 h3
  obtain ⟨items, n, sl, el, h⟩ := code103 w
  rw [e]
  exact reOk_at el (h c hc).1
theorem re_lower {w : World} {r o : Int} (h1 : 1 ≤ r) (h2 : r < o) (h3 : o ≤ 33) : reOk (hd.heap_39 w.params) 103 (Txt.lower (nameOf r o)) = true := by
  obtain ⟨c, hc, e⟩ := sign_of h1 h2 h3
  obtain ⟨items, n, sl, el, h⟩ := code103 w
  rw [e]
  exact reOk_at el (h c hc).2
theorem re_num {w : World} {b : Int} (h1 : 1 ≤ b) (h2 : b ≤ 16) : reOk (hd.heap_39 w.params) 108 (Str.ofString (toString b)) = true := by
  obtain ⟨items, n, sl, el, h⟩ := code108 w
  exact reOk_at el (h b (num_of h1 h2)).1
theorem num_len {b : Int} (h1 : 1 ≤ b) (h2 : b ≤ 16) : (Str.ofString (toString b)).length ≤ 2 := by
  have h : ∀ b ∈ nums, (Str.ofString (toString b)).length ≤ 2 := by decide +kernel
  exact h b (num_of h1 h2)
end
section
/-! what _law_one_round and the law ask, in plain Lean -/
/-- an equation that omega does not see -/
noncomputable def EqI (a b : Int) : Prop := a = b
noncomputable def partF (o b : Int) : Int := o.fdiv (gcdF (o.toNat + 1) b o)
noncomputable def flipF (o b k : Int) : Int := if Int.fmod (2 ^ k.toNat + 1) (partF o b) = 0 then 1 else 0
noncomputable def leastF (o x : Int) : Int := if o - x < x then o - x else x
noncomputable def placeF (o b : Int) (i : Nat) : Int := Int.fmod (b * 2 ^ (0 + (i : Int)).toNat) o
noncomputable def signF (o b k : Int) (bits : List Int) (i : Nat) : Str := ⟨#[((if bits.getD (k - 1 - (0 + (i : Int))).toNat 0 = 1 then 64 else 96) + leastF o (placeF o b i)).toNat]⟩
noncomputable def min3 (a b c : Int) : Int := if b < a then (if c < b then c else b) else (if c < a then c else a)
noncomputable abbrev dueF (k fl i : Int) : Int := min3 (2 * k) (4 * i) (4 * (k - i) + fl * i)
noncomputable abbrev LevOk (o k fl r : Int) (wd : Str) (i : Int) : Prop := levF (dueF k fl i) wd (Txt.slice (wd ++ (onP o r k.toNat).1) (some i) (some (i + k))) = dueF k fl i
structure OneOk (o : Int) (N : Nat) (res : Pairs × List (Int × Str × Int)) (b : Int) (wd : Str) (r : Int) : Prop where
  hb : 1 ≤ b ∧ 2 * b < o
  hp1 : 1 ≤ partF o b ∧ partF o b ≤ 33
  hg : 1 ≤ gcdF (o.toNat + 1) b o ∧ gcdF (o.toNat + 1) b o ≤ 33
  one : ∃ k fl whole : Int, ∃ bits : List Int, turnsF 16 (partF o b) 1 = k ∧ (1 ≤ k ∧ k ≤ 16) ∧ flipF o b k = fl ∧ (0 ≤ fl ∧ fl ≤ 1) ∧ (wd.length : Int) = k ∧ ((fl = 1 ∧ r = o - b) ∨ (fl = 0 ∧ r = b)) ∧ (1 ≤ r ∧ r < o) ∧
    (0 ≤ b * 2 ^ k.toNat ∧ b * 2 ^ k.toNat < 2 ^ 40) ∧ divOk (b * 2 ^ k.toNat) o = true ∧ Int.fmod (b * 2 ^ k.toNat) o = r ∧ Int.fdiv (b * 2 ^ k.toNat) o = whole ∧ (0 ≤ whole ∧ whole < 2 ^ 40) ∧
    (digitsF 1 whole).length ≤ 20 ∧ (digitsF 1 whole ++ List.replicate k.toNat 0).take k.toNat = bits ∧ (bits.length : Int) = k ∧ (∀ d ∈ bits, 0 ≤ d ∧ d < 2 ^ (Int.toNat 1)) ∧ intF 1 bits = whole ∧
    (∀ i : Nat, i < k.toNat → Txt.item wd (0 + (i : Int)) = signF o b k bits i) ∧ (∀ i : Nat, i ≤ k.toNat → LevOk o k fl r wd i) ∧ (whole + fl) * o = b * (2 ^ k.toNat - 1 + 2 * fl)
  count : ((res.2.filter fun q => gcdF (o.toNat + 1) q.1 o = gcdF (o.toNat + 1) b o).length : Int) * (wd.length : Int) = (((rangeKs 1 N).map fun q => gcdF (o.toNat + 1) q o).count (gcdF (o.toNat + 1) b o) : Int)
  signs : ∀ c ∈ wd.cps.toList, allF (Txt.lower (Txt.swapcase ⟨#[c]⟩)) res.1 = [sOf b] ∧ c ∈ signs
structure OddOk (o : Int) (N : Nat) (res : Pairs × List (Int × Str × Int)) : Prop where
  ho : 3 ≤ o ∧ o ≤ 33
  hN : o.fdiv 2 = N
  hN2 : 1 ≤ N ∧ N ≤ 16
  hD : Divs o
  hR : rndsF o N = some res
  l1 : res.1.length ≤ 40
  l2 : res.2.length ≤ 40
  ne : res.1 ≠ []
  total : (res.1.length : Int) = N
  one : ∀ q ∈ res.2, OneOk o N res q.1 q.2.1 q.2.2
  joined : Txt.join (Str.ofString "") (res.1.map (·.1)) = Txt.join (Str.ofString "") (res.2.map (·.2.1))
end
section
/-! the plain law, made fast: Levenshtein over codes -/
noncomputable def subC (a b : Nat) : Int := if a = b then 0 else if a % 32 = b % 32 then 1 else 2
theorem lower_sign : ∀ c ∈ signs, Txt.lower ⟨#[c]⟩ = ⟨#[96 + c % 32]⟩ := by decide +kernel
theorem subF_codes {a b : Nat} (ha : a ∈ signs) (hb : b ∈ signs) : subF ⟨#[a]⟩ ⟨#[b]⟩ = subC a b := by
  unfold subF subC
  rw [lower_sign a ha, lower_sign b hb]
  simp only [beq_iff_eq, Str.mk.injEq, Array.mk.injEq, List.cons.injEq, and_true]
  by_cases h : a = b
  · simp [h]
  · by_cases h2 : a % 32 = b % 32
    · simp [h, h2]
    · have : ¬ (96 + a % 32 = 96 + b % 32) := by omega
      simp [h, h2, this]
noncomputable def levCX (s : Int) (d r : Int) (x : Int) : Int := if d + s < (if x < r then x else r) + 2 then d + s else (if x < r then x else r) + 2
noncomputable def levC1 (bc : Nat) (A : List Nat) (c : LevS) (i : Int) : LevS :=
  let x := c.row.getD i.toNat 0
  let v := levCX (subC bc (A.getD i.toNat 0)) c.d c.r x
  ⟨x, v, if v < c.m then v else c.m, c.row.set i.toNat v⟩
theorem item_strOf {l : List Nat} {i : Int} (h0 : 0 ≤ i) (h1 : i < l.length) : Txt.item (strOf l) i = ⟨#[l.getD i.toNat 0]⟩ := by
  rw [item_at' h0 (by simpa [strOf, Str.length] using h1)]
  simp [codes, strOf]
theorem getD_mem {l : List Nat} {i : Nat} (h : i < l.length) : l.getD i 0 ∈ l := by
  rw [List.getD_eq_getElem?_getD, List.getElem?_eq_getElem h]
  exact List.getElem_mem h
theorem levIn_codes {A B : List Nat} (hA : ∀ c ∈ A, c ∈ signs) (hB : ∀ c ∈ B, c ∈ signs) {bi i : Int} (b0 : 0 ≤ bi) (b1 : bi < B.length) (i0 : 0 ≤ i) (i1 : i < A.length) (c : LevS) :
    levIn (Txt.item (strOf B) bi) (strOf A) c i = levC1 (B.getD bi.toNat 0) A c i := by
  unfold levIn levC1 levX levCX
  rw [item_strOf b0 b1, item_strOf i0 i1, subF_codes (hB _ (getD_mem (by omega))) (hA _ (getD_mem (by omega)))]
theorem foldl_eq {α β : Type} {f g : α → β → α} : ∀ (l : List β) (a : α), (∀ a, ∀ b ∈ l, f a b = g a b) → l.foldl f a = l.foldl g a
  | [], _, _ => rfl
  | b :: l, a, h => by
    simp only [List.foldl_cons]
    rw [h a b (.head _)]
    exact foldl_eq l _ fun a x hx => h a x (.tail _ hx)
theorem mem_rangeKs {n : Nat} {x : Int} (h : x ∈ rangeKs 0 n) : 0 ≤ x ∧ x < n := by
  unfold rangeKs at h
  obtain ⟨i, hi, e⟩ := List.mem_map.mp h
  rw [List.mem_range] at hi
  omega
noncomputable def levCrow (A B : List Nat) (bi : Int) (row : List Int) : LevS := (rangeKs 0 A.length).foldl (levC1 (B.getD bi.toNat 0) A) ⟨bi * 2, bi * 2, 9223372036854775807, row⟩
noncomputable def levCO (mx : Int) (A B : List Nat) : List Int → Int → List Int → Int
  | [], r, _ => r
  | bi :: rest, _, row =>
    match levCrow A B bi row with
    | ⟨_, r, m, row'⟩ => if mx < m then mx + 1 else levCO mx A B rest r row'
theorem levO_codes {A B : List Nat} (hA : ∀ c ∈ A, c ∈ signs) (hB : ∀ c ∈ B, c ∈ signs) (mx : Int) : ∀ (l : List Int) (r : Int) (row : List Int), (∀ x ∈ l, 0 ≤ x ∧ x < B.length) →
    levO mx (strOf A) (strOf B) A.length l r row = levCO mx A B l r row
  | [], _, _, _ => rfl
  | bi :: rest, r, row, h => by
    have hb := h bi (.head _)
    have e : levRow (strOf A) (strOf B) A.length bi row = levCrow A B bi row :=
      foldl_eq _ _ fun c i hi => levIn_codes hA hB hb.1 hb.2 (mem_rangeKs hi).1 (mem_rangeKs hi).2 c
    unfold levO levCO
    rw [e]
    cases q : levCrow A B bi row with
    | mk d r m row' =>
      dsimp only
      rw [levO_codes hA hB mx rest r row' fun x hx => h x (.tail _ hx)]
noncomputable def levC (mx : Int) (x y : List Nat) : Int :=
  if x = y then 0 else
    match stripL x y with
    | (a, b) => match stripL a.reverse b.reverse with
      | (a', b') => levCO mx a'.reverse b'.reverse (rangeKs 0 a'.length) 0 (row0 a'.length)
theorem stripL_sub : ∀ (x y : List Nat), (∀ c ∈ (stripL x y).1, c ∈ x) ∧ (∀ c ∈ (stripL x y).2, c ∈ y)
  | [], _ => ⟨fun _ h => by simpa [stripL] using h, fun _ h => by simpa [stripL] using h⟩
  | _ :: _, [] => ⟨fun _ h => by simpa [stripL] using h, fun _ h => by simpa [stripL] using h⟩
  | a :: x, b :: y => by
    unfold stripL
    split
    · exact ⟨fun c h => .tail _ ((stripL_sub x y).1 c h), fun c h => .tail _ ((stripL_sub x y).2 c h)⟩
    · exact ⟨fun _ h => h, fun _ h => h⟩
theorem stripL_len : ∀ (x y : List Nat), x.length = y.length → (stripL x y).1.length = (stripL x y).2.length
  | [], y, h => by simpa [stripL] using h
  | _ :: _, [], h => by simp at h
  | a :: x, b :: y, h => by
    unfold stripL
    split
    · exact stripL_len x y (by simpa using h)
    · exact h
theorem levF_codes {x y : List Nat} (hx : ∀ c ∈ x, c ∈ signs) (hy : ∀ c ∈ y, c ∈ signs) (hl : x.length = y.length) (mx : Int) : levF mx (strOf x) (strOf y) = levC mx x y := by
  unfold levF levC
  have cx : codes (strOf x) = x := by simp [codes, strOf]
  have cy : codes (strOf y) = y := by simp [codes, strOf]
  rw [cx, cy]
  by_cases e : x = y
  · simp [e]
  · have ne : ¬ (strOf x == strOf y) = true := fun h => e (by have := congrArg codes (eq_of_beq h); rwa [cx, cy] at this)
    rw [if_neg ne, if_neg e]
    have s1 := stripL_sub x y
    have n1 := stripL_len x y hl
    dsimp only
    cases q : stripL x y with
    | mk a b =>
      rw [q] at s1 n1
      dsimp only at s1 n1 ⊢
      unfold stripR
      have s2 := stripL_sub a.reverse b.reverse
      have n2 := stripL_len a.reverse b.reverse (by simpa using n1)
      cases q2 : stripL a.reverse b.reverse with
      | mk a' b' =>
        rw [q2] at s2 n2
        dsimp only at s2 n2 ⊢
        rw [levO_codes (fun c h => hx _ (s1.1 _ (List.mem_reverse.mp (s2.1 _ (List.mem_reverse.mp h))))) (fun c h => hy _ (s1.2 _ (List.mem_reverse.mp (s2.2 _ (List.mem_reverse.mp h))))), List.length_reverse]
        intro z hz
        have := mem_rangeKs hz
        rw [List.length_reverse] at this ⊢
        omega
end
section
/-! the checks for one round, and what they give -/
noncomputable abbrev LevsC (o k fl r : Int) (wd rd : List Nat) : Prop :=
  (strOf wd ++ (onP o r k.toNat).1 = strOf rd) ∧ (∀ c ∈ rd, c ∈ signs) ∧ (∀ i, i ≤ k.toNat → Txt.slice (strOf rd) (some (i : Int)) (some ((i : Int) + k)) = strOf ((rd.drop i).take k.toNat) ∧ ((rd.drop i).take k.toNat).length = wd.length)
noncomputable abbrev LevsD (k fl : Int) (wd rd : List Nat) (i : Nat) : Prop := levC (dueF k fl i) wd ((rd.drop i).take k.toNat) = dueF k fl i
theorem levs_ok {o k fl r : Int} {wd rd : List Nat} (hw : ∀ c ∈ wd, c ∈ signs) (h : LevsC o k fl r wd rd) (h2 : ∀ i, i ≤ k.toNat → LevsD k fl wd rd i) : ∀ i : Nat, i ≤ k.toNat → LevOk o k fl r (strOf wd) i := by
  intro i hi
  obtain ⟨e, hs, hsl⟩ := h
  obtain ⟨e1, e2⟩ := hsl i hi
  unfold LevOk
  rw [e, e1, levF_codes hw (fun c hc => hs c (List.mem_of_mem_drop (List.mem_of_mem_take hc))) e2.symm]
  exact h2 i hi
theorem swap_sign : ∀ c ∈ signs, Txt.lower (Txt.swapcase ⟨#[c]⟩) = ⟨#[96 + c % 32]⟩ := by decide +kernel
noncomputable def pairsOf (ps : List (Nat × Int)) : Pairs := ps.map fun p => (⟨#[p.1]⟩, sOf p.2)
noncomputable def allC (c : Nat) : List (Nat × Int) → List Int
  | [] => []
  | p :: r => if p.1 % 32 = c % 32 then p.2 :: allC c r else allC c r
theorem allF_codes {c : Nat} : ∀ {ps : List (Nat × Int)}, (∀ p ∈ ps, p.1 ∈ signs) → allF ⟨#[96 + c % 32]⟩ (pairsOf ps) = (allC c ps).map sOf
  | [], _ => rfl
  | p :: r, h => by
    have ih := allF_codes (c := c) (ps := r) fun q hq => h q (.tail _ hq)
    show (if Txt.lower ⟨#[p.1]⟩ = _ then sOf p.2 :: allF _ (pairsOf r) else allF _ (pairsOf r)) = _
    have key : allC c (p :: r) = if p.1 % 32 = c % 32 then p.2 :: allC c r else allC c r := rfl
    rw [lower_sign _ (h p (.head _)), ih, key]
    by_cases e : p.1 % 32 = c % 32
    · rw [if_pos e, if_pos (by rw [e])]; rfl
    · rw [if_neg e, if_neg]
      intro q
      simp only [Str.mk.injEq, Array.mk.injEq, List.cons.injEq, and_true] at q
      omega
noncomputable abbrev SignsC (b : Int) (wd : List Nat) (ps : List (Nat × Int)) : Prop := ∀ c ∈ wd, allC c ps = [b] ∧ c ∈ signs
theorem signs_ok {b : Int} {wd : List Nat} {ps : List (Nat × Int)} (hp : ∀ p ∈ ps, p.1 ∈ signs) (h : SignsC b wd ps) : ∀ c ∈ (strOf wd).cps.toList, allF (Txt.lower (Txt.swapcase ⟨#[c]⟩)) (pairsOf ps) = [sOf b] ∧ c ∈ signs := by
  intro c hc
  have hc : c ∈ wd := by simpa [strOf] using hc
  obtain ⟨h1, h2⟩ := h c hc
  exact ⟨by rw [swap_sign c h2, allF_codes hp, h1]; rfl, h2⟩
noncomputable abbrev OneC (o b r k fl whole : Int) (wd : List Nat) (bits : List Int) : Prop :=
  turnsF 16 (partF o b) 1 = k ∧ (1 ≤ k ∧ k ≤ 16) ∧ flipF o b k = fl ∧ (0 ≤ fl ∧ fl ≤ 1) ∧ ((strOf wd).length : Int) = k ∧ ((fl = 1 ∧ r = o - b) ∨ (fl = 0 ∧ r = b)) ∧ (1 ≤ r ∧ r < o) ∧
    (0 ≤ b * 2 ^ k.toNat ∧ b * 2 ^ k.toNat < 2 ^ 40) ∧ divOk (b * 2 ^ k.toNat) o = true ∧ Int.fmod (b * 2 ^ k.toNat) o = r ∧ Int.fdiv (b * 2 ^ k.toNat) o = whole ∧ (0 ≤ whole ∧ whole < 2 ^ 40) ∧
    (digitsF 1 whole).length ≤ 20 ∧ (digitsF 1 whole ++ List.replicate k.toNat 0).take k.toNat = bits ∧ (bits.length : Int) = k ∧ (∀ d ∈ bits, 0 ≤ d ∧ d < 2 ^ (Int.toNat 1)) ∧ intF 1 bits = whole ∧
    (∀ i : Nat, i < k.toNat → Txt.item (strOf wd) (0 + (i : Int)) = signF o b k bits i) ∧ (whole + fl) * o = b * (2 ^ k.toNat - 1 + 2 * fl)
noncomputable abbrev OneD (o b : Int) (N : Nat) (wd : List Nat) (rs : List (Int × List Nat × Int)) : Prop :=
  (1 ≤ b ∧ 2 * b < o) ∧ (1 ≤ partF o b ∧ partF o b ≤ 33) ∧ (1 ≤ gcdF (o.toNat + 1) b o ∧ gcdF (o.toNat + 1) b o ≤ 33) ∧
    ((rs.filter fun q => gcdF (o.toNat + 1) q.1 o = gcdF (o.toNat + 1) b o).length : Int) * ((strOf wd).length : Int) = (((rangeKs 1 N).map fun q => gcdF (o.toNat + 1) q o).count (gcdF (o.toNat + 1) b o) : Int)
noncomputable def roundsOf (rs : List (Int × List Nat × Int)) : List (Int × Str × Int) := rs.map fun q => (q.1, strOf q.2.1, q.2.2)
theorem filter_len {α β : Type} (f : α → β) (p : β → Bool) (l : List α) : ((l.map f).filter p).length = (l.filter fun x => p (f x)).length := by
  rw [List.filter_map, List.length_map]
  rfl
theorem one_ok {o b r k fl whole : Int} {N : Nat} {wd rd : List Nat} {bits : List Int} {ps : List (Nat × Int)} {rs : List (Int × List Nat × Int)} (hp : ∀ p ∈ ps, p.1 ∈ signs) (h1 : OneC o b r k fl whole wd bits) (h2 : OneD o b N wd rs) (h3 : SignsC b wd ps)
    (h4 : LevsC o k fl r wd rd) (h5 : ∀ i, i ≤ k.toNat → LevsD k fl wd rd i) : OneOk o N (pairsOf ps, roundsOf rs) b (strOf wd) r := by
  obtain ⟨a1, a2, a3, a4, a5, a6, a7, a8, a9, a10, a11, a12, a13, a14, a15, a16, a17, a18, a19⟩ := h1
  obtain ⟨b1, b2, b3, b4⟩ := h2
  refine ⟨b1, b2, b3, ⟨k, fl, whole, bits, a1, a2, a3, a4, a5, a6, a7, a8, a9, a10, a11, a12, a13, a14, a15, a16, a17, a18, levs_ok (fun c hc => (h3 c hc).2) h4 h5, a19⟩, ?_, signs_ok hp h3⟩
  rw [← b4]
  unfold roundsOf
  rw [filter_len]
noncomputable abbrev DivsC (o : Int) (n : Nat) : Prop := ∀ i, i < n → divOk (2 * (i : Int)) o = true ∧ (1 ≤ i → 1 ≤ Int.fmod (2 * (i : Int)) o)
theorem divs_ok {o : Int} {n : Nat} (hn : o = n) (h : DivsC o n) : Divs o := by
  intro x h1 h2
  obtain ⟨j, rfl⟩ := Int.eq_ofNat_of_zero_le (show 0 ≤ x by omega)
  have := h j (by omega)
  exact ⟨this.1, this.2 (by omega)⟩
noncomputable abbrev OddC (o : Int) (N : Nat) (ps : List (Nat × Int)) (rs : List (Int × List Nat × Int)) : Prop :=
  (3 ≤ o ∧ o ≤ 33) ∧ o.fdiv 2 = N ∧ (1 ≤ N ∧ N ≤ 16) ∧ ps.length = N ∧ rs.length ≤ 40 ∧ (∀ p ∈ ps, p.1 ∈ signs) ∧ Txt.join (Str.ofString "") ((pairsOf ps).map (·.1)) = Txt.join (Str.ofString "") ((roundsOf rs).map (·.2.1))
theorem odd_ok {o : Int} {N n : Nat} {ps : List (Nat × Int)} {rs : List (Int × List Nat × Int)} (h : OddC o N ps rs) (hn : o = n) (hD : DivsC o n) (hR : rndsF o N = some (pairsOf ps, roundsOf rs))
    (one : ∀ q ∈ rs, OneOk o N (pairsOf ps, roundsOf rs) q.1 (strOf q.2.1) q.2.2) : OddOk o N (pairsOf ps, roundsOf rs) := by
  obtain ⟨a1, a2, a3, a4, a5, a6, a7⟩ := h
  have e1 : (pairsOf ps).length = N := by unfold pairsOf; rw [List.length_map]; exact a4
  have e2 : (roundsOf rs).length = rs.length := by unfold roundsOf; rw [List.length_map]
  refine ⟨a1, a2, a3, divs_ok hn hD, hR, ?_, ?_, ?_, ?_, ?_, a7⟩
  · show (pairsOf ps).length ≤ 40
    omega
  · show (roundsOf rs).length ≤ 40
    omega
  · show pairsOf ps ≠ []
    intro e
    rw [e] at e1
    simp at e1
    omega
  · show ((pairsOf ps).length : Int) = N
    omega
  · intro q hq
    obtain ⟨p, hp, rfl⟩ := List.mem_map.mp hq
    exact one p hp
/-! the same checks as Bools: a proof of one is a short term -/
noncomputable def oneB (o b r k fl whole : Int) (wd : List Nat) (bits : List Int) : Bool := decide (OneC o b r k fl whole wd bits)
noncomputable def oneDB (o b : Int) (N : Nat) (wd : List Nat) (rs : List (Int × List Nat × Int)) : Bool := decide (OneD o b N wd rs)
noncomputable def signsB (b : Int) (wd : List Nat) (ps : List (Nat × Int)) : Bool := decide (SignsC b wd ps)
noncomputable def levsB (o k fl r : Int) (wd rd : List Nat) : Bool := decide (LevsC o k fl r wd rd)
noncomputable def levsDB (k fl : Int) (wd rd : List Nat) : Bool := decide (∀ i, i ≤ k.toNat → LevsD k fl wd rd i)
noncomputable def divsB (o : Int) (n : Nat) : Bool := decide (DivsC o n)
noncomputable def oddB (o : Int) (N : Nat) (ps : List (Nat × Int)) (rs : List (Int × List Nat × Int)) : Bool := decide (OddC o N ps rs)
noncomputable def rndsB (o : Int) (N : Nat) (ps : List (Nat × Int)) (rs : List (Int × List Nat × Int)) : Bool := decide (rndsF o N = some (pairsOf ps, roundsOf rs))
theorem one_okB {o b r : Int} (k fl whole : Int) {N : Nat} {wd : List Nat} (rd : List Nat) (bits : List Int) {ps : List (Nat × Int)} {rs : List (Int × List Nat × Int)} (hp : oddB o N ps rs = true) (h1 : oneB o b r k fl whole wd bits = true) (h2 : oneDB o b N wd rs = true) (h3 : signsB b wd ps = true)
    (h4 : levsB o k fl r wd rd = true) (h5 : levsDB k fl wd rd = true) : OneOk o N (pairsOf ps, roundsOf rs) b (strOf wd) r :=
  one_ok (of_decide_eq_true hp).2.2.2.2.2.1 (of_decide_eq_true h1) (of_decide_eq_true h2) (of_decide_eq_true h3) (of_decide_eq_true h4) (of_decide_eq_true h5)
theorem odd_okB {o : Int} {N : Nat} (n : Nat) {ps : List (Nat × Int)} {rs : List (Int × List Nat × Int)} (h : oddB o N ps rs = true) (hn : o = n) (hD : divsB o n = true) (hR : rndsB o N ps rs = true)
    (one : ∀ q ∈ rs, OneOk o N (pairsOf ps, roundsOf rs) q.1 (strOf q.2.1) q.2.2) : OddOk o N (pairsOf ps, roundsOf rs) :=
  odd_ok (of_decide_eq_true h) hn (of_decide_eq_true hD) (of_decide_eq_true hR) one
end
section

noncomputable def ps3 : List (Nat × Int) := [(97, 1)]
noncomputable def rs3 : List (Int × List Nat × Int) := [(1, [97], 2)]
theorem odd3A : oddB 3 1 ps3 rs3 = true := by decide +kernel
theorem one3n1 : OneOk 3 1 (pairsOf ps3, roundsOf rs3) 1 (strOf [97]) 2 :=
  one_okB 1 1 0 [97, 65] [0] odd3A (by decide +kernel) (by decide +kernel) (by decide +kernel) (by decide +kernel) (by decide +kernel)
theorem odd3 : OddOk 3 1 (pairsOf ps3, roundsOf rs3) :=
  odd_okB 3 odd3A rfl (by decide +kernel) (by decide +kernel) (by
    intro q hq
    simp only [rs3, List.mem_cons, List.not_mem_nil, or_false] at hq
    rcases hq with rfl
    · exact one3n1)
noncomputable def ps5 : List (Nat × Int) := [(97, 1), (98, 1)]
noncomputable def rs5 : List (Int × List Nat × Int) := [(1, [97, 98], 4)]
theorem odd5A : oddB 5 2 ps5 rs5 = true := by decide +kernel
theorem one5n1 : OneOk 5 2 (pairsOf ps5, roundsOf rs5) 1 (strOf [97, 98]) 4 :=
  one_okB 2 1 0 [97, 98, 65, 66] [0, 0] odd5A (by decide +kernel) (by decide +kernel) (by decide +kernel) (by decide +kernel) (by decide +kernel)
theorem odd5 : OddOk 5 2 (pairsOf ps5, roundsOf rs5) :=
  odd_okB 5 odd5A rfl (by decide +kernel) (by decide +kernel) (by
    intro q hq
    simp only [rs5, List.mem_cons, List.not_mem_nil, or_false] at hq
    rcases hq with rfl
    · exact one5n1)
noncomputable def ps7 : List (Nat × Int) := [(97, 1), (98, 1), (67, 1)]
noncomputable def rs7 : List (Int × List Nat × Int) := [(1, [97, 98, 67], 1)]
theorem odd7A : oddB 7 3 ps7 rs7 = true := by decide +kernel
theorem one7n1 : OneOk 7 3 (pairsOf ps7, roundsOf rs7) 1 (strOf [97, 98, 67]) 1 :=
  one_okB 3 0 1 [97, 98, 67, 97, 98, 67] [1, 0, 0] odd7A (by decide +kernel) (by decide +kernel) (by decide +kernel) (by decide +kernel) (by decide +kernel)
theorem odd7 : OddOk 7 3 (pairsOf ps7, roundsOf rs7) :=
  odd_okB 7 odd7A rfl (by decide +kernel) (by decide +kernel) (by
    intro q hq
    simp only [rs7, List.mem_cons, List.not_mem_nil, or_false] at hq
    rcases hq with rfl
    · exact one7n1)
noncomputable def ps9 : List (Nat × Int) := [(97, 1), (98, 1), (100, 1), (99, 3)]
noncomputable def rs9 : List (Int × List Nat × Int) := [(1, [97, 98, 100], 8), (3, [99], 6)]
theorem odd9A : oddB 9 4 ps9 rs9 = true := by decide +kernel
theorem one9n1 : OneOk 9 4 (pairsOf ps9, roundsOf rs9) 1 (strOf [97, 98, 100]) 8 :=
  one_okB 3 1 0 [97, 98, 100, 65, 66, 68] [0, 0, 0] odd9A (by decide +kernel) (by decide +kernel) (by decide +kernel) (by decide +kernel) (by decide +kernel)
theorem one9n3 : OneOk 9 4 (pairsOf ps9, roundsOf rs9) 3 (strOf [99]) 6 :=
  one_okB 1 1 0 [99, 67] [0] odd9A (by decide +kernel) (by decide +kernel) (by decide +kernel) (by decide +kernel) (by decide +kernel)
theorem odd9 : OddOk 9 4 (pairsOf ps9, roundsOf rs9) :=
  odd_okB 9 odd9A rfl (by decide +kernel) (by decide +kernel) (by
    intro q hq
    simp only [rs9, List.mem_cons, List.not_mem_nil, or_false] at hq
    rcases hq with rfl | rfl
    · exact one9n1
    · exact one9n3)
noncomputable def ps11 : List (Nat × Int) := [(97, 1), (98, 1), (100, 1), (67, 1), (101, 1)]
noncomputable def rs11 : List (Int × List Nat × Int) := [(1, [97, 98, 100, 67, 101], 10)]
theorem odd11A : oddB 11 5 ps11 rs11 = true := by decide +kernel
theorem one11n1 : OneOk 11 5 (pairsOf ps11, roundsOf rs11) 1 (strOf [97, 98, 100, 67, 101]) 10 :=
  one_okB 5 1 2 [97, 98, 100, 67, 101, 65, 66, 68, 99, 69] [0, 1, 0, 0, 0] odd11A (by decide +kernel) (by decide +kernel) (by decide +kernel) (by decide +kernel) (by decide +kernel)
theorem odd11 : OddOk 11 5 (pairsOf ps11, roundsOf rs11) :=
  odd_okB 11 odd11A rfl (by decide +kernel) (by decide +kernel) (by
    intro q hq
    simp only [rs11, List.mem_cons, List.not_mem_nil, or_false] at hq
    rcases hq with rfl
    · exact one11n1)
noncomputable def ps13 : List (Nat × Int) := [(97, 1), (98, 1), (100, 1), (69, 1), (99, 1), (102, 1)]
noncomputable def rs13 : List (Int × List Nat × Int) := [(1, [97, 98, 100, 69, 99, 102], 12)]
theorem odd13A : oddB 13 6 ps13 rs13 = true := by decide +kernel
theorem one13n1 : OneOk 13 6 (pairsOf ps13, roundsOf rs13) 1 (strOf [97, 98, 100, 69, 99, 102]) 12 :=
  one_okB 6 1 4 [97, 98, 100, 69, 99, 102, 65, 66, 68, 101, 67, 70] [0, 0, 1, 0, 0, 0] odd13A (by decide +kernel) (by decide +kernel) (by decide +kernel) (by decide +kernel) (by decide +kernel)
theorem odd13 : OddOk 13 6 (pairsOf ps13, roundsOf rs13) :=
  odd_okB 13 odd13A rfl (by decide +kernel) (by decide +kernel) (by
    intro q hq
    simp only [rs13, List.mem_cons, List.not_mem_nil, or_false] at hq
    rcases hq with rfl
    · exact one13n1)
noncomputable def ps15 : List (Nat × Int) := [(97, 1), (98, 1), (100, 1), (71, 1), (99, 3), (102, 3), (101, 5)]
noncomputable def rs15 : List (Int × List Nat × Int) := [(1, [97, 98, 100, 71], 1), (3, [99, 102], 12), (5, [101], 10)]
theorem odd15A : oddB 15 7 ps15 rs15 = true := by decide +kernel
theorem one15n1 : OneOk 15 7 (pairsOf ps15, roundsOf rs15) 1 (strOf [97, 98, 100, 71]) 1 :=
  one_okB 4 0 1 [97, 98, 100, 71, 97, 98, 100, 71] [1, 0, 0, 0] odd15A (by decide +kernel) (by decide +kernel) (by decide +kernel) (by decide +kernel) (by decide +kernel)
theorem one15n3 : OneOk 15 7 (pairsOf ps15, roundsOf rs15) 3 (strOf [99, 102]) 12 :=
  one_okB 2 1 0 [99, 102, 67, 70] [0, 0] odd15A (by decide +kernel) (by decide +kernel) (by decide +kernel) (by decide +kernel) (by decide +kernel)
theorem one15n5 : OneOk 15 7 (pairsOf ps15, roundsOf rs15) 5 (strOf [101]) 10 :=
  one_okB 1 1 0 [101, 69] [0] odd15A (by decide +kernel) (by decide +kernel) (by decide +kernel) (by decide +kernel) (by decide +kernel)
theorem odd15 : OddOk 15 7 (pairsOf ps15, roundsOf rs15) :=
  odd_okB 15 odd15A rfl (by decide +kernel) (by decide +kernel) (by
    intro q hq
    simp only [rs15, List.mem_cons, List.not_mem_nil, or_false] at hq
    rcases hq with rfl | rfl | rfl
    · exact one15n1
    · exact one15n3
    · exact one15n5)
noncomputable def ps17 : List (Nat × Int) := [(97, 1), (98, 1), (100, 1), (104, 1), (99, 3), (102, 3), (69, 3), (103, 3)]
noncomputable def rs17 : List (Int × List Nat × Int) := [(1, [97, 98, 100, 104], 16), (3, [99, 102, 69, 103], 14)]
theorem odd17A : oddB 17 8 ps17 rs17 = true := by decide +kernel
theorem one17n1 : OneOk 17 8 (pairsOf ps17, roundsOf rs17) 1 (strOf [97, 98, 100, 104]) 16 :=
  one_okB 4 1 0 [97, 98, 100, 104, 65, 66, 68, 72] [0, 0, 0, 0] odd17A (by decide +kernel) (by decide +kernel) (by decide +kernel) (by decide +kernel) (by decide +kernel)
theorem one17n3 : OneOk 17 8 (pairsOf ps17, roundsOf rs17) 3 (strOf [99, 102, 69, 103]) 14 :=
  one_okB 4 1 2 [99, 102, 69, 103, 67, 70, 101, 71] [0, 1, 0, 0] odd17A (by decide +kernel) (by decide +kernel) (by decide +kernel) (by decide +kernel) (by decide +kernel)
theorem odd17 : OddOk 17 8 (pairsOf ps17, roundsOf rs17) :=
  odd_okB 17 odd17A rfl (by decide +kernel) (by decide +kernel) (by
    intro q hq
    simp only [rs17, List.mem_cons, List.not_mem_nil, or_false] at hq
    rcases hq with rfl | rfl
    · exact one17n1
    · exact one17n3)
noncomputable def ps19 : List (Nat × Int) := [(97, 1), (98, 1), (100, 1), (104, 1), (67, 1), (70, 1), (103, 1), (69, 1), (105, 1)]
noncomputable def rs19 : List (Int × List Nat × Int) := [(1, [97, 98, 100, 104, 67, 70, 103, 69, 105], 18)]
theorem odd19A : oddB 19 9 ps19 rs19 = true := by decide +kernel
theorem one19n1 : OneOk 19 9 (pairsOf ps19, roundsOf rs19) 1 (strOf [97, 98, 100, 104, 67, 70, 103, 69, 105]) 18 :=
  one_okB 9 1 26 [97, 98, 100, 104, 67, 70, 103, 69, 105, 65, 66, 68, 72, 99, 102, 71, 101, 73] [0, 1, 0, 1, 1, 0, 0, 0, 0] odd19A (by decide +kernel) (by decide +kernel) (by decide +kernel) (by decide +kernel) (by decide +kernel)
theorem odd19 : OddOk 19 9 (pairsOf ps19, roundsOf rs19) :=
  odd_okB 19 odd19A rfl (by decide +kernel) (by decide +kernel) (by
    intro q hq
    simp only [rs19, List.mem_cons, List.not_mem_nil, or_false] at hq
    rcases hq with rfl
    · exact one19n1)
noncomputable def ps21 : List (Nat × Int) := [(97, 1), (98, 1), (100, 1), (104, 1), (69, 1), (74, 1), (99, 3), (102, 3), (73, 3), (103, 7)]
noncomputable def rs21 : List (Int × List Nat × Int) := [(1, [97, 98, 100, 104, 69, 74], 1), (3, [99, 102, 73], 3), (7, [103], 14)]
theorem odd21A : oddB 21 10 ps21 rs21 = true := by decide +kernel
theorem one21n1 : OneOk 21 10 (pairsOf ps21, roundsOf rs21) 1 (strOf [97, 98, 100, 104, 69, 74]) 1 :=
  one_okB 6 0 3 [97, 98, 100, 104, 69, 74, 97, 98, 100, 104, 69, 74] [1, 1, 0, 0, 0, 0] odd21A (by decide +kernel) (by decide +kernel) (by decide +kernel) (by decide +kernel) (by decide +kernel)
theorem one21n3 : OneOk 21 10 (pairsOf ps21, roundsOf rs21) 3 (strOf [99, 102, 73]) 3 :=
  one_okB 3 0 1 [99, 102, 73, 99, 102, 73] [1, 0, 0] odd21A (by decide +kernel) (by decide +kernel) (by decide +kernel) (by decide +kernel) (by decide +kernel)
theorem one21n7 : OneOk 21 10 (pairsOf ps21, roundsOf rs21) 7 (strOf [103]) 14 :=
  one_okB 1 1 0 [103, 71] [0] odd21A (by decide +kernel) (by decide +kernel) (by decide +kernel) (by decide +kernel) (by decide +kernel)
theorem odd21 : OddOk 21 10 (pairsOf ps21, roundsOf rs21) :=
  odd_okB 21 odd21A rfl (by decide +kernel) (by decide +kernel) (by
    intro q hq
    simp only [rs21, List.mem_cons, List.not_mem_nil, or_false] at hq
    rcases hq with rfl | rfl | rfl
    · exact one21n1
    · exact one21n3
    · exact one21n7)
noncomputable def ps23 : List (Nat × Int) := [(97, 1), (98, 1), (100, 1), (104, 1), (71, 1), (105, 1), (69, 1), (74, 1), (99, 1), (102, 1), (75, 1)]
noncomputable def rs23 : List (Int × List Nat × Int) := [(1, [97, 98, 100, 104, 71, 105, 69, 74, 99, 102, 75], 1)]
theorem odd23A : oddB 23 11 ps23 rs23 = true := by decide +kernel
theorem one23n1 : OneOk 23 11 (pairsOf ps23, roundsOf rs23) 1 (strOf [97, 98, 100, 104, 71, 105, 69, 74, 99, 102, 75]) 1 :=
  one_okB 11 0 89 [97, 98, 100, 104, 71, 105, 69, 74, 99, 102, 75, 97, 98, 100, 104, 71, 105, 69, 74, 99, 102, 75] [1, 0, 0, 1, 1, 0, 1, 0, 0, 0, 0] odd23A (by decide +kernel) (by decide +kernel) (by decide +kernel) (by decide +kernel) (by decide +kernel)
theorem odd23 : OddOk 23 11 (pairsOf ps23, roundsOf rs23) :=
  odd_okB 23 odd23A rfl (by decide +kernel) (by decide +kernel) (by
    intro q hq
    simp only [rs23, List.mem_cons, List.not_mem_nil, or_false] at hq
    rcases hq with rfl
    · exact one23n1)
noncomputable def ps25 : List (Nat × Int) := [(97, 1), (98, 1), (100, 1), (104, 1), (73, 1), (103, 1), (75, 1), (99, 1), (102, 1), (108, 1), (101, 5), (106, 5)]
noncomputable def rs25 : List (Int × List Nat × Int) := [(1, [97, 98, 100, 104, 73, 103, 75, 99, 102, 108], 24), (5, [101, 106], 20)]
theorem odd25A : oddB 25 12 ps25 rs25 = true := by decide +kernel
theorem one25n1 : OneOk 25 12 (pairsOf ps25, roundsOf rs25) 1 (strOf [97, 98, 100, 104, 73, 103, 75, 99, 102, 108]) 24 :=
  one_okB 10 1 40 [97, 98, 100, 104, 73, 103, 75, 99, 102, 108, 65, 66, 68, 72, 105, 71, 107, 67, 70, 76] [0, 0, 0, 1, 0, 1, 0, 0, 0, 0] odd25A (by decide +kernel) (by decide +kernel) (by decide +kernel) (by decide +kernel) (by decide +kernel)
theorem one25n5 : OneOk 25 12 (pairsOf ps25, roundsOf rs25) 5 (strOf [101, 106]) 20 :=
  one_okB 2 1 0 [101, 106, 69, 74] [0, 0] odd25A (by decide +kernel) (by decide +kernel) (by decide +kernel) (by decide +kernel) (by decide +kernel)
theorem odd25 : OddOk 25 12 (pairsOf ps25, roundsOf rs25) :=
  odd_okB 25 odd25A rfl (by decide +kernel) (by decide +kernel) (by
    intro q hq
    simp only [rs25, List.mem_cons, List.not_mem_nil, or_false] at hq
    rcases hq with rfl | rfl
    · exact one25n1
    · exact one25n5)
noncomputable def ps27 : List (Nat × Int) := [(97, 1), (98, 1), (100, 1), (104, 1), (75, 1), (101, 1), (106, 1), (71, 1), (109, 1), (99, 3), (102, 3), (108, 3), (105, 9)]
noncomputable def rs27 : List (Int × List Nat × Int) := [(1, [97, 98, 100, 104, 75, 101, 106, 71, 109], 26), (3, [99, 102, 108], 24), (9, [105], 18)]
theorem odd27A : oddB 27 13 ps27 rs27 = true := by decide +kernel
theorem one27n1 : OneOk 27 13 (pairsOf ps27, roundsOf rs27) 1 (strOf [97, 98, 100, 104, 75, 101, 106, 71, 109]) 26 :=
  one_okB 9 1 18 [97, 98, 100, 104, 75, 101, 106, 71, 109, 65, 66, 68, 72, 107, 69, 74, 103, 77] [0, 1, 0, 0, 1, 0, 0, 0, 0] odd27A (by decide +kernel) (by decide +kernel) (by decide +kernel) (by decide +kernel) (by decide +kernel)
theorem one27n3 : OneOk 27 13 (pairsOf ps27, roundsOf rs27) 3 (strOf [99, 102, 108]) 24 :=
  one_okB 3 1 0 [99, 102, 108, 67, 70, 76] [0, 0, 0] odd27A (by decide +kernel) (by decide +kernel) (by decide +kernel) (by decide +kernel) (by decide +kernel)
theorem one27n9 : OneOk 27 13 (pairsOf ps27, roundsOf rs27) 9 (strOf [105]) 18 :=
  one_okB 1 1 0 [105, 73] [0] odd27A (by decide +kernel) (by decide +kernel) (by decide +kernel) (by decide +kernel) (by decide +kernel)
theorem odd27 : OddOk 27 13 (pairsOf ps27, roundsOf rs27) :=
  odd_okB 27 odd27A rfl (by decide +kernel) (by decide +kernel) (by
    intro q hq
    simp only [rs27, List.mem_cons, List.not_mem_nil, or_false] at hq
    rcases hq with rfl | rfl | rfl
    · exact one27n1
    · exact one27n3
    · exact one27n9)
noncomputable def ps29 : List (Nat × Int) := [(97, 1), (98, 1), (100, 1), (104, 1), (77, 1), (99, 1), (102, 1), (108, 1), (69, 1), (74, 1), (105, 1), (75, 1), (103, 1), (110, 1)]
noncomputable def rs29 : List (Int × List Nat × Int) := [(1, [97, 98, 100, 104, 77, 99, 102, 108, 69, 74, 105, 75, 103, 110], 28)]
theorem odd29A : oddB 29 14 ps29 rs29 = true := by decide +kernel
theorem one29n1 : OneOk 29 14 (pairsOf ps29, roundsOf rs29) 1 (strOf [97, 98, 100, 104, 77, 99, 102, 108, 69, 74, 105, 75, 103, 110]) 28 :=
  one_okB 14 1 564 [97, 98, 100, 104, 77, 99, 102, 108, 69, 74, 105, 75, 103, 110, 65, 66, 68, 72, 109, 67, 70, 76, 101, 106, 73, 107, 71, 78] [0, 0, 1, 0, 1, 1, 0, 0, 0, 1, 0, 0, 0, 0] odd29A (by decide +kernel) (by decide +kernel) (by decide +kernel) (by decide +kernel) (by decide +kernel)
theorem odd29 : OddOk 29 14 (pairsOf ps29, roundsOf rs29) :=
  odd_okB 29 odd29A rfl (by decide +kernel) (by decide +kernel) (by
    intro q hq
    simp only [rs29, List.mem_cons, List.not_mem_nil, or_false] at hq
    rcases hq with rfl
    · exact one29n1)
noncomputable def ps31 : List (Nat × Int) := [(97, 1), (98, 1), (100, 1), (104, 1), (79, 1), (99, 3), (102, 3), (108, 3), (71, 3), (78, 3), (101, 5), (106, 5), (75, 5), (105, 5), (77, 5)]
noncomputable def rs31 : List (Int × List Nat × Int) := [(1, [97, 98, 100, 104, 79], 1), (3, [99, 102, 108, 71, 78], 3), (5, [101, 106, 75, 105, 77], 5)]
theorem odd31A : oddB 31 15 ps31 rs31 = true := by decide +kernel
theorem one31n1 : OneOk 31 15 (pairsOf ps31, roundsOf rs31) 1 (strOf [97, 98, 100, 104, 79]) 1 :=
  one_okB 5 0 1 [97, 98, 100, 104, 79, 97, 98, 100, 104, 79] [1, 0, 0, 0, 0] odd31A (by decide +kernel) (by decide +kernel) (by decide +kernel) (by decide +kernel) (by decide +kernel)
theorem one31n3 : OneOk 31 15 (pairsOf ps31, roundsOf rs31) 3 (strOf [99, 102, 108, 71, 78]) 3 :=
  one_okB 5 0 3 [99, 102, 108, 71, 78, 99, 102, 108, 71, 78] [1, 1, 0, 0, 0] odd31A (by decide +kernel) (by decide +kernel) (by decide +kernel) (by decide +kernel) (by decide +kernel)
theorem one31n5 : OneOk 31 15 (pairsOf ps31, roundsOf rs31) 5 (strOf [101, 106, 75, 105, 77]) 5 :=
  one_okB 5 0 5 [101, 106, 75, 105, 77, 101, 106, 75, 105, 77] [1, 0, 1, 0, 0] odd31A (by decide +kernel) (by decide +kernel) (by decide +kernel) (by decide +kernel) (by decide +kernel)
theorem odd31 : OddOk 31 15 (pairsOf ps31, roundsOf rs31) :=
  odd_okB 31 odd31A rfl (by decide +kernel) (by decide +kernel) (by
    intro q hq
    simp only [rs31, List.mem_cons, List.not_mem_nil, or_false] at hq
    rcases hq with rfl | rfl | rfl
    · exact one31n1
    · exact one31n3
    · exact one31n5)
noncomputable def ps33 : List (Nat × Int) := [(97, 1), (98, 1), (100, 1), (104, 1), (112, 1), (99, 3), (102, 3), (108, 3), (73, 3), (111, 3), (101, 5), (106, 5), (77, 5), (103, 5), (110, 5), (107, 11)]
noncomputable def rs33 : List (Int × List Nat × Int) := [(1, [97, 98, 100, 104, 112], 32), (3, [99, 102, 108, 73, 111], 30), (5, [101, 106, 77, 103, 110], 28), (11, [107], 22)]
theorem odd33A : oddB 33 16 ps33 rs33 = true := by decide +kernel
theorem one33n1 : OneOk 33 16 (pairsOf ps33, roundsOf rs33) 1 (strOf [97, 98, 100, 104, 112]) 32 :=
  one_okB 5 1 0 [97, 98, 100, 104, 112, 65, 66, 68, 72, 80] [0, 0, 0, 0, 0] odd33A (by decide +kernel) (by decide +kernel) (by decide +kernel) (by decide +kernel) (by decide +kernel)
theorem one33n3 : OneOk 33 16 (pairsOf ps33, roundsOf rs33) 3 (strOf [99, 102, 108, 73, 111]) 30 :=
  one_okB 5 1 2 [99, 102, 108, 73, 111, 67, 70, 76, 105, 79] [0, 1, 0, 0, 0] odd33A (by decide +kernel) (by decide +kernel) (by decide +kernel) (by decide +kernel) (by decide +kernel)
theorem one33n5 : OneOk 33 16 (pairsOf ps33, roundsOf rs33) 5 (strOf [101, 106, 77, 103, 110]) 28 :=
  one_okB 5 1 4 [101, 106, 77, 103, 110, 69, 74, 109, 71, 78] [0, 0, 1, 0, 0] odd33A (by decide +kernel) (by decide +kernel) (by decide +kernel) (by decide +kernel) (by decide +kernel)
theorem one33n11 : OneOk 33 16 (pairsOf ps33, roundsOf rs33) 11 (strOf [107]) 22 :=
  one_okB 1 1 0 [107, 75] [0] odd33A (by decide +kernel) (by decide +kernel) (by decide +kernel) (by decide +kernel) (by decide +kernel)
theorem odd33 : OddOk 33 16 (pairsOf ps33, roundsOf rs33) :=
  odd_okB 33 odd33A rfl (by decide +kernel) (by decide +kernel) (by
    intro q hq
    simp only [rs33, List.mem_cons, List.not_mem_nil, or_false] at hq
    rcases hq with rfl | rfl | rfl | rfl
    · exact one33n1
    · exact one33n3
    · exact one33n5
    · exact one33n11)
theorem oddOk (S : Int) : ∃ N res, OddOk (2 * (S + 7).fmod 16 + 3) N res := by
  have h1 := Int.fmod_nonneg_of_pos (S + 7) (show (0 : Int) < 16 by decide)
  have h2 := Int.fmod_lt_of_pos (S + 7) (show (0 : Int) < 16 by decide)
  revert h1 h2
  generalize (S + 7).fmod 16 = x
  intro h1 h2
  obtain ⟨n, rfl⟩ := Int.eq_ofNat_of_zero_le h1
  have h3 : n < 16 := by omega
  clear h1 h2
  match n, h3 with
  | 0, _ => exact ⟨_, _, odd3⟩
  | 1, _ => exact ⟨_, _, odd5⟩
  | 2, _ => exact ⟨_, _, odd7⟩
  | 3, _ => exact ⟨_, _, odd9⟩
  | 4, _ => exact ⟨_, _, odd11⟩
  | 5, _ => exact ⟨_, _, odd13⟩
  | 6, _ => exact ⟨_, _, odd15⟩
  | 7, _ => exact ⟨_, _, odd17⟩
  | 8, _ => exact ⟨_, _, odd19⟩
  | 9, _ => exact ⟨_, _, odd21⟩
  | 10, _ => exact ⟨_, _, odd23⟩
  | 11, _ => exact ⟨_, _, odd25⟩
  | 12, _ => exact ⟨_, _, odd27⟩
  | 13, _ => exact ⟨_, _, odd29⟩
  | 14, _ => exact ⟨_, _, odd31⟩
  | 15, _ => exact ⟨_, _, odd33⟩
  | k + 16, h => exact absurd h (by omega)
end
section
theorem s2_end {x y a1 b1 a3 v : Str} {k2 : Int} (u1 : a3 = sl a1 k2) (hv : v = sl b1 k2) (q1 : 1 ≤ a1.length) (q2 : b1.length = a1.length) (q3 : a1.length ≤ 16) (q4 : Left1 x y a1 b1) (r1 : -(a1.length : Int) < k2) (r2 : k2 ≤ 0) (r3 : PostJ a1 b1 k2) :
    1 ≤ a3.length ∧ v.length = a3.length ∧ a3.length ≤ 16 ∧ Left2 x y a3 v := by
  have l1 := sl_len (x := a1) (k := k2) r2 (by omega)
  have l2 := sl_len (x := b1) (k := k2) r2 (by omega)
  subst u1 hv
  exact ⟨by omega, by omega, by omega, left2_of q2 r2 r1 q4 r3⟩
theorem s1_end {x y : Str} {k : Int} (hy : y.length = x.length) (hx : x.length ≤ 16) (p1 : 0 ≤ k) (p2 : k < x.length) (p3 : PreJ x y k) :
    1 ≤ (Txt.slice x (some k) none).length ∧ (Txt.slice y (some k) none).length = (Txt.slice x (some k) none).length ∧ (Txt.slice x (some k) none).length ≤ 16 ∧ Left1 x y (Txt.slice x (some k) none) (Txt.slice y (some k) none) := by
  have l1 := from_len (x := x) p1 (Int.le_of_lt p2)
  have l2 := from_len (x := y) p1 (by rw [hy]; exact Int.le_of_lt p2)
  refine ⟨?_, ?_, ?_, left1_of hy p1 p2 p3⟩
  · rw [l1]; omega
  · rw [l1, l2, hy]
  · rw [l1]; omega
theorem whole_len (a : Str) : ((Txt.slice a none none).length : Int) = a.length := by rw [slice_whole]
set_option maxRecDepth 100000 in
set_option maxHeartbeats 8000000 in
theorem c_lev (w : World) (x y : Str) (mx : Int) (t1 t2 t3 : Tok) (hx : x.length ≤ 16) (hy : y.length = x.length) (hm : 0 ≤ mx ∧ mx ≤ 1000) :
    Fun w 94 [.str x t1, .str y t2, .int mx t3] [] 2 16 (fun _ => True) (fun _ v _ => ∃ t, v = .int (levF mx x y) t) := by
  w_top off
  k_with_none
  k_with "mine subscriptTail Name Slice str ref" => ((with_reducible show wpAny _ _ (subscriptTail _ (Expr.Slice none (some _) none _) _ _) _ _ _); (with_reducible rename Fr _ _ _ _ => F'); (with_reducible rename News _ _ _ _ => N'); refine slice_strN_nn_len (s := ⟨_, _, _, _, _⟩) F' N' ?_; intro _ _ _ _ _ _)
  k_with "mine call type:list" => (k_here; (with_reducible show wpAny _ _ (call (Value.type _) [Value.ref _]) _ _ _); (rename IsRange _ _ _ _ _ _ _ _ => rgX); (with_unfolding_all refine' list_range2 ?k0 ?k1 ?k2 rgX ?k4 ?k5 ?_); (case k0 => rfl); (case k1 => k_asm); (case k2 => k_asm); (case k4 => omega); (case k5 => omega); intro D' vs' c' h' tk' F' N' l1 hI'; (try k_lt l1); (try k_sweep))
  k_with "mine truthy str" => ((with_reducible show wpAny _ _ (PySem.truthy (Value.str (Txt.slice _ none (some _)) _)) _ _ _); refine PyProof.Rows.SBL.truthy (Nat.le_trans (PyProof.Txt.length_slice_le _ _ _) (by omega)) ?_)
  k_with "mine call ref" => ((with_reducible show wpAny _ _ (call (Value.ref 87) _) _ _ _); k_dflt (refine Fun.use (c_sub _ _ _ _ _ (by first | assumption | (refine ⟨?_, ?_⟩ <;> first | omega | (simp only [Str.length]; decide) | (exact Nat.le_of_ble_eq_true rfl)))) (by k_asm) (by k_asm) (by k_asm) (by k_asm) (by k_asm) (by first | exact rfl | assumption) (by trivial) (by ktr_room) (by ktr_units) ?_; intro v9 h9 tk9 F9 N9 K9 P9; (try k_sweep); obtain ⟨t9, P9⟩ := P9; subst P9; (try dsimp only)))
  unfold Fun; k_fill
  intro zp zloose zmean zmg zmb zdp zun zgd zcn zcs za zccd zcl zouter zA zbase zh₀ zL zm zs zQ zE zB zF zX zN zT zhk zhpre zhd zhu hret
  have zmu := fun q hq => And.left (zN q hq)
  refine wpAny_call ?_
  k_dflt (refine' enterP ?k1 ?k2 ?k3 ?k4 ?k5 ?kA ?kF ?kK ?k6 ?k7 ?k8 ?k9 ?kB ?_ ?c2 ?c3 ?c4 ?c5; (case kA => exact rfl); (case kF => exact rfl); (case kK => assumption); (case k1 => k_asm); (case k2 => k_asm); (case k3 => k_asm); (case k4 => k_asm); (case k5 => k_asm); (case k6 => k_is); (case k7 => k_is); (case k8 => ktr_room); (case k9 => first | exact BindsTo.of_eq rfl | exact binds_K (by k_in) rfl (by k_is) rfl rfl rfl); (case c5 => decide); (case kB => exact locs rfl); (case c2 => exact rfl); (case c3 => exact rfl); (case c4 => exact rfl); k_whole)
  intro zg zL' zh' KG zFG zF' zN' zB' zX' zT'
  (try dsimp only)
  (try k_fold)
  (have zF2 := fr_lookup (l := [(Str.ofString "max_cost", .int mx t3), (Str.ofString "b", .str y t2), (Str.ofString "a", .str x t1)]) (by with_unfolding_all exact zF'))
  dsimp only [kstB] at zF2
  clear zF'
  k_with "measure" => omega
  k_with "state" => first
    | exact ⟨row0_len _, lev_start v4 (by assumption)⟩
    | exact lev_mid_start (by assumption)
    | exact lev_mid_turn (by assumption) (by assumption) rfl (.inl ⟨by assumption, rfl⟩)
    | exact lev_mid_turn (by assumption) (by assumption) rfl (.inr ⟨by first | assumption | exact Int.not_lt.mpr (by assumption), rfl⟩)
    | exact lev_out_turn (by assumption) (by assumption) (by assumption) (by first | assumption | exact Int.not_lt.mpr (by assumption)) (by omega) (by omega) (by omega)
  k_with "state" => first | exact ⟨by decide, by omega, pre_start x y⟩ | exact ⟨by omega, by omega, pre_turn (by omega) (by omega) (by omega) (by assumption) (by assumption)⟩ | exact ⟨by omega, by decide, slice_neg_len (by omega), slice_neg_len (by omega), post_start (by assumption)⟩ | exact ⟨by omega, by omega, slice_neg_len (by omega), slice_neg_len (by omega), post_turn (by assumption) (by omega) (by omega) (by assumption) (by assumption)⟩
  k_with "exec While BoolOp cons nil" => k_while (fun _ k => 0 ≤ k ∧ k ≤ x.length ∧ PreI x y k) (fun _ k => (17 - k).toNat) "pre"
  k_with "exec While BoolOp cons nil" => k_while (fun _ k => -(a1.length : Int) ≤ k ∧ k ≤ 0 ∧ (k < 0 → ((Txt.slice a1 none (some k)).length : Int) = a1.length + k) ∧ (k < 0 → ((Txt.slice b1 none (some k)).length : Int) = b1.length + k) ∧ PostI a1 b1 k) (fun _ k => (17 + k).toNat) "post"
  k_with "execs cons" => ((with_reducible show wpAny _ _ (execs (Stmt.While _ _ _ _ :: _) _) _ _ _); (rename Fr _ _ _ _ => lF'); (rename News _ _ _ _ => lN'); refine cut (σ := Int × Tok) (fun c => [(Str.ofString "pre", Value.int c.1 c.2)]) (fun c => 0 ≤ c.1 ∧ c.1 < x.length ∧ PreJ x y c.1) lF' lN' ?_ ?_; (try k_fold); (rotate_left; (clear lF' lN'; rintro ⟨k, tk⟩ h' tk' ⟨p1, p2, p3⟩ F' N'; (try dsimp only [kstB] at F'); (try dsimp only))))
  k_with "execs cons" => ((with_reducible show wpAny _ _ (execs (Stmt.Assign [Expr.Name (Str.ofString "b") _] (Expr.Subscript (Expr.Name _ _) (Expr.Slice (some _) none none _) _) _ :: _) _) _ _ _); (rename Fr _ _ _ _ => lF'); (rename News _ _ _ _ => lN'); refine cut (σ := (Str × Tok) × Str × Tok) (fun c => [(Str.ofString "b", Value.str c.2.1 c.2.2), (Str.ofString "a", Value.str c.1.1 c.1.2)]) (fun c => 1 ≤ c.1.1.length ∧ c.2.1.length = c.1.1.length ∧ c.1.1.length ≤ 16 ∧ Left1 x y c.1.1 c.2.1) lF' lN' ?_ ?_; (try k_fold); (rotate_left; (clear lF' lN' p3; rintro ⟨⟨a1, ta⟩, b1, tb⟩ h' tk' ⟨q1, q2, q3, q4⟩ F' N'; (try dsimp only [kstB] at F'); (try dsimp only at q1 q2 q3 q4); (try dsimp only))))
  k_with "execs cons" => ((with_reducible show wpAny _ _ (execs (Stmt.While _ _ _ _ :: _) _) _ _ _); (rename Fr _ _ _ _ => lF'); (rename News _ _ _ _ => lN'); (with_unfolding_all have hhas := fr_has lF' (Str.ofString "post") rfl); clear hhas; refine cut (σ := Int × Tok) (fun c => [(Str.ofString "post", Value.int c.1 c.2)]) (fun c => -(a1.length : Int) < c.1 ∧ c.1 ≤ 0 ∧ PostJ a1 b1 c.1) lF' lN' ?_ ?_; (try k_fold); (rotate_left; (clear lF' lN'; rintro ⟨k2, tk⟩ h' tk' ⟨r1, r2, r3⟩ F' N'; (try dsimp only [kstB] at F'); (try dsimp only at r1 r2 r3); (try dsimp only))))
  k_with "execs cons" => ((with_reducible show wpAny _ _ (execs (Stmt.Assign [Expr.Name (Str.ofString "a") _] (Expr.Subscript (Expr.Name _ _) (Expr.Slice none (some _) none _) _) _ :: _) _) _ _ _); (rename Fr _ _ _ _ => lF'); (rename News _ _ _ _ => lN'); refine cut (σ := Str × Tok) (fun c => [(Str.ofString "a", Value.str c.1 c.2)]) (fun c => c.1 = sl a1 k2) lF' lN' ?_ ?_; (try k_fold); (rotate_left; (clear lF' lN'; rintro ⟨a3, ta⟩ h' tk' u1 F' N'; (try dsimp only [kstB] at F'); (try dsimp only at u1); (try dsimp only))))
  k_with "execs cons" => ((with_reducible show wpAny _ _ (execs (Stmt.Assign [Expr.Name (Str.ofString "b") _] (Expr.Subscript (Expr.Name _ _) (Expr.Slice none (some _) none _) _) _ :: _) _) _ _ _); (rename Fr _ _ _ _ => lF'); (rename News _ _ _ _ => lN'); refine cut (σ := (Str × Tok) × Str × Tok) (fun c => [(Str.ofString "b", Value.str c.2.1 c.2.2), (Str.ofString "a", Value.str c.1.1 c.1.2)]) (fun c => 1 ≤ c.1.1.length ∧ c.2.1.length = c.1.1.length ∧ c.1.1.length ≤ 16 ∧ Left2 x y c.1.1 c.2.1) lF' lN' ?_ ?_; (try k_fold); (rotate_left; (clear lF' lN' r3 u1; rintro ⟨⟨a2, ta⟩, b2, tb⟩ h' tk' ⟨v1, v2, v3, v4⟩ F' N'; (try dsimp only [kstB] at F'); (try dsimp only at v1 v2 v3 v4); (try dsimp only))))
  k_with "pyIter ref" => (k_of "index" => k_state_given ["bchar", "distance!", "row!"] (fun bc d0 row₀ pre d r m row => row.length = a2.length ∧ LevMid a2 bc d0 row₀ pre d r m row) "distance" "result" "minimum" "row")
  k_with "pyIter ref" => (k_of "bindex" => k_state (fun pre r row => row.length = a2.length ∧ LevOut mx a2 b2 (levF mx x y) pre r row) "result" "row")
  k_steps
  all_goals try first
    | (refine cutEnd1 (_, _) (by k_asm) (by (try dsimp only); with_unfolding_all eq_refl) (by intro z h2; (try dsimp only); rw [if_neg h2] <;> rfl) (by k_asm) (fun _ h => h) ?_; (try dsimp only); first
        | exact ⟨by omega, by omega, pre_end (by omega) (by omega) (by omega) (by assumption) (by assumption)⟩
        | (exfalso; exact pre_not hy (by assumption) (by omega) (by assumption))
        | exact ⟨by omega, by omega, post_end q2 (by omega) (by omega) (by assumption) (by assumption)⟩
        | (exfalso; exact post_not (by assumption) (by omega) q4)
        | (exfalso; have e1 := whole_len a1; have e2 := whole_len b1; omega)
        | (rw [sl_neg (show k2 ≠ 0 by assumption)])
        | (rw [show k2 = 0 by assumption, sl_zero]))
    | (refine cutEnd2 ((_, _), (_, _)) (by k_asm) (by (try dsimp only); with_unfolding_all eq_refl) (by (try dsimp only); with_unfolding_all eq_refl) (by intro z h2; (try dsimp only); rw [if_neg h2.1, if_neg h2.2]) (by k_asm) (fun _ h => h) ?_; (try dsimp only); first
        | exact s1_end hy hx p1 p2 p3
        | exact s2_end u1 (by rw [sl_neg (show k2 ≠ 0 by assumption)]) q1 q2 q3 q4 r1 r2 r3
        | exact s2_end u1 (by rw [show k2 = 0 by assumption, sl_zero]) q1 q2 q3 q4 r1 r2 r3)
  all_goals first
    | (exfalso; omega)
    | (refine hret _ _ _ (KG.fr (by k_asm)) ⟨_, intV ?_⟩; first
      | exact lev_eq (by assumption)
      | exact lev_out_exit (by assumption) (by assumption) (by assumption) (by omega) (by omega) (by omega)
      | exact lev_out_done (by assumption) (by omega))
end
section
set_option maxRecDepth 100000 in
set_option maxHeartbeats 8000000 in
theorem c_keys (w : World) (tb dx l : Addr) (refs : List Value) (tups : List (Addr × Obj)) (ps : List (Str × Str)) (n nn : Nat) (tk : Tok) (hl : refs.length ≤ 1000) (hT : TupsOf tups refs ps) :
    Fun w 190 [.ref tb] ((tb, instObj 238 dx) :: (dx, dictOf (hdrOf w tk l) n) :: (l, listOf refs.toArray nn) :: tups) 2 24 (fun _ => True) (fun h v h' => Keeps [] h h' ∧ ∃ ys : List Value, NewAt h h' v (PyProof.Rows.LCg.lst ys) ∧ StrsAre ys (ps.map (·.1))) := by
  w_top off
  k_with_none
  k_with "mine eval ListComp" => (k_dflt (refine PyProof.Rows.LCp.ListComp_P (F₀ := by k_asm) (by with_unfolding_all rfl) (by decide) (by rfl) (by decide) (by rfl) (by rfl) (by decide) ?_))
  unfold Fun; k_fill
  intro zp zloose zmean zmg zmb zdp zun zgd zcn zcs za zccd zcl zouter zA zbase zh₀ zL zm zs zQ zE zB zF zX zN zT zhk zhpre zhd zhu hret
  have zmu := fun q hq => And.left (zN q hq)
  refine wpAny_call ?_
  k_dflt (refine' enterP ?k1 ?k2 ?k3 ?k4 ?k5 ?kA ?kF ?kK ?k6 ?k7 ?k8 ?k9 ?kB ?_ ?c2 ?c3 ?c4 ?c5; (case kA => exact rfl); (case kF => exact rfl); (case kK => assumption); (case k1 => k_asm); (case k2 => k_asm); (case k3 => k_asm); (case k4 => k_asm); (case k5 => k_asm); (case k6 => k_is); (case k7 => k_is); (case k8 => ktr_room); (case k9 => first | exact BindsTo.of_eq rfl | exact binds_K (by k_in) rfl (by k_is) rfl rfl rfl); (case c5 => decide); (case kB => exact locs rfl); (case c2 => exact rfl); (case c3 => exact rfl); (case c4 => exact rfl); k_whole)
  intro zg zL' zh' KG zFG zF' zN' zB' zX' zT'
  (try dsimp only)
  (try k_fold)
  (have zF2 := fr_lookup (l := [(Str.ofString "self", .ref tb)]) (by with_unfolding_all exact zF'))
  dsimp only [kstB] at zF2
  clear zF'
  k_steps
  (rename Fr zg _ _ _ => lF')
  (rename News zg _ _ _ => lN')
  refine PyProof.Rows.LCp.SrcLP.ledger (by rfl) lF' lN' (by k_mem) (by size_fits) fun g' => compP_all (KeInv tups ps) ?_ ⟨tups, ps, [], hT, fun _ h => h, trivial, rfl⟩ ?_
  · intro v r ys hI
    clear lF' lN'
    obtain ⟨ts, q, a, hP, hs, hS, e⟩ := hI
    cases hP
    rename_i a k v t u ts' ps' hr
    refine ⟨_, _, _, _, _, rfl, .tail _ (.tail _ (.tail _ (hs _ (.head _)))), rfl, rfl, ?_⟩
    intro I oI C oC D m₂ h tk E' hC hx hy F' N' o3 ne
    (try dsimp only)
    k_steps
    exact PyProof.Rows.LCg.CompEnd.intro F' N' _ (fun _ h => h) o3 (.inr ⟨_, by k_mem, rfl, _, rfl⟩) ⟨rfl, ts', ps', _, hr, fun p hp => hs p (.tail _ hp), hS.snoc, by rw [e]; simp⟩
  · intro ys hI
    clear lF' lN'
    obtain ⟨ts, q, a, hP, hs, hS, e⟩ := hI
    cases hP
    intro D h tk F' N' o1
    have hS' : StrsAre ys (ps.map (·.1)) := by rw [e]; simp only [List.map_nil, List.append_nil]; exact hS
    have hG := F'
    have hM := N'
    (try dsimp only)
    k_steps
    exact hret _ _ _ (KG.fr hG) ⟨keeps_ro zmu KG hG hM (fun _ h => .tail _ h), ys, ⟨D, rfl, new_none KG (hM _ (.head _)).2.2 (off1_not o1), (hM _ (.head _)).1⟩, hS'⟩
end
section
structure RS where
  refs : List Value
  nn : Nat
  rrefs : List Value
  rn : Nat
  t : TabSt
  X : List (Addr × Obj)
  ps : Pairs
  rs : List (Int × Str × Int)
noncomputable def Lens (ps : Pairs) : Prop := ∀ p ∈ ps, p.1.length ≤ 16 ∧ p.2.length ≤ 16
structure RInv (o : Int) (i : Nat) (c : RS) : Prop where
  pure : rndsF o i = some (c.ps, c.rs)
  tail : TailOk c.t c.X
  tups : ∃ tups, TupsOf tups c.refs c.ps ∧ ∀ p ∈ tups, p ∈ c.X
  rtups : ∃ tups, RndsOf tups c.rrefs c.rs ∧ ∀ p ∈ tups, p ∈ c.X
  lens : Lens c.ps
  some : c.ps ≠ [] → c.t.isSome = true
structure WS where
  refs : List Value
  nn : Nat
  t : TabSt
  X : List (Addr × Obj)
  ps : Pairs
  rest : Int
  tr : Tok
  word : Str
  tw : Tok
  k : Nat
structure WInv (o b : Int) (I : Addr) (X0 : List (Addr × Obj)) (res : Pairs × Int × Str) (c : WS) : Prop where
  pure : walkF c.k o b c.ps c.rest c.word = some res
  tail : TailOk c.t c.X
  tups : ∃ tups, TupsOf tups c.refs c.ps ∧ ∀ p ∈ tups, p ∈ c.X
  keep : ∀ p ∈ X0, p ∈ c.X
  lens : Lens c.ps
  some : c.ps ≠ [] → c.t.isSome = true
  lo : 1 ≤ c.rest
  hi : c.rest < o
  wl : c.word.length ≤ c.ps.length
  off : ∀ p ∈ tabL c.t ++ c.X, p.1 ≠ I
theorem rnds_step {o : Int} {i : Nat} {ps : Pairs} {rs : List (Int × Str × Int)} {S : Pairs × List (Int × Str × Int)} (h : rndsF o i = some (ps, rs)) (hS : rndsF o (i + 1) = some S) :
    ∃ q : Pairs × Int × Str, walkF 40 o (1 + (i : Int)) ps (1 + (i : Int)) (Str.ofString "") = some q ∧ S = (q.1, if (q.2.2 == Str.ofString "") = true then rs else rs ++ [(1 + (i : Int), q.2.2, q.2.1)]) := by
  unfold rndsF at hS
  rw [h] at hS
  dsimp only at hS
  split at hS
  · cases hS
  · rename_i ps' r wd e
    cases hS
    exact ⟨_, e, rfl⟩
theorem tail_more {t : TabSt} {X : List (Addr × Obj)} {D : Addr} {vs : List Value} (h : TailOk t X) : TailOk t ((D, tupOf vs) :: X) := ⟨fun p hp => by
  rcases List.mem_cons.mp hp with rfl | hp
  · rfl
  · exact h.tup p hp, h.tab⟩
theorem walk_hit {k : Nat} {o b r : Int} {ps : Pairs} {wd x : Str} {q : Pairs × Int × Str} (h : walkF k o b ps r wd = some q) (e : findF (Txt.lower (nameOf r o)) ps = some x) : q = (ps, r, wd) := by
  cases k with
  | zero => cases h
  | succ k =>
    unfold walkF at h
    rw [e] at h
    cases h
    rfl
theorem walk_miss {k : Nat} {o b r : Int} {ps : Pairs} {wd : Str} {q : Pairs × Int × Str} (h : walkF k o b ps r wd = some q) (e : findF (Txt.lower (nameOf r o)) ps = none) : ∃ j, k = j + 1 ∧ walkF j o b (ps ++ [(nameOf r o, sOf b)]) (Int.fmod (2 * r) o) (wd ++ nameOf r o) = some q := by
  cases k with
  | zero => cases h
  | succ k =>
    unfold walkF at h
    rw [e] at h
    exact ⟨k, rfl, h⟩
theorem sOf_len {b : Int} (h1 : 1 ≤ b) (h2 : b ≤ 16) : (sOf b).length ≤ 2 := num_len h1 h2
theorem lens_more {ps : Pairs} {r o b : Int} (h : Lens ps) (hl : (nameOf r o).length = 1) (h1 : 1 ≤ b) (h2 : b ≤ 16) : Lens (ps ++ [(nameOf r o, sOf b)]) := fun p hp => (List.mem_append.mp hp).elim (h p) fun hp => by
  rw [List.mem_singleton.mp hp]
  exact ⟨by rw [hl]; decide, Nat.le_trans (sOf_len h1 h2) (by decide)⟩
theorem led_sub {w : World} {tk : Tok} {n nn rn : Nat} {tb dx l R D I : Addr} {o it : Obj} {refs rrefs : List Value} {A X : List (Addr × Obj)} :
    ∀ p ∈ ledR w tk n tb dx l R refs nn rrefs rn (A ++ (D, o) :: X), p ∈ (D, o) :: (I, it) :: ledR w tk n tb dx l R refs nn rrefs rn (A ++ X) := by
  intro p hp
  simp only [ledR, List.mem_cons, List.mem_append] at hp ⊢
  rcases hp with h | h | h | h | h | h | h <;> simp [h]
theorem led_off {w : World} {tk : Tok} {n nn rn nn' rn' : Nat} {tb dx l R I : Addr} {refs rrefs refs' rrefs' : List Value} {A A' : List (Addr × Obj)} (h : ∀ p ∈ ledR w tk n tb dx l R refs nn rrefs rn A, p.1 ≠ I) (h' : ∀ p ∈ A', p.1 ≠ I) :
    ∀ p ∈ ledR w tk n tb dx l R refs' nn' rrefs' rn' A', p.1 ≠ I := by
  intro p hp
  simp only [ledR, List.mem_cons] at hp
  rcases hp with rfl | rfl | rfl | rfl | hp
  · exact h (tb, _) (.head _)
  · exact h (dx, _) (.tail _ (.head _))
  · exact h (l, listOf (List.toArray refs) nn) (.tail _ (.tail _ (.head _)))
  · exact h (R, listOf (List.toArray rrefs) rn) (.tail _ (.tail _ (.tail _ (.head _))))
  · exact h' p hp
theorem rounds_same {u u3 m₀ : Str → Option Value} {a b c d e : Option Value} : ∀ z, (∀ p ∈ ([] : List (Str × Value)), z ≠ p.1) → [Str.ofString "begun", Str.ofString "rest", Str.ofString "word"].contains z = false →
    (if z = Str.ofString "word" then a else if z = Str.ofString "rest" then b else if ([] : List Str).contains z = true then u3 z else if z = Str.ofString "word" then c else if z = Str.ofString "rest" then d else if z = Str.ofString "begun" then e else if [Str.ofString "begun", Str.ofString "rest", Str.ofString "word"].contains z = true then u z else m₀ z) = m₀ z := by
  intro z _ h3
  have h4 := h3
  simp only [List.contains_cons, List.contains_nil, Bool.or_false, Bool.or_eq_false_iff, beq_eq_false_iff_ne, ne_eq] at h4
  rw [if_neg h4.2.2, if_neg h4.2.1, if_neg (by simp), if_neg h4.2.2, if_neg h4.2.1, if_neg h4.1, h3]
  rfl
/-- what _law_rounds hands back: the rounds' list and all that it has made -/
noncomputable def RndPost (l : Addr) (res : Pairs × List (Int × Str × Int)) (h : Heap) (v : Value) (h' : Heap) : Prop :=
  ∃ (R : Addr) (refs : List Value) (nn : Nat) (rrefs : List Value) (rn : Nat) (X : List (Addr × Obj)) (p1 p2 : Addr × Obj), v = .ref R ∧ (∀ q ∈ (R, listOf (List.toArray rrefs) rn) :: p1 :: p2 :: X, h'.get? q.1 = some q.2 ∧ h.get? q.1 = none) ∧ h'.get? l = some (listOf (List.toArray refs) nn) ∧
    h'.get? 54 = some (tabObj (tabF 36 p1.1)) ∧ h'.get? 61 = some (tabObj (tabF 51 p2.1)) ∧ TailOk (some (p1, p2)) X ∧ (∃ tups, TupsOf tups refs res.1 ∧ ∀ p ∈ tups, p ∈ X) ∧ (∃ tups, RndsOf tups rrefs res.2 ∧ ∀ p ∈ tups, p ∈ X) ∧ Lens res.1 ∧ Keeps [l, 54, 61] h h'
theorem led_new {w : World} {tk : Tok} {n nn rn : Nat} {tb dx l R : Addr} {refs rrefs : List Value} {p1 p2 : Addr × Obj} {X : List (Addr × Obj)} {g h : Heap} {L : Addr} (N : News g L h (ledR w tk n tb dx l R refs nn rrefs rn (tabL (some (p1, p2)) ++ X))) (hRl : R ≠ l) (hO : TailOk (some (p1, p2)) X) :
    ∀ q ∈ (R, listOf (List.toArray rrefs) rn) :: p1 :: p2 :: X, ∀ b ∈ [tb, dx, l, 54, 61], q.1 ≠ b := by
  obtain ⟨⟨v1, t1, d1, s1⟩, ⟨v2, t2, d2, s2⟩⟩ := hO.tab
  have mR : (R, listOf (List.toArray rrefs) rn) ∈ ledR w tk n tb dx l R refs nn rrefs rn (tabL (some (p1, p2)) ++ X) := .tail _ (.tail _ (.tail _ (.head _)))
  have mb : (tb, instObj 238 dx) ∈ ledR w tk n tb dx l R refs nn rrefs rn (tabL (some (p1, p2)) ++ X) := .head _
  have md : (dx, dictOf (hdrOf w tk l) n) ∈ ledR w tk n tb dx l R refs nn rrefs rn (tabL (some (p1, p2)) ++ X) := .tail _ (.head _)
  have ml : (l, listOf (List.toArray refs) nn) ∈ ledR w tk n tb dx l R refs nn rrefs rn (tabL (some (p1, p2)) ++ X) := .tail _ (.tail _ (.head _))
  have m5 : (54, tabObj (tabF 36 p1.1)) ∈ ledR w tk n tb dx l R refs nn rrefs rn (tabL (some (p1, p2)) ++ X) := .tail _ (.tail _ (.tail _ (.tail _ (.head _))))
  have m6 : (61, tabObj (tabF 51 p2.1)) ∈ ledR w tk n tb dx l R refs nn rrefs rn (tabL (some (p1, p2)) ++ X) := .tail _ (.tail _ (.tail _ (.tail _ (.tail _ (.head _)))))
  have m1 : p1 ∈ ledR w tk n tb dx l R refs nn rrefs rn (tabL (some (p1, p2)) ++ X) := .tail _ (.tail _ (.tail _ (.tail _ (.tail _ (.tail _ (.head _))))))
  have m2 : p2 ∈ ledR w tk n tb dx l R refs nn rrefs rn (tabL (some (p1, p2)) ++ X) := .tail _ (.tail _ (.tail _ (.tail _ (.tail _ (.tail _ (.tail _ (.head _)))))))
  have mX : ∀ q ∈ X, q ∈ ledR w tk n tb dx l R refs nn rrefs rn (tabL (some (p1, p2)) ++ X) := fun q hq => .tail _ (.tail _ (.tail _ (.tail _ (List.mem_append_right _ hq))))
  have nf : ∀ {q r : Addr × Obj}, q ∈ ledR w tk n tb dx l R refs nn rrefs rn (tabL (some (p1, p2)) ++ X) → r ∈ ledR w tk n tb dx l R refs nn rrefs rn (tabL (some (p1, p2)) ++ X) → q.2 ≠ r.2 → q.1 ≠ r.1 := fun hq hr hne e => hne (by rw [news_fun N hq hr e])
  have code : ∀ {q : Addr × Obj} {v : Array Value} {t : Tok} {c : Str}, q.2.data = .fields v → v[1]? = some (.str c t) → (∀ ln c', q.2 ≠ tabObj (tabF ln c')) := fun hd hs ln c' e => by
    rw [e] at hd
    cases hd
    simp [rawInt] at hs
  intro q hq b hb
  simp only [List.mem_cons, List.not_mem_nil, or_false] at hq hb
  have all : ∀ (q : Addr × Obj), q ∈ ledR w tk n tb dx l R refs nn rrefs rn (tabL (some (p1, p2)) ++ X) → q.2 ≠ instObj 238 dx → q.2 ≠ dictOf (hdrOf w tk l) n → q.1 ≠ l → q.2 ≠ tabObj (tabF 36 p1.1) → q.2 ≠ tabObj (tabF 51 p2.1) → q.1 ≠ b := fun q hm e1 e2 e3 e4 e5 => by
    rcases hb with rfl | rfl | rfl | rfl | rfl
    · exact nf hm mb e1
    · exact nf hm md e2
    · exact e3
    · exact nf hm m5 e4
    · exact nf hm m6 e5
  rcases hq with rfl | rfl | rfl | hq
  · exact all _ mR (fun e => by cases e) (fun e => absurd (congrArg Obj.cls e) (by simp)) hRl (fun e => by cases e) (fun e => by cases e)
  · exact all _ m1 (fun e => by rw [e] at d1; cases d1) (fun e => by rw [e] at d1; cases d1) (nf m1 ml fun e => by rw [e] at d1; cases d1) (code d1 s1 _ _) (code d1 s1 _ _)
  · exact all _ m2 (fun e => by rw [e] at d2; cases d2) (fun e => by rw [e] at d2; cases d2) (nf m2 ml fun e => by rw [e] at d2; cases d2) (code d2 s2 _ _) (code d2 s2 _ _)
  · have hc := hO.tup q hq
    exact all _ (mX q hq) (fun e => by rw [e] at hc; cases hc) (fun e => by rw [e] at hc; simp at hc) (nf (mX q hq) ml fun e => by rw [e] at hc; simp at hc) (fun e => by rw [e] at hc; cases hc) (fun e => by rw [e] at hc; cases hc)
set_option maxRecDepth 100000 in
set_option maxHeartbeats 2000000 in
theorem c_rounds (w : World) (o : Int) (tb dx l : Addr) (n nn : Nat) (tkh t1 : Tok) (N : Nat) (res : Pairs × List (Int × Str × Int)) (ho : 3 ≤ o ∧ o ≤ 33) (hN : o.fdiv 2 = N) (hN2 : N ≤ 16) (hD : Divs o) (hR : rndsF o N = some res) (hR1 : res.1.length ≤ 40) (hR2 : res.2.length ≤ 40) (hR3 : res.1 ≠ []) :
    Fun w 263 [.int o t1, .ref tb] [(tb, instObj 238 dx), (dx, dictOf (hdrOf w tkh l) n), (l, listOf #[] nn), (54, tabObj #[]), (61, tabObj #[])] 60 400 (fun _ => True) (RndPost l res) := by
  w_top off
  k_with_none
  k_with "mine call ref" => ((with_reducible show wpAny _ _ (call (Value.ref 256) _) _ _ _); k_dflt (refine Fun.use (c_name _ _ _ _ _ (by omega)) (by k_asm) (by k_asm) (by k_asm) (by k_asm) (by k_asm) (by first | exact rfl | assumption) (by trivial) (by ktr_room) (by ktr_units) ?_; intro v9 h9 tk9 F9 N9 K9 P9; (try k_sweep); obtain ⟨t9, P9⟩ := P9; subst P9; (try dsimp only)))
  k_with "mine call ref" => ((with_reducible show wpAny _ _ (call (Value.ref 185) _) _ _ _); (try dsimp only); k_dflt (refine get_rule (by k_asm) (by k_asm) (by k_asm) (by k_asm) (by k_asm) (by first | exact rfl | assumption) (by assumption) (by assumption) (by assumption) (by (rw [name_len]; decide)) (by exact re_lower (by omega) (by omega) (by omega)) (by ktr_room) (by ktr_units) ?_; intro h9 tk9 F9 N9 v9 q9; (try k_sweep); rcases q9 with ⟨e9, q9⟩ | ⟨x9, u9, e9, q9⟩ <;> subst q9 <;> (try dsimp only)))
  k_with "mine call ref" => ((with_reducible show wpAny _ _ (call (Value.ref 235) _) _ _ _); (try dsimp only); k_dflt (refine add_rule (by k_asm) (by k_asm) (by k_asm) (by k_asm) (by k_asm) (by first | exact rfl | assumption) (by assumption) (by assumption) (by assumption) (by omega) (by (rw [name_len]; decide)) (by exact Nat.le_trans (sOf_len (by omega) (by omega)) (by decide)) (by exact re_name (by omega) (by omega) (by omega)) (by exact re_num (by omega) (by omega)) (by ktr_room) (by ktr_units) ?_; intro h9 tk9 D8 u8 v8 o8 F9 N9; (try dsimp only); (try k_sweep)))
  k_with "mine call ref" => ((with_reducible show wpAny _ _ (call (Value.ref 80) _) _ _ _); (try dsimp only); k_dflt (refine div_rule (by k_asm) (by k_asm) (by k_asm) (by k_asm) (by k_asm) (by first | exact rfl | assumption) (by first | assumption | exact tail_more (by assumption)) (by assumption) (by omega) (by omega) (by exact divs_at (by assumption) (by assumption) (by assumption)) (by ktr_room) (by ktr_units) ?_; intro h9 tk9 D7 c7 t7 o7 i7 j7 F9 N9; (try dsimp only); (try k_sweep)))
  k_with "mine call builtin:list.append" => ((with_reducible show wpAny _ _ (call (Value.builtin _) [Value.ref _, _]) _ _ _); k_dflt (refine append_rule (by k_asm) (by k_asm) (by assumption) (by (show @Ne Nat _ _; omega)) (by assumption) (by assumption) (by assumption) ?_); (intro h' F' N'; (try dsimp only); (try k_sweep)))
  k_with "mine pyIter ref" => (refine Hold.out ?_)
  k_with "mine exec While" => (refine Hold.out ?_)
  unfold Fun; k_fill
  intro zp zloose zmean zmg zmb zdp zun zgd zcn zcs za zccd zcl zouter zA zbase zh₀ zL zm zs zQ zE zB zF zX zN zT zhk zhpre zhd zhu hret
  have zmu := fun q hq => And.left (zN q hq)
  refine wpAny_call ?_
  k_dflt (refine' enterP ?k1 ?k2 ?k3 ?k4 ?k5 ?kA ?kF ?kK ?k6 ?k7 ?k8 ?k9 ?kB ?_ ?c2 ?c3 ?c4 ?c5; (case kA => exact rfl); (case kF => exact rfl); (case kK => assumption); (case k1 => k_asm); (case k2 => k_asm); (case k3 => k_asm); (case k4 => k_asm); (case k5 => k_asm); (case k6 => k_is); (case k7 => k_is); (case k8 => ktr_room); (case k9 => first | exact BindsTo.of_eq rfl | exact binds_K (by k_in) rfl (by k_is) rfl rfl rfl); (case c5 => decide); (case kB => exact locs rfl); (case c2 => exact rfl); (case c3 => exact rfl); (case c4 => exact rfl); k_whole)
  intro zg zL' zh' KG zFG zF' zN' zB' zX' zT'
  (try dsimp only)
  (try k_fold)
  (have zF2 := fr_lookup (l := [(Str.ofString "table", .ref tb), (Str.ofString "odd", .int o t1)]) (by with_unfolding_all exact zF'))
  dsimp only [kstB] at zF2
  clear zF'
  k_steps
  rename_i R hp0 lR hp1 f0 n0 hp2 tk2 u1 u2 u3 rgX lF' lN' kp
  unfold Hold
  have hRl : R ≠ l := Nat.ne_of_gt lR.2.2.1
  have hlR : l ≠ R := hRl.symm
  have hoN : 2 * (N : Int) ≤ o := by rw [← hN, Int.fdiv_eq_ediv_of_nonneg _ (by decide)]; omega
  refine range_loop (n := N) (σ := RS) [Str.ofString "begun", Str.ofString "rest", Str.ofString "word"] (fun c => ledR w tkh n tb dx l R c.refs c.nn c.rrefs c.rn (tabL c.t ++ c.X)) (fun _ => []) (RInv o) ⟨[], nn, [], 0, none, [], [], []⟩ rfl rgX ?hsm ?hn lF' ?hN (fun _ h => nomatch h) ?h0 ?_ ?_
  (case hsm => exact small_one (by omega) (by omega) (by omega) (by omega))
  (case hn => (rw [hN, rangeSize_nat 1 ((N : Int) + 1)]; omega))
  (case hN => (refine lN'.perm fun p hp => ?_; simp only [ledR, tabL, tabs0, List.append_nil, List.mem_cons, List.not_mem_nil, or_false] at hp ⊢; rcases hp with rfl | rfl | rfl | rfl | rfl | rfl <;> simp))
  (case h0 => exact ⟨rfl, ⟨fun _ h => (nomatch h), trivial⟩, ⟨[], .nil, fun _ h => h⟩, ⟨[], .nil, fun _ h => h⟩, fun _ h => (nomatch h), fun h => absurd rfl h⟩)
  (all_goals clear lF' lN')
  · intro c I it i t m h tk hi hP hoff hu F' N'
    obtain ⟨u, rfl⟩ := hu
    (try dsimp only [kstB] at F')
    (try dsimp only)
    (try k_fold)
    k_steps
    unfold Hold
    obtain ⟨hP1, hP2, ⟨tups0, hP3, hP4⟩, ⟨rt0, hP5, hP6⟩, hP7, hP8⟩ := hP
    obtain ⟨S, hS, lS1, lS2⟩ := rnds_prev hR (i + 1) (by omega)
    obtain ⟨rs, hW, hSe⟩ := rnds_step hP1 hS
    have hrl : c.rrefs.length ≤ 1000 := by
      have e1 := hP5.len
      obtain ⟨S0, hS0, _, lS4⟩ := rnds_prev hR i (by omega)
      rw [hP1] at hS0
      cases hS0
      dsimp only at lS4
      omega
    have hIl : I ≠ l := fun e => hoff (l, listOf (List.toArray c.refs) c.nn) (.tail _ (.tail _ (.head _))) e.symm
    have hIR : I ≠ R := fun e => hoff (R, listOf (List.toArray c.rrefs) c.rn) (.tail _ (.tail _ (.tail _ (.head _)))) e.symm
    (rename Fr zg _ _ _ => lF'; rename News zg _ _ _ => lN')
    refine ksw_while (σ := WS) (fun d => (I, it) :: ledR w tkh n tb dx l R d.refs d.nn c.rrefs c.rn (tabL d.t ++ d.X)) (fun d => [(Str.ofString "word", .str d.word d.tw), (Str.ofString "rest", .int d.rest d.tr)]) (fun _ => True) [] (WInv o (1 + (i : Int)) I c.X rs) (fun d => d.k) ⟨c.refs, c.nn, c.t, c.X, c.ps, 1 + (i : Int), ?ztr, Str.ofString "", ?ztw, 40⟩ lF' lN' trivial ?hk ?hp ?_ ?hE
    (case hk => (intro p hp; simp only [List.mem_cons, List.not_mem_nil, or_false] at hp; rcases hp with rfl | rfl <;> rfl))
    (case hp => exact ⟨hW, hP2, ⟨tups0, hP3, hP4⟩, fun _ h => h, hP7, hP8, by show (1:Int) ≤ 1 + (i:Int); omega, by show 1 + (i:Int) < o; omega, by show (Str.ofString "").length ≤ c.ps.length; rw [PySem.ofString_length]; exact Nat.zero_le _, fun p hp => hoff p (.tail _ (.tail _ (.tail _ (.tail _ hp))))⟩)
    (case hE => passes_own)
    (all_goals clear lF' lN')
    intro d u3 h3 tk3 _ hd F' N'
    obtain ⟨d1, d2, ⟨tupsd, d3, d4⟩, d5, d6, d7, d8, d9, d12, d10⟩ := hd
    (try dsimp only [kstB] at F')
    (try dsimp only)
    (try k_fold)
    have hlen : d.refs.length ≤ 1000 := by
      have e1 := d3.len
      have e2 : d.ps.length ≤ rs.1.length := (walk_len _ _ _ _ _ _ _ _ _ d1).1
      have e3 : S.1 = rs.1 := by rw [hSe]
      rw [e3] at lS1
      omega
    have hps : d.ps.length ≤ 40 := by
      have e2 : d.ps.length ≤ rs.1.length := (walk_len _ _ _ _ _ _ _ _ _ d1).1
      have e3 : S.1 = rs.1 := by rw [hSe]
      rw [e3] at lS1
      omega
    have hnl := name_len d.rest o
    have d11 : ∀ p ∈ tabL d.t, p.1 ≠ I := fun p hp => d10 p (List.mem_append_left _ hp)
    k_steps
    all_goals (rename Fr zg _ _ _ => lF'; rename News zg _ _ _ => lN')
    · rename_i tw' b1 b2 b3 b4 b5
      obtain ⟨j, ej, hw⟩ := walk_miss d1 e9
      refine ksw_end (⟨d.refs ++ [.ref D8], d.nn + 1, t7, (D8, tupOf [.str (nameOf d.rest o) u8, .str (sOf (1 + (i : Int))) v8]) :: d.X, d.ps ++ [(nameOf d.rest o, sOf (1 + (i : Int)))], Int.fmod (2 * d.rest) o, c7.2, d.word ++ nameOf d.rest o, tw', j⟩ : WS) lF' lN' (fun p hp => .tail _ hp) trivial ?_ ?_ ?_ ?_
      · intro p hp; simp only [List.mem_cons, List.not_mem_nil, or_false] at hp; rcases hp with rfl | rfl <;> rfl
      · intro z h2 _
        have hzw := h2 _ (.head _)
        have hzr := h2 _ (.tail _ (.head _))
        dsimp only at hzw hzr ⊢
        rw [if_neg hzr, if_neg hzw, if_neg hzw, if_neg hzr]
        rfl
      · exact ⟨hw, o7, ⟨tupsd ++ [_], d3.snoc, fun p hp => (List.mem_append.mp hp).elim (fun h => .tail _ (d4 p h)) fun h => by rw [List.mem_singleton.mp h]; exact .head _⟩, fun p hp => .tail _ (d5 p hp), lens_more d6 hnl (by omega) (by omega), fun _ => i7, (hD _ d8 d9).2, Int.fmod_lt_of_pos _ (by omega),
          by show (d.word ++ nameOf d.rest o).length ≤ (d.ps ++ [(nameOf d.rest o, sOf (1 + (i : Int)))]).length; rw [List.length_append, PySem.Str.length_append, hnl]; exact Nat.add_le_add_right d12 1,
          fun p hp => (List.mem_append.mp hp).elim (j7 p) fun h => (List.mem_cons.mp h).elim (fun h => by rw [h]; exact o8) fun h => d10 p (List.mem_append_right _ h)⟩
      · show j < d.k; omega
    · rename_i a9 D9 b1 l9
      (rename findF _ _ = some _ => e9)
      have hq := walk_hit d1 e9
      subst hq
      unfold TurnPost
      dsimp only
      refine turnEnd (⟨d.refs, d.nn, c.rrefs ++ [.ref D9], c.rn + 1, d.t, (D9, tupOf [.int (1 + (i : Int)) t, .str d.word d.tw, .int d.rest d.tr]) :: d.X, d.ps, c.rs ++ [(1 + (i : Int), d.word, d.rest)]⟩ : RS) lF' lN' (.tail _ (.head _)) ?_ ?_ (fun _ h => nomatch h) ?_ ?_
      · exact led_sub
      · exact led_off hoff (fun p hp => (List.mem_append.mp hp).elim (fun h => d10 p (List.mem_append_left _ h)) fun h => (List.mem_cons.mp h).elim (fun h => by rw [h]; exact Nat.ne_of_gt l9.1) fun h => d10 p (List.mem_append_right _ h))
      · exact rounds_same
      · refine ⟨?_, tail_more d2, ⟨tupsd, d3, fun p hp => .tail _ (d4 p hp)⟩, ⟨rt0 ++ [_], hP5.snoc, fun p hp => (List.mem_append.mp hp).elim (fun h => .tail _ (d5 p (hP6 p h))) fun h => by rw [List.mem_singleton.mp h]; exact .head _⟩, d6, d7⟩
        rw [hS, hSe]
        dsimp only
        rw [if_neg (by simpa using a9)]
    · rename_i a9
      have hq := walk_hit d1 e9
      subst hq
      unfold TurnPost
      dsimp only
      refine turnEnd (⟨d.refs, d.nn, c.rrefs, c.rn, d.t, d.X, d.ps, c.rs⟩ : RS) lF' lN' (.head _) (fun p hp => .tail _ hp) (led_off hoff d10) (fun _ h => nomatch h) ?_ ?_
      · exact rounds_same
      · refine ⟨?_, d2, ⟨tupsd, d3, d4⟩, ⟨rt0, hP5, fun p hp => d5 p (hP6 p hp)⟩, d6, d7⟩
        rw [hS, hSe]
        dsimp only
        rw [if_pos (by simpa using a9)]
  · intro c u h tk hP F' N'
    (try dsimp only [kstB] at F')
    (try dsimp only)
    (try k_fold)
    k_steps
    (rename Fr zg _ _ _ => lF'; rename News zg _ _ _ => lN')
    obtain ⟨hP1, hP2, ⟨tups0, hP3, hP4⟩, ⟨rt0, hP5, hP6⟩, hP7, hP8⟩ := hP
    rw [hR] at hP1
    have e1 : c.ps = res.1 := by rw [Option.some.inj hP1]
    have e2 : c.rs = res.2 := by rw [Option.some.inj hP1]
    have hS := hP8 (by rw [e1]; exact hR3)
    obtain ⟨⟨p1, p2⟩, ht⟩ := Option.isSome_iff_exists.mp hS
    rw [ht] at lN' hP2
    rw [e1] at hP3 hP7
    rw [e2] at hP5
    have hnew := led_new lN' hRl hP2
    refine hret _ _ _ (KG.fr lF') ⟨R, c.refs, c.nn, c.rrefs, c.rn, c.X, p1, p2, rfl, fun q hq => ⟨(lN' q ?_).1, new_noneN KG (lN' q ?_).2.2 fun hm => ?_⟩, (lN' _ (.tail _ (.tail _ (.head _)))).1, (lN' (54, _) (.tail _ (.tail _ (.tail _ (.tail _ (.head _)))))).1, (lN' (61, _) (.tail _ (.tail _ (.tail _ (.tail _ (.tail _ (.head _))))))).1, hP2, ⟨tups0, hP3, hP4⟩, ⟨rt0, hP5, hP6⟩, hP7,
      keeps_butN zmu KG lF' lN' fun p hp => ?_⟩
    · simp only [List.mem_cons] at hq
      rcases hq with rfl | rfl | rfl | hq
      · exact .tail _ (.tail _ (.tail _ (.head _)))
      · exact .tail _ (.tail _ (.tail _ (.tail _ (.tail _ (.tail _ (.head _))))))
      · exact .tail _ (.tail _ (.tail _ (.tail _ (.tail _ (.tail _ (.tail _ (.head _)))))))
      · exact .tail _ (.tail _ (.tail _ (.tail _ (List.mem_append_right _ hq))))
    · simp only [List.mem_cons] at hq
      rcases hq with rfl | rfl | rfl | hq
      · exact .tail _ (.tail _ (.tail _ (.head _)))
      · exact .tail _ (.tail _ (.tail _ (.tail _ (.tail _ (.tail _ (.head _))))))
      · exact .tail _ (.tail _ (.tail _ (.tail _ (.tail _ (.tail _ (.tail _ (.head _)))))))
      · exact .tail _ (.tail _ (.tail _ (.tail _ (List.mem_append_right _ hq))))
    · exact hnew q hq q.1 hm rfl
    · simp only [List.mem_cons, List.not_mem_nil, or_false] at hp
      rcases hp with rfl | rfl | rfl | rfl | rfl
      · exact .inl (.head _)
      · exact .inl (.tail _ (.head _))
      · exact .inr (.head _)
      · exact .inr (.tail _ (.head _))
      · exact .inr (.tail _ (.tail _ (.head _)))
end
section
/-! what _law_one_round asks, in plain Lean -/
theorem ne_int_no {prog : Program} {w : World} {A : Around} {E : Value → Shared → Prop} {s : Shared} {x y : Int} {t u : Tok} {Q : Value → Shared → Prop} (e : x = y) (h : Q (.bool false) s) : wpAny (model prog w) A (compareOp .NotEq (.int x t) (.int y u)) Q E s :=
  PyProof.Rows.ne_int (by rw [show (x != y) = false by simp [e]]; exact h)
inductive Stop : Prop
  | mk
theorem least_bd {o x : Int} (h : 0 ≤ x ∧ x < o) : 0 ≤ leastF o x ∧ leastF o x < o := by
  unfold leastF
  split <;> omega
theorem place_bd {o b : Int} {i : Nat} (hb : 0 ≤ b) (ho : 0 < o) : 0 ≤ placeF o b i ∧ placeF o b i < o := by
  unfold placeF
  exact ⟨Int.fmod_nonneg (Int.mul_nonneg hb (Int.le_of_lt (Int.pow_pos (by decide)))) (Int.le_of_lt ho), Int.fmod_lt_of_pos _ ho⟩
theorem ne_str_no {prog : Program} {w : World} {A : Around} {E : Value → Shared → Prop} {s : Shared} {x y : Str} {t u : Tok} {Q : Value → Shared → Prop} (e : x = y) (h : Q (.bool false) s) : wpAny (model prog w) A (compareOp .NotEq (.str x t) (.str y u)) Q E s :=
  PySem.P.ne_str (by rw [show (x.cps.toList != y.cps.toList) = false by simp [e]]; exact h)
theorem min_three_N {prog : Program} {w : World} {A : Around} {E : Value → Shared → Prop} {s : Shared} {h₀ : Heap} {L : Addr} {m : Str → Option Value} {news : List (Addr × Obj)} {a b c : Int} {t u x : Tok} {Q : Value → Shared → Prop} (hh : A.handled = none) (F : Fr h₀ L s.heap m) (N : News h₀ L s.heap news)
    (h : ∀ h' tk v, Fr h₀ L h' m → News h₀ L h' news → Q (.int (min3 a b c) v) { s with heap := h', toks := tk }) : wpAny (model prog w) A (call (.builtin "min") [.int a t, .int b u, .int c x]) Q E s := by
  refine min_three_ints hh fun h' tk hk => ?_
  have key := fun v => h h' tk v (F.keptAll hk) (N.grown hk)
  unfold min3 at key
  by_cases hba : b < a <;> by_cases hc1 : c < b <;> by_cases hc2 : c < a <;> simp only [hba, hc1, hc2, if_true, if_false] at key ⊢ <;> exact key _
theorem due_bd {k fl i : Int} (hk : 1 ≤ k ∧ k ≤ 16) (hi : 0 ≤ i ∧ i ≤ k) (hf : 0 ≤ fl ∧ fl ≤ 1) : 0 ≤ min3 (2 * k) (4 * i) (4 * (k - i) + fl * i) ∧ min3 (2 * k) (4 * i) (4 * (k - i) + fl * i) ≤ 1000 := by
  have := Int.mul_nonneg hf.1 hi.1
  unfold min3
  split <;> split <;> omega
theorem slice_eq {x wd : Str} {i k : Int} (h0 : 0 ≤ i) (hk : 0 ≤ k) (hx : i + k ≤ x.length) (hw : (wd.length : Int) = k) : (Txt.slice x (some i) (some (i + k))).length = wd.length := by
  have := PyProof.Rows.fact_slice_ss x i (i + k) h0 (by omega) hx
  omega
theorem onP_len (o r : Int) : ∀ n : Nat, (onP o r n).1.length = n
  | 0 => by show (Str.ofString "").length = 0; rw [PySem.ofString_length]; rfl
  | n + 1 => by
    show ((onP o r n).1 ++ nameOf _ _).length = n + 1
    rw [PySem.Str.length_append, onP_len o r n, name_len]
theorem c_onwardK (w : World) (r o k : Int) (t1 t2 t3 : Tok) (hr : 1 ≤ r ∧ r < o ∧ o ≤ 33) (hk : 0 ≤ k ∧ k ≤ 20) (c1 c2 : Addr) (hD : Divs o) :
    Fun w 270 [.int r t1, .int o t2, .int k t3] (tabsF c1 c2) 52 280 (TabsOk c1 c2) (fun h v h' => Keeps [] h h' ∧ ∃ t, v = .str (onP o r k.toNat).1 t) := by
  obtain ⟨n, rfl⟩ := Int.eq_ofNat_of_zero_le hk.1
  exact c_onward w r o n t1 t2 t3 hr (by omega) c1 c2 hD
set_option maxRecDepth 100000 in
set_option maxHeartbeats 2000000 in
theorem c_one (w : World) (o b r d k fl whole : Int) (wd : Str) (bits : List Int) (c1 c2 : Addr) (t1 t2 t3 t4 t5 : Tok) (ho : 3 ≤ o ∧ o ≤ 33) (hb : 1 ≤ b ∧ 2 * b < o) (hd : 0 ≤ d ∧ d ≤ 20000) (hD : Divs o)
    (hp1 : 1 ≤ partF o b ∧ partF o b ≤ 33) (hg : 1 ≤ gcdF (o.toNat + 1) b o ∧ gcdF (o.toNat + 1) b o ≤ 33) (hk : turnsF 16 (partF o b) 1 = k) (hk1 : 1 ≤ k ∧ k ≤ 16) (hfl : flipF o b k = fl) (hfl1 : 0 ≤ fl ∧ fl ≤ 1)
    (hwl : (wd.length : Int) = k) (hr : (fl = 1 ∧ r = o - b) ∨ (fl = 0 ∧ r = b)) (hr1 : 1 ≤ r ∧ r < o)
    (hx : 0 ≤ b * 2 ^ k.toNat ∧ b * 2 ^ k.toNat < 2 ^ 40) (hok : divOk (b * 2 ^ k.toNat) o = true) (hleft : Int.fmod (b * 2 ^ k.toNat) o = r) (hwh : Int.fdiv (b * 2 ^ k.toNat) o = whole) (hwb : 0 ≤ whole ∧ whole < 2 ^ 40)
    (hdl : (digitsF 1 whole).length ≤ 20) (hbits : (digitsF 1 whole ++ List.replicate k.toNat 0).take k.toNat = bits) (hbl : (bits.length : Int) = k) (hbv : ∀ d ∈ bits, 0 ≤ d ∧ d < 2 ^ (Int.toNat 1)) (hval : intF 1 bits = whole)
    (hword : ∀ i : Nat, i < k.toNat → Txt.item wd (0 + (i : Int)) = signF o b k bits i)
    (hl1 : LevOk o k fl r wd ((d + b).fmod (k + 1))) (hl2 : LevOk o k fl r wd k)
    (heq : (whole + fl) * o = b * (2 ^ k.toNat - 1 + 2 * fl)) :
    Fun w 284 [.int o t1, .int b t2, .str wd t3, .int r t4, .int d t5] (tabsF c1 c2) 60 400 (TabsOk c1 c2) (fun h v h' => Keeps [] h h' ∧ v = .bool true) := by
  have hk' := hk
  unfold partF at hk' hp1
  w_top off
  k_with_none
  k_with "mine compareOp NotEq int int" => (k_dflt (refine ne_int_no (by first | exact rfl | assumption | exact (show EqI _ _ by assumption) | omega) ?_); (try dsimp only))
  k_with "mine compareOp NotEq str str" => (k_dflt (refine ne_str_no (by (rename Txt.item _ _ = _ => q9; rw [q9]; first | rw [if_pos (by assumption)] | rw [if_neg (by assumption)])) ?_); (try dsimp only))
  k_with "mine call builtin:chr" => ((refine chr_of_range (by omega) (by omega) ?_); (try dsimp only))
  k_with "mine call ref" => ((with_reducible show wpAny _ _ (call (Value.ref 94) _) _ _ _); (try dsimp only); k_dflt (refine Fun.use (c_lev _ _ _ _ _ _ _ (by omega) (by exact slice_eq (by omega) (by omega) (by omega) (by assumption)) (by exact due_bd (by assumption) (by omega) (by assumption))) (by k_asm) (by k_asm) (by k_asm) (by k_asm) (by k_asm) (by first | exact rfl | assumption) (by trivial) (by ktr_room) (by ktr_units) ?_; intro v9 h9 tk9 F9 N9 K9 P9; (try k_sweep); obtain ⟨t9, P9⟩ := P9; subst P9; (try dsimp only)))
  k_with "mine call builtin:min" => ((with_reducible show wpAny _ _ (call (Value.builtin _) [Value.int _ _, Value.int _ _, Value.int _ _]) _ _ _); k_dflt (refine min_three_N (by exact rfl) (by k_asm) (by k_asm) ?_); (intro h9 tk9 v9 F9 N9; (try k_sweep); (try dsimp only)))
  k_with "mine pyIter ref" => ((rename Stop => hStop9); refine Hold.out ?_)
  k_with "mine call ref" => ((with_reducible show wpAny _ _ (call (Value.ref 249) _) _ _ _); k_dflt (refine Fun.use (c_shared _ _ _ _ _ (by omega)) (by k_asm) (by k_asm) (by k_asm) (by k_asm) (by k_asm) (by first | exact rfl | assumption) (by trivial) (by ktr_room) (by ktr_units) ?_; intro v9 h9 tk9 F9 N9 K9 P9; (try k_sweep); obtain ⟨t9, P9⟩ := P9; subst P9; (try dsimp only)))
  k_with "mine call ref" => ((with_reducible show wpAny _ _ (call (Value.ref 277) _) _ _ _); k_dflt (refine Fun.use (c_turns _ _ _ _ (by assumption) (by exact (show EqI _ _ by assumption)) (by omega)) (by k_asm) (by k_asm) (by k_asm) (by k_asm) (by k_asm) (by first | exact rfl | assumption) (by trivial) (by ktr_room) (by ktr_units) ?_; intro v9 h9 tk9 F9 N9 K9 P9; (try k_sweep); obtain ⟨t9, P9⟩ := P9; subst P9; (try dsimp only)))
  k_with "mine call ref" => ((with_reducible show wpAny _ _ (call (Value.ref 80) _) _ _ _); (try dsimp only); k_dflt (refine Fun.useMu (c_divmod _ _ _ _ _ _ _ (by assumption) (by omega) (by assumption)) (by k_asm) (by k_asm) (by k_asm) (by k_asm) (mem2 (by k_mem) (by k_mem)) (by k_asm) (by first | exact rfl | assumption) (by exact ⟨cr_fr (by k_asm) (by assumption), cr_fr (by k_asm) (by assumption)⟩) (by ktr_room) (by ktr_units) ?_; intro v9 h9 tk9 F9 K9 P9; obtain ⟨K9, x9, D9, q9, n9, g9⟩ := P9; subst q9; (rename News _ _ _ _ => N9); (have o9 := news_add (by k_asm) N9 (N9.grown (Keeps.all K9)) n9 g9); clear N9; (obtain ⟨N9, o9⟩ := o9); (try simp only [AllNe, and_true] at o9); (try dsimp only); (try k_sweep)))
  k_with "mine call ref" => ((with_reducible show wpAny _ _ (call (Value.ref 59) _) _ _ _); (try dsimp only); k_dflt (refine Fun.useMu (c_digits _ _ _ _ _ _ (by assumption) (by omega)) (by k_asm) (by k_asm) (by k_asm) (by k_asm) (mem1 (by k_mem)) (by k_asm) (by first | exact rfl | assumption) (by exact cr_fr (by k_asm) (by assumption)) (by ktr_room) (by ktr_units) ?_; intro v9 h9 tk9 F9 K9 P9; obtain ⟨K9, vs9, nn9, ⟨D9, q9, n9, g9⟩, I9⟩ := P9; subst q9; (rename News _ _ _ _ => N9); (have o9 := news_add (by k_asm) N9 (N9.grown (Keeps.all K9)) n9 g9); clear N9; (obtain ⟨N9, o9⟩ := o9); (try simp only [AllNe, and_true] at o9); (try dsimp only); (try k_sweep)))
  k_with "mine call ref" => ((with_reducible show wpAny _ _ (call (Value.ref 66) _) _ _ _); (try dsimp only); k_dflt (refine' Fun.useMu (c_dint _ _ _ _ _ _ _ _ ?b0 ?b1 ?b3 ?b5 ?b6) ?k1 ?k2 ?k3 ?k4 (mem2 ?m1 ?m2) ?k5 ?kK ?kp ?kd ?ku ?_; (case k1 => k_asm); (case k2 => k_asm); (case k3 => k_asm); (case k4 => k_asm); (case m1 => k_mem); (case m2 => k_mem); (case k5 => k_asm); (case kK => first | exact rfl | assumption); (case kp => exact cr_fr (by k_asm) (by assumption)); (case b5 => assumption); (case b0 => omega); (case b1 => omega); (case b3 => omega); (case b6 => assumption); (case kd => ktr_room); (case ku => ktr_units); intro v9 h9 tk9 F9 K9 P9; obtain ⟨K9, t9, q9⟩ := P9; subst q9; (rename News _ _ _ _ => N9); (replace N9 := N9.grown (Keeps.all K9)); (try dsimp only); (try k_sweep)))
  k_with "mine call ref" => ((with_reducible show wpAny _ _ (call (Value.ref 270) _) _ _ _); (try dsimp only); k_dflt (refine Fun.useMu (c_onwardK _ _ _ _ _ _ _ (by omega) (by omega) _ _ (by assumption)) (by k_asm) (by k_asm) (by k_asm) (by k_asm) (mem2 (by k_mem) (by k_mem)) (by k_asm) (by first | exact rfl | assumption) (by exact ⟨cr_fr (by k_asm) (by assumption), cr_fr (by k_asm) (by assumption)⟩) (by ktr_room) (by ktr_units) ?_; intro v9 h9 tk9 F9 K9 P9; obtain ⟨K9, t9, q9⟩ := P9; subst q9; (rename News _ _ _ _ => N9); (replace N9 := N9.grown (Keeps.all K9)); (try dsimp only); (try k_sweep)))
  k_with "mine binaryOp Mult ref int" => ((with_reducible show wpAny _ _ (binaryOp Operator.Mult (Value.ref _) (Value.int _ _)) _ _ _); k_dflt (refine mul_zero_list (by k_asm) (by k_asm) (by is_list) (by omega) (by omega) ?_; k_whole); intro D' h' vs' F' N' l1 hi' hl'; (try k_lt l1); (try dsimp only); (try k_sweep))
  k_with "mine binaryOp Add ref ref" => ((with_reducible show wpAny _ _ (binaryOp _ (Value.ref _) (Value.ref _)) _ _ _); k_dflt (refine kmk_add_ints (by k_asm) (by k_asm) (by exact News.isList (by k_asm) (by k_mem)) (by exact News.isList (by k_asm) (by k_mem)) (by assumption) (by assumption) ?_ (by (rw [sizeLine_eq, List.length_replicate]; omega))); intro D' ws' h' F' N' l1 hI'; (try k_lt l1); (try dsimp only); (try k_sweep))
  k_with "mine subscriptTail BinOp Slice ref ref" => ((with_reducible show wpAny _ _ (subscriptTail _ (PySem.Expr.Slice _ _ none _) (Value.ref _) (Value.ref _)) _ _ _); k_dflt (refine kmk_slice_ints (by k_asm) (by k_asm) (by kmk_list) (by kmk_part) (by kmk_part) (by assumption) (by exact kmk_upto (by assumption) (by omega)) (by exact List.length_take ..) ?_ (by with_unfolding_all rfl) (by kmk_pure) (by (refine kmk_sz (by assumption) ?_; rw [sizeLine_eq, List.length_append, List.length_replicate]; omega))); intro D' ws' h' F' N' l1 hI' hC' hL'; clear hC' hL'; (try k_lt l1); (try dsimp only); (try k_sweep))
  unfold Fun; k_fill
  intro zp zloose zmean zmg zmb zdp zun zgd zcn zcs za zccd zcl zouter zA zbase zh₀ zL zm zs zQ zE zB zF zX zN zT zhk zhpre zhd zhu hret
  have zmu := fun q hq => And.left (zN q hq)
  refine wpAny_call ?_
  k_dflt (refine' enterP ?k1 ?k2 ?k3 ?k4 ?k5 ?kA ?kF ?kK ?k6 ?k7 ?k8 ?k9 ?kB ?_ ?c2 ?c3 ?c4 ?c5; (case kA => exact rfl); (case kF => exact rfl); (case kK => assumption); (case k1 => k_asm); (case k2 => k_asm); (case k3 => k_asm); (case k4 => k_asm); (case k5 => k_asm); (case k6 => k_is); (case k7 => k_is); (case k8 => ktr_room); (case k9 => first | exact BindsTo.of_eq rfl | exact binds_K (by k_in) rfl (by k_is) rfl rfl rfl); (case c5 => decide); (case kB => exact locs rfl); (case c2 => exact rfl); (case c3 => exact rfl); (case c4 => exact rfl); k_whole)
  intro zg zL' zh' KG zFG zF' zN' zB' zX' zT'
  (try dsimp only)
  (try k_fold)
  (have zF2 := fr_lookup (l := [(Str.ofString "drawn", .int d t5), (Str.ofString "rest", .int r t4), (Str.ofString "word", .str wd t3), (Str.ofString "begun", .int b t2), (Str.ofString "odd", .int o t1)]) (by with_unfolding_all exact zF'))
  dsimp only [kstB] at zF2
  clear zF'
  have hc1 := codeRec_mu zmu KG zhpre.1 tabs_noStr
  have hc2 := codeRec_mu zmu KG zhpre.2 tabs_noStr
  dsimp only [tabsF] at zN'
  subst hwh hbits
  have hkE : EqI _ _ := hk'
  have hfE : EqI _ _ := hfl
  have hvE : EqI _ _ := hval
  have hlE : EqI _ _ := hleft
  have hqE : EqI _ _ := heq
  have hbE : EqI _ _ := hbl
  clear hk hk' hfl hval hleft heq hbl
  have hStop : Stop := .mk
  k_with "execs cons" => ((with_reducible show wpAny _ _ (execs (Stmt.Assign [Expr.Name (Str.ofString "flip") _] _ _ :: _) _) _ _ _); (rename Fr _ _ _ _ => lF'); (rename News _ _ _ _ => lN'); refine cut (σ := Int × Tok) (fun c => [(Str.ofString "flip", Value.int c.1 c.2)]) (fun c => c.1 = fl) lF' lN' ?_ ?_; (try k_fold); (rotate_left; (clear lF' lN'; rintro ⟨fl2, tf⟩ h' tk' e9 F' N'; (try dsimp only [kstB] at F'); (try dsimp only at e9); subst e9; (try dsimp only))))
  k_with "execs cons" => ((with_reducible show wpAny _ _ (execs (Stmt.If (Expr.BoolOp _ _ _) _ _ _ :: _) _) _ _ _); (rename Fr _ _ _ _ => lF'); (rename News _ _ _ _ => lN'); refine cut (σ := Unit) (fun c => []) (fun c => True) lF' lN' ?_ ?_; (try k_fold); (rotate_left; (clear lF' lN'; rintro _ h' tk' _ F' N'; (try dsimp only [kstB] at F'); (try dsimp only))))
  k_steps
  all_goals try (refine cutEndB () (by k_asm) (fun _ h => nomatch h) (fun z _ => rfl) (by k_asm) (fun _ h => h) trivial)
  all_goals try (refine cutEndB (_, _) (by k_asm) (by kst_all) (by intro z h2; simp only [List.forall_mem_cons, List.not_mem_nil, false_implies, implies_true, and_true, ne_eq] at h2; (try dsimp only); rw [if_neg h2] <;> rfl) (by k_asm) (fun _ h => h) ?_; (rw [← (show flipF o b k = fl from hfE)]; unfold flipF partF; first | rw [if_pos (by assumption)] | rw [if_neg (by assumption)]))
  unfold Hold
  (rename Fr zg _ _ _ => lF'; rename News zg _ _ _ => lN'; rename IsRange _ _ _ _ _ _ _ _ => rgX)
  refine range_loop (n := k.toNat) (σ := Unit) [Str.ofString "i", Str.ofString "place"] (fun _ => _) (fun _ => []) (fun _ _ => True) () rfl rgX ?hsm ?hn lF' lN' (fun _ h => nomatch h) trivial ?_ ?_
  (case hsm => exact small_one (by omega) (by omega) (by omega) (by omega))
  (case hn => (rw [rangeSize_nat 0 k]; omega))
  (all_goals clear lF' lN')
  · intro c I it i t m h tk hi hP hoff hu F' N'
    obtain ⟨u, rfl⟩ := hu
    (try dsimp only [kstB] at F')
    (try dsimp only)
    (try k_fold)
    have hbl : _ = k := hbE
    have hw := hword i hi
    have hpl := least_bd (place_bd (o := o) (b := b) (i := i) (by omega) (by omega))
    unfold signF at hw
    unfold leastF placeF at hw hpl
    k_steps
    all_goals (rename Fr zg _ _ _ => lF'; rename News zg _ _ _ => lN')
    all_goals unfold TurnPost
    all_goals dsimp only
    all_goals refine turnEnd () lF' lN' (.head _) (fun p hp => .tail _ hp) hoff (fun _ h => nomatch h) ?_ trivial
    all_goals
      intro z _ h3
      have h4 := h3
      simp only [List.contains_cons, List.contains_nil, Bool.or_false, Bool.or_eq_false_iff, beq_eq_false_iff_ne, ne_eq] at h4
      (try dsimp only)
      rw [if_neg h4.2, if_neg h4.1, h3]
      rfl
  · intro c u h tk _ F' N'
    (rename Stop => hStop; clear hStop)
    have hol := onP_len o r k.toNat
    have hi1 : 0 ≤ (d + b).fmod (k + 1) ∧ (d + b).fmod (k + 1) ≤ k := by
      have a1 := Int.fmod_nonneg (show 0 ≤ d + b by omega) (show 0 ≤ k + 1 by omega)
      have a2 := Int.fmod_lt_of_pos (d + b) (show 0 < k + 1 by omega)
      omega
    dsimp only [LevOk, dueF] at hl1 hl2
    (try dsimp only [kstB] at F')
    (try dsimp only)
    (try k_fold)
    k_steps
    (rename Fr zg _ _ _ => lF'; rename News zg _ _ _ => lN')
    exact hret _ _ _ (KG.fr lF') ⟨keeps_butN zmu KG lF' lN' (last2 (by k_mem) (by k_mem)), rfl⟩
end
section
/-! all that the law asks of one odd number, in plain Lean -/
theorem c_oneO {w : World} {o : Int} {N : Nat} {res : Pairs × List (Int × Str × Int)} (hO : OddOk o N res) {b r : Int} {wd : Str} (hq : (b, wd, r) ∈ res.2) (d : Int) (hd : 0 ≤ d ∧ d ≤ 20000) (c1 c2 : Addr) (t1 t2 t3 t4 t5 : Tok) :
    Fun w 284 [.int o t1, .int b t2, .str wd t3, .int r t4, .int d t5] (tabsF c1 c2) 60 400 (TabsOk c1 c2) (fun h v h' => Keeps [] h h' ∧ v = .bool true) := by
  have h := hO.one _ hq
  dsimp only at h
  obtain ⟨k, fl, whole, bits, a1, a2, a3, a4, a5, a6, a7, a8, a9, a10, a11, a12, a13, a14, a15, a16, a17, a18, a19, a20⟩ := h.one
  have hb := h.hb
  have hi : ∀ i : Int, 0 ≤ i → i ≤ k → LevOk o k fl r wd i := fun i h0 h1 => by
    obtain ⟨j, rfl⟩ := Int.eq_ofNat_of_zero_le h0
    exact a19 j (by omega)
  exact c_one w o b r d k fl whole wd bits c1 c2 t1 t2 t3 t4 t5 hO.ho h.hb hd hO.hD h.hp1 h.hg a1 a2 a3 a4 a5 a6 a7 a8 a9 a10 a11 a12 a13 a14 a15 a16 a17 a18
    (hi _ (Int.fmod_nonneg (by omega) (by omega)) (by have := Int.fmod_lt_of_pos (d + b) (show 0 < k + 1 by omega); omega)) (hi _ (by omega) (Int.le_refl _)) a20
end
section
noncomputable abbrev ledL (w : World) (tk : Tok) (n : Nat) (tb dx l R : Addr) (refs : List Value) (nn : Nat) (rrefs : List Value) (rn : Nat) (p1 p2 c1 c2 : Addr × Obj) (X : List (Addr × Obj)) : List (Addr × Obj) :=
  (tb, instObj 238 dx) :: (dx, dictOf (hdrOf w tk l) n) :: (l, listOf (List.toArray refs) nn) :: (R, listOf (List.toArray rrefs) rn) :: (54, tabObj (tabF 36 p1.1)) :: (61, tabObj (tabF 51 p2.1)) :: p1 :: p2 :: c1 :: c2 :: X
theorem rnd_news {w : World} {tk : Tok} {n nn0 : Nat} {tb dx l L : Addr} {h₀ h h' : Heap} {m : Str → Option Value} {news : List (Addr × Obj)} {res : Pairs × List (Int × Str × Int)} {v : Value} {c1 c2 : Addr × Obj} {v1 v2 : Option Value} (F : Fr h₀ L h m) (N : News h₀ L h news)
    (mb : (tb, instObj 238 dx) ∈ news) (md : (dx, dictOf (hdrOf w tk l) n) ∈ news) (ml : (l, listOf #[] nn0) ∈ news) (m5 : (54, tabObj #[]) ∈ news) (m6 : (61, tabObj #[]) ∈ news) (k1 : c1 ∈ news) (k2 : c2 ∈ news) (d1 : c1.2.data = .cell v1) (d2 : c2.2.data = .cell v2)
    (P : RndPost l res h v h') : ∃ (R : Addr) (refs : List Value) (nn : Nat) (rrefs : List Value) (rn : Nat) (X : List (Addr × Obj)) (p1 p2 : Addr × Obj), v = .ref R ∧ News h₀ L h' (ledL w tk n tb dx l R refs nn rrefs rn p1 p2 c1 c2 X) ∧ TailOk (some (p1, p2)) X ∧
      (∃ tups, TupsOf tups refs res.1 ∧ ∀ p ∈ tups, p ∈ X) ∧ (∃ tups, RndsOf tups rrefs res.2 ∧ ∀ p ∈ tups, p ∈ X) ∧ Lens res.1 ∧ (∀ q ∈ news, q.1 ≠ R ∧ q.1 ≠ p1.1 ∧ q.1 ≠ p2.1 ∧ ∀ p ∈ X, p.1 ≠ q.1) := by
  obtain ⟨R, refs, nn, rrefs, rn, X, p1, p2, e, hnew, gl, g5, g6, hO, hT, hRn, hL, K⟩ := P
  have nf : ∀ {q r : Addr × Obj}, q ∈ news → r ∈ news → q.2 ≠ r.2 → q.1 ≠ r.1 := fun hq hr hne e => hne (by rw [news_fun N hq hr e])
  have old : ∀ (q : Addr × Obj), q ∈ news → q.2 ≠ listOf #[] nn0 → q.2 ≠ tabObj #[] → q.1 ∉ [l, 54, 61] := fun q hq e1 e2 hm => by
    simp only [List.mem_cons, List.not_mem_nil, or_false] at hm
    rcases hm with hm | hm | hm
    · exact nf hq ml e1 hm
    · exact nf hq m5 e2 hm
    · exact nf hq m6 e2 hm
  refine ⟨R, refs, nn, rrefs, rn, X, p1, p2, e, news_step F N K fun q hq => ?_, hO, hT, hRn, hL, fun q hq => ⟨(new_ne N (hnew _ (.head _)).2 q hq).symm, (new_ne N (hnew _ (.tail _ (.head _))).2 q hq).symm, (new_ne N (hnew _ (.tail _ (.tail _ (.head _)))).2 q hq).symm, fun p hp => new_ne N (hnew _ (.tail _ (.tail _ (.tail _ hp)))).2 q hq⟩⟩
  rcases List.mem_cons.mp hq with rfl | hq
  · exact .inl ⟨mb, old _ mb (fun e => absurd (congrArg Obj.cls e) (by simp)) (fun e => absurd (congrArg Obj.cls e) (by simp))⟩
  rcases List.mem_cons.mp hq with rfl | hq
  · exact .inl ⟨md, old _ md (fun e => absurd (congrArg Obj.cls e) (by simp)) (fun e => absurd (congrArg Obj.cls e) (by simp))⟩
  rcases List.mem_cons.mp hq with rfl | hq
  · exact .inr ⟨gl, .inr ⟨_, ml⟩⟩
  rcases List.mem_cons.mp hq with rfl | hq
  · exact .inr ⟨(hnew _ (.head _)).1, .inl (hnew _ (.head _)).2⟩
  rcases List.mem_cons.mp hq with rfl | hq
  · exact .inr ⟨g5, .inr ⟨_, m5⟩⟩
  rcases List.mem_cons.mp hq with rfl | hq
  · exact .inr ⟨g6, .inr ⟨_, m6⟩⟩
  rcases List.mem_cons.mp hq with rfl | hq
  · exact .inr ⟨(hnew _ (.tail _ (.head _))).1, .inl (hnew _ (.tail _ (.head _))).2⟩
  rcases List.mem_cons.mp hq with rfl | hq
  · exact .inr ⟨(hnew _ (.tail _ (.tail _ (.head _)))).1, .inl (hnew _ (.tail _ (.tail _ (.head _)))).2⟩
  rcases List.mem_cons.mp hq with rfl | hq
  · exact .inl ⟨k1, old _ k1 (fun e => by rw [e] at d1; cases d1) (fun e => by rw [e] at d1; cases d1)⟩
  rcases List.mem_cons.mp hq with rfl | hq
  · exact .inl ⟨k2, old _ k2 (fun e => by rw [e] at d2; cases d2) (fun e => by rw [e] at d2; cases d2)⟩
  · exact .inr ⟨(hnew _ (.tail _ (.tail _ (.tail _ hq)))).1, .inl (hnew _ (.tail _ (.tail _ (.tail _ hq)))).2⟩
end
section
section
variable {prog : Program} {w : World} {A : Around} {E : Value → Shared → Prop} {s : Shared} {env : Env} {h₀ : Heap} {target : Expr} {body : List Stmt} {Q : Flow → Shared → Prop}
theorem list_loop2 {σ : Type} {l : Addr} {n : Nat} {vs : List Value} {m₀ : Str → Option Value} (stored : List Str) (Led : σ → List (Addr × Obj)) (ps : σ → List (Str × Value)) (P : List Value → σ → Prop) (c₀ : σ)
    (hh : A.handled = none) (F : Fr h₀ env.locals s.heap m₀) (N : News h₀ env.locals s.heap (Led c₀)) (hm : ∀ c, (l, listOf vs.toArray n) ∈ Led c) (hk : ∀ p ∈ ps c₀, m₀ p.1 = some p.2) (h0 : P vs c₀)
    (turn : ∀ (c : σ) (I : Addr) (it : Obj) (v : Value) (r : List Value) (u : Str → Option Value) (h : Heap) (tk : Nat), it.cls = .type "list_iterator" → P (v :: r) c → (∀ p ∈ Led c, p.1 ≠ I) → Fr h₀ env.locals h (kstB (fun z => if stored.contains z then u z else m₀ z) (ps c)) → News h₀ env.locals h ((I, it) :: Led c) →
      wpAny (model prog w) A (assign target env v) (fun _ s₂ => wpAny (model prog w) A (execs body env) (TurnPost h₀ env.locals I it stored m₀ Led ps (P r) { s with heap := h, toks := tk } Q) E s₂) E { s with heap := h, toks := tk })
    (done : ∀ (c : σ) (u : Str → Option Value) (h : Heap) (tk : Nat), P [] c → Fr h₀ env.locals h (kstB (fun z => if stored.contains z then u z else m₀ z) (ps c)) → News h₀ env.locals h (Led c) → Q .next { s with heap := h, toks := tk }) :
    wpAny (model prog w) A (pyIter (.ref l)) (fun it s₂ => TurnsAt prog w A h₀ env target body Q E it s₂) E s := by
  refine iter_listTurns hh F N (hm c₀) rfl rfl fun I hI0 => ?_
  have key : ∀ (xs : List Value) (m : Str → Option Value) (c : σ), (∀ p ∈ Led c, p.1 ≠ I) → (∀ p ∈ ps c, m p.1 = some p.2) → (∀ z, (∀ p ∈ ps c, z ≠ p.1) → stored.contains z = false → m z = m₀ z) → P xs c →
      ItemsRest prog w A E h₀ env target body Q s [(I, "list_iterator")] [(l, listOf vs.toArray n)] (xs.map .val) m (Led c) := by
    intro xs
    induction xs with
    | nil => exact fun m c _ h1 h2 hp h tk F N => done c m h tk hp (ksw_fr h1 h2 F) N
    | cons v r ih =>
      intro m c ho h1 h2 hp
      refine ItemsRest.val fun h tk F => AllObj.cons fun it hit => AllObj.nil fun N => ?_
      refine wpAny_mono (turn c I it v r m h tk hit hp ho (ksw_fr h1 h2 F) N) (fun _ s₂ q => wpAny_mono q (fun f s₃ q => ?_) fun _ _ e => e) fun _ _ e => e
      have fin : TurnEnd h₀ env.locals I it stored m₀ Led ps (P r) { s with heap := h, toks := tk } s₃ → UnrEndW h₀ env.locals { s with heap := h, toks := tk } [(I, it)] (fun m' n' => SubL [(l, listOf vs.toArray n)] n' ∧ ItemsRest prog w A E h₀ env target body Q s [(I, "list_iterator")] [(l, listOf vs.toArray n)] (r.map .val) m' n') s₃ := by
        rintro ⟨c', h', tk', m', news', rfl, F', N', hI, hn, hne, hk', hr', hp'⟩
        refine ⟨h', tk', m', Led c', rfl, F', fun p hp => ?_, fun p hp q hq => ?_, ⟨hm c', trivial⟩, ih m' c' hne hk' hr' hp'⟩
        · rcases List.mem_append.mp hp with hp | hp
          · rw [List.mem_singleton.mp hp]; exact N' _ hI
          · exact N' _ (hn p hp)
        · rw [List.mem_singleton.mp hq]; exact hne p hp
      cases f with
      | ret v => exact q
      | brk => exact q
      | next => exact fin q
      | cont => exact fin q
  exact key vs m₀ c₀ (fun p hp => Nat.ne_of_lt (hI0 p hp)) hk (fun _ _ _ => rfl) h0
end
section
variable {prog : Program} {w : World} {A : Around} {E : Value → Shared → Prop} {s : Shared} {env : Env} {h₀ : Heap} {target : Expr} {body : List Stmt} {Q : Flow → Shared → Prop}
/-- a loop over a list of the ledger that turns one cell: the ledger is U, the cell, V -/
theorem cell_loop {U V : List (Addr × Obj)} {cb : Addr} {ob : Obj} {l : Addr} {n : Nat} {vs : List Value} {m₀ : Str → Option Value} (stored : List Str) (P : List Value → Obj → Prop)
    (hh : A.handled = none) (F : Fr h₀ env.locals s.heap m₀) (N : News h₀ env.locals s.heap (U ++ (cb, ob) :: V)) (hm : (l, listOf vs.toArray n) ∈ U) (h0 : P vs ob)
    (turn : ∀ (c : Obj) (I : Addr) (it : Obj) (v : Value) (r : List Value) (u : Str → Option Value) (h : Heap) (tk : Nat), it.cls = .type "list_iterator" → P (v :: r) c → (∀ p ∈ U ++ (cb, c) :: V, p.1 ≠ I) → Fr h₀ env.locals h (fun z => if stored.contains z then u z else m₀ z) → News h₀ env.locals h ((I, it) :: (U ++ (cb, c) :: V)) →
      wpAny (model prog w) A (assign target env v) (fun _ s₂ => wpAny (model prog w) A (execs body env) (TurnPost h₀ env.locals I it stored m₀ (fun o => U ++ (cb, o) :: V) (fun _ => []) (P r) { s with heap := h, toks := tk } Q) E s₂) E { s with heap := h, toks := tk })
    (done : ∀ (c : Obj) (u : Str → Option Value) (h : Heap) (tk : Nat), P [] c → Fr h₀ env.locals h (fun z => if stored.contains z then u z else m₀ z) → News h₀ env.locals h (U ++ (cb, c) :: V) → Q .next { s with heap := h, toks := tk }) :
    wpAny (model prog w) A (pyIter (.ref l)) (fun it s₂ => TurnsAt prog w A h₀ env target body Q E it s₂) E s :=
  list_loop2 stored (fun o => U ++ (cb, o) :: V) (fun _ => []) P ob hh F N (fun c => List.mem_append_left _ hm) (fun _ h => nomatch h) h0 turn done
end
/-! `alike`: only how many -/
noncomputable def AlInv (X : List (Addr × Obj)) (all : List (Int × Str × Int)) (f : (Int × Str × Int) → Bool) (r ys : List Value) : Prop :=
  ∃ ts qs, RndsOf ts r qs ∧ (∀ p ∈ ts, p ∈ X) ∧ (∀ q ∈ qs, q ∈ all) ∧ ys.length + (qs.filter f).length = (all.filter f).length
theorem AlInv.yes {X : List (Addr × Obj)} {all : List (Int × Str × Int)} {f : (Int × Str × Int) → Bool} {ts : List (Addr × Obj)} {qs : List (Int × Str × Int)} {q : Int × Str × Int} {p : Addr × Obj} {r ys : List Value} {y : Value} (hr : RndsOf ts r qs) (h1 : ∀ p' ∈ p :: ts, p' ∈ X) (h2 : ∀ q' ∈ q :: qs, q' ∈ all)
    (e : ys.length + ((q :: qs).filter f).length = (all.filter f).length) (h : f q = true) : AlInv X all f r (ys ++ [y]) :=
  ⟨ts, qs, hr, fun p hp => h1 p (.tail _ hp), fun q hq => h2 q (.tail _ hq), by rw [← e, List.filter_cons_of_pos h]; simp only [List.length_append, List.length_cons, List.length_nil]; omega⟩
theorem AlInv.no {X : List (Addr × Obj)} {all : List (Int × Str × Int)} {f : (Int × Str × Int) → Bool} {ts : List (Addr × Obj)} {qs : List (Int × Str × Int)} {q : Int × Str × Int} {p : Addr × Obj} {r ys : List Value} (hr : RndsOf ts r qs) (h1 : ∀ p' ∈ p :: ts, p' ∈ X) (h2 : ∀ q' ∈ q :: qs, q' ∈ all)
    (e : ys.length + ((q :: qs).filter f).length = (all.filter f).length) (h : ¬ f q = true) : AlInv X all f r ys :=
  ⟨ts, qs, hr, fun p hp => h1 p (.tail _ hp), fun q hq => h2 q (.tail _ hq), by rw [← e, List.filter_cons_of_neg h]⟩
theorem sum_bd : ∀ (l : List Int), 0 ≤ (List.map (fun k' => Int.fmod k' 1000) l).sum ∧ (List.map (fun k' => Int.fmod k' 1000) l).sum ≤ 1000 * l.length
  | [] => by simp
  | a :: l => by
    have h := sum_bd l
    have h1 := (show 0 ≤ Int.fmod a 1000 by rw [Int.fmod_eq_emod_of_nonneg a (by decide)]; exact Int.emod_nonneg a (by decide))
    have h2 := Int.fmod_lt_of_pos a (show (0 : Int) < 1000 by decide)
    simp only [List.map_cons, List.sum_cons, List.length_cons]
    omega
theorem re_swap {w : World} {c : Nat} (hc : c ∈ signs) : reOk (hd.heap_39 w.params) 103 (Txt.lower (Txt.swapcase ⟨#[c]⟩)) = true := by
  rw [swap_sign c hc, ← lower_sign c hc]
  obtain ⟨items, n, sl, el, h⟩ := code103 w
  exact reOk_at el (h c hc).2
theorem strs_one {x : Str} : ∀ {ys : List Value}, StrsAre ys [x] → ∃ t, ys = [.str x t]
  | [_], ⟨⟨t, e⟩, _⟩ => ⟨t, by rw [e]⟩
  | [], h => nomatch h
  | _ :: _ :: _, ⟨_, h⟩ => nomatch h
theorem ne_one_str {prog : Program} {w : World} {A : Around} {E : Value → Shared → Prop} {s : Shared} {h₀ : Heap} {L : Addr} {news : List (Addr × Obj)} {a b : Addr} {x : Str} {t u : Tok} {o1 o2 : Obj} {n1 n2 : Nat} {Q : Value → Shared → Prop} (N : News h₀ L s.heap news) (h1 : (a, o1) ∈ news) (h2 : (b, o2) ∈ news)
    (c1 : o1.cls = .type "list") (c2 : o2.cls = .type "list") (d1 : o1.data = .seq #[.str x t] n1) (d2 : o2.data = .seq #[.str x u] n2) (hok : PyData.strOk x = true) (hu : A.units + 64 < cLine) (h : Q (.bool false) s) : wpAny (model prog w) A (compareOp .NotEq (.ref a) (.ref b)) Q E s := by
  have ra : Reads s.heap (.ref a) (.list [.str x]) [a] := reads_newData (ys := [.str x t]) ⟨o1, (N _ h1).1, c1, n1, d1⟩ (.cons (.str x t) .nil)
  have rb : Reads s.heap (.ref b) (.list [.str x]) [b] := reads_newData (ys := [.str x u]) ⟨o2, (N _ h2).1, c2, n2, d2⟩ (.cons (.str x u) .nil)
  have sh : SeqAt.shaped (.list [.str x]) = true := by simp [SeqAt.shaped, PyData.canLay0, PyData.canLayAll0, PyData.depth, PyData.depthAll, hok]
  exact ne_dataH ra rb sh sh hu (by simpa [PyData.eqv, PyData.eqvAll] using h)
theorem num_ok {b : Int} (h1 : 1 ≤ b) (h2 : b ≤ 16) : PyData.strOk (Str.ofString (toString b)) = true := by
  have h : ∀ b ∈ nums, PyData.strOk (Str.ofString (toString b)) = true := by decide +kernel
  exact h b (num_of h1 h2)
theorem off_cell {U V : List (Addr × Obj)} {cb I : Addr} {c c' : Obj} (h : ∀ p ∈ U ++ (cb, c) :: V, p.1 ≠ I) : ∀ p ∈ U ++ (cb, c') :: V, p.1 ≠ I := fun p hp => by
  rcases List.mem_append.mp hp with hp | hp
  · exact h p (List.mem_append_left _ hp)
  · rcases List.mem_cons.mp hp with rfl | hp
    · exact h (cb, c) (List.mem_append_right _ (.head _))
    · exact h p (List.mem_append_right _ (.tail _ hp))
end
section
section
open PyProof.Rows.LCg
/-- a comprehension without a test over the values of an array, by an invariant -/
theorem compU_all {prog : Program} {w : World} {A : Around} {h₀ : Heap} {L : Addr} {m : Str → Option Value} {env : Env} {elt : Expr} {x : Str} {scope : Scope} {cl : List (Str × Addr)} {s : Shared} {S : List (Addr × Obj) → Prop} {Fin : List Value → List (Addr × Obj) → Prop} {its : Array Value} {led : List (Addr × Obj)}
    (Inv : List Value → List Value → Prop)
    (turn : ∀ v r ys I oI C oC D m₂ h tk (E' : Value → Shared → Prop), Inv (v :: r) ys → NsObj oC m₂ → m₂ x = some v → Fr h₀ L h m → News h₀ L h ((I, oI) :: (C, oC) :: (D, lst ys) :: led) → Off3 I C D led → ((@Ne Nat I C) ∧ (@Ne Nat I D) ∧ (@Ne Nat C D)) →
      wpAny (model prog w) A (eval elt (compEnvC scope cl C env)) (CompEnd h₀ L m { s with heap := h, toks := tk } I oI C oC D (lst ys) S (fun y news' => news' = led ∧ Inv r (ys ++ [y]))) E' { s with heap := h, toks := tk })
    (h0 : Inv its.toList []) (fin : ∀ ys, Inv [] ys → Fin ys led) :
    CompRest prog w A h₀ L m env elt x scope cl s S (fun i v => its[i]? = some v) Fin its.size 0 [] led := by
  have key : ∀ (k i : Nat) (ys : List Value), i + k = its.size → Inv (its.toList.drop i) ys → CompRest prog w A h₀ L m env elt x scope cl s S (fun i v => its[i]? = some v) Fin k i ys led := by
    intro k
    induction k with
    | zero =>
      intro i ys hi hv
      refine CompRest.zero (fin ys ?_)
      rw [List.drop_eq_nil_of_le (by rw [Array.length_toList]; omega)] at hv
      exact hv
    | succ k ih =>
      intro i ys hi hv
      refine CompRest.succ fun v I oI C oC D m₂ h tk E' hp hC hx F N o3 ne => ?_
      have hd : its.toList.drop i = v :: its.toList.drop (i + 1) := by
        have hlt : i < its.toList.length := by rw [Array.length_toList]; omega
        rw [List.drop_eq_getElem_cons hlt]
        have : its[i]? = some its.toList[i] := by rw [← Array.getElem?_toList, List.getElem?_eq_getElem hlt]
        rw [this] at hp
        rw [Option.some.inj hp]
      rw [hd] at hv
      refine wpAny_mono (turn v _ ys I oI C oC D m₂ h tk E' hv hC hx F N o3 ne) (fun y s'' q => CompEnd.map q fun n hn => ?_) fun _ _ e => e
      obtain ⟨rfl, hn⟩ := hn
      exact ih (i + 1) _ (by omega) hn
  exact key its.size 0 [] (by omega) h0
end
/-! the words of the rounds -/
noncomputable def WdInv (X : List (Addr × Obj)) (all : List (Int × Str × Int)) (r ys : List Value) : Prop :=
  ∃ ts qs a, RndsOf ts r qs ∧ (∀ p ∈ ts, p ∈ X) ∧ StrsAre ys a ∧ all.map (·.2.1) = a ++ qs.map (·.2.1)
theorem WdInv.snoc {X : List (Addr × Obj)} {all : List (Int × Str × Int)} {ts : List (Addr × Obj)} {qs : List (Int × Str × Int)} {q : Int × Str × Int} {p : Addr × Obj} {r ys : List Value} {a : List Str} {u : Tok} (hr : RndsOf ts r qs) (h1 : ∀ p' ∈ p :: ts, p' ∈ X) (hS : StrsAre ys a)
    (e : all.map (·.2.1) = a ++ (q :: qs).map (·.2.1)) : WdInv X all r (ys ++ [.str q.2.1 u]) :=
  ⟨ts, qs, a ++ [q.2.1], hr, fun p hp => h1 p (.tail _ hp), hS.snoc, by rw [e]; simp⟩
theorem strs_lib : ∀ {ys : List Value} {l : List Str}, StrsAre ys l → PyProof.Rows.StrsAre ys l
  | [], [], _ => .nil
  | [], _ :: _, h => nomatch h
  | _ :: _, [], h => nomatch h
  | v :: r, x :: l, h => by
    obtain ⟨⟨t, rfl⟩, h2⟩ := h
    exact .cons x t (strs_lib h2)
theorem sum_len : ∀ (l : List Str), (∀ y ∈ l, y.length ≤ 16) → (l.map (·.length)).sum ≤ 16 * l.length
  | [], _ => by simp
  | a :: l, h => by
    have h1 := sum_len l fun y hy => h y (.tail _ hy)
    have h2 := h a (.head _)
    simp only [List.map_cons, List.sum_cons, List.length_cons]
    omega
theorem join_two {prog : Program} {w : World} {A : Around} {E : Value → Shared → Prop} {s : Shared} {h₀ : Heap} {L : Addr} {news : List (Addr × Obj)} {D : Addr} {ys : List Value} {l : List Str} {t : Tok} {Q : Value → Shared → Prop} (N : News h₀ L s.heap news) (hm : (D, PyProof.Rows.LCg.lst ys) ∈ news) (hS : StrsAre ys l)
    (hb : ∀ y ∈ l, y.length ≤ 16) (hl : l.length ≤ 40) (h : ∀ t' k, Q (.str (Txt.join (Str.ofString "") l) t') { s with toks := k }) : wpAny (model prog w) A (call (.builtin "str.join") [.str (Str.ofString "") t, .ref D]) Q E s := by
  refine PyProof.Rows.join_list (ys := l) (items := ys.toArray) ⟨_, (N _ hm).1, rfl, _, rfl⟩ (strs_lib hS) ?_ h
  have h1 := sum_len l hb
  have h2 : (Str.ofString "").length = 0 := by rw [PySem.ofString_length]; rfl
  rw [h2]
  omega
theorem eq_int_yes {prog : Program} {w : World} {A : Around} {E : Value → Shared → Prop} {s : Shared} {x y : Int} {t u : Tok} {Q : Value → Shared → Prop} (e : x = y) (h : Q (.bool true) s) : wpAny (model prog w) A (compareOp .Eq (.int x t) (.int y u)) Q E s :=
  PyProof.Rows.eq_int (by rw [show (x == y) = true by simp [e]]; exact h)
theorem eq_str_yes {prog : Program} {w : World} {A : Around} {E : Value → Shared → Prop} {s : Shared} {x y : Str} {t u : Tok} {Q : Value → Shared → Prop} (e : x = y) (h : Q (.bool true) s) : wpAny (model prog w) A (compareOp .Eq (.str x t) (.str y u)) Q E s :=
  PyProof.Rows.eq_str (by rw [show (x == y) = true by simp [e]]; exact h)
inductive Stop2 : Prop
  | mk
theorem mem3s {x y z : Addr × Obj} {ts news : List (Addr × Obj)} (h1 : x ∈ news) (h2 : y ∈ news) (h3 : z ∈ news) (h4 : ∀ p ∈ ts, p ∈ news) : ∀ p ∈ x :: y :: z :: ts, p ∈ news := by
  intro p hp
  rcases List.mem_cons.mp hp with rfl | hp
  · exact h1
  rcases List.mem_cons.mp hp with rfl | hp
  · exact h2
  rcases List.mem_cons.mp hp with rfl | hp
  · exact h3
  exact h4 p hp
end
section
local macro_rules | `(tactic| k_all) => `(tactic| assumption)
local macro_rules | `(tactic| k_mem) => `(tactic| assumption)
local macro_rules | `(tactic| k_ne) => `(tactic| (refine neN ?_; (try dsimp only); first | assumption | exact Ne.symm (by assumption)))
set_option maxRecDepth 100000 in
set_option maxHeartbeats 40000000 in
theorem law_walk : PySem.Challenge.rw_pe0283_01.Holds := hd (by
  w_top off
  k_with_none
  k_with "mine call ref" => ((with_reducible show wpAny _ _ (call (Value.ref 263) _) _ _ _); refine Hold.out ?_)
  k_with "mine call ref" => ((with_reducible show wpAny _ _ (call (Value.ref 249) _) _ _ _); k_dflt (refine Fun.use (c_shared _ _ _ _ _ (by first | omega | assumption)) (by k_asm) (by k_asm) (by k_asm) (by k_asm) (by k_asm) (by first | exact rfl | assumption) (by trivial) (by ktr_room) (by ktr_units) ?_; intro v9 h9 tk9 F9 N9 K9 P9; (try k_sweep); obtain ⟨t9, P9⟩ := P9; subst P9; (try dsimp only)))
  k_with "mine pyIter ref" => ((rename Stop => hStop9); refine Hold.out ?_)
  k_with "mine exec For" => ((with_reducible show wpAny _ _ (exec (Stmt.For (Expr.Tuple [_, _, _] _ _) (Expr.Name _ _) _ [] _) _) _ _ _); (rename Fr _ _ _ _ => lF'); (with_unfolding_all refine For_turns lF' ?_))
  k_with "mine call ref" => ((with_reducible show wpAny _ _ (call (Value.ref 284) _) _ _ _); (try dsimp only); k_dflt (refine Fun.useMu (c_oneO (by assumption) (by assumption) _ (by assumption) _ _ _ _ _ _ _) (by k_asm) (by k_asm) (by k_asm) (by k_asm) (mem2 (by k_mem) (by k_mem)) (by k_asm) (by first | exact rfl | assumption) (by exact ⟨codeRec_news (by k_asm) (by k_mem) (by assumption) (by assumption), codeRec_news (by k_asm) (by k_mem) (by assumption) (by assumption)⟩) (by ktr_room) (by ktr_units) ?_; intro v9 h9 tk9 F9 K9 P9; obtain ⟨K9, q9⟩ := P9; subst q9; (rename News _ _ _ _ => N9); (replace N9 := N9.grown (Keeps.all K9)); (try dsimp only); (try k_sweep)))
  k_with "mine exec Assign cons ListComp" => ((with_reducible show wpAny _ _ (exec (Stmt.Assign [Expr.Name (Str.ofString "alike") _] _ _) _) _ _ _); lcg_calm; k_dflt (refine LCt.Assign_ListComp_T (F₀ := by k_asm) (by rfl) (by with_unfolding_all rfl) (by with_unfolding_all rfl) (by decide) (by rfl) (by decide) (by rfl) (by rfl) (by rfl) ?_))
  k_with "mine CompSrcT" => (refine Hold.out ?_)
  k_with "mine call builtin:len" => ((with_reducible show wpAny _ _ (call (Value.builtin "len") [Value.ref _]) _ _ _); k_dflt (refine PySem.W.KM.len_K (by k_asm) (by first | exact .head _ | k_mem) (by exact List.size_toArray) (by omega) ?_))
  k_with "mine compareOp NotEq int int" => (k_dflt (refine ne_int_no (by assumption) ?_); (try dsimp only))
  k_with "mine pyIter str" => (refine Hold.out ?_)
  k_with "mine call ref" => ((with_reducible show wpAny _ _ (call (Value.ref 177) _) _ _ _); refine Hold.out ?_)
  k_with "mine call builtin:str.swapcase" => (k_dflt (refine PyProof.Rows.SCL.swapcase (Nat.le_of_ble_eq_true rfl) ?_; intro _))
  k_with "mine compareOp NotEq ref ref" => (k_dflt (refine ne_one_str (by k_asm) (by k_mem) (by k_mem) (by exact rfl) (by exact rfl) (by exact rfl) (by exact rfl) (by assumption) (by ke_room) ?_); (try dsimp only))
  k_with "mine call ref" => ((with_reducible show wpAny _ _ (call (Value.ref 190) _) _ _ _); refine Hold.out ?_)
  k_with "mine call builtin:str.join" => (refine Hold.out ?_)
  k_with "mine compareOp Eq str str" => (k_dflt (refine eq_str_yes (by assumption) ?_); (try dsimp only))
  k_with "mine eval ListComp" => ((rename Stop2 => hStop9); k_dflt (refine PyProof.Rows.LCg.ListComp_U (F₀ := by k_asm) (by with_unfolding_all rfl) (by decide) (by rfl) (by decide) (by rfl) ?_))
  k_with "mine CompSrc" => ((rename Stop2 => hStop9); refine Hold.out ?_)
  k_go0
  all_goals try k_fold
  k_steps
  unfold Hold
  (rename List Int => ns)
  (rename World => w)
  obtain ⟨N, res, hO⟩ := oddOk (List.map (fun k' => Int.fmod k' 16) (List.take 1 ns)).sum
  (rename Fr (ghostOf _ _) _ _ _ => lF')
  (rename News (ghostOf _ _) _ _ _ => lN')
  k_dflt (refine Fun.useMu (c_rounds w _ _ _ _ _ _ _ _ N res hO.ho hO.hN hO.hN2.2 hO.hD hO.hR hO.l1 hO.l2 hO.ne) (by k_asm) lF' (by k_asm) lN' (mem5 (by k_mem) (by k_mem) (by k_mem) (by k_mem) (by k_mem)) (by k_asm) rfl trivial (by ktr_room) (by ktr_units) ?_)
  intro v9 h9 tk9 F9 K9 P9
  obtain ⟨R, refs, nn, rrefs, rn, X, p1, p2, q9, N9, hTail, ⟨tups, hT1, hT2⟩, ⟨rt, hR1, hR2⟩, hLens, hne⟩ := rnd_news lF' lN' (by k_mem) (by k_mem) (by k_mem) (by k_mem) (by k_mem) (.tail _ (.tail _ (.tail _ (.tail _ (.tail _ (.tail _ (.tail _ (.head _)))))))) (.tail _ (.tail _ (.tail _ (.tail _ (.tail _ (.tail _ (.tail _ (.tail _ (.head _))))))))) (by assumption) (by assumption) P9
  subst q9
  clear P9 K9
  dsimp only [ledL] at N9
  have hXb := fun p hp => (hne _ (.tail _ (.tail _ (.tail _ (.tail _ (.tail _ (.tail _ (.tail _ (.head _))))))))).2.2.2 p hp
  have hb1 : @Ne Nat _ _ := (hne _ (.tail _ (.tail _ (.tail _ (.tail _ (.tail _ (.tail _ (.tail _ (.head _))))))))).1
  have hb2 : @Ne Nat _ _ := (hne _ (.tail _ (.tail _ (.tail _ (.tail _ (.tail _ (.tail _ (.tail _ (.head _))))))))).2.1
  have hb3 : @Ne Nat _ _ := (hne _ (.tail _ (.tail _ (.tail _ (.tail _ (.tail _ (.tail _ (.tail _ (.head _))))))))).2.2.1
  clear lF' lN' hne
  obtain ⟨a1, o1⟩ := p1
  obtain ⟨a2, o2⟩ := p2
  obtain ⟨hTup, ⟨⟨v1, u1, hd1, hs1⟩, ⟨v2, u2, hd2, hs2⟩⟩⟩ := hTail
  dsimp only at hXb hb1 hb2 hb3 N9 hd1 hd2
  have hdr := sum_bd (List.take (min 12 ns.length - 1) (List.drop 1 ns))
  have hdr2 : 0 ≤ (List.map (fun k' => Int.fmod k' 1000) (List.take (min 12 ns.length - 1) (List.drop 1 ns))).sum ∧ (List.map (fun k' => Int.fmod k' 1000) (List.take (min 12 ns.length - 1) (List.drop 1 ns))).sum ≤ 20000 := by
    have : (List.take (min 12 ns.length - 1) (List.drop 1 ns)).length ≤ 11 := by rw [List.length_take]; omega
    omega
  clear hdr
  (rename Obj.data _ = Data.cell (some (Value.int _ _)) => hcell)
  generalize hoS : (2 * Int.fmod ((List.map (fun k' => Int.fmod k' 16) (List.take 1 ns)).sum + 7) 16 + 3) = o at hO hcell
  have hoo := hO.ho
  have hStop : Stop := .mk
  (try k_sweep)
  (try dsimp only)
  k_steps
  unfold Hold
  (rename _ ≠ _ ∧ _ => hD9)
  obtain ⟨_, _, _, _, _, _, _, _, hcb9, _⟩ := hD9
  (rename Fr (ghostOf _ _) _ _ _ => lF')
  (rename News (ghostOf _ _) _ _ _ => lN')
  (with_unfolding_all refine cell_loop (U := [_, _, _, _, _, _, _, _, _]) (n := rn) (vs := rrefs) [Str.ofString "word", Str.ofString "rest", Str.ofString "alike", Str.ofString "sign"] (fun r c => ∃ ts qs, RndsOf ts r qs ∧ (∀ p ∈ ts, p ∈ X) ∧ (∀ q ∈ qs, q ∈ res.2) ∧ ∃ v, c.data = .cell v) rfl lF' lN' ?hm ?h0 ?_ ?_)
  (case hm => k_mem)
  (case h0 => exact ⟨rt, res.2, hR1, hR2, fun _ h => h, _, by assumption⟩)
  (all_goals clear lF' lN')
  · intro c I it v r u h tk hit hP hoff F' N'
    obtain ⟨ts, qs, hP, h1, h2, vb, hvb⟩ := hP
    cases hP
    rename_i ta bg rs wd tb tw tr ts' qs' hP'
    have hq := h2 _ (.head _)
    have hmem := h1 _ (.head _)
    simp only [List.cons_append, List.nil_append] at N'
    have o9 := allNe_of hoff
    simp only [List.cons_append, List.nil_append, AllNe] at o9
    (try dsimp only)
    (try k_fold)
    (rename Stop => hS; clear hS)
    k_steps
    unfold Hold
    (rename Fr (ghostOf _ _) _ _ _ => lF')
    (rename News (ghostOf _ _) _ _ _ => lN')
    have hrl : rrefs.length ≤ 40 := by rw [hR1.len]; exact hO.l2
    have hbg := (hO.one _ hq).hb
    dsimp only at hbg
    refine LCt.CompSrcT.ledger (by rfl) lF' lN' (by k_mem) (by size_fits) fun g' => compT_all (AlInv X res.2 (fun q => decide (gcdF (o.toNat + 1) q.1 o = gcdF (o.toNat + 1) bg o))) ?_ ⟨rt, res.2, hR1, hR2, fun _ h => h, by simp⟩ ?_
    · intro v r9 ys9 I9 oI9 C9 oC9 D9 m₂ h9 tk9 E' hI hC hx F' N' o3 ne
      clear lF' lN'
      obtain ⟨ts9, qs9, hP9, hX9, hQ9, hE9⟩ := hI
      cases hP9
      rename_i a9 b9 x9 w9 t9 u9 v9 tt9 qq9 hr9
      have hm9 := hX9 _ (.head _)
      have hb9 := (hO.one _ (hQ9 _ (.head _))).hb
      dsimp only at hb9
      have o39 := o3
      (try simp only [PyProof.Rows.LCg.Off3, and_true] at o39)
      (try dsimp only)
      k_steps
      · (rename Fr (ghostOf _ _) _ _ _ => F8)
        (rename News (ghostOf _ _) _ _ _ => N8)
        exact PyProof.Rows.LCg.CompEnd.intro F8 N8 _ (fun _ h => h) o3 (.inr ⟨_, by k_mem, rfl, _, rfl⟩) ⟨rfl, AlInv.yes hr9 hX9 hQ9 hE9 (decide_eq_true (by assumption))⟩
      · (rename Fr (ghostOf _ _) _ _ _ => F8)
        (rename News (ghostOf _ _) _ _ _ => N8)
        exact PyProof.Rows.LCg.CompEnd.intro F8 N8 _ (fun _ h => h) o3 (.inr ⟨_, by k_mem, rfl, _, rfl⟩) ⟨rfl, AlInv.no hr9 hX9 hQ9 hE9 (fun e => absurd (of_decide_eq_true e) (by assumption))⟩
    · intro ys9 hI
      clear lF' lN'
      obtain ⟨ts9, qs9, hP9, hX9, hQ9, hE9⟩ := hI
      cases hP9
      intro D9 h9 tk9 F' N' o1
      have hE8 : ys9.length = (List.filter (fun q => decide (gcdF (o.toNat + 1) q.1 o = gcdF (o.toNat + 1) bg o)) res.2).length := by simpa using hE9
      have hy40 : ys9.length ≤ 40 := by rw [hE8]; exact Nat.le_trans (List.length_filter_le ..) hO.l2
      have hcnt := (hO.one _ hq).count
      dsimp only at hcnt
      rw [← hE8] at hcnt
      clear hX9 hQ9 hE9 hE8
      (try simp only [PyProof.Rows.LCg.Off1, and_true] at o1)
      (try dsimp only)
      have hwl : wd.length ≤ 16 := by
        obtain ⟨k, fl, whole, bits, _, a2, _, _, a5, _⟩ := (hO.one _ hq).one
        dsimp only at a5
        omega
      rw [show N = (o.fdiv 2 + 1 - 1).toNat by have := hO.hN; omega] at hcnt
      k_steps
      unfold Hold
      (rename Fr (ghostOf _ _) _ _ _ => lF')
      (rename News (ghostOf _ _) _ _ _ => lN')
      (with_unfolding_all refine KStt.kst_text (σ := Unit) (fun _ => _) (fun _ => []) (fun _ => True) [] (fun _ _ => True) () rfl lF' lN' trivial (fun _ h => nomatch h) trivial ?_ ?_)
      · intro c8 pre8 post8 n8 t8 u8 h8 tk8 own8 e8 hoff8 _ _ F' N'
        clear lF' lN'
        have hsg : n8 ∈ wd.cps.toList := by
          have : (n8 : Int) ∈ KStt.codes wd := by rw [e8]; simp
          unfold KStt.codes at this
          obtain ⟨k, hk, e⟩ := List.mem_map.mp this
          rwa [← Int.ofNat.inj e]
        obtain ⟨hall, hsgn⟩ := (hO.one _ hq).signs n8 hsg
        dsimp only at hall
        (try dsimp only [kstB] at F')
        (try dsimp only)
        (try k_fold)
        k_steps
        unfold Hold
        (rename Fr (ghostOf _ _) _ _ _ => lF')
        (rename News (ghostOf _ _) _ _ _ => lN')
        have hlen : (Txt.swapcase ⟨#[n8]⟩).length ≤ 16 := Nat.le_trans (PyProof.Rows.fact_swapcase _) (Nat.le_of_ble_eq_true rfl)
        (try dsimp only)
        have hPA : PairsAt _ refs res.1 := pairs_of lN' hT1 (fun p hp => by
          have hpX := hT2 p hp
          (repeat (first | exact List.mem_append_left _ hpX | refine List.Mem.tail _ ?_))) hLens
        k_dflt (refine Fun.useMu (c_getall _ _ _ _ refs res.1 _ _ _ _ _ (by rw [hT1.len]; exact Nat.le_trans hO.l1 (by decide)) hlen (re_swap hsgn)) (by k_asm) lF' (by k_asm) lN' (mem3 (by k_mem) (by k_mem) (by k_mem)) (by k_asm) rfl hPA (by ktr_room) (by ktr_units) ?_)
        intro v9 h9 tk9 F9 K9 P9
        obtain ⟨K9, ys8, ⟨D8, q9, n9, g9⟩, S9⟩ := P9
        subst q9
        rw [hall] at S9
        unfold sOf at S9
        have hok : PyData.strOk (Str.ofString (toString bg)) = true := num_ok (by omega) (by omega)
        obtain ⟨t9, rfl⟩ := strs_one S9
        have N9 := news_add lF' lN' (lN'.grown (Keeps.all K9)) n9 g9
        clear lF' lN'
        obtain ⟨N9, o9'⟩ := N9
        (try simp only [AllNe, and_true] at o9')
        (try dsimp only)
        (try k_sweep)
        k_steps
      · intro c8 u8 h8 tk8 _ _ F' N'
        clear lF' lN'
        (try dsimp only [kstB] at F')
        (try dsimp only)
        (try k_fold)
        k_steps
        (rename Fr (ghostOf _ _) _ _ _ => lF')
        (rename News (ghostOf _ _) _ _ _ => lN')
        unfold TurnPost
        dsimp only
        refine turnEnd _ lF' lN' (.tail _ (.head _)) (fun p hp => .tail _ (.tail _ hp)) (off_cell hoff) (fun _ h => nomatch h) ?_ ⟨_, _, hP', fun p hp => h1 p (.tail _ hp), fun q hq => h2 q (.tail _ hq), _, by assumption⟩
        intro z _ h3
        have h4 := h3
        simp only [List.contains_cons, List.contains_nil, Bool.or_false, Bool.or_eq_false_iff, beq_eq_false_iff_ne, ne_eq] at h4
        (try dsimp only)
        rw [if_neg h4.2.2.2, if_neg (by simp), if_neg h4.2.2.1, if_neg h4.2.1, if_neg h4.1, h3]
        rfl
  · intro c8 u8 h8 tk8 hP F' N'
    obtain ⟨_, _, _, _, _, vb, hvb⟩ := hP
    simp only [List.cons_append, List.nil_append] at N'
    (rename Stop => hS; clear hS)
    have hfl : (refs.length : Int) = o.fdiv 2 := by rw [hT1.len, hO.hN]; exact hO.total
    have hfl2 : refs.length ≤ 40 := by rw [hT1.len]; exact hO.l1
    (try dsimp only [kstB] at F')
    (try dsimp only)
    (try k_fold)
    k_steps
    unfold Hold
    (rename Fr (ghostOf _ _) _ _ _ => lF')
    (rename News (ghostOf _ _) _ _ _ => lN')
    (try dsimp only)
    k_dflt (refine Fun.useMu (c_keys _ _ _ _ refs tups res.1 _ _ _ (Nat.le_trans hfl2 (by decide)) hT1) (by k_asm) lF' (by k_asm) lN' (mem3s (by k_mem) (by k_mem) (by k_mem) (fun p hp => by have hpX := hT2 p hp; k_mem)) (by k_asm) rfl trivial (by ktr_room) (by ktr_units) ?_)
    intro v9 h9 tk9 F9 K9 P9
    obtain ⟨K9, ys8, ⟨D8, q9, n9, g9⟩, S9⟩ := P9
    subst q9
    have N9 := news_add lF' lN' (lN'.grown (Keeps.all K9)) n9 g9
    clear lF' lN'
    obtain ⟨N9, o9'⟩ := N9
    (try simp only [AllNe, and_true] at o9')
    (try dsimp only)
    (try k_sweep)
    k_steps
    unfold Hold
    (try dsimp only)
    have hml : (res.1.map (·.1)).length ≤ 40 := by rw [List.length_map]; exact hO.l1
    refine join_two N9 (.head _) S9 (fun y hy => ?_) hml fun t7 k7 => ?_
    · obtain ⟨p, hp, rfl⟩ := List.mem_map.mp hy
      exact (hLens p hp).1
    have hStop2 : Stop2 := .mk
    (try dsimp only)
    k_steps
    unfold Hold
    (rename Fr (ghostOf _ _) _ _ _ => lF')
    (rename News (ghostOf _ _) _ _ _ => lN')
    (rename Stop2 => hS; clear hS)
    have hrl : rrefs.length ≤ 40 := by rw [hR1.len]; exact hO.l2
    refine PyProof.Rows.LCg.CompSrc.ledger (by rfl) lF' lN' (by k_mem) (by size_fits) fun g' => compU_all (WdInv X res.2) ?_ ⟨rt, res.2, [], hR1, hR2, trivial, rfl⟩ ?_
    · intro v r9 ys9 I9 oI9 C9 oC9 D9 m₂ h9 tk9 E' hI hC hx F' N' o3 ne
      clear lF' lN'
      obtain ⟨ts9, qs9, a9, hP9, hX9, hS9, hE9⟩ := hI
      cases hP9
      rename_i a8 b9 x9 w9 t9 u9 v9 tt9 qq9 hr9
      have hm9 := hX9 _ (.head _)
      have o39 := o3
      (try simp only [PyProof.Rows.LCg.Off3, and_true] at o39)
      (try dsimp only)
      k_steps
      (rename Fr (ghostOf _ _) _ _ _ => F8)
      (rename News (ghostOf _ _) _ _ _ => N8)
      exact PyProof.Rows.LCg.CompEnd.intro F8 N8 _ (fun _ h => h) o3 (.inr ⟨_, by k_mem, rfl, _, rfl⟩) ⟨rfl, WdInv.snoc hr9 hX9 hS9 hE9⟩
    · intro ys9 hI
      clear lF' lN'
      obtain ⟨ts9, qs9, a9, hP9, hX9, hS9, hE9⟩ := hI
      cases hP9
      intro D9 h9 tk9 F' N' o1
      (try simp only [PyProof.Rows.LCg.Off1, and_true] at o1)
      have hE8 : a9 = res.2.map (·.2.1) := by rw [hE9]; simp
      subst hE8
      (try dsimp only)
      k_steps
      unfold Hold
      (try dsimp only)
      refine join_two N' (.head _) hS9 (fun y hy => ?_) (by rw [List.length_map]; exact hO.l2) fun t7 k7 => ?_
      · obtain ⟨q, hq, rfl⟩ := List.mem_map.mp hy
        obtain ⟨k, fl, whole, bits, _, a2, _, _, a5, _⟩ := (hO.one _ hq).one
        omega
      have hjo := hO.joined
      (try dsimp only)
      k_steps)
end
end Mine
theorem PySem.Challenge.cw_pe0283_01_holds : PySem.Challenge.rw_pe0283_01.Holds := by
  exact Mine.law_walk
