import PyProof.Rows.All
import Wide.All
import OpenK.AllK
import Wide.FinOn
import PySem.Challenge.RW_ba0042_01
open PySem PySem.W PyProof.Rows PySem.Spec PySem.Calls
set_option Elab.async false
set_option maxRecDepth 100000
set_option maxHeartbeats 0
name_quick tw8119918657739134586 for PySem.W.S.findZ by PySem.W.S.findZ_eq
name_quick tw3976722010076183465 for PySem.W.S.findZ by PySem.W.S.findZ_eq
name_quick tw6448080314894763839 for PySem.W.S.findZ by PySem.W.S.findZ_eq
name_quick tw4071324889030633612 for PySem.W.S.findZ by PySem.W.S.findZ_eq
name_quick tw5529568453561195837 for PySem.W.S.findZ by PySem.W.S.findZ_eq
name_quick tw10227693086864044499 for PySem.W.S.findZ by PySem.W.S.findZ_eq
name_quick tw18345786424863182364 for PySem.W.S.findZ by PySem.W.S.findZ_eq
name_quick tw17341736924252097559 for PySem.W.S.findZ by PySem.W.S.findZ_eq
name_quick tw6733733256287894996 for PySem.W.S.findZ by PySem.W.S.findZ_eq
name_quick tw15480198773659482676 for PySem.W.S.findZ by PySem.W.S.findZ_eq
name_quick tw14971970265804392439 for PySem.W.S.findZ by PySem.W.S.findZ_eq
name_quick tw9908251947323293946 for PySem.W.S.findZ by PySem.W.S.findZ_eq
name_quick tw16374537267813192141 for PySem.W.S.findZ by PySem.W.S.findZ_eq
name_quick tw8098380416015320538 for PySem.W.S.findZ by PySem.W.S.findZ_eq
name_quick tw14427280190107063356 for PySem.W.S.findZ by PySem.W.S.findZ_eq
name_quick tw13002492023102617099 for PySem.W.S.findZ by PySem.W.S.findZ_eq
name_quick tw8459811325457737761 for PySem.W.S.findZ by PySem.W.S.findZ_eq
name_quick tw8488268690174267210 for PySem.W.S.findZ by PySem.W.S.findZ_eq
name_quick tw1402947280878808549 for PySem.W.S.findZ by PySem.W.S.findZ_eq
name_quick tw4109823476700235019 for PySem.W.S.findZ by PySem.W.S.findZ_eq
name_quick tw14043711374191979534 for PySem.W.S.findZ by PySem.W.S.findZ_eq
name_quick tw17476080006546285661 for PySem.W.S.findZ by PySem.W.S.findZ_eq
name_quick tw6123655918767846522 for PySem.W.S.findZ by PySem.W.S.findZ_eq
name_quick tw13180171748994924942 for PySem.W.S.findZ by PySem.W.S.findZ_eq
name_quick tw7405434945208526273 for PySem.W.S.findZ by PySem.W.S.findZ_eq
name_quick tw10317580896714288900 for PySem.W.S.findZ by PySem.W.S.findZ_eq
name_quick tw9529234661008812162 for PySem.W.S.findZ by PySem.W.S.findZ_eq
name_quick tw8430678208038309684 for PySem.W.S.findZ by PySem.W.S.findZ_eq
name_quick tw18350330562280901221 for PySem.W.S.findZ by PySem.W.S.findZ_eq
name_quick tw2354135333415324597 for PySem.W.S.findZ by PySem.W.S.findZ_eq
name_quick tw8881496252177385917 for PySem.W.S.findZ by PySem.W.S.findZ_eq
name_quick tw17899373020297197333 for PySem.W.S.findZ by PySem.W.S.findZ_eq
name_quick tw3740020263889925745 for PySem.W.S.findZ by PySem.W.S.findZ_eq
name_quick tw1210750091971509897 for PySem.W.S.findZ by PySem.W.S.findZ_eq
name_quick tw4658958612460137192 for PySem.W.S.findZ by PySem.W.S.findZ_eq
name_quick tw3768068617246420682 for PySem.W.S.findZ by PySem.W.S.findZ_eq
name_quick tw7112787868492120936 for PySem.W.S.findZ by PySem.W.S.findZ_eq
name_quick tw3436264866546951355 for PySem.W.S.findZ by PySem.W.S.findZ_eq
name_quick tw17532440430192770315 for PySem.W.S.findZ by PySem.W.S.findZ_eq
name_quick tw1204117194425446250 for PySem.W.S.findZ by PySem.W.S.findZ_eq
name_quick tw10942035263794033107 for PySem.W.S.findZ by PySem.W.S.findZ_eq
name_quick tw11825729669827539873 for PySem.W.S.findZ by PySem.W.S.findZ_eq
name_quick tw15007238320947547705 for PySem.W.S.findZ by PySem.W.S.findZ_eq
name_quick tw9979284746773624096 for PySem.W.S.findZ by PySem.W.S.findZ_eq
name_quick tw10757946417298954514 for PySem.W.S.findZ by PySem.W.S.findZ_eq
name_quick tw5732905514179830355 for PySem.W.S.findZ by PySem.W.S.findZ_eq
name_quick tw5591276700874282246 for PySem.W.S.findZ by PySem.W.S.findZ_eq
name_quick tw17024950926791866790 for PySem.W.S.findZ by PySem.W.S.findZ_eq
name_quick tw15980859228951719591 for PySem.W.S.findZ by PySem.W.S.findZ_eq
name_quick tw16413963553889246368 for PySem.W.S.findZ by PySem.W.S.findZ_eq
name_quick tw16180582048198870337 for PySem.W.S.findZ by PySem.W.S.findZ_eq
name_quick tw13925586954763233925 for PySem.W.S.findZ by PySem.W.S.findZ_eq
name_quick tw4224760802259116069 for PySem.W.S.findZ by PySem.W.S.findZ_eq
name_quick tw7619357645376055252 for PySem.W.S.findZ by PySem.W.S.findZ_eq
name_quick tw14952990662201256454 for PySem.W.S.findZ by PySem.W.S.findZ_eq
name_quick tw6662432510661729299 for PySem.W.S.findZ by PySem.W.S.findZ_eq
name_quick tw12172078356533094185 for PySem.W.S.findZ by PySem.W.S.findZ_eq
name_quick tw3327986453032591115 for PySem.W.S.findZ by PySem.W.S.findZ_eq
name_quick tw14097648870716263351 for PySem.W.S.findZ by PySem.W.S.findZ_eq
name_quick tw13776390136698705113 for PySem.W.S.findZ by PySem.W.S.findZ_eq
name_quick tw8642067239939848140 for PySem.W.S.findZ by PySem.W.S.findZ_eq
name_quick tw14323765505736481980 for PySem.W.S.findZ by PySem.W.S.findZ_eq
name_quick tw7057405563618977329 for PySem.W.S.findZ by PySem.W.S.findZ_eq
name_quick tw6921937044517474411 for PySem.W.S.findZ by PySem.W.S.findZ_eq
name_quick tw2902314222560053993 for PySem.W.S.findZ by PySem.W.S.findZ_eq
name_quick tw1615719349143574890 for PySem.W.S.findZ by PySem.W.S.findZ_eq
name_quick tw13145125596335152023 for PySem.W.S.findZ by PySem.W.S.findZ_eq
name_quick tw14285029430470858289 for PySem.W.S.findZ by PySem.W.S.findZ_eq
name_quick tw11310463157757771331 for PySem.W.S.findZ by PySem.W.S.findZ_eq
name_quick tw3131671291697673992 for PySem.W.S.findZ by PySem.W.S.findZ_eq
name_quick tw6434138532213402376 for PySem.W.S.findZ by PySem.W.S.findZ_eq
name_quick tw3084380299499103534 for PySem.W.S.findZ by PySem.W.S.findZ_eq
name_quick tw618205885557783147 for PySem.W.S.findZ by PySem.W.S.findZ_eq
name_quick tw5565278806992967083 for PySem.W.S.findZ by PySem.W.S.findZ_eq
name_quick tw16349216596472256690 for PySem.W.S.findZ by PySem.W.S.findZ_eq
name_quick tw17765544955259793912 for PySem.W.S.findZ by PySem.W.S.findZ_eq
name_quick tw11328821685186248670 for PySem.W.S.findZ by PySem.W.S.findZ_eq
name_quick tw14979626087600564940 for PySem.W.S.findZ by PySem.W.S.findZ_eq
name_quick tw15562837088269578035 for PySem.W.S.findZ by PySem.W.S.findZ_eq
name_quick tw2594094664786655113 for PySem.W.S.findZ by PySem.W.S.findZ_eq
name_quick tw13915792640404377917 for PySem.W.S.findZ by PySem.W.S.findZ_eq
name_quick tw9501820088010722379 for PySem.W.S.findZ by PySem.W.S.findZ_eq
name_quick tw7573151900890175926 for PySem.W.S.findZ by PySem.W.S.findZ_eq
name_quick tw15323854079317868165 for PySem.W.S.findZ by PySem.W.S.findZ_eq
name_quick tw1886563365779066154 for PySem.W.S.findZ by PySem.W.S.findZ_eq
name_quick tw15663404670287596823 for PySem.W.S.findZ by PySem.W.S.findZ_eq
name_quick tw2011108890870493169 for PySem.W.S.findZ by PySem.W.S.findZ_eq
name_quick tw5902227825499142635 for PySem.W.S.findZ by PySem.W.S.findZ_eq
name_quick tw15766043655864335149 for PySem.W.S.findZ by PySem.W.S.findZ_eq
name_quick tw9794667896261083176 for PySem.W.S.findZ by PySem.W.S.findZ_eq
name_quick tw12290603225136948437 for PySem.W.S.findZ by PySem.W.S.findZ_eq
name_quick tw17101871299007795629 for PySem.W.S.findZ by PySem.W.S.findZ_eq
name_quick tw8902219603052485911 for PySem.W.S.findZ by PySem.W.S.findZ_eq
name_quick tw16804044748790271530 for PySem.W.S.findZ by PySem.W.S.findZ_eq
name_quick tw16869277618539721502 for PySem.W.S.findZ by PySem.W.S.findZ_eq
name_quick tw12359285113459375979 for PySem.W.S.findZ by PySem.W.S.findZ_eq
name_quick tw18211773271919218964 for PySem.W.S.findZ by PySem.W.S.findZ_eq
name_quick tw3264259588550801142 for PySem.W.S.findZ by PySem.W.S.findZ_eq
name_quick tw14311459727803291754 for PySem.W.S.findZ by PySem.W.S.findZ_eq
name_quick tw3093977132361051618 for PySem.W.S.findZ by PySem.W.S.findZ_eq
name_quick tw6624491594363574236 for PySem.W.S.findZ by PySem.W.S.findZ_eq
name_quick tw15560853006256673968 for PySem.W.S.findZ by PySem.W.S.findZ_eq
name_quick tw13581749221687468397 for PySem.W.S.findZ by PySem.W.S.findZ_eq
name_quick tw17020146562604978829 for PySem.W.S.findZ by PySem.W.S.findZ_eq
name_quick tw6426273055680023932 for PySem.W.S.findZ by PySem.W.S.findZ_eq
name_quick tw5386766301290243201 for PySem.W.S.findZ by PySem.W.S.findZ_eq
name_quick tw7503421922109321716 for PySem.W.S.findZ by PySem.W.S.findZ_eq
name_quick tw11518781747449614426 for PySem.W.S.findZ by PySem.W.S.findZ_eq
name_quick tw8075568018651887793 for PySem.W.S.findZ by PySem.W.S.findZ_eq
name_quick tw387338674003428930 for PySem.W.S.findZ by PySem.W.S.findZ_eq
name_quick tw6929956602132211858 for PySem.W.S.findZ by PySem.W.S.findZ_eq
name_quick tw17888162413812561239 for PySem.W.S.findZ by PySem.W.S.findZ_eq
name_quick tw4319705520415482375 for PySem.W.S.findZ by PySem.W.S.findZ_eq
name_quick tw1772237422875290029 for PySem.W.S.findZ by PySem.W.S.findZ_eq
name_quick tw9720828393056574044 for PySem.W.S.findZ by PySem.W.S.findZ_eq
name_quick tw1258717718454355964 for PySem.W.S.findZ by PySem.W.S.findZ_eq
name_quick tw11767421526060770920 for PySem.W.S.findZ by PySem.W.S.findZ_eq
name_quick tw1537898542681612871 for PySem.W.S.findZ by PySem.W.S.findZ_eq
name_quick tw1419416864934026935 for PySem.W.S.findZ by PySem.W.S.findZ_eq
name_quick tw7401281599722004195 for PySem.W.S.findZ by PySem.W.S.findZ_eq
name_quick tw16176465441171805009 for PySem.W.S.findZ by PySem.W.S.findZ_eq
name_quick tw14224011070414065920 for PySem.W.S.findZ by PySem.W.S.findZ_eq
name_quick tw12635813782599140982 for PySem.W.S.findZ by PySem.W.S.findZ_eq
name_quick tw13903129631018457399 for PySem.W.S.findZ by PySem.W.S.findZ_eq
name_quick tw4525517667737911620 for PySem.W.S.findZ by PySem.W.S.findZ_eq
name_quick tw15919542637913265678 for PySem.W.S.findZ by PySem.W.S.findZ_eq
name_quick tw6792406925840432001 for PySem.W.S.findZ by PySem.W.S.findZ_eq
name_quick tw6832808476680081064 for PySem.W.S.findZ by PySem.W.S.findZ_eq
name_quick tw5706481520468235054 for PySem.W.S.findZ by PySem.W.S.findZ_eq
name_quick tw6817277305950994716 for PySem.W.S.findZ by PySem.W.S.findZ_eq
name_quick tw17230556039016184743 for PySem.W.S.findZ by PySem.W.S.findZ_eq
name_quick tw10057510723706494237 for PySem.W.S.findZ by PySem.W.S.findZ_eq
name_quick tw682011567655089306 for PySem.W.S.findZ by PySem.W.S.findZ_eq
name_quick tw10964334890339321822 for PySem.W.S.findZ by PySem.W.S.findZ_eq
name_quick tw13251646731365433171 for PySem.W.S.findZ by PySem.W.S.findZ_eq
name_quick tw18123110421147349612 for PySem.W.S.findZ by PySem.W.S.findZ_eq
name_quick tw10442358123752649682 for PySem.W.S.findZ by PySem.W.S.findZ_eq
name_quick tw12945451867199242903 for PySem.W.S.findZ by PySem.W.S.findZ_eq
name_quick tw12821735335276811757 for PySem.W.S.findZ by PySem.W.S.findZ_eq
name_quick tw1706496860858754268 for PySem.W.S.findZ by PySem.W.S.findZ_eq
name_quick tw1092655722715705105 for PySem.W.S.findZ by PySem.W.S.findZ_eq
name_quick tw9951705424602377420 for PySem.W.S.findZ by PySem.W.S.findZ_eq
name_quick tw2958062672499776758 for PySem.W.S.findZ by PySem.W.S.findZ_eq
name_quick tw2759451637364818457 for PySem.W.S.findZ by PySem.W.S.findZ_eq
name_quick tw6891000109920058784 for PySem.W.S.findZ by PySem.W.S.findZ_eq
name_quick tw11313170107247368264 for PySem.W.S.findZ by PySem.W.S.findZ_eq
name_quick tw9537544019596298400 for PySem.W.S.findZ by PySem.W.S.findZ_eq
name_quick tw667198328695590252 for PySem.W.S.findZ by PySem.W.S.findZ_eq
name_quick tw13678640442995254988 for PySem.W.S.findZ by PySem.W.S.findZ_eq
name_quick tw5862295025349918931 for PySem.W.S.findZ by PySem.W.S.findZ_eq
name_quick tw3504847659760329788 for PySem.W.S.findZ by PySem.W.S.findZ_eq
name_quick tw607167704815816724 for PySem.W.S.findZ by PySem.W.S.findZ_eq
name_quick tw4318056027017086478 for PySem.W.S.findZ by PySem.W.S.findZ_eq
name_quick tw6077964660507978064 for PySem.W.S.findZ by PySem.W.S.findZ_eq
name_quick tw17164873540382356111 for PySem.W.S.findZ by PySem.W.S.findZ_eq
name_quick tw1291980286583624508 for PySem.W.S.findZ by PySem.W.S.findZ_eq
name_quick tw3105397867545767578 for PySem.W.S.findZ by PySem.W.S.findZ_eq
name_quick tw16739569085718058326 for PySem.W.S.findZ by PySem.W.S.findZ_eq
name_quick tw14420389602138693270 for PySem.W.S.findZ by PySem.W.S.findZ_eq
name_quick tw13789449189825218787 for PySem.W.S.findZ by PySem.W.S.findZ_eq
name_quick tw6090905460779295987 for PySem.W.S.findZ by PySem.W.S.findZ_eq
name_quick tw2571919107429820419 for PySem.W.S.findZ by PySem.W.S.findZ_eq
name_quick tw11863081143760314161 for PySem.W.S.findZ by PySem.W.S.findZ_eq
name_quick tw5770868932273138760 for PySem.W.S.findZ by PySem.W.S.findZ_eq
name_quick tw17300597898927385350 for PySem.W.S.findZ by PySem.W.S.findZ_eq
name_quick tw10719484529398299949 for PySem.W.S.findZ by PySem.W.S.findZ_eq
name_quick tw1102190903223815498 for PySem.W.S.findZ by PySem.W.S.findZ_eq
name_quick tw16865151637890581275 for PySem.W.S.findZ by PySem.W.S.findZ_eq
name_quick tw1735497430108182060 for PySem.W.S.findZ by PySem.W.S.findZ_eq
name_quick tw15027357560682184764 for PySem.W.S.findZ by PySem.W.S.findZ_eq
name_quick tw17325535178939296128 for PySem.W.S.findZ by PySem.W.S.findZ_eq
name_quick tw10670733350059645105 for PySem.W.S.findZ by PySem.W.S.findZ_eq
name_quick tw9674257727999782656 for PySem.W.S.findZ by PySem.W.S.findZ_eq
name_quick tw6363645014702824404 for PySem.W.S.findZ by PySem.W.S.findZ_eq
name_quick tw10028428298569065181 for PySem.W.S.findZ by PySem.W.S.findZ_eq
name_quick tw1156252341971683116 for PySem.W.S.findZ by PySem.W.S.findZ_eq
name_quick tw17804436615005485693 for PySem.W.S.findZ by PySem.W.S.findZ_eq
name_quick tw6125931036764729998 for PySem.W.S.findZ by PySem.W.S.findZ_eq
name_quick tw4434333111790514575 for PySem.W.S.findZ by PySem.W.S.findZ_eq
name_quick tw14794186070338638484 for PySem.W.S.findZ by PySem.W.S.findZ_eq
name_quick tw12488000419048109807 for PySem.W.S.findZ by PySem.W.S.findZ_eq
name_quick tw189603312586018693 for PySem.W.S.findZ by PySem.W.S.findZ_eq
name_quick tw3856783459128436802 for PySem.W.S.findZ by PySem.W.S.findZ_eq
name_quick tw10015664371746657536 for PySem.W.S.findZ by PySem.W.S.findZ_eq
name_quick tw6122645084068987007 for PySem.W.S.findZ by PySem.W.S.findZ_eq
name_quick tw18283703058932287227 for PySem.W.S.findZ by PySem.W.S.findZ_eq
name_quick tw7987952416473584550 for PySem.W.S.findZ by PySem.W.S.findZ_eq
name_quick tw347637069881736656 for PySem.W.S.findZ by PySem.W.S.findZ_eq
name_quick tw17100903815162463580 for PySem.W.S.findZ by PySem.W.S.findZ_eq
name_quick tw18220123701641295943 for PySem.W.S.findZ by PySem.W.S.findZ_eq
name_quick tw13615603153576403970 for PySem.W.S.findZ by PySem.W.S.findZ_eq
name_quick tw18263319221461684349 for PySem.W.S.findZ by PySem.W.S.findZ_eq
name_quick tw16648231224745350325 for PySem.W.S.findZ by PySem.W.S.findZ_eq
name_quick tw12392613427281201732 for PySem.W.S.findZ by PySem.W.S.findZ_eq
name_quick tw5357591511691535388 for PySem.W.S.findZ by PySem.W.S.findZ_eq
name_quick tw14837249469386935497 for PySem.W.S.findZ by PySem.W.S.findZ_eq
name_quick tw12850107946570832962 for PySem.W.S.findZ by PySem.W.S.findZ_eq
name_quick tw9673203406766833760 for PySem.W.S.findZ by PySem.W.S.findZ_eq
name_quick tw5076957145309523181 for PySem.W.S.findZ by PySem.W.S.findZ_eq
name_quick tw1041845030581493396 for PySem.W.S.findZ by PySem.W.S.findZ_eq
name_quick tw9736788993784561348 for PySem.W.S.findZ by PySem.W.S.findZ_eq
name_quick tw14023627001141898710 for PySem.W.S.findZ by PySem.W.S.findZ_eq
name_quick tw11790162104776037713 for PySem.W.S.findZ by PySem.W.S.findZ_eq
name_quick tw151948405760981731 for PySem.W.S.findZ by PySem.W.S.findZ_eq
name_quick tw17517737089405305841 for PySem.W.S.findZ by PySem.W.S.findZ_eq
name_quick tw12945968074294007009 for PySem.W.S.findZ by PySem.W.S.findZ_eq
name_quick tw3820604794100220378 for PySem.W.S.findZ by PySem.W.S.findZ_eq
name_quick tw15542503528162795033 for PySem.W.S.findZ by PySem.W.S.findZ_eq
name_quick tw13833065179229638619 for PySem.W.S.findZ by PySem.W.S.findZ_eq
name_quick tw11270796479367742343 for PySem.W.S.findZ by PySem.W.S.findZ_eq
name_quick tw18416463498863911781 for PySem.W.S.findZ by PySem.W.S.findZ_eq
name_quick tw1574873078441994576 for PySem.W.S.findZ by PySem.W.S.findZ_eq
name_quick tw9763268239775435451 for PySem.W.S.findZ by PySem.W.S.findZ_eq
name_quick tw15900120412870309639 for PySem.W.S.findZ by PySem.W.S.findZ_eq
name_quick tw8224813933742928703 for PySem.W.S.findZ by PySem.W.S.findZ_eq
name_quick tw878741703135273975 for PySem.W.S.findZ by PySem.W.S.findZ_eq
name_quick tw16326889199254633757 for PySem.W.S.findZ by PySem.W.S.findZ_eq
name_quick tw12731603968600162155 for PySem.W.S.findZ by PySem.W.S.findZ_eq
name_quick tw8708707556590381134 for PySem.W.S.findZ by PySem.W.S.findZ_eq
name_quick tw6144853644547557980 for PySem.W.S.findZ by PySem.W.S.findZ_eq
name_quick tw3365093317950918147 for PySem.W.S.findZ by PySem.W.S.findZ_eq
name_quick tw9151444980202551346 for PySem.W.S.findZ by PySem.W.S.findZ_eq
name_quick tw3442601649717412197 for PySem.W.S.findZ by PySem.W.S.findZ_eq
name_quick tw17975652961387846372 for PySem.W.S.findZ by PySem.W.S.findZ_eq
name_quick tw17520869792638436183 for PySem.W.S.findZ by PySem.W.S.findZ_eq
name_quick tw7783732958741208154 for PySem.W.S.findZ by PySem.W.S.findZ_eq
name_quick tw15207642765257501584 for PySem.W.S.findZ by PySem.W.S.findZ_eq
name_quick tw16645262185327669138 for PySem.W.S.findZ by PySem.W.S.findZ_eq
name_quick tw8732485361984058174 for PySem.W.S.findZ by PySem.W.S.findZ_eq
name_quick tw8704618095886561957 for PySem.W.S.findZ by PySem.W.S.findZ_eq
name_quick tw16349804527192203551 for PySem.W.S.findZ by PySem.W.S.findZ_eq
name_quick tw13169248704851481478 for PySem.W.S.findZ by PySem.W.S.findZ_eq
name_quick tw2951486255847992690 for PySem.W.S.findZ by PySem.W.S.findZ_eq
name_quick tw4172830789200971933 for PySem.W.S.findZ by PySem.W.S.findZ_eq
name_quick tw5345256250457102556 for PySem.W.S.findZ by PySem.W.S.findZ_eq
name_quick tw17172517015917474193 for PySem.W.S.findZ by PySem.W.S.findZ_eq
name_quick tw16223305294053301992 for PySem.W.S.findZ by PySem.W.S.findZ_eq
name_quick tw13902233598862641821 for PySem.W.S.findZ by PySem.W.S.findZ_eq
name_quick tw9787396351842916947 for PySem.W.S.findZ by PySem.W.S.findZ_eq
name_quick tw11462045893675790159 for PySem.W.S.findZ by PySem.W.S.findZ_eq
name_quick tw17768419659990539469 for PySem.W.S.findZ by PySem.W.S.findZ_eq
name_quick tw2719445374943340272 for PySem.W.S.findZ by PySem.W.S.findZ_eq
name_quick tw10470071008263537045 for PySem.W.S.findZ by PySem.W.S.findZ_eq
name_quick tw774047393022817027 for PySem.W.S.findZ by PySem.W.S.findZ_eq
name_quick tw3029339280798734089 for PySem.W.S.findZ by PySem.W.S.findZ_eq
name_quick tw5135500740108067664 for PySem.W.S.findZ by PySem.W.S.findZ_eq
name_quick tw12474551110327458352 for PySem.W.S.findZ by PySem.W.S.findZ_eq
name_quick tw16018607276475445134 for PySem.W.S.findZ by PySem.W.S.findZ_eq
name_quick tw5854881644878751223 for PySem.W.S.findZ by PySem.W.S.findZ_eq
name_quick tw12825359941727978080 for PySem.W.S.findZ by PySem.W.S.findZ_eq
name_quick tw8253183596043897158 for PySem.W.S.findZ by PySem.W.S.findZ_eq
name_quick tw14874922208557711187 for PySem.W.S.findZ by PySem.W.S.findZ_eq
name_quick tw5978237884098788730 for PySem.W.S.findZ by PySem.W.S.findZ_eq
name_quick tw5228443966233409354 for PySem.W.S.findZ by PySem.W.S.findZ_eq
name_quick tw12450158673883907302 for PySem.W.S.findZ by PySem.W.S.findZ_eq
name_quick tw4292500188555128830 for PySem.W.S.findZ by PySem.W.S.findZ_eq
name_quick tw15178963957890830189 for PySem.W.S.findZ by PySem.W.S.findZ_eq
name_quick tw11740888236361828772 for PySem.W.S.findZ by PySem.W.S.findZ_eq
name_quick tw1393629259489396696 for PySem.W.S.findZ by PySem.W.S.findZ_eq
name_quick tw6004533443673955352 for PySem.W.S.findZ by PySem.W.S.findZ_eq
name_quick tw9815968391833747819 for PySem.W.S.findZ by PySem.W.S.findZ_eq
name_quick tw16942504070071679284 for PySem.W.S.findZ by PySem.W.S.findZ_eq
name_quick tw10073347824450446311 for PySem.W.S.findZ by PySem.W.S.findZ_eq
name_quick tw2718901123391026995 for PySem.W.S.findZ by PySem.W.S.findZ_eq
name_quick tw8032284361305108907 for PySem.W.S.findZ by PySem.W.S.findZ_eq
name_quick tw6012508502120743258 for PySem.W.S.findZ by PySem.W.S.findZ_eq
name_quick tw16296994325663420285 for PySem.W.S.findZ by PySem.W.S.findZ_eq
name_quick tw1333364371103165705 for PySem.W.S.findZ by PySem.W.S.findZ_eq
name_quick tw11445135464325071761 for PySem.W.S.findZ by PySem.W.S.findZ_eq
name_quick tw17000458434675057986 for PySem.W.S.findZ by PySem.W.S.findZ_eq
name_quick tw282004115355043989 for PySem.W.S.findZ by PySem.W.S.findZ_eq
name_quick tw3470799630455053000 for PySem.W.S.findZ by PySem.W.S.findZ_eq
name_quick tw13036272033356848781 for PySem.W.S.findZ by PySem.W.S.findZ_eq
name_quick tw8047484207015712433 for PySem.W.S.findZ by PySem.W.S.findZ_eq
name_quick tw4980102563643897964 for PySem.W.S.findZ by PySem.W.S.findZ_eq
name_quick tw178441218286455893 for PySem.W.S.findZ by PySem.W.S.findZ_eq
name_quick tw17497748084772794779 for PySem.W.S.findZ by PySem.W.S.findZ_eq
name_quick tw7082770336023389322 for PySem.W.S.findZ by PySem.W.S.findZ_eq
name_quick tw2315820567201803617 for PySem.W.S.findZ by PySem.W.S.findZ_eq
name_quick tw5349121933718820234 for PySem.W.S.findZ by PySem.W.S.findZ_eq
name_quick tw16593013826814733010 for PySem.W.S.findZ by PySem.W.S.findZ_eq
name_quick tw11707371222683016368 for PySem.W.S.findZ by PySem.W.S.findZ_eq
name_quick tw15315713394281565010 for PySem.W.S.findZ by PySem.W.S.findZ_eq
name_quick tw15490439104401381959 for PySem.W.S.findZ by PySem.W.S.findZ_eq
name_quick tw11707433790658880453 for PySem.W.S.findZ by PySem.W.S.findZ_eq
name_quick tw6993175162768986339 for PySem.W.S.findZ by PySem.W.S.findZ_eq
name_quick tw16874561944515371726 for PySem.W.S.findZ by PySem.W.S.findZ_eq
name_quick tw6834602518627153040 for PySem.W.S.findZ by PySem.W.S.findZ_eq
name_quick tw7721631327575515661 for PySem.W.S.findZ by PySem.W.S.findZ_eq
name_quick tw3424931102881643321 for PySem.W.S.findZ by PySem.W.S.findZ_eq
name_quick tw3315324234476444515 for PySem.W.S.findZ by PySem.W.S.findZ_eq
name_quick tw7504490480230193789 for PySem.W.S.findZ by PySem.W.S.findZ_eq
name_quick tw2674190319118857908 for PySem.W.S.findZ by PySem.W.S.findZ_eq
name_quick tw17138261911001417010 for PySem.W.S.findZ by PySem.W.S.findZ_eq
name_quick tw1708024556718086227 for PySem.W.S.findZ by PySem.W.S.findZ_eq
name_quick tw15079194523842364033 for PySem.W.S.findZ by PySem.W.S.findZ_eq
name_quick tw10500077913531017323 for PySem.W.S.findZ by PySem.W.S.findZ_eq
name_quick tw8860024209350480642 for PySem.W.S.findZ by PySem.W.S.findZ_eq
name_quick tw16966814322356759819 for PySem.W.S.findZ by PySem.W.S.findZ_eq
name_quick tw6722154040420286063 for PySem.W.S.findZ by PySem.W.S.findZ_eq
name_quick tw4636218855388986860 for PySem.W.S.findZ by PySem.W.S.findZ_eq
name_quick tw14553827428707814869 for PySem.W.S.findZ by PySem.W.S.findZ_eq
name_quick tw1617757218408452269 for PySem.W.S.findZ by PySem.W.S.findZ_eq
name_quick tw5720267713326709755 for PySem.W.S.findZ by PySem.W.S.findZ_eq
name_quick tw8147914164515108645 for PySem.W.S.findZ by PySem.W.S.findZ_eq
name_quick tw17434858337260393937 for PySem.W.S.findZ by PySem.W.S.findZ_eq
name_quick tw16643379632663270332 for PySem.W.S.findZ by PySem.W.S.findZ_eq
name_quick tw6380782515089751550 for PySem.W.S.findZ by PySem.W.S.findZ_eq
name_quick tw10528696920762540405 for PySem.W.S.findZ by PySem.W.S.findZ_eq
name_quick tw17719373434677690450 for PySem.W.S.findZ by PySem.W.S.findZ_eq
name_quick tw14376985748213822385 for PySem.W.S.findZ by PySem.W.S.findZ_eq
name_quick tw8610040677353227653 for PySem.W.S.findZ by PySem.W.S.findZ_eq
name_quick tw4039474712603431140 for PySem.W.S.findZ by PySem.W.S.findZ_eq
name_quick tw10819683100428557426 for PySem.W.S.findZ by PySem.W.S.findZ_eq
name_quick tw10455430044892516648 for PySem.W.S.findZ by PySem.W.S.findZ_eq
name_quick tw3865406201487662470 for PySem.W.S.findZ by PySem.W.S.findZ_eq
name_quick tw558745408833754511 for PySem.W.S.findZ by PySem.W.S.findZ_eq
name_quick tw14766643958189025262 for PySem.W.S.findZ by PySem.W.S.findZ_eq
name_quick tw9413167413068371254 for PySem.W.S.findZ by PySem.W.S.findZ_eq
name_quick tw11682084944484805031 for PySem.W.S.findZ by PySem.W.S.findZ_eq
name_quick tw14108194823987119177 for PySem.W.S.findZ by PySem.W.S.findZ_eq
name_quick tw10253263316700112346 for PySem.W.S.findZ by PySem.W.S.findZ_eq
name_quick tw8770023094457601474 for PySem.W.S.findZ by PySem.W.S.findZ_eq
name_quick tw14305139224198610471 for PySem.W.S.findZ by PySem.W.S.findZ_eq
name_quick tw6711915476519705758 for PySem.W.S.findZ by PySem.W.S.findZ_eq
name_quick tw14386061602966655976 for PySem.W.S.findZ by PySem.W.S.findZ_eq
name_quick tw721709456127091705 for PySem.W.S.findZ by PySem.W.S.findZ_eq
name_quick tw16846860572762119324 for PySem.W.S.findZ by PySem.W.S.findZ_eq
name_quick tw18273839248471157720 for PySem.W.S.findZ by PySem.W.S.findZ_eq
name_quick tw16145008321745377990 for PySem.W.S.findZ by PySem.W.S.findZ_eq
name_quick tw441327347791068078 for PySem.W.S.findZ by PySem.W.S.findZ_eq
name_quick tw4090926877573551719 for PySem.W.S.findZ by PySem.W.S.findZ_eq
name_quick tw15823609455315575823 for PySem.W.S.findZ by PySem.W.S.findZ_eq
name_quick tw8172093975534723114 for PySem.W.S.findZ by PySem.W.S.findZ_eq
name_quick tw6952355047532471503 for PySem.W.S.findZ by PySem.W.S.findZ_eq
name_quick tw3355348695024010778 for PySem.W.S.findZ by PySem.W.S.findZ_eq
name_quick tw15468230090516036684 for PySem.W.S.findZ by PySem.W.S.findZ_eq
name_quick tw12233582284571471492 for PySem.W.S.findZ by PySem.W.S.findZ_eq
name_quick tw16531745337717519161 for PySem.W.S.findZ by PySem.W.S.findZ_eq
name_quick tw15894407043143930727 for PySem.W.S.findZ by PySem.W.S.findZ_eq
name_quick tw16432479971616331241 for PySem.W.S.findZ by PySem.W.S.findZ_eq
name_quick tw13871001218405608335 for PySem.W.S.findZ by PySem.W.S.findZ_eq
name_quick tw7035115661146626270 for PySem.W.S.findZ by PySem.W.S.findZ_eq
name_quick tw4936483359421988267 for PySem.W.S.findZ by PySem.W.S.findZ_eq
name_quick tw11704322186244449048 for PySem.W.S.findZ by PySem.W.S.findZ_eq
name_quick tw16180483070735683940 for PySem.W.S.findZ by PySem.W.S.findZ_eq
name_quick tw3636048126100218174 for PySem.W.S.findZ by PySem.W.S.findZ_eq
name_quick tw16292439048969090190 for PySem.W.S.findZ by PySem.W.S.findZ_eq
name_quick tw8656719876789144132 for PySem.W.S.findZ by PySem.W.S.findZ_eq
name_quick tw11891824955294080559 for PySem.W.S.findZ by PySem.W.S.findZ_eq
name_quick tw7745614565497352828 for PySem.W.S.findZ by PySem.W.S.findZ_eq
name_quick tw1697713356285980534 for PySem.W.S.findZ by PySem.W.S.findZ_eq
name_quick tw930746551332336609 for PySem.W.S.findZ by PySem.W.S.findZ_eq
name_quick tw7198390536060210744 for PySem.W.S.findZ by PySem.W.S.findZ_eq
name_quick tw3560238982266916124 for PySem.W.S.findZ by PySem.W.S.findZ_eq
name_quick tw535072334866317008 for PySem.W.S.findZ by PySem.W.S.findZ_eq
name_quick tw11036193050239951465 for PySem.W.S.findZ by PySem.W.S.findZ_eq
name_quick tw6607189417530752870 for PySem.W.S.findZ by PySem.W.S.findZ_eq
name_quick tw3953757239420563355 for PySem.W.S.findZ by PySem.W.S.findZ_eq
name_quick tw8537084889766193716 for PySem.W.S.findZ by PySem.W.S.findZ_eq
name_quick tw11013792430000457035 for PySem.W.S.findZ by PySem.W.S.findZ_eq
name_quick tw7892128664451923741 for PySem.W.S.findZ by PySem.W.S.findZ_eq
name_quick tw17344680358763864322 for PySem.W.S.findZ by PySem.W.S.findZ_eq
name_quick tw10029231156530900338 for PySem.W.S.findZ by PySem.W.S.findZ_eq
name_quick tw14530364306720264245 for PySem.W.S.findZ by PySem.W.S.findZ_eq
name_quick tw15041003319150489328 for PySem.W.S.findZ by PySem.W.S.findZ_eq
name_quick tw17532718790514356516 for PySem.W.S.findZ by PySem.W.S.findZ_eq
name_quick tw7469732015759309437 for PySem.W.S.findZ by PySem.W.S.findZ_eq
name_quick tw10352308551163946355 for PySem.W.S.findZ by PySem.W.S.findZ_eq
name_quick tw14821650378409806113 for PySem.W.S.findZ by PySem.W.S.findZ_eq
name_quick tw4042386549635913901 for PySem.W.S.findZ by PySem.W.S.findZ_eq
name_quick tw5396446701170858492 for PySem.W.S.findZ by PySem.W.S.findZ_eq
name_quick tw8206430501311747189 for PySem.W.S.findZ by PySem.W.S.findZ_eq
name_quick tw17672482021469178181 for PySem.W.S.findZ by PySem.W.S.findZ_eq
name_quick tw951843321253372498 for PySem.W.S.findZ by PySem.W.S.findZ_eq
name_quick tw2611137233208623240 for PySem.W.S.findZ by PySem.W.S.findZ_eq
name_quick tw17943406268862710625 for PySem.W.S.findZ by PySem.W.S.findZ_eq
name_quick tw900395245841561262 for PySem.W.S.findZ by PySem.W.S.findZ_eq
name_quick tw5032809538720368765 for PySem.W.S.findZ by PySem.W.S.findZ_eq
name_quick tw7323676302269181137 for PySem.W.S.findZ by PySem.W.S.findZ_eq
name_quick tw18188234029961486008 for PySem.W.S.findZ by PySem.W.S.findZ_eq
name_quick tw15168306246750427876 for PySem.W.S.findZ by PySem.W.S.findZ_eq
name_quick tw11186114360453789277 for PySem.W.S.findZ by PySem.W.S.findZ_eq
name_quick tw7399820185058455694 for PySem.W.S.findZ by PySem.W.S.findZ_eq
name_quick tw7392212959928792091 for PySem.W.S.findZ by PySem.W.S.findZ_eq
name_quick tw6789855027759293466 for PySem.W.S.findZ by PySem.W.S.findZ_eq
name_quick tw11838138170533393997 for PySem.W.S.findZ by PySem.W.S.findZ_eq
name_quick tw14934708107589980039 for PySem.W.S.findZ by PySem.W.S.findZ_eq
name_quick tw608726401823008365 for PySem.W.S.findZ by PySem.W.S.findZ_eq
name_quick tw13912434898499826684 for PySem.W.S.findZ by PySem.W.S.findZ_eq
name_quick tw16494616584097029746 for PySem.W.S.findZ by PySem.W.S.findZ_eq
name_quick tw15773981995205291829 for PySem.W.S.findZ by PySem.W.S.findZ_eq
name_quick tw4275521005467322725 for PySem.W.S.findZ by PySem.W.S.findZ_eq
name_quick tw16873187988247708562 for PySem.W.S.findZ by PySem.W.S.findZ_eq
name_quick tw2039238271031011813 for PySem.W.S.findZ by PySem.W.S.findZ_eq
name_quick tw17927501152341173432 for PySem.W.S.findZ by PySem.W.S.findZ_eq
name_quick tw7365555872484859036 for PySem.W.S.findZ by PySem.W.S.findZ_eq
name_quick tw12182807814244774211 for PySem.W.S.findZ by PySem.W.S.findZ_eq
name_quick tw15034313371233782410 for PySem.W.S.findZ by PySem.W.S.findZ_eq
name_quick tw11729385059970357855 for PySem.W.S.findZ by PySem.W.S.findZ_eq
name_quick tw6679490504615227074 for PySem.W.S.findZ by PySem.W.S.findZ_eq
name_quick tw2948108419219029167 for PySem.W.S.findZ by PySem.W.S.findZ_eq
name_quick tw3698559305507148144 for PySem.W.S.findZ by PySem.W.S.findZ_eq
name_quick tw12973657651903071711 for PySem.W.S.findZ by PySem.W.S.findZ_eq
name_quick tw9396933662098498411 for PySem.W.S.findZ by PySem.W.S.findZ_eq
name_quick tw16644606511662114574 for PySem.W.S.findZ by PySem.W.S.findZ_eq
name_quick tw9564595351457756722 for PySem.W.S.findZ by PySem.W.S.findZ_eq
name_quick tw11788150170368784547 for PySem.W.S.findZ by PySem.W.S.findZ_eq
name_quick tw3880421473898291048 for PySem.W.S.findZ by PySem.W.S.findZ_eq
name_quick tw16817318245366136608 for PySem.W.S.findZ by PySem.W.S.findZ_eq
name_quick tw16413264400604254196 for PySem.W.S.findZ by PySem.W.S.findZ_eq
name_quick tw4800724452203346748 for PySem.W.S.findZ by PySem.W.S.findZ_eq
name_quick tw12726346659333912481 for PySem.W.S.findZ by PySem.W.S.findZ_eq
name_quick tw12809422525583811893 for PySem.W.S.findZ by PySem.W.S.findZ_eq
name_quick tw11130039905162102590 for PySem.W.S.findZ by PySem.W.S.findZ_eq
name_quick tw15475462885187679331 for PySem.W.S.findZ by PySem.W.S.findZ_eq
name_quick tw1355338860687761863 for PySem.W.S.findZ by PySem.W.S.findZ_eq
name_quick tw15639390237038912859 for PySem.W.S.findZ by PySem.W.S.findZ_eq
name_quick tw11817470609975844035 for PySem.W.S.findZ by PySem.W.S.findZ_eq
name_quick tw18350638575300117064 for PySem.W.S.findZ by PySem.W.S.findZ_eq
name_quick tw10323183001455561277 for PySem.W.S.findZ by PySem.W.S.findZ_eq
name_quick tw15423634916342008072 for PySem.W.S.findZ by PySem.W.S.findZ_eq
name_quick tw6550987210724342151 for PySem.W.S.findZ by PySem.W.S.findZ_eq
name_quick tw12981051755390344553 for PySem.W.S.findZ by PySem.W.S.findZ_eq
name_quick tw325292655437039998 for PySem.W.S.findZ by PySem.W.S.findZ_eq
name_quick tw17225723684288644456 for PySem.W.S.findZ by PySem.W.S.findZ_eq
name_quick tw3695515675974049574 for PySem.W.S.findZ by PySem.W.S.findZ_eq
name_quick tw2193789692954389824 for PySem.W.S.findZ by PySem.W.S.findZ_eq
name_quick tw11935384120112590319 for PySem.W.S.findZ by PySem.W.S.findZ_eq
name_quick tw9285146279643344392 for PySem.W.S.findZ by PySem.W.S.findZ_eq
name_quick tw5950129339639070837 for PySem.W.S.findZ by PySem.W.S.findZ_eq
name_quick tw7650934615059315214 for PySem.W.S.findZ by PySem.W.S.findZ_eq
name_quick tw4558998842232669794 for PySem.W.S.findZ by PySem.W.S.findZ_eq
name_quick tw2599325451414397859 for PySem.W.S.findZ by PySem.W.S.findZ_eq
name_quick tw12679591844961189642 for PySem.W.S.findZ by PySem.W.S.findZ_eq
name_quick tw18260038339965228139 for PySem.W.S.findZ by PySem.W.S.findZ_eq
name_quick tw9396274798164621187 for PySem.W.S.findZ by PySem.W.S.findZ_eq
name_quick tw313226197891681235 for PySem.W.S.findZ by PySem.W.S.findZ_eq
name_quick tw10042830170769951172 for PySem.W.S.findZ by PySem.W.S.findZ_eq
name_quick tw8796240567053077481 for PySem.W.S.findZ by PySem.W.S.findZ_eq
name_quick tw13141144453892091621 for PySem.W.S.findZ by PySem.W.S.findZ_eq
name_quick tw14544052848187043789 for PySem.W.S.findZ by PySem.W.S.findZ_eq
name_quick tw12177649209318274912 for PySem.W.S.findZ by PySem.W.S.findZ_eq
name_quick tw12832477231654346042 for PySem.W.S.findZ by PySem.W.S.findZ_eq
name_quick tw17827458813498177553 for PySem.W.S.findZ by PySem.W.S.findZ_eq
name_quick tw9440516321747867399 for PySem.W.S.findZ by PySem.W.S.findZ_eq
name_quick tw6214688769961185500 for PySem.W.S.findZ by PySem.W.S.findZ_eq
name_quick tw3577408171920636059 for PySem.W.S.findZ by PySem.W.S.findZ_eq
name_quick tw6580340599500149305 for PySem.W.S.findZ by PySem.W.S.findZ_eq
name_quick tw7269565832213808900 for PySem.W.S.findZ by PySem.W.S.findZ_eq
name_quick tw5923252988546675246 for PySem.W.S.findZ by PySem.W.S.findZ_eq
name_quick tw16350708796919097252 for PySem.W.S.findZ by PySem.W.S.findZ_eq
name_quick tw5832503352825792928 for PySem.W.S.findZ by PySem.W.S.findZ_eq
name_quick tw16241802466949684156 for PySem.W.S.findZ by PySem.W.S.findZ_eq
name_quick tw5200128776193632040 for PySem.W.S.findZ by PySem.W.S.findZ_eq
name_quick tw4407734736301137906 for PySem.W.S.findZ by PySem.W.S.findZ_eq
name_quick tw10424941004445345732 for PySem.W.S.findZ by PySem.W.S.findZ_eq
name_quick tw15278061642289888581 for PySem.W.S.findZ by PySem.W.S.findZ_eq
name_quick tw5310036984924271277 for PySem.W.S.findZ by PySem.W.S.findZ_eq
name_quick tw14834023430324568649 for PySem.W.S.findZ by PySem.W.S.findZ_eq
name_quick tw17993156020533580102 for PySem.W.S.findZ by PySem.W.S.findZ_eq
name_quick tw7250012664060256230 for PySem.W.S.findZ by PySem.W.S.findZ_eq
name_quick tw1869930749605803152 for PySem.W.S.findZ by PySem.W.S.findZ_eq
name_quick tw3778451253796500701 for PySem.W.S.findZ by PySem.W.S.findZ_eq
name_quick tw1401972060568974870 for PySem.W.S.findZ by PySem.W.S.findZ_eq
name_quick tw15263041282635125899 for PySem.W.S.findZ by PySem.W.S.findZ_eq
name_quick tw4363180937944654056 for PySem.W.S.findZ by PySem.W.S.findZ_eq
name_quick tw17815586953681464072 for PySem.W.S.findZ by PySem.W.S.findZ_eq
name_quick tw2506853364499732696 for PySem.W.S.findZ by PySem.W.S.findZ_eq
name_quick tw12835720964997663042 for PySem.W.S.findZ by PySem.W.S.findZ_eq
name_quick tw8603108125212654177 for PySem.W.S.findZ by PySem.W.S.findZ_eq
name_quick tw4613930686462287906 for PySem.W.S.findZ by PySem.W.S.findZ_eq
name_quick tw6909570525239066004 for PySem.W.S.findZ by PySem.W.S.findZ_eq
name_quick tw8727135674562949291 for PySem.W.S.findZ by PySem.W.S.findZ_eq
name_quick tw18340240734955500558 for PySem.W.S.findZ by PySem.W.S.findZ_eq
name_quick tw16406328271908756883 for PySem.W.S.findZ by PySem.W.S.findZ_eq
name_quick tw2334299552400917057 for PySem.W.S.findZ by PySem.W.S.findZ_eq
name_quick tw9626621113073979434 for PySem.W.S.findZ by PySem.W.S.findZ_eq
name_quick tw8999186272805695465 for PySem.W.S.findZ by PySem.W.S.findZ_eq
name_quick tw17280976486791472633 for PySem.W.S.findZ by PySem.W.S.findZ_eq
name_quick tw18163462532019968843 for PySem.W.S.findZ by PySem.W.S.findZ_eq
name_quick tw6519424955469430661 for PySem.W.S.findZ by PySem.W.S.findZ_eq
name_quick tw2862820112641550484 for PySem.W.S.findZ by PySem.W.S.findZ_eq
name_quick tw7344376507651311505 for PySem.W.S.findZ by PySem.W.S.findZ_eq
name_quick tw17774800907425398282 for PySem.W.S.findZ by PySem.W.S.findZ_eq
name_quick tw8385612375773290118 for PySem.W.S.findZ by PySem.W.S.findZ_eq
name_quick tw17913803186225011329 for PySem.W.S.findZ by PySem.W.S.findZ_eq
name_quick tw13580328829973926956 for PySem.W.S.findZ by PySem.W.S.findZ_eq
name_quick tw17069979004554194336 for PySem.W.S.findZ by PySem.W.S.findZ_eq
name_quick tw8125055898148337911 for PySem.W.S.findZ by PySem.W.S.findZ_eq
name_quick tw16947794391021106201 for PySem.W.S.findZ by PySem.W.S.findZ_eq
name_quick tw8946543629884556368 for PySem.W.S.findZ by PySem.W.S.findZ_eq
name_quick tw11277716924127702174 for PySem.W.S.findZ by PySem.W.S.findZ_eq
name_quick tw17429684086410527887 for PySem.W.S.findZ by PySem.W.S.findZ_eq
name_quick tw8987815912523675519 for PySem.W.S.findZ by PySem.W.S.findZ_eq
name_quick tw13317431791736044220 for PySem.W.S.findZ by PySem.W.S.findZ_eq
name_quick tw1763209079605825380 for PySem.W.S.findZ by PySem.W.S.findZ_eq
name_quick tw15199281503961881116 for PySem.W.S.findZ by PySem.W.S.findZ_eq
name_quick tw12177639751122801600 for PySem.W.S.findZ by PySem.W.S.findZ_eq
name_quick tw9577309144901391297 for PySem.W.S.findZ by PySem.W.S.findZ_eq
name_quick tw10577563604825139066 for PySem.W.S.findZ by PySem.W.S.findZ_eq
name_quick tw6380047634161181297 for PySem.W.S.findZ by PySem.W.S.findZ_eq
name_quick tw16655555454665732581 for PySem.W.S.findZ by PySem.W.S.findZ_eq
name_quick tw16189536214700107852 for PySem.W.S.findZ by PySem.W.S.findZ_eq
name_quick tw1085346719588807367 for PySem.W.S.findZ by PySem.W.S.findZ_eq
name_quick tw17814930658547583709 for PySem.W.S.findZ by PySem.W.S.findZ_eq
name_quick tw4748654258956052638 for PySem.W.S.findZ by PySem.W.S.findZ_eq
name_quick tw9467589175468403638 for PySem.W.S.findZ by PySem.W.S.findZ_eq
name_quick tw9011979029575296479 for PySem.W.S.findZ by PySem.W.S.findZ_eq
name_quick tw11317593695737139937 for PySem.W.S.findZ by PySem.W.S.findZ_eq
name_quick tw17139780236743587250 for PySem.W.S.findZ by PySem.W.S.findZ_eq
name_quick tw8400853705098224536 for PySem.W.S.findZ by PySem.W.S.findZ_eq
name_quick tw704327219915372674 for PySem.W.S.findZ by PySem.W.S.findZ_eq
name_quick tw3209381107111851631 for PySem.W.S.findZ by PySem.W.S.findZ_eq
name_quick tw10058976618658966374 for PySem.W.S.findZ by PySem.W.S.findZ_eq
name_quick tw13236226663087606529 for PySem.W.S.findZ by PySem.W.S.findZ_eq
name_quick tw14326252917377295143 for PySem.W.S.findZ by PySem.W.S.findZ_eq
name_quick tw11306939235166856333 for PySem.W.S.findZ by PySem.W.S.findZ_eq
name_quick tw864014350265875531 for PySem.W.S.findZ by PySem.W.S.findZ_eq
name_quick tw15542691292777871779 for PySem.W.S.findZ by PySem.W.S.findZ_eq
name_quick tw219737044198020058 for PySem.W.S.findZ by PySem.W.S.findZ_eq
name_quick tw8940052437760828196 for PySem.W.S.findZ by PySem.W.S.findZ_eq
name_quick tw921073385446354868 for PySem.W.S.findZ by PySem.W.S.findZ_eq
name_quick tw17279654841073493023 for PySem.W.S.findZ by PySem.W.S.findZ_eq
name_quick tw10887116778572429059 for PySem.W.S.findZ by PySem.W.S.findZ_eq
name_quick tw9136488742655976645 for PySem.W.S.findZ by PySem.W.S.findZ_eq
name_quick tw8649964590619651473 for PySem.W.S.findZ by PySem.W.S.findZ_eq
name_quick tw6213141578215901147 for PySem.W.S.findZ by PySem.W.S.findZ_eq
name_quick tw8753696776887207221 for PySem.W.S.findZ by PySem.W.S.findZ_eq
name_quick tw5952267759425050802 for PySem.W.S.findZ by PySem.W.S.findZ_eq
name_quick tw12329403913580668285 for PySem.W.S.findZ by PySem.W.S.findZ_eq
name_quick tw9265879793445154701 for PySem.W.S.findZ by PySem.W.S.findZ_eq
name_quick tw7081425507203772304 for PySem.W.S.findZ by PySem.W.S.findZ_eq
name_quick tw12813236842856870187 for PySem.W.S.findZ by PySem.W.S.findZ_eq
name_quick tw17679261114430710190 for PySem.W.S.findZ by PySem.W.S.findZ_eq
name_quick tw10948738476641704880 for PySem.W.S.findZ by PySem.W.S.findZ_eq
name_quick tw6967401301877209104 for PySem.W.S.findZ by PySem.W.S.findZ_eq
name_quick tw11108263761283441063 for PySem.W.S.findZ by PySem.W.S.findZ_eq
name_quick tw9800571698397750058 for PySem.W.S.findZ by PySem.W.S.findZ_eq
name_quick tw12647630874787467225 for PySem.W.S.findZ by PySem.W.S.findZ_eq
name_quick tw14433975572909055671 for PySem.W.S.findZ by PySem.W.S.findZ_eq
name_quick tw12268644228514654432 for PySem.W.S.findZ by PySem.W.S.findZ_eq
name_quick tw7299303143086499733 for PySem.W.S.findZ by PySem.W.S.findZ_eq
name_quick tw9082586571710850966 for PySem.W.S.findZ by PySem.W.S.findZ_eq
name_quick tw5976474108018559520 for PySem.W.S.findZ by PySem.W.S.findZ_eq
name_quick tw18323700119837366958 for PySem.W.S.findZ by PySem.W.S.findZ_eq
name_quick tw3152983702415266003 for PySem.W.S.findZ by PySem.W.S.findZ_eq
name_quick tw10205541121877940668 for PySem.W.S.findZ by PySem.W.S.findZ_eq
name_quick tw10379131730601215995 for PySem.W.S.findZ by PySem.W.S.findZ_eq
name_quick tw4527066259768149269 for PySem.W.S.findZ by PySem.W.S.findZ_eq
name_quick tw5853609219237828028 for PySem.W.S.findZ by PySem.W.S.findZ_eq
name_quick tw17026713947507217902 for PySem.W.S.findZ by PySem.W.S.findZ_eq
name_quick tw716658179208862652 for PySem.W.S.findZ by PySem.W.S.findZ_eq
name_quick tw196644378293983589 for PySem.W.S.findZ by PySem.W.S.findZ_eq
name_quick tw2401699919119007470 for PySem.W.S.findZ by PySem.W.S.findZ_eq
name_quick tw9315938663221665524 for PySem.W.S.findZ by PySem.W.S.findZ_eq
name_quick tw4824431525194463578 for PySem.W.S.findZ by PySem.W.S.findZ_eq
name_quick tw17803129079492736432 for PySem.W.S.findZ by PySem.W.S.findZ_eq
name_quick tw6148621092414575339 for PySem.W.S.findZ by PySem.W.S.findZ_eq
name_quick tw7275051467321613617 for PySem.W.S.findZ by PySem.W.S.findZ_eq
name_quick tw16328912562034613984 for PySem.W.S.findZ by PySem.W.S.findZ_eq
name_quick tw389472881494512206 for PySem.W.S.findZ by PySem.W.S.findZ_eq
name_quick tw973662469405803806 for PySem.W.S.findZ by PySem.W.S.findZ_eq
name_quick tw17018628822417861297 for PySem.W.S.findZ by PySem.W.S.findZ_eq
name_quick tw14066793110252480789 for PySem.W.S.findZ by PySem.W.S.findZ_eq
name_quick tw5111356299099525756 for PySem.W.S.findZ by PySem.W.S.findZ_eq
name_quick tw7788680626742099145 for PySem.W.S.findZ by PySem.W.S.findZ_eq
name_quick tw13160144027095335755 for PySem.W.S.findZ by PySem.W.S.findZ_eq
name_quick tw2478078296215019888 for PySem.W.S.findZ by PySem.W.S.findZ_eq
name_quick tw17274371674624000324 for PySem.W.S.findZ by PySem.W.S.findZ_eq
name_quick tw16643706677886111943 for PySem.W.S.findZ by PySem.W.S.findZ_eq
name_quick tw12224578244612797663 for PySem.W.S.findZ by PySem.W.S.findZ_eq
name_quick tw1184552218554016812 for PySem.W.S.findZ by PySem.W.S.findZ_eq
name_quick tw13526986893379352335 for PySem.W.S.findZ by PySem.W.S.findZ_eq
name_quick tw14896874001708588922 for PySem.W.S.findZ by PySem.W.S.findZ_eq
name_quick tw8127365567907827171 for PySem.W.S.findZ by PySem.W.S.findZ_eq
name_quick tw12237943961548833269 for PySem.W.S.findZ by PySem.W.S.findZ_eq
name_quick tw17045043414572947948 for PySem.W.S.findZ by PySem.W.S.findZ_eq
name_quick tw10938465397075749097 for PySem.W.S.findZ by PySem.W.S.findZ_eq
name_quick tw7585139358526817783 for PySem.W.S.findZ by PySem.W.S.findZ_eq
name_quick tw2735471455948067141 for PySem.W.S.findZ by PySem.W.S.findZ_eq
name_quick tw17842620306162639686 for PySem.W.S.findZ by PySem.W.S.findZ_eq
name_quick tw5152784196030571298 for PySem.W.S.findZ by PySem.W.S.findZ_eq
name_quick tw13512673800721320934 for PySem.W.S.findZ by PySem.W.S.findZ_eq
name_quick tw4405960384096086239 for PySem.W.S.findZ by PySem.W.S.findZ_eq
name_quick tw17863021456227041891 for PySem.W.S.findZ by PySem.W.S.findZ_eq
name_quick tw9305782018832362445 for PySem.W.S.findZ by PySem.W.S.findZ_eq
name_quick tw1107438419126420414 for PySem.W.S.findZ by PySem.W.S.findZ_eq
name_quick tw8620020772036689432 for PySem.W.S.findZ by PySem.W.S.findZ_eq
name_quick tw15653397517822395063 for PySem.W.S.findZ by PySem.W.S.findZ_eq
name_quick tw1414301608579184545 for PySem.W.S.findZ by PySem.W.S.findZ_eq
name_quick tw12022618010286034681 for PySem.W.S.findZ by PySem.W.S.findZ_eq
name_quick tw15195428891847259777 for PySem.W.S.findZ by PySem.W.S.findZ_eq
name_quick tw2078703811421203504 for PySem.W.S.findZ by PySem.W.S.findZ_eq
name_quick tw7483462131439158144 for PySem.W.S.findZ by PySem.W.S.findZ_eq
name_quick tw10045867985992453528 for PySem.W.S.findZ by PySem.W.S.findZ_eq
name_quick tw14333388528381170442 for PySem.W.S.findZ by PySem.W.S.findZ_eq
name_quick tw9376109419431680627 for PySem.W.S.findZ by PySem.W.S.findZ_eq
name_quick tw4302124980754421698 for PySem.W.S.findZ by PySem.W.S.findZ_eq
name_quick tw6009348429639677940 for PySem.W.S.findZ by PySem.W.S.findZ_eq
name_quick tw4858009861420398278 for PySem.W.S.findZ by PySem.W.S.findZ_eq
name_quick tw6683783046931543321 for PySem.W.S.findZ by PySem.W.S.findZ_eq
name_quick tw11853533878840232495 for PySem.W.S.findZ by PySem.W.S.findZ_eq
name_quick tw1377046205977697930 for PySem.W.S.findZ by PySem.W.S.findZ_eq
name_quick tw10030586065758793078 for PySem.W.S.findZ by PySem.W.S.findZ_eq
name_quick tw4444965560193506482 for PySem.W.S.findZ by PySem.W.S.findZ_eq
name_quick tw3766158894648301139 for PySem.W.S.findZ by PySem.W.S.findZ_eq
name_quick tw16439824349840649037 for PySem.W.S.findZ by PySem.W.S.findZ_eq
name_quick tw1370275717833778536 for PySem.W.S.findZ by PySem.W.S.findZ_eq
name_quick tw11892598404827812706 for PySem.W.S.findZ by PySem.W.S.findZ_eq
name_quick tw1631149150583789468 for PySem.W.S.findZ by PySem.W.S.findZ_eq
name_quick tw3267979357774110234 for PySem.W.S.findZ by PySem.W.S.findZ_eq
name_quick tw18126140380344562322 for PySem.W.S.findZ by PySem.W.S.findZ_eq
name_quick tw7286323032743288035 for PySem.W.S.findZ by PySem.W.S.findZ_eq
name_quick tw503676674663206642 for PySem.W.S.findZ by PySem.W.S.findZ_eq
name_quick tw11625766737575182897 for PySem.W.S.findZ by PySem.W.S.findZ_eq
name_quick tw7581816359482902497 for PySem.W.S.findZ by PySem.W.S.findZ_eq
name_quick tw9236875199018929784 for PySem.W.S.findZ by PySem.W.S.findZ_eq
name_quick tw10706342367453228570 for PySem.W.S.findZ by PySem.W.S.findZ_eq
name_quick tw8450942572126056277 for PySem.W.S.findZ by PySem.W.S.findZ_eq
name_quick tw1258299570235058372 for PySem.W.S.findZ by PySem.W.S.findZ_eq
name_quick tw8989982439271903415 for PySem.W.S.findZ by PySem.W.S.findZ_eq
name_quick tw4921902886906138986 for PySem.W.S.findZ by PySem.W.S.findZ_eq
name_quick tw10181792811725400092 for PySem.W.S.findZ by PySem.W.S.findZ_eq
name_quick tw16169079960738659147 for PySem.W.S.findZ by PySem.W.S.findZ_eq
name_quick tw563124612126607214 for PySem.W.S.findZ by PySem.W.S.findZ_eq
name_quick tw7397068168572129948 for PySem.W.S.findZ by PySem.W.S.findZ_eq
name_quick tw13640514254501968386 for PySem.W.S.findZ by PySem.W.S.findZ_eq
name_quick tw12767683915131110723 for PySem.W.S.findZ by PySem.W.S.findZ_eq
name_quick tw2422670821966735624 for PySem.W.S.findZ by PySem.W.S.findZ_eq
name_quick tw5521996953922150894 for PySem.W.S.findZ by PySem.W.S.findZ_eq
name_quick tw5268983451555188008 for PySem.W.S.findZ by PySem.W.S.findZ_eq
name_quick tw8777329075199875621 for PySem.W.S.findZ by PySem.W.S.findZ_eq
name_quick tw14884601019740666482 for PySem.W.S.findZ by PySem.W.S.findZ_eq
name_quick tw17000155066101142889 for PySem.W.S.findZ by PySem.W.S.findZ_eq
name_quick tw11161088081135249708 for PySem.W.S.findZ by PySem.W.S.findZ_eq
name_quick tw13559156169165276386 for PySem.W.S.findZ by PySem.W.S.findZ_eq
name_quick tw16039550372008468697 for PySem.W.S.findZ by PySem.W.S.findZ_eq
name_quick tw11939915149646268982 for PySem.W.S.findZ by PySem.W.S.findZ_eq
name_quick tw17001327861769816259 for PySem.W.S.findZ by PySem.W.S.findZ_eq
name_quick tw4978915544186085027 for PySem.W.S.findZ by PySem.W.S.findZ_eq
name_quick tw4549333791460862111 for PySem.W.S.findZ by PySem.W.S.findZ_eq
name_quick tw5701610774189311196 for PySem.W.S.findZ by PySem.W.S.findZ_eq
name_quick tw11333186260410459676 for PySem.W.S.findZ by PySem.W.S.findZ_eq
name_quick tw3094477031063562474 for PySem.W.S.findZ by PySem.W.S.findZ_eq
name_quick tw17475289236778735526 for PySem.W.S.findZ by PySem.W.S.findZ_eq
name_quick tw13335737130258781183 for PySem.W.S.findZ by PySem.W.S.findZ_eq
name_quick tw39160002569200845 for PySem.W.S.findZ by PySem.W.S.findZ_eq
name_quick tw12371321757623732685 for PySem.W.S.findZ by PySem.W.S.findZ_eq
name_quick tw2905824091091238844 for PySem.W.S.findZ by PySem.W.S.findZ_eq
name_quick tw3619232141914619222 for PySem.W.S.findZ by PySem.W.S.findZ_eq
name_quick tw11519604305632133818 for PySem.W.S.findZ by PySem.W.S.findZ_eq
name_quick tw11588390666370768167 for PySem.W.S.findZ by PySem.W.S.findZ_eq
name_quick tw12540713548012372134 for PySem.W.S.findZ by PySem.W.S.findZ_eq
name_quick tw7098571738820278039 for PySem.W.S.findZ by PySem.W.S.findZ_eq
name_quick tw11277413387252134812 for PySem.W.S.findZ by PySem.W.S.findZ_eq
name_quick tw2736616831223182526 for PySem.W.S.findZ by PySem.W.S.findZ_eq
name_quick tw3764465048917985505 for PySem.W.S.findZ by PySem.W.S.findZ_eq
name_quick tw8180830640274347804 for PySem.W.S.findZ by PySem.W.S.findZ_eq
name_quick tw5097042762029085258 for PySem.W.S.findZ by PySem.W.S.findZ_eq
name_quick tw4278798014809849964 for PySem.W.S.findZ by PySem.W.S.findZ_eq
name_quick tw15560500314895047343 for PySem.W.S.findZ by PySem.W.S.findZ_eq
name_quick tw6587116730350146372 for PySem.W.S.findZ by PySem.W.S.findZ_eq
name_quick tw16961233145329683797 for PySem.W.S.findZ by PySem.W.S.findZ_eq
name_quick tw43969757491396457 for PySem.W.S.findZ by PySem.W.S.findZ_eq
name_quick tw13809362725867891129 for PySem.W.S.findZ by PySem.W.S.findZ_eq
name_quick tw13102660428377437172 for PySem.W.S.findZ by PySem.W.S.findZ_eq
name_quick tw17554001833073541016 for PySem.W.S.findZ by PySem.W.S.findZ_eq
name_quick tw5721027456603625697 for PySem.W.S.findZ by PySem.W.S.findZ_eq
name_quick tw4775785305629353868 for PySem.W.S.findZ by PySem.W.S.findZ_eq
name_quick tw2354101950205528012 for PySem.W.S.findZ by PySem.W.S.findZ_eq
name_quick tw7581352650102555174 for PySem.W.S.findZ by PySem.W.S.findZ_eq
name_quick tw15215539614974913122 for PySem.W.S.findZ by PySem.W.S.findZ_eq
name_quick tw8376441433122354887 for PySem.W.S.findZ by PySem.W.S.findZ_eq
name_quick tw6127375697748050860 for PySem.W.S.findZ by PySem.W.S.findZ_eq
name_quick tw15059462757989803610 for PySem.W.S.findZ by PySem.W.S.findZ_eq
name_quick tw18410474027866654770 for PySem.W.S.findZ by PySem.W.S.findZ_eq
name_quick tw7802139600951554647 for PySem.W.S.findZ by PySem.W.S.findZ_eq
name_quick tw12095823642532355627 for PySem.W.S.findZ by PySem.W.S.findZ_eq
name_quick tw18163708392712065173 for PySem.W.S.findZ by PySem.W.S.findZ_eq
name_quick tw4679858250743294509 for PySem.W.S.findZ by PySem.W.S.findZ_eq
name_quick tw4091194055036891139 for PySem.W.S.findZ by PySem.W.S.findZ_eq
name_quick tw4011157648589011858 for PySem.W.S.findZ by PySem.W.S.findZ_eq
name_quick tw505943868828395459 for PySem.W.S.findZ by PySem.W.S.findZ_eq
name_quick tw4904739604578439355 for PySem.W.S.findZ by PySem.W.S.findZ_eq
name_quick tw11796506867022685745 for PySem.W.S.findZ by PySem.W.S.findZ_eq
name_quick tw6714822604882049554 for PySem.W.S.findZ by PySem.W.S.findZ_eq
name_quick tw18011898689540126615 for PySem.W.S.findZ by PySem.W.S.findZ_eq
name_quick tw11636919720809706868 for PySem.W.S.findZ by PySem.W.S.findZ_eq
name_quick tw13254397897704925713 for PySem.W.S.findZ by PySem.W.S.findZ_eq
name_quick tw10487160056961263569 for PySem.W.S.findZ by PySem.W.S.findZ_eq
name_quick tw14981143343336467331 for PySem.W.S.findZ by PySem.W.S.findZ_eq
name_quick tw10508251915553800215 for PySem.W.S.findZ by PySem.W.S.findZ_eq
name_quick tw1962928258387122110 for PySem.W.S.findZ by PySem.W.S.findZ_eq
name_quick tw5189142188285759775 for PySem.W.S.findZ by PySem.W.S.findZ_eq
name_quick tw12734952128020822468 for PySem.W.S.findZ by PySem.W.S.findZ_eq
name_quick tw14973007898608030118 for PySem.W.S.findZ by PySem.W.S.findZ_eq
name_quick tw10010936943081839664 for PySem.W.S.findZ by PySem.W.S.findZ_eq
name_quick tw16792545251062261874 for PySem.W.S.findZ by PySem.W.S.findZ_eq
name_quick tw16339471991904476338 for PySem.W.S.findZ by PySem.W.S.findZ_eq
name_quick tw11543547407058413889 for PySem.W.S.findZ by PySem.W.S.findZ_eq
name_quick tw16942194440817826258 for PySem.W.S.findZ by PySem.W.S.findZ_eq
name_quick tw4966893808263662355 for PySem.W.S.findZ by PySem.W.S.findZ_eq
name_quick tw14073706353221006472 for PySem.W.S.findZ by PySem.W.S.findZ_eq
name_quick tw2627984346626558326 for PySem.W.S.findZ by PySem.W.S.findZ_eq
name_quick tw6019396324639902685 for PySem.W.S.findZ by PySem.W.S.findZ_eq
name_quick tw8579058602437062094 for PySem.W.S.findZ by PySem.W.S.findZ_eq
name_quick tw15066959818950650227 for PySem.W.S.findZ by PySem.W.S.findZ_eq
name_quick tw15157221202141545114 for PySem.W.S.findZ by PySem.W.S.findZ_eq
name_quick tw1218959903707654005 for PySem.W.S.findZ by PySem.W.S.findZ_eq
name_quick tw6245536207120538393 for PySem.W.S.findZ by PySem.W.S.findZ_eq
name_quick tw1829445100760108279 for PySem.W.S.findZ by PySem.W.S.findZ_eq
name_quick tw460243522976405022 for PySem.W.S.findZ by PySem.W.S.findZ_eq
name_quick tw2968979199505139716 for PySem.W.S.findZ by PySem.W.S.findZ_eq
name_quick tw1771862750571323454 for PySem.W.S.findZ by PySem.W.S.findZ_eq
name_quick tw12866136484021002089 for PySem.W.S.findZ by PySem.W.S.findZ_eq
name_quick tw2370070277545300124 for PySem.W.S.findZ by PySem.W.S.findZ_eq
name_quick tw7276740287692124622 for PySem.W.S.findZ by PySem.W.S.findZ_eq
name_quick tw13951257522405164796 for PySem.W.S.findZ by PySem.W.S.findZ_eq
name_quick tw7232422423428716515 for PySem.W.S.findZ by PySem.W.S.findZ_eq
name_quick tw9676229304581654039 for PySem.W.S.findZ by PySem.W.S.findZ_eq
name_quick tw1620339239838986703 for PySem.W.S.findZ by PySem.W.S.findZ_eq
name_quick tw16752143609539240740 for PySem.W.S.findZ by PySem.W.S.findZ_eq
name_quick tw14186486079044719983 for PySem.W.S.findZ by PySem.W.S.findZ_eq
name_quick tw117213463901210413 for PySem.W.S.findZ by PySem.W.S.findZ_eq
name_quick tw183835017167291270 for PySem.W.S.findZ by PySem.W.S.findZ_eq
name_quick tw17730448691065144110 for PySem.W.S.findZ by PySem.W.S.findZ_eq
name_quick tw12635297910168745909 for PySem.W.S.findZ by PySem.W.S.findZ_eq
name_quick tw10138199336372458610 for PySem.W.S.findZ by PySem.W.S.findZ_eq
name_quick tw9504726810853072989 for PySem.W.S.findZ by PySem.W.S.findZ_eq
name_quick tw9219426015542480343 for PySem.W.S.findZ by PySem.W.S.findZ_eq
name_quick tw8429010832726757497 for PySem.W.S.findZ by PySem.W.S.findZ_eq
name_quick tw2922074901204462755 for PySem.W.S.findZ by PySem.W.S.findZ_eq
name_quick tw8424611434330503625 for PySem.W.S.findZ by PySem.W.S.findZ_eq
name_quick tw16979880578912567463 for PySem.W.S.findZ by PySem.W.S.findZ_eq
name_quick tw9575731206691268911 for PySem.W.S.findZ by PySem.W.S.findZ_eq
name_quick tw15376083050721069600 for PySem.W.S.findZ by PySem.W.S.findZ_eq
name_quick tw16417370028952169744 for PySem.W.S.findZ by PySem.W.S.findZ_eq
name_quick tw7094674258960923220 for PySem.W.S.findZ by PySem.W.S.findZ_eq
name_quick tw4287028408620065468 for PySem.W.S.findZ by PySem.W.S.findZ_eq
name_quick tw9787463984185863102 for PySem.W.S.findZ by PySem.W.S.findZ_eq
name_quick tw18101931140130867144 for PySem.W.S.findZ by PySem.W.S.findZ_eq
name_quick tw6654550962395885724 for PySem.W.S.findZ by PySem.W.S.findZ_eq
name_quick tw2134368852220247820 for PySem.W.S.findZ by PySem.W.S.findZ_eq
name_quick tw13725850141900786883 for PySem.W.S.findZ by PySem.W.S.findZ_eq
name_quick tw5646442142991981755 for PySem.W.S.findZ by PySem.W.S.findZ_eq
name_quick tw3325841961599345399 for PySem.W.S.findZ by PySem.W.S.findZ_eq
name_quick tw392140993173905013 for PySem.W.S.findZ by PySem.W.S.findZ_eq
name_quick tw7140130562030077042 for PySem.W.S.findZ by PySem.W.S.findZ_eq
name_quick tw2001226814458364393 for PySem.W.S.findZ by PySem.W.S.findZ_eq
name_quick tw5450187663091677483 for PySem.W.S.findZ by PySem.W.S.findZ_eq
name_quick tw1536587703002861866 for PySem.W.S.findZ by PySem.W.S.findZ_eq
name_quick tw9948023125614773506 for PySem.W.S.findZ by PySem.W.S.findZ_eq
name_quick tw3797612339304411714 for PySem.W.S.findZ by PySem.W.S.findZ_eq
name_quick tw10996506086634736982 for PySem.W.S.findZ by PySem.W.S.findZ_eq
name_quick tw17846936440860909165 for PySem.W.S.findZ by PySem.W.S.findZ_eq
name_quick tw8686407601681055034 for PySem.W.S.findZ by PySem.W.S.findZ_eq
name_quick tw10885399304501877467 for PySem.W.S.findZ by PySem.W.S.findZ_eq
name_quick tw1702518465993881591 for PySem.W.S.findZ by PySem.W.S.findZ_eq
name_quick tw7733015712792483723 for PySem.W.S.findZ by PySem.W.S.findZ_eq
name_quick tw17352973434858128600 for PySem.W.S.findZ by PySem.W.S.findZ_eq
name_quick tw136631920214876835 for PySem.W.S.findZ by PySem.W.S.findZ_eq
name_quick tw13642483538084851733 for PySem.W.S.findZ by PySem.W.S.findZ_eq
name_quick tw16172117957621229858 for PySem.W.S.findZ by PySem.W.S.findZ_eq
name_quick tw6589095468515690095 for PySem.W.S.findZ by PySem.W.S.findZ_eq
name_quick tw14214133299417103183 for PySem.W.S.findZ by PySem.W.S.findZ_eq
name_quick tw4552823106982906706 for PySem.W.S.findZ by PySem.W.S.findZ_eq
name_quick tw470574548607681690 for PySem.W.S.findZ by PySem.W.S.findZ_eq
name_quick tw6179359751918216688 for PySem.W.S.findZ by PySem.W.S.findZ_eq
name_quick tw14112274594779413971 for PySem.W.S.findZ by PySem.W.S.findZ_eq
name_quick tw5697894365363955025 for PySem.W.S.findZ by PySem.W.S.findZ_eq
name_quick tw13746126617404028095 for PySem.W.S.findZ by PySem.W.S.findZ_eq
name_quick tw17537794083376710389 for PySem.W.S.findZ by PySem.W.S.findZ_eq
name_quick tw2378363196638174374 for PySem.W.S.findZ by PySem.W.S.findZ_eq
name_quick tw9300948228871686676 for PySem.W.S.findZ by PySem.W.S.findZ_eq
name_quick tw3362959441861295915 for PySem.W.S.findZ by PySem.W.S.findZ_eq
name_quick tw9931943479562821362 for PySem.W.S.findZ by PySem.W.S.findZ_eq
name_quick tw10190238754879171395 for PySem.W.S.findZ by PySem.W.S.findZ_eq
name_quick tw5149714755402479525 for PySem.W.S.findZ by PySem.W.S.findZ_eq
name_quick tw14714103240675001986 for PySem.W.S.findZ by PySem.W.S.findZ_eq
name_quick tw12393455550290869266 for PySem.W.S.findZ by PySem.W.S.findZ_eq
name_quick tw3952652319720093869 for PySem.W.S.findZ by PySem.W.S.findZ_eq
name_quick tw16741492637210864865 for PySem.W.S.findZ by PySem.W.S.findZ_eq
name_quick tw6059929106960060952 for PySem.W.S.findZ by PySem.W.S.findZ_eq
name_quick tw9458956999447867950 for PySem.W.S.findZ by PySem.W.S.findZ_eq
name_quick tw4797165386629745026 for PySem.W.S.findZ by PySem.W.S.findZ_eq
name_quick tw5823794197072137003 for PySem.W.S.findZ by PySem.W.S.findZ_eq
name_quick tw383695940523520267 for PySem.W.S.findZ by PySem.W.S.findZ_eq
name_quick tw757081541053455785 for PySem.W.S.findZ by PySem.W.S.findZ_eq
name_quick tw2504098582860672743 for PySem.W.S.findZ by PySem.W.S.findZ_eq
name_quick tw1055568401681811165 for PySem.W.S.findZ by PySem.W.S.findZ_eq
name_quick tw17552769576498331613 for PySem.W.S.findZ by PySem.W.S.findZ_eq
name_quick tw3386650904741475044 for PySem.W.S.findZ by PySem.W.S.findZ_eq
name_quick tw8800560270773162519 for PySem.W.S.findZ by PySem.W.S.findZ_eq
name_quick tw18056578402003937789 for PySem.W.S.findZ by PySem.W.S.findZ_eq
name_quick tw11957962974430299695 for PySem.W.S.findZ by PySem.W.S.findZ_eq
name_quick tw14223099787259518943 for PySem.W.S.findZ by PySem.W.S.findZ_eq
name_quick tw13252181687094117063 for PySem.W.S.findZ by PySem.W.S.findZ_eq
name_quick tw8802822988693486460 for PySem.W.S.findZ by PySem.W.S.findZ_eq
name_quick tw5518745428033880147 for PySem.W.S.findZ by PySem.W.S.findZ_eq
name_quick tw2660918139993853925 for PySem.W.S.findZ by PySem.W.S.findZ_eq
name_quick tw2447775223705975068 for PySem.W.S.findZ by PySem.W.S.findZ_eq
namespace Mine
open_top hd for PySem.Challenge.rw_ba0042_01
local macro_rules | `(tactic| walk_at $s:str) => `(tactic| k_extra $s)
local macro_rules | `(tactic| ktr_enter) => `(tactic| k_extra "ktr_enter")
local macro_rules | `(tactic| k_enter) => `(tactic| k_extra "k_enter")
local macro_rules | `(tactic| k_all) => `(tactic| k_extra "k_all")
local macro_rules | `(tactic| k_mem) => `(tactic| k_extra "k_mem")
local macro_rules | `(tactic| k_ne) => `(tactic| k_extra "k_ne")
local macro_rules | `(tactic| k_room) => `(tactic| k_extra "k_room")
local macro_rules | `(tactic| k_inst) => `(tactic| k_extra "k_inst")
local macro_rules | `(tactic| kfm_field) => `(tactic| k_extra "kfm_field")
section
/-- an expression that only looks: a name of the frame, a text, a number -/
inductive Look1 (m : Str → Option Value) (cs : Scope) : Nat → PySem.Expr → Value → Nat → Prop
  | name {x : Str} {p : Pos} {v : Value} {t : Nat} : cs.names.lookup x = some .local → (x == ("__debug__" : Str)) = false → m x = some v → Look1 m cs t (.Name x p) v t
  | str {x : Str} {k : Nat} {p : Pos} {t : Nat} : Look1 m cs t (.Constant (.str x) k p) (.str x t) (t + 1)
  | int {n : Int} {k : Nat} {p : Pos} {t : Nat} : Look1 m cs t (.Constant (.int n) k p) (.int n t) (t + 1)
inductive LookN (m : Str → Option Value) (cs : Scope) : Nat → List PySem.Expr → List Value → Nat → Prop
  | nil {t : Nat} : LookN m cs t [] [] t
  | cons {t t1 t2 : Nat} {e : PySem.Expr} {v : Value} {es : List PySem.Expr} {vs : List Value} : Look1 m cs t e v t1 → LookN m cs t1 es vs t2 → LookN m cs t (e :: es) (v :: vs) t2
inductive LookP (m : Str → Option Value) (cs : Scope) : Nat → List (Option PySem.Expr) → List PySem.Expr → List (Value × Value) → Nat → Prop
  | nil {t : Nat} : LookP m cs t [] [] [] t
  | cons {t t1 t2 t3 : Nat} {k e : PySem.Expr} {kv v : Value} {ks : List (Option PySem.Expr)} {es : List PySem.Expr} {r : List (Value × Value)} : Look1 m cs t k kv t1 → Look1 m cs t1 e v t2 → LookP m cs t2 ks es r t3 → LookP m cs t (some k :: ks) (e :: es) ((kv, v) :: r) t3
section
variable {prog : Program} {w : World} {A : Around} {E : Value → Shared → Prop} {h₀ : Heap} {L a : Addr} {m : Str → Option Value} {cn : Str} {cs : Scope} {ccd : Value} {cl : List (Str × Addr)} {t t1 t2 : Nat}
theorem Look1.run {s : Shared} {e : PySem.Expr} {v : Value} {Q : Value → Shared → Prop} (F : Fr h₀ L s.heap m) (hk : cs.kind = .function) (l : Look1 m cs s.toks e v t1) (h : Q v { s with toks := t1 }) : wpAny (model prog w) A (eval e (envX cn cs L a ccd cl)) Q E s := by
  obtain ⟨hp, g, d, tk, os⟩ := s
  cases l with
  | name hx hd hm => exact nameX_L F hm h hk hx hd
  | str => exact Constant_str h
  | int => exact wpAny_Constant_int h
theorem args_look {pos : Pos} {args : List PySem.Expr} {vs : List Value} : ∀ {s : Shared} {Q : List Value → Shared → Prop}, Fr h₀ L s.heap m → cs.kind = .function → LookN m cs s.toks args vs t2 → Q vs { s with toks := t2 } → wpAny (model prog w) A (spliced (backTo pos (starEach args (envX cn cs L a ccd cl)))) Q E s := by
  intro s Q F hk l
  obtain ⟨hp, g, d, tk, os⟩ := s
  dsimp only at l
  induction l generalizing Q with
  | nil => exact fun h => args_nil h
  | cons x _ ih =>
    intro h
    refine args_cons (Look1.run F hk x (ih F h)) ?_
    cases x <;> rfl
theorem pairs_look {pos : Pos} {ks : List (Option PySem.Expr)} {es : List PySem.Expr} {r : List (Value × Value)} : ∀ {s : Shared} {Q : List (Value × Value) → Shared → Prop}, Fr h₀ L s.heap m → cs.kind = .function → LookP m cs s.toks ks es r t2 → Q r { s with toks := t2 } → wpAny (model prog w) A (evalPairs (pairTrees ks es (envX cn cs L a ccd cl) pos)) Q E s := by
  intro s Q F hk l
  obtain ⟨hp, g, d, tk, os⟩ := s
  dsimp only at l
  induction l generalizing Q with
  | nil => exact fun h => pairTrees_nil_walk h
  | cons x y _ ih =>
    intro h
    refine pairTrees_cons_walk (Look1.run F hk x ?_)
    exact Look1.run (s := ⟨hp, g, d, _, os⟩) F hk y (ih F h)
theorem bin_look {s : Shared} {l r : PySem.Expr} {op : Operator} {pos : Pos} {v u : Value} {Q : Value → Shared → Prop} (F : Fr h₀ L s.heap m) (hk : cs.kind = .function) (x : Look1 m cs s.toks l v t1) (y : Look1 m cs t1 r u t2) (h : wpAny (model prog w) A (binaryOp op v u) Q E { s with toks := t2 }) : wpAny (model prog w) A (eval (.BinOp l op r pos) (envX cn cs L a ccd cl)) Q E s :=
  wpAny_BinOp (Look1.run F hk x (Look1.run (s := { s with toks := t1 }) F hk y h))
/-- an if that compares what it only looks at -/
theorem if_look {s : Shared} {l r : PySem.Expr} {op : CmpOp} {pos ip : Pos} {body orelse : List Stmt} {v u : Value} {Q : Flow → Shared → Prop} (F : Fr h₀ L s.heap m) (hk : cs.kind = .function) (x : Look1 m cs s.toks l v t1) (y : Look1 m cs t1 r u t2) (hm : behindInMarks op r = false)
    (h : wpAny (model prog w) A (compareOp op v u) (fun c s₃ => wpAny (model prog w) A (truthy c) (fun b s₂ => if b then wpAny (model prog w) A (execs body (envX cn cs L a ccd cl)) Q E s₂ else wpAny (model prog w) A (execs orelse (envX cn cs L a ccd cl)) Q E s₂) E s₃) E { s with toks := t2 }) :
    wpAny (model prog w) A (exec (.If (.Compare l [op] [r] pos) body orelse ip) (envX cn cs L a ccd cl)) Q E s :=
  wpAny_If (wpAny_isTrue_Compare1 (Look1.run F hk x (Look1.run (s := { s with toks := t1 }) F hk y h)) hm)
/-- the same, of two numbers -/
theorem if_eqint {s : Shared} {l r : PySem.Expr} {pos ip : Pos} {body orelse : List Stmt} {n k : Int} {tn tk : Tok} {Q : Flow → Shared → Prop} (F : Fr h₀ L s.heap m) (hk : cs.kind = .function) (x : Look1 m cs s.toks l (.int n tn) t1) (y : Look1 m cs t1 r (.int k tk) t2) (hm : behindInMarks .Eq r = false)
    (h : if (n == k) = true then wpAny (model prog w) A (execs body (envX cn cs L a ccd cl)) Q E { s with toks := t2 } else wpAny (model prog w) A (execs orelse (envX cn cs L a ccd cl)) Q E { s with toks := t2 }) :
    wpAny (model prog w) A (exec (.If (.Compare l [.Eq] [r] pos) body orelse ip) (envX cn cs L a ccd cl)) Q E s :=
  if_look F hk x y hm (PyProof.Rows.eq_int (wpAny_truthy_bool h))
def EnvIs (env : Env) (cs : Scope) (L : Addr) : Prop := ∃ cn a ccd cl, env = envX cn cs L a ccd cl
theorem args_lk {env : Env} {s : Shared} {pos : Pos} {e : PySem.Expr} {args : List PySem.Expr} {vs : List Value} {Q : List Value → Shared → Prop} (F : Fr h₀ L s.heap m) (he : EnvIs env cs L) (hk : cs.kind = .function) (l : LookN m cs s.toks (e :: args) vs t2) (h : Q vs { s with toks := t2 }) : wpAny (model prog w) A (spliced (backTo pos (starEach (e :: args) env))) Q E s := by
  obtain ⟨_, _, _, _, rfl⟩ := he
  exact args_look F hk l h
theorem pairs_lk {env : Env} {s : Shared} {pos : Pos} {k : Option PySem.Expr} {ks : List (Option PySem.Expr)} {es : List PySem.Expr} {r : List (Value × Value)} {Q : List (Value × Value) → Shared → Prop} (F : Fr h₀ L s.heap m) (he : EnvIs env cs L) (hk : cs.kind = .function) (l : LookP m cs s.toks (k :: ks) es r t2) (h : Q r { s with toks := t2 }) : wpAny (model prog w) A (evalPairs (pairTrees (k :: ks) es env pos)) Q E s := by
  obtain ⟨_, _, _, _, rfl⟩ := he
  exact pairs_look F hk l h
theorem bin_lk {env : Env} {s : Shared} {l r : PySem.Expr} {op : Operator} {pos : Pos} {v u : Value} {Q : Value → Shared → Prop} (F : Fr h₀ L s.heap m) (he : EnvIs env cs L) (hk : cs.kind = .function) (x : Look1 m cs s.toks l v t1) (y : Look1 m cs t1 r u t2) (h : wpAny (model prog w) A (binaryOp op v u) Q E { s with toks := t2 }) : wpAny (model prog w) A (eval (.BinOp l op r pos) env) Q E s := by
  obtain ⟨_, _, _, _, rfl⟩ := he
  exact bin_look F hk x y h
theorem if_lk {env : Env} {s : Shared} {l r : PySem.Expr} {pos ip : Pos} {body orelse : List Stmt} {n k : Int} {tn tk : Tok} {Q : Flow → Shared → Prop} (F : Fr h₀ L s.heap m) (he : EnvIs env cs L) (hk : cs.kind = .function) (x : Look1 m cs s.toks l (.int n tn) t1) (y : Look1 m cs t1 r (.int k tk) t2) (hm : behindInMarks .Eq r = false)
    (h : if (n == k) = true then wpAny (model prog w) A (execs body env) Q E { s with toks := t2 } else wpAny (model prog w) A (execs orelse env) Q E { s with toks := t2 }) :
    wpAny (model prog w) A (exec (.If (.Compare l [.Eq] [r] pos) body orelse ip) env) Q E s := by
  obtain ⟨_, _, _, _, rfl⟩ := he
  exact if_eqint F hk x y hm h
theorem store_lk {env : Env} {s : Shared} {x : Str} {v : Value} {news : List (Addr × Obj)} {Q : Unit → Shared → Prop} (F : Fr h₀ L s.heap m) (N : News h₀ L s.heap news) (he : EnvIs env cs L) (hk : cs.kind = .function) (hx : cs.names.lookup x = some .local)
    (h : ∀ h', let m' := (fun y => if y = x then some v else m y); Fr h₀ L h' m' → News h₀ L h' news → Q () { s with heap := h', toks := s.toks + 1 }) : wpAny (model prog w) A (storeName env x v) Q E s := by
  obtain ⟨_, _, _, _, rfl⟩ := he
  exact storeX_L F N (fun h' F' N' => h h' F' N') hk hx
theorem letM {g h₁ : Heap} {L : Addr} {m : Str → Option Value} {P : Prop} (F : Fr g L h₁ m) (h : let m' := m; Fr g L h₁ m' → P) : P := h F
theorem look_miss {x z : Str} {v o : Option Value} {m : Str → Option Value} (h : z ≠ x) (hm : m z = o) : (if z = x then v else m z) = o := by rw [if_neg h]; exact hm
theorem look_st {st : List Str} {z : Str} {o : Option Value} {u m : Str → Option Value} (h : st.contains z = false) (hm : m z = o) : (if st.contains z = true then u z else m z) = o := by rw [if_neg (by rw [h]; decide)]; exact hm
end
end
section
abbrev Led := List (Addr × Obj)
theorem fillT {G : Prop} (w : World) (h : PySem.Challenge.rw_ba0042_01 = PySem.Challenge.rw_ba0042_01 → hd.heap_39 w.params = hd.heap_39 w.params → G) : G := h rfl rfl
abbrev mdl (w : World) : Model := model PySem.Challenge.rw_ba0042_01.row.prog w
/-- the generators: those that were there stay, the rest is bare -/
def GX (g g' : Array GenState) : Prop := g.size ≤ g'.size ∧ (∀ i, i < g.size → g'[i]? = g[i]?) ∧ (AllBare g → AllBare g')
theorem GX.refl (g : Array GenState) : GX g g := ⟨Nat.le_refl _, fun _ _ => rfl, id⟩
theorem GX.trans {a b c : Array GenState} (x : GX a b) (y : GX b c) : GX a c :=
  ⟨Nat.le_trans x.1 y.1, fun i h => (y.2.1 i (Nat.lt_of_lt_of_le h x.1)).trans (x.2.1 i h), fun h => y.2.2 (x.2.2 h)⟩
/-- all that one heap holds the other holds -/
def Kp (h h' : Heap) : Prop := ∀ b o, h.get? b = some o → h'.get? b = some o
/-- a def is entered with all that stands as its ground: its ledger is empty at first -/
theorem code_all {prog : Program} {w : World} {A A₀ : Around} {s : Shared} {K : Frag} {L : Addr} {h₀ base : Heap} {m mg mb : Str → Option Value} {news : Led} {p : Program} {loose : List Str} {mean : ExcName → Option Value} {env : Env} {outer : List Env} {R : Result → Shared → Prop} {name qual : Str} {params : Arguments} {body : List Stmt} {scope : Scope} {dV kV doc pm cdv ct oc : Value} {an od : Option Addr} {osl : Array (Option Value)} {f : Addr} {args : Args} {binds : List (Str × Value)}
    (B : Below A₀ base outer h₀) (F : Fr h₀ L s.heap m) (X₀ : K.In h₀) (_N : News h₀ L s.heap news) (T : Top p loose mean mg mb h₀) (hA : A.frames = some (env :: outer)) (hf : env.frame = some L) (hke : env.scope.kind = .function)
    (ho : K.lookup f = some ⟨oc, od, .func (fnOf name qual params body scope dV kV doc pm an cdv ct), osl⟩) (hcd : codeIn K cdv qual = true) (hroom : A.depth < recursionLimit)
    (hbind : BindsTo s (fnOf name qual params body scope dV kV doc pm an cdv ct) args binds) (hloc : ∀ y ∈ binds, scope.names.lookup y.1 = some .local)
    (h : ∀ g L' h₁, Fr h₀ L g m → Fr g L' h₁ (fun y => binds.reverse.lookup y) → News g L' h₁ [] → Below A base (env :: outer) g → K.In g → Top p loose mean mg mb g → Kp s.heap g →
      wpAny (model prog w) (A.deeper (envOf qual scope L' f cdv)) (execs body (envOf qual scope L' f cdv))
        (fun fl s' => LeaveK h₀ L m g R (match fl with | .ret v => v | _ => .none) s')
        (fun e s' => wpAny (model prog w) (A.deeper (envOf qual scope L' f cdv)) (leaving (envOf qual scope L' f cdv) e) (fun _ s'' => R (.error e) s'') (fun e' s'' => R (.error e') s'') s')
        { s with heap := h₁, toks := s.toks + binds.length })
    (hco : scope.isCoroutine = false) (hgen : scope.isGenerator = false) (hk : scope.kind = .function)
    (hcell : ∀ x ∈ scope.names, x.2 ≠ .cell) : codeAny (model prog w) A (.call (.ref f) args) R s := by
  have N₀ : News h₀ L s.heap [] := fun _ hp => nomatch hp
  obtain ⟨FG, BG, st, lv⟩ := groundX (R := R) B F N₀ hA hf hke
  refine codeAny_call_def (fd := fnOf name qual params body scope dV kV doc pm an cdv ct) (body := body) (binds := binds) hroom ((X₀.keeps F.keep) _ _ ho) rfl (T.nolimit.keeps F.keep) (codeRec_of (X₀.keeps F.keep) hcd) rfl hbind hcell hloc (fun h₁ hns hk₁ => ?_) hco hgen hk
  exact wpAny_mono (h s.heap s.heap.objs.size h₁ FG ⟨hns, fun b o e => hk₁ b o e, Nat.le_refl _⟩ (fun _ hp => nomatch hp) BG (X₀.keeps F.keep) (T.keeps F.keep) fun _ _ e => e) (fun fl s' hl => lv _ _ hl) fun _ _ y => y
/-- what a call tells: a value alone, nothing that is kept, no generator -/
def Tell0 (w : World) (f : Addr) (dn ne : Nat) (args : List Value) (Pre : Heap → Prop) (Out : Value → Prop) : Prop :=
  ∀ (p : Program) (loose : List Str) (mean : ExcName → Option Value) (mg mb : Str → Option Value) (dp un : Nat) (gd : Option (List Code)) (cn : Str) (cs : Scope) (a : Addr) (ccd : Value) (cl : List (Str × Addr)) (outer : List Env) (A₀ : Around) (base h₀ : Heap) (L : Addr) (m : Str → Option Value) (news : Led) (s : Shared)
    (Q E : Value → Shared → Prop),
    Below A₀ base outer h₀ → Fr h₀ L s.heap m → (hd.heap_39 w.params).In h₀ → News h₀ L s.heap news → Top p loose mean mg mb h₀ → cs.kind = .function → dp + dn < recursionLimit → un + ne < cLine → Pre s.heap →
    (∀ r h' tk', Fr h₀ L h' m → News h₀ L h' news → Out r → Q r { s with heap := h', toks := tk' }) →
    wpAny (model PySem.Challenge.rw_ba0042_01.row.prog w) (ktrTop dp un gd cn cs L a ccd cl outer) (call (.ref f) args) Q E s
/-- the same, generators may come -/
def TellG (w : World) (f : Addr) (dn ne : Nat) (args : List Value) (Pre : Heap → Prop) (Out : Value → Prop) : Prop :=
  ∀ (p : Program) (loose : List Str) (mean : ExcName → Option Value) (mg mb : Str → Option Value) (dp un : Nat) (gd : Option (List Code)) (cn : Str) (cs : Scope) (a : Addr) (ccd : Value) (cl : List (Str × Addr)) (outer : List Env) (A₀ : Around) (base h₀ : Heap) (L : Addr) (m : Str → Option Value) (news : Led) (s : Shared)
    (Q E : Value → Shared → Prop),
    Below A₀ base outer h₀ → Fr h₀ L s.heap m → (hd.heap_39 w.params).In h₀ → News h₀ L s.heap news → Top p loose mean mg mb h₀ → cs.kind = .function → dp + dn < recursionLimit → un + ne < cLine → Pre s.heap →
    (∀ r h' tk' g', Fr h₀ L h' m → News h₀ L h' news → GX s.gens g' → Out r → Q r { s with heap := h', toks := tk', gens := g' }) →
    wpAny (model PySem.Challenge.rw_ba0042_01.row.prog w) (ktrTop dp un gd cn cs L a ccd cl outer) (call (.ref f) args) Q E s
/-- what a call tells that makes things -/
def TellT (w : World) (f : Addr) (dn ne : Nat) (args : List Value) (Pre : Heap → Prop) (Out : Led → Value → Prop) : Prop :=
  ∀ (p : Program) (loose : List Str) (mean : ExcName → Option Value) (mg mb : Str → Option Value) (dp un : Nat) (gd : Option (List Code)) (cn : Str) (cs : Scope) (a : Addr) (ccd : Value) (cl : List (Str × Addr)) (outer : List Env) (A₀ : Around) (base h₀ : Heap) (L : Addr) (m : Str → Option Value) (news : Led) (s : Shared)
    (Q E : Value → Shared → Prop),
    Below A₀ base outer h₀ → Fr h₀ L s.heap m → (hd.heap_39 w.params).In h₀ → News h₀ L s.heap news → Top p loose mean mg mb h₀ → cs.kind = .function → dp + dn < recursionLimit → un + ne < cLine → Pre s.heap →
    (∀ r tl h' tk', Fr h₀ L h' m → News h₀ L h' (news ++ tl) → (∀ q ∈ news, ∀ p ∈ tl, p.1 ≠ q.1) → Out tl r → Q r { s with heap := h', toks := tk' }) →
    wpAny (model PySem.Challenge.rw_ba0042_01.row.prog w) (ktrTop dp un gd cn cs L a ccd cl outer) (call (.ref f) args) Q E s
section
variable {w : World} {f : Addr} {dn ne : Nat} {args : List Value} {Pre : Heap → Prop} {p : Program} {loose : List Str} {mean : ExcName → Option Value} {mg mb : Str → Option Value} {dp un : Nat} {gd : Option (List Code)} {cn : Str} {cs : Scope} {a : Addr} {ccd : Value} {cl : List (Str × Addr)} {outer : List Env} {A₀ : Around} {base h₀ : Heap} {L : Addr} {m : Str → Option Value} {news : Led} {s : Shared}
    {Q E : Value → Shared → Prop}
theorem Tell0.use {Out : Value → Prop} (C : Tell0 w f dn ne args Pre Out) (B : Below A₀ base outer h₀) (F : Fr h₀ L s.heap m) (X : (hd.heap_39 w.params).In h₀) (N : News h₀ L s.heap news) (T : Top p loose mean mg mb h₀) (hk : cs.kind = .function) (hd : dp + dn < recursionLimit) (hu : un + ne < cLine) (pre : Pre s.heap)
    (ret : ∀ r h' tk', Fr h₀ L h' m → News h₀ L h' news → Out r → Q r { s with heap := h', toks := tk' }) :
    wpAny (model PySem.Challenge.rw_ba0042_01.row.prog w) (ktrTop dp un gd cn cs L a ccd cl outer) (call (.ref f) args) Q E s := C _ _ _ _ _ _ _ _ _ _ _ _ _ _ _ _ _ _ _ _ _ _ _ B F X N T hk hd hu pre ret
theorem TellG.use {Out : Value → Prop} (C : TellG w f dn ne args Pre Out) (B : Below A₀ base outer h₀) (F : Fr h₀ L s.heap m) (X : (hd.heap_39 w.params).In h₀) (N : News h₀ L s.heap news) (T : Top p loose mean mg mb h₀) (hk : cs.kind = .function) (hd : dp + dn < recursionLimit) (hu : un + ne < cLine) (pre : Pre s.heap)
    (ret : ∀ r h' tk' g', Fr h₀ L h' m → News h₀ L h' news → GX s.gens g' → Out r → Q r { s with heap := h', toks := tk', gens := g' }) :
    wpAny (model PySem.Challenge.rw_ba0042_01.row.prog w) (ktrTop dp un gd cn cs L a ccd cl outer) (call (.ref f) args) Q E s := C _ _ _ _ _ _ _ _ _ _ _ _ _ _ _ _ _ _ _ _ _ _ _ B F X N T hk hd hu pre ret
theorem TellT.use {Out : Led → Value → Prop} (C : TellT w f dn ne args Pre Out) (B : Below A₀ base outer h₀) (F : Fr h₀ L s.heap m) (X : (hd.heap_39 w.params).In h₀) (N : News h₀ L s.heap news) (T : Top p loose mean mg mb h₀) (hk : cs.kind = .function) (hd : dp + dn < recursionLimit) (hu : un + ne < cLine) (pre : Pre s.heap)
    (ret : ∀ r tl h' tk', Fr h₀ L h' m → News h₀ L h' (news ++ tl) → (∀ q ∈ news, ∀ p ∈ tl, p.1 ≠ q.1) → Out tl r → Q r { s with heap := h', toks := tk' }) :
    wpAny (model PySem.Challenge.rw_ba0042_01.row.prog w) (ktrTop dp un gd cn cs L a ccd cl outer) (call (.ref f) args) Q E s := C _ _ _ _ _ _ _ _ _ _ _ _ _ _ _ _ _ _ _ _ _ _ _ B F X N T hk hd hu pre ret
theorem Tell0.toG {Out : Value → Prop} (C : Tell0 w f dn ne args Pre Out) : TellG w f dn ne args Pre Out := by
  intro p loose mean mg mb dp un gd cn cs a ccd cl outer A₀ base h₀ L m news s Q E B F X N T hk hd hu pre ret
  exact C.use B F X N T hk hd hu pre fun r h' tk' F' N' o => ret r h' tk' s.gens F' N' (GX.refl _) o
/-- the end of a contract that keeps nothing -/
theorem back0 {g h' : Heap} {L' : Addr} {m' : Str → Option Value} (N : News h₀ L s.heap news) (hs : Kp s.heap g) (F' : Fr g L' h' m') : News h₀ L h' news := fun p hp => ⟨F'.keep _ _ (hs _ _ (N p hp).1), (N p hp).2⟩
/-- the end of a contract that makes things -/
theorem backT {g h' : Heap} {L' : Addr} {m' : Str → Option Value} {tl : Led} (N : News h₀ L s.heap news) (hs : Kp s.heap g) (F' : Fr g L' h' m') (kN : News h₀ L h' tl) : News h₀ L h' (news ++ tl) := fun p hp => by
  rcases List.mem_append.mp hp with hp | hp
  · exact ⟨F'.keep _ _ (hs _ _ (N p hp).1), (N p hp).2⟩
  · exact kN p hp
theorem apart {g h' : Heap} {L' : Addr} {tl : Led} (N : News h₀ L s.heap news) (hs : Kp s.heap g) (N' : News g L' h' tl) : ∀ q ∈ news, ∀ p ∈ tl, p.1 ≠ q.1 := fun q hq p hp e => by
  have h1 := hs _ _ (N q hq).1
  rw [← e, (N' p hp).2.2] at h1
  cases h1
theorem execs_cons_gen {M : Model} {A : Around} {E : Value → Shared → Prop} {st : Stmt} {rest : List Stmt} {env : Env} {Q : Flow → Shared → Prop} {h : Heap} {g : Array GenState} {d : Drawn} {t : Nat} {os : OsState}
    (k : ∀ tk, wpAny M A (exec st env) (fun f s' => match f with | .next => wpAny M A (execs rest env) Q E s' | f => Q f s') E ⟨h, g, d, tk, os⟩) : wpAny M A (execs (st :: rest) env) Q E ⟨h, g, d, t, os⟩ := wpAny_execs_cons (k t)
end
end
section
open PySem.W.KStt (codes)
def escN (c : Nat) : List Nat := if c = 60 then [38,108,116,59] else if c = 62 then [38,103,116,59] else if c = 34 then [38,113,117,111,116,59] else [c]
def outL (l : List Int) : Str := ⟨(l.flatMap fun c => escN c.toNat).toArray⟩
def shownF (x : Str) : Str := outL (codes x)
abbrev sk (w : World) : KeyKind PySem.Challenge.rw_ba0042_01.row.prog w Str := strKind PySem.Challenge.rw_ba0042_01.row.prog w
abbrev S (x : String) : Str := Str.ofString x
def textsL : List Str := [S "a", S "b<c", S "\"d\"", S "e>f'g", S "h i"]
def urlsL : List Str := [S "/x", S "http://y/z", S "#k", S "javascript:q", S "JAVASCRIPT:1", S "mailto:m", S "a\"b", S "data:image/png;w", S "DATA:text/html;v", S " vb:x", S "p/q:r", S "Https:s", S "?t:u", S "ftp:<v>", S ""]
def badL : List Str := [S "javascript:q", S "JAVASCRIPT:1", S "DATA:text/html;v", S " vb:x"]
def addrF (u : Str) : Str := if badL.contains u then S "#harmful-link" else shownF u
def infoL : List (Str × Str) := [(S "py", S " class=\"language-py\""), (S " c++  d ", S " class=\"language-c++\""), (S "e", S " class=\"language-e\""), (S "", S "")]
abbrev numF (n : Int) : Str := Str.ofString (toString n)
abbrev Holder := Addr → Obj → Prop
def DA (w : World) (At : Holder) (d : Addr) (kvs : List (Str × Value)) : Prop := ∃ o, At d o ∧ o.IsDictOf (sk w) kvs ∧ (d == sysModules) = false
def LA (At : Holder) (l : Addr) (vs : List Value) : Prop := ∃ c, At l (W.listOf vs.toArray c)
abbrev inLed (led : Led) : Holder := fun d o => (d, o) ∈ led
abbrev inHeap (h : Heap) : Holder := fun d o => h.get? d = some o
def Kids (R : Value → Str → Prop) : List Value → Str → Prop
  | [], o => o = S ""
  | v :: vs, o => ∃ x y, R v x ∧ Kids R vs y ∧ o = x ++ y
inductive Shape (w : World) (esc : Bool) (At : Holder) (R : Value → Str → Prop) : Value → Str → Prop
  | text {d : Addr} {x : Str} {t1 t2 : Nat} : DA w At d [(S "type", .str (S "text") t1), (S "raw", .str x t2)] → x ∈ textsL → Shape w esc At R (.ref d) (shownF x)
  | code {d : Addr} {x : Str} {t1 t2 : Nat} : DA w At d [(S "type", .str (S "codespan") t1), (S "raw", .str x t2)] → x ∈ textsL → Shape w esc At R (.ref d) (S "<code>" ++ shownF x ++ S "</code>")
  | soft {d : Addr} {t1 : Nat} : DA w At d [(S "type", .str (S "softbreak") t1)] → Shape w esc At R (.ref d) (S "\n")
  | br {d : Addr} {t1 : Nat} : DA w At d [(S "type", .str (S "linebreak") t1)] → Shape w esc At R (.ref d) (S "<br />\n")
  | em {d l : Addr} {t1 : Nat} {vs : List Value} {x : Str} : DA w At d [(S "type", .str (S "emphasis") t1), (S "children", .ref l)] → LA At l vs → vs.length ≤ 3 → Kids R vs x → Shape w esc At R (.ref d) (S "<em>" ++ x ++ S "</em>")
  | strong {d l : Addr} {t1 : Nat} {vs : List Value} {x : Str} : DA w At d [(S "type", .str (S "strong") t1), (S "children", .ref l)] → LA At l vs → vs.length ≤ 3 → Kids R vs x → Shape w esc At R (.ref d) (S "<strong>" ++ x ++ S "</strong>")
  | link {d l e : Addr} {t1 t2 : Nat} {vs : List Value} {x u : Str} : DA w At d [(S "type", .str (S "link") t1), (S "children", .ref l), (S "attrs", .ref e)] → LA At l vs → vs.length ≤ 3 → Kids R vs x →
      DA w At e [(S "url", .str u t2)] → u ∈ urlsL → Shape w esc At R (.ref d) (S "<a href=\"" ++ addrF u ++ S "\"" ++ S ">" ++ x ++ S "</a>")
  | linkT {d l e : Addr} {t1 t2 t3 : Nat} {vs : List Value} {x u y : Str} : DA w At d [(S "type", .str (S "link") t1), (S "children", .ref l), (S "attrs", .ref e)] → LA At l vs → vs.length ≤ 3 → Kids R vs x →
      DA w At e [(S "url", .str u t2), (S "title", .str (S "t<" ++ y) t3)] → u ∈ urlsL → y ∈ textsL → Shape w esc At R (.ref d) (S "<a href=\"" ++ addrF u ++ S "\"" ++ S " title=\"t&lt;" ++ shownF y ++ S "\"" ++ S ">" ++ x ++ S "</a>")
  | quote {d l : Addr} {t1 : Nat} {vs : List Value} {x : Str} : DA w At d [(S "type", .str (S "block_quote") t1), (S "children", .ref l)] → LA At l vs → vs.length ≤ 3 → Kids R vs x → Shape w esc At R (.ref d) (S "<blockquote>\n" ++ x ++ S "</blockquote>\n")
  | rule {d : Addr} {t1 : Nat} : DA w At d [(S "type", .str (S "thematic_break") t1)] → Shape w esc At R (.ref d) (S "<hr />\n")
  | blank {d : Addr} {t1 : Nat} : DA w At d [(S "type", .str (S "blank_line") t1)] → Shape w esc At R (.ref d) (S "")
  | codeI {d : Addr} {x : Str} {t1 t2 t3 : Nat} : DA w At d [(S "type", .str (S "block_code") t1), (S "raw", .str (x ++ S "\n") t2), (S "style", .str (S "indent") t3)] → x ∈ textsL → Shape w esc At R (.ref d) (S "<pre><code>" ++ shownF x ++ S "\n</code></pre>\n")
  | codeF {d e : Addr} {x i y : Str} {t1 t2 t3 t4 t5 : Nat} : DA w At d [(S "type", .str (S "block_code") t1), (S "raw", .str x t2), (S "style", .str (S "fenced") t3), (S "marker", .str (S "~~~") t4), (S "attrs", .ref e)] → x ∈ textsL →
      DA w At e [(S "info", .str i t5)] → (i, y) ∈ infoL → Shape w esc At R (.ref d) (S "<pre><code" ++ y ++ S ">" ++ shownF x ++ S "</code></pre>\n")
  | html {d : Addr} {x : Str} {t1 t2 : Nat} : DA w At d [(S "type", .str (S "block_html") t1), (S "raw", .str (S "<p>\n" ++ x) t2)] → x ∈ textsL → Shape w esc At R (.ref d) (if esc = true then S "<p>" ++ shownF (S "<p>\n" ++ x) ++ S "</p>\n" else S "<p>\n" ++ x ++ S "\n")
  | head {d l e : Addr} {t1 t2 t3 : Nat} {vs : List Value} {x : Str} {n : Int} : DA w At d [(S "type", .str (S "heading") t1), (S "children", .ref l), (S "attrs", .ref e), (S "style", .str (S "atx") t2)] → LA At l vs → vs.length ≤ 3 → Kids R vs x →
      DA w At e [(S "level", .int n t3)] → 1 ≤ n → n ≤ 6 → Shape w esc At R (.ref d) (S "<h" ++ numF n ++ S "" ++ S ">" ++ x ++ S "</h" ++ numF n ++ S ">\n")
  | headI {d l e : Addr} {t1 t2 t3 t4 : Nat} {vs : List Value} {x y : Str} {n : Int} : DA w At d [(S "type", .str (S "heading") t1), (S "children", .ref l), (S "attrs", .ref e), (S "style", .str (S "atx") t2)] → LA At l vs → vs.length ≤ 3 → Kids R vs x →
      DA w At e [(S "level", .int n t3), (S "id", .str (S "k>" ++ y) t4)] → 1 ≤ n → n ≤ 6 → y ∈ textsL → Shape w esc At R (.ref d) (S "<h" ++ numF n ++ (S " id=\"k&gt;" ++ shownF y ++ S "\"") ++ S ">" ++ x ++ S "</h" ++ numF n ++ S ">\n")
  | blockText {d l : Addr} {t1 : Nat} {vs : List Value} {x : Str} : DA w At d [(S "type", .str (S "block_text") t1), (S "children", .ref l)] → LA At l vs → vs.length ≤ 3 → Kids R vs x → Shape w esc At R (.ref d) x
  | para {d l : Addr} {t1 : Nat} {vs : List Value} {x : Str} : DA w At d [(S "type", .str (S "paragraph") t1), (S "children", .ref l)] → LA At l vs → vs.length ≤ 3 → Kids R vs x → Shape w esc At R (.ref d) (S "<p>" ++ x ++ S "</p>\n")
/-- the token of depth n or less, and what it is written as -/
def TokIn (w : World) (esc : Bool) (At : Holder) : Nat → Value → Str → Prop
  | 0, _, _ => False
  | n + 1, v, o => Shape w esc At (TokIn w esc At n) v o
theorem DA.mono {w : World} {At At' : Holder} (hl : ∀ d o, At d o → At' d o) {d : Addr} {kvs : List (Str × Value)} (x : DA w At d kvs) : DA w At' d kvs := let ⟨o, a, b, c⟩ := x; ⟨o, hl _ _ a, b, c⟩
theorem LA.mono {At At' : Holder} (hl : ∀ d o, At d o → At' d o) {l : Addr} {vs : List Value} (x : LA At l vs) : LA At' l vs := let ⟨c, a⟩ := x; ⟨c, hl _ _ a⟩
theorem Kids.mono {R R' : Value → Str → Prop} (h : ∀ v o, R v o → R' v o) : ∀ {vs : List Value} {o : Str}, Kids R vs o → Kids R' vs o
  | [], _, k => k
  | _ :: _, _, ⟨x, y, a, b, e⟩ => ⟨x, y, h _ _ a, Kids.mono h b, e⟩
theorem Shape.mono {w : World} {esc : Bool} {At At' : Holder} {R R' : Value → Str → Prop} (hl : ∀ d o, At d o → At' d o) (h : ∀ v o, R v o → R' v o) {v : Value} {o : Str} (k : Shape w esc At R v o) : Shape w esc At' R' v o := by
  cases k with
  | text a b => exact .text (a.mono hl) b
  | code a b => exact .code (a.mono hl) b
  | soft a => exact .soft (a.mono hl)
  | br a => exact .br (a.mono hl)
  | em a b c d => exact .em (a.mono hl) (b.mono hl) c (d.mono h)
  | strong a b c d => exact .strong (a.mono hl) (b.mono hl) c (d.mono h)
  | link a b c d e f => exact .link (a.mono hl) (b.mono hl) c (d.mono h) (e.mono hl) f
  | linkT a b c d e f g => exact .linkT (a.mono hl) (b.mono hl) c (d.mono h) (e.mono hl) f g
  | quote a b c d => exact .quote (a.mono hl) (b.mono hl) c (d.mono h)
  | rule a => exact .rule (a.mono hl)
  | blank a => exact .blank (a.mono hl)
  | codeI a b => exact .codeI (a.mono hl) b
  | codeF a b c d => exact .codeF (a.mono hl) b (c.mono hl) d
  | html a b => exact .html (a.mono hl) b
  | head a b c d e f g => exact .head (a.mono hl) (b.mono hl) c (d.mono h) (e.mono hl) f g
  | headI a b c d e f g i => exact .headI (a.mono hl) (b.mono hl) c (d.mono h) (e.mono hl) f g i
  | blockText a b c d => exact .blockText (a.mono hl) (b.mono hl) c (d.mono h)
  | para a b c d => exact .para (a.mono hl) (b.mono hl) c (d.mono h)
theorem TokIn.mono {w : World} {esc : Bool} {At At' : Holder} (hl : ∀ d o, At d o → At' d o) : ∀ {n n' : Nat}, n ≤ n' → ∀ {v : Value} {o : Str}, TokIn w esc At n v o → TokIn w esc At' n' v o
  | 0, _, _, _, _, k => k.elim
  | n + 1, 0, l, _, _, _ => absurd l (Nat.not_succ_le_zero _)
  | n + 1, n' + 1, l, _, _, k => Shape.mono hl (fun _ _ => TokIn.mono hl (Nat.le_of_succ_le_succ l)) k
theorem Kids.snoc {R : Value → Str → Prop} {v : Value} {x : Str} (h : R v x) : ∀ {vs : List Value} {o : Str}, Kids R vs o → Kids R (vs ++ [v]) (o ++ x)
  | [], _, k => by
    cases k
    refine ⟨x, S "", h, rfl, ?_⟩
    apply Str.ext'
    simp [Str.cps_append, show (S "").cps = #[] from by decide +kernel]
  | u :: us, _, ⟨a, b, ra, kb, e⟩ => by
    subst e
    exact ⟨a, b ++ x, ra, Kids.snoc h kb, Str.append_assoc ..⟩
/-- how long a token of depth n may be written -/
def lenOf : Nat → Nat
  | 0 => 0
  | n + 1 => 3 * lenOf n + 500
theorem shown_len (x : Str) : (shownF x).length ≤ 6 * x.length := by
  have h : ∀ l : List Int, (l.flatMap fun c => escN c.toNat).length ≤ 6 * l.length := by
    intro l
    induction l with
    | nil => exact Nat.le_refl _
    | cons a l ih =>
      have : (escN a.toNat).length ≤ 6 := by unfold escN; split <;> (try split) <;> (try split) <;> simp
      simp only [List.flatMap_cons, List.length_append, List.length_cons]; omega
  have z := h (codes x)
  rw [PySem.W.KStt.codes_length] at z
  exact z
theorem texts_len {x : Str} (h : x ∈ textsL) : x.length ≤ 5 := by
  unfold textsL at h
  simp only [List.mem_cons, List.not_mem_nil, or_false] at h
  rcases h with rfl | rfl | rfl | rfl | rfl <;> decide +kernel
theorem urls_len {x : Str} (h : x ∈ urlsL) : x.length ≤ 16 := by
  unfold urlsL at h
  simp only [List.mem_cons, List.not_mem_nil, or_false] at h
  rcases h with rfl | rfl | rfl | rfl | rfl | rfl | rfl | rfl | rfl | rfl | rfl | rfl | rfl | rfl | rfl <;> decide +kernel
theorem addr_len {x : Str} (h : x ∈ urlsL) : (addrF x).length ≤ 96 := by
  unfold addrF
  split
  · decide +kernel
  · exact Nat.le_trans (shown_len x) (by have := urls_len h; omega)
theorem num_len {n : Int} (h1 : 1 ≤ n) (h2 : n ≤ 6) : (numF n).length ≤ 1 := by
  have : n = 1 ∨ n = 2 ∨ n = 3 ∨ n = 4 ∨ n = 5 ∨ n = 6 := by omega
  rcases this with rfl | rfl | rfl | rfl | rfl | rfl <;> decide +kernel
theorem info_len {i y : Str} (h : (i, y) ∈ infoL) : y.length ≤ 30 := by
  unfold infoL at h
  simp only [List.mem_cons, List.not_mem_nil, or_false, Prod.mk.injEq] at h
  rcases h with ⟨_, rfl⟩ | ⟨_, rfl⟩ | ⟨_, rfl⟩ | ⟨_, rfl⟩ <;> decide +kernel
theorem len_app {x y : Str} {a b : Nat} (h1 : x.length ≤ a) (h2 : y.length ≤ b) : (x ++ y).length ≤ a + b := by rw [Str.length_append]; omega
theorem kids_len {R : Value → Str → Prop} {k : Nat} (h : ∀ v x, R v x → x.length ≤ k) : ∀ {vs : List Value} {x : Str}, Kids R vs x → x.length ≤ vs.length * k
  | [], _, e => by
    cases e
    have : (S "").length = 0 := by decide +kernel
    omega
  | _ :: vs, _, ⟨a, b, ra, kb, e⟩ => by
    subst e
    have h1 := h _ _ ra
    have h2 := kids_len h kb
    rw [Str.length_append, List.length_cons, Nat.succ_mul]; omega
theorem shape_len {w : World} {esc : Bool} {At : Holder} {R : Value → Str → Prop} {k : Nat} (h : ∀ v x, R v x → x.length ≤ k) {v : Value} {o : Str} (s : Shape w esc At R v o) : o.length ≤ 3 * k + 500 := by
  have kl : ∀ {vs : List Value} {x : Str}, vs.length ≤ 3 → Kids R vs x → x.length ≤ 3 * k := fun h1 h2 => Nat.le_trans (kids_len h h2) (Nat.mul_le_mul_right k h1)
  have tx : ∀ {x : Str}, x ∈ textsL → (shownF x).length ≤ 30 := fun h => Nat.le_trans (shown_len _) (by have := texts_len h; omega)
  cases s with
  | text a b => exact Nat.le_trans (tx b) (by omega)
  | code a b => exact Nat.le_trans (len_app (len_app (a := 6) (by decide +kernel) (tx b)) (b := 7) (by decide +kernel)) (by omega)
  | soft a => exact Nat.le_trans (m := 1) (by decide +kernel) (by omega)
  | br a => exact Nat.le_trans (m := 7) (by decide +kernel) (by omega)
  | em a b c d => exact Nat.le_trans (len_app (len_app (a := 4) (by decide +kernel) (kl c d)) (b := 5) (by decide +kernel)) (by omega)
  | strong a b c d => exact Nat.le_trans (len_app (len_app (a := 8) (by decide +kernel) (kl c d)) (b := 9) (by decide +kernel)) (by omega)
  | link a b c d e f => exact Nat.le_trans (len_app (len_app (len_app (len_app (len_app (a := 9) (by decide +kernel) (addr_len f)) (b := 1) (by decide +kernel)) (b := 1) (by decide +kernel)) (kl c d)) (b := 4) (by decide +kernel)) (by omega)
  | linkT a b c d e f g => exact Nat.le_trans (len_app (len_app (len_app (len_app (len_app (len_app (len_app (len_app (a := 9) (by decide +kernel) (addr_len f)) (b := 1) (by decide +kernel)) (b := 13) (by decide +kernel)) (tx g)) (b := 1) (by decide +kernel)) (b := 1) (by decide +kernel)) (kl c d)) (b := 4) (by decide +kernel)) (by omega)
  | quote a b c d => exact Nat.le_trans (len_app (len_app (a := 13) (by decide +kernel) (kl c d)) (b := 14) (by decide +kernel)) (by omega)
  | rule a => exact Nat.le_trans (m := 7) (by decide +kernel) (by omega)
  | blank a => exact Nat.le_trans (m := 0) (by decide +kernel) (by omega)
  | codeI a b => exact Nat.le_trans (len_app (len_app (a := 11) (by decide +kernel) (tx b)) (b := 15) (by decide +kernel)) (by omega)
  | codeF a b c d => exact Nat.le_trans (len_app (len_app (len_app (len_app (a := 10) (by decide +kernel) (info_len d)) (b := 1) (by decide +kernel)) (tx b)) (b := 14) (by decide +kernel)) (by omega)
  | html a b =>
    split
    · exact Nat.le_trans (len_app (len_app (a := 3) (by decide +kernel) (Nat.le_trans (shown_len _) (Nat.mul_le_mul_left 6 (len_app (a := 4) (by decide +kernel) (texts_len b))))) (b := 5) (by decide +kernel)) (by omega)
    · exact Nat.le_trans (len_app (len_app (a := 4) (by decide +kernel) (texts_len b)) (b := 1) (by decide +kernel)) (by omega)
  | head a b c d e f g => exact Nat.le_trans (len_app (len_app (len_app (len_app (len_app (len_app (len_app (a := 2) (by decide +kernel) (num_len f g)) (b := 0) (by decide +kernel)) (b := 1) (by decide +kernel)) (kl c d)) (b := 3) (by decide +kernel)) (num_len f g)) (b := 2) (by decide +kernel)) (by omega)
  | headI a b c d e f g i => exact Nat.le_trans (len_app (len_app (len_app (len_app (len_app (len_app (len_app (a := 2) (by decide +kernel) (num_len f g)) (len_app (len_app (a := 10) (by decide +kernel) (tx i)) (b := 1) (by decide +kernel))) (b := 1) (by decide +kernel)) (kl c d)) (b := 3) (by decide +kernel)) (num_len f g)) (b := 2) (by decide +kernel)) (by omega)
  | blockText a b c d => exact Nat.le_trans (kl c d) (by omega)
  | para a b c d => exact Nat.le_trans (len_app (len_app (a := 3) (by decide +kernel) (kl c d)) (b := 5) (by decide +kernel)) (by omega)
theorem tok_len {w : World} {esc : Bool} {At : Holder} : ∀ {n : Nat} {v : Value} {o : Str}, TokIn w esc At n v o → o.length ≤ lenOf n
  | 0, _, _, k => k.elim
  | _ + 1, _, _, k => shape_len (fun _ _ h => tok_len h) k
/-- a length, counted in pieces -/
def Sz (x : Str) (n : Nat) : Prop := x.length ≤ n * 100000
theorem Sz.app {x y : Str} {a b : Nat} (hx : Sz x a) (hy : Sz y b) : Sz (x ++ y) (a + b) := by
  unfold Sz at *; rw [Str.length_append, Nat.add_mul]; omega
theorem Sz.one {x : Str} (h : x.length ≤ 100000) : Sz x 1 := by unfold Sz; omega
theorem texts_sz {x : Str} (h : x ∈ textsL) : Sz x 1 := Sz.one (Nat.le_trans (texts_len h) (by decide))
theorem urls_sz {x : Str} (h : x ∈ urlsL) : Sz x 1 := Sz.one (Nat.le_trans (urls_len h) (by decide))
theorem kids_sz {w : World} {esc : Bool} {At : Holder} {n : Nat} (hn : n ≤ 5) {vs : List Value} {x : Str} (hv : vs.length ≤ 3) (h : Kids (TokIn w esc At n) vs x) : Sz x 2 := by
  have h1 := kids_len (fun v x (h : TokIn w esc At n v x) => tok_len h) h
  have h2 : lenOf n ≤ lenOf 5 := by
    have : n = 0 ∨ n = 1 ∨ n = 2 ∨ n = 3 ∨ n = 4 ∨ n = 5 := by omega
    rcases this with rfl | rfl | rfl | rfl | rfl | rfl <;> decide
  have h3 : lenOf 5 = 60500 := by decide
  have h4 : vs.length * lenOf n ≤ 3 * lenOf n := Nat.mul_le_mul_right _ hv
  unfold Sz; omega
theorem tok_sz {w : World} {esc : Bool} {At : Holder} {n : Nat} (hn : n ≤ 5) {v : Value} {x : Str} (h : TokIn w esc At n v x) : Sz x 1 := by
  have h1 := tok_len h
  have h2 : lenOf n ≤ lenOf 5 := by
    have : n = 0 ∨ n = 1 ∨ n = 2 ∨ n = 3 ∨ n = 4 ∨ n = 5 := by omega
    rcases this with rfl | rfl | rfl | rfl | rfl | rfl <;> decide
  have h3 : lenOf 5 = 60500 := by decide
  exact Sz.one (by omega)
end
section
/-- the count of tokens never falls -/
theorem runs_up {M : Model} {Γ : PySem.Ctx} {p : Pos} {t : Sem Fin} {fs : List Frame} {s : Shared} {e : End} {s' : Shared} (h : Runs M Γ p t fs s e s') : s.toks ≤ s'.toks := by
  induction h <;> first
    | exact Nat.le_refl _
    | assumption
    | exact Nat.le_trans ‹_› ‹_›
    | exact Nat.le_trans (Nat.le_succ _) ‹_›
    | (rename_i a b; exact Nat.le_trans a b)
    | (rename_i a _ b; exact Nat.le_trans a b)
    | (simp only [Shared.setGen] at *; omega)
theorem wakes_up {M : Model} {Γ : PySem.Ctx} {p : Pos} {g : Nat} {r : Resume} {s : Shared} {res : GenResult} {s' : Shared} (h : Wakes M Γ p g r s res s') : s.toks ≤ s'.toks := by
  unfold Wakes at h
  split at h
  · exact h.elim
  · split at h
    · obtain ⟨e₁, s₁, hr, _, _, rfl⟩ := h
      have := runs_up hr
      exact this
    · rw [h.2]; exact Nat.le_refl _
    · rw [h.2]; exact Nat.le_refl _
  · obtain ⟨e₁, s₁, hr, _, _, rfl⟩ := h
    have := runs_up hr
    exact this
  · rw [h.2]; exact Nat.le_refl _
  · rw [h.2]; exact Nat.le_refl _
theorem wp_up {α : Type} (M : Model) (Γ : PySem.Ctx) (n : Nat) (t : Sem α) : ∀ {Q : α → Pos → Shared → Prop} {E : Value → Pos → Shared → Prop} {p : Pos} {s : Shared}, n ≤ s.toks → Sem.wp M Γ t Q E p s →
    Sem.wp M Γ t (fun a p s' => n ≤ s'.toks ∧ Q a p s') (fun x p s' => n ≤ s'.toks ∧ E x p s') p s := by
  induction t with
  | pure a => intro Q E p s h k; exact ⟨h, k⟩
  | raise a => intro Q E p s h k; exact ⟨h, k⟩
  | unsupported w => intro Q E p s h k; exact k.elim
  | finish w => intro Q E p s h k; exact k.elim
  | register a k ih => intro Q E p s h k; exact k.elim
  | yield a b c k ih => intro Q E p s h k; exact k.elim
  | fork a k ih => intro Q E p s h k; exact k.elim
  | await a b c d k ih => intro Q E p s h k; exact k.elim
  | rule a k ih => intro Q E p s h k; exact ih _ h k
  | «at» a k ih => intro Q E p s h k; exact ih _ h k
  | load a b k ih => intro Q E p s h k; obtain ⟨o, ho, k⟩ := k; exact ⟨o, ho, ih _ h k⟩
  | update a b f k ih => intro Q E p s h k; exact ⟨k.1, ih _ (by exact h) k.2⟩
  | alloc o k ih => intro Q E p s h k; exact ih _ (by exact h) k
  | loadIfAlive a k ih => intro Q E p s h k; exact ih _ h k
  | point a k ih => intro Q E p s h k; exact ih _ h k
  | fresh k ih => intro Q E p s h k; exact ih _ (Nat.le_succ_of_le h) k
  | ask k ih => intro Q E p s h k; exact ih _ h k
  | choose a b k ih => intro Q E p s h k; exact ⟨k.1, ih _ (by exact h) k.2⟩
  | os a b k ih => intro Q E p s h k; exact ih _ (by exact h) k
  | call c hd g l k ih => intro Q E p s h k; obtain ⟨r, s₁, hr, k⟩ := k; exact ⟨r, s₁, hr, ih _ (Nat.le_trans h (runs_up hr)) k⟩
  | handled a k ih => intro Q E p s h k; exact ih _ h k
  | genState g k ih => intro Q E p s h k; obtain ⟨st, hs, k⟩ := k; exact ⟨st, hs, ih _ h k⟩
  | newGen c k ih => intro Q E p s h k; exact ih _ (by exact h) k
  | resume g r l k ih => intro Q E p s h k; obtain ⟨r, s₁, hr, k⟩ := k; exact ⟨r, s₁, hr, ih _ (Nat.le_trans h (wakes_up hr)) k⟩
  | stack k ih => intro Q E p s h k; exact ih _ h k
  | thread k ih => intro Q E p s h k; exact ih _ h k
/-- behind any tree the count of tokens is at least what it was -/
theorem any_up {α : Type} {M : Model} {A : Around} {t : Sem α} {Q : α → Shared → Prop} {E : Value → Shared → Prop} {s : Shared} {n : Nat} (hn : n ≤ s.toks) (h : wpAny M A t (fun a s' => n ≤ s'.toks → Q a s') (fun x s' => n ≤ s'.toks → E x s') s) : wpAny M A t Q E s :=
  fun Γ p hΓ => Sem.wp_mono M Γ t (fun _ _ _ k => k.2 k.1) (fun _ _ _ k => k.2 k.1) p s (wp_up M Γ n t hn (h Γ p hΓ))
end
section
theorem strs_get : ∀ {vs : List Value} {xs : List Str}, StrsAre vs xs → ∀ {i : Nat}, i < xs.length → ∃ x t, x ∈ xs ∧ vs[i]? = some (.str x t)
  | _, _, .nil, i, h => absurd h (Nat.not_lt_zero _)
  | _, _, .cons x t _, 0, _ => ⟨x, t, .head _, rfl⟩
  | _, _, .cons x t r, i + 1, h => by
    obtain ⟨y, u, hy, e⟩ := strs_get r (Nat.lt_of_succ_lt_succ h)
    exact ⟨y, u, .tail _ hy, by simpa using e⟩
theorem news_tail {h₀ h : Heap} {L : Addr} {p : Addr × Obj} {news : Led} (N : News h₀ L h (p :: news)) : News h₀ L h news := fun q hq => N q (.tail _ hq)
theorem menu_item {w : World} {A : Around} {E : Value → Shared → Prop} {s : Shared} {h₀ : Heap} {L : Addr} {news : Led} {l : Addr} {vs : List Value} {xs : List Str} {c : Nat} {k : Int} {u : Nat} {value slice : PySem.Expr} {Q : Value → Shared → Prop}
    (N : News h₀ L s.heap ((l, W.listOf vs.toArray c) :: news)) (hx : StrsAre vs xs) (h0 : 0 ≤ k) (h1 : k < (xs.length : Int)) (h2 : xs.length < 1000)
    (hs : subscripted slice false (.ref l) (.int k u) = operate [.ref l, .int k u] (getItem (.ref l) (.int k u)))
    (h : ∀ x t, x ∈ xs → News h₀ L s.heap news → Q (.str x t) s) : wpAny (mdl w) A (subscriptTail value slice (.ref l) (.int k u)) Q E s := by
  have hl : s.heap.IsList l vs.toArray := ⟨_, (N _ (.head _)).1, rfl, c, rfl⟩
  obtain ⟨x, t, hm, e⟩ := strs_get hx (i := k.toNat) (by omega)
  exact tail_any hl.typeIs slot_list_getitem.lookup (wpAny_getItem_list hl h0 (by omega) (by simpa using e) (h x t hm (news_tail N))) hs


theorem pstr_len : (Str.ofString "<p>\n").length = 4 := by decide +kernel
theorem ulen_t : (Str.ofString "t<").length = 2 := by decide +kernel
theorem at_len {xs : List Str} {i n : Nat} {x : Str} (h : xs[i]? = some x) (a : xs.all (fun y => decide (y.length ≤ n)) = true) : x.length ≤ n := of_decide_eq_true (List.all_eq_true.mp a x (List.mem_of_getElem? h))
theorem strs_at : ∀ {vs : List Value} {xs : List Str}, StrsAre vs xs → ∀ {i : Nat}, i < xs.length → ∃ x t, xs[i]? = some x ∧ vs[i]? = some (.str x t)
  | _, _, .nil, i, h => absurd h (Nat.not_lt_zero _)
  | _, _, .cons x t _, 0, _ => ⟨x, t, rfl, rfl⟩
  | _, _, .cons x t r, i + 1, h => by
    obtain ⟨y, u, hy, e⟩ := strs_at r (Nat.lt_of_succ_lt_succ h)
    exact ⟨y, u, by simpa using hy, by simpa using e⟩
theorem menu_at {w : World} {A : Around} {E : Value → Shared → Prop} {s : Shared} {h₀ : Heap} {L : Addr} {news : Led} {l : Addr} {vs : List Value} {xs : List Str} {c : Nat} {k : Int} {u : Nat} {value slice : PySem.Expr} {Q : Value → Shared → Prop}
    (N : News h₀ L s.heap ((l, W.listOf vs.toArray c) :: news)) (hx : StrsAre vs xs) (h0 : 0 ≤ k) (h1 : k < (xs.length : Int)) (h2 : xs.length < 1000)
    (hs : subscripted slice false (.ref l) (.int k u) = operate [.ref l, .int k u] (getItem (.ref l) (.int k u)))
    (h : ∀ x t, xs[k.toNat]? = some x → News h₀ L s.heap news → Q (.str x t) s) : wpAny (mdl w) A (subscriptTail value slice (.ref l) (.int k u)) Q E s := by
  have hl : s.heap.IsList l vs.toArray := ⟨_, (N _ (.head _)).1, rfl, c, rfl⟩
  obtain ⟨x, t, hm, e⟩ := strs_at hx (i := k.toNat) (by omega)
  exact tail_any hl.typeIs slot_list_getitem.lookup (wpAny_getItem_list hl h0 (by omega) (by simpa using e) (h x t hm (news_tail N))) hs
abbrev namesL : List Str := [S "py", S " c++  d ", S "e", S ""]
abbrev langsL : List Str := [S "\"language-py\"", S "\"language-c++\"", S "\"language-e\"", S ""]
theorem langs_len {i : Nat} {y : Str} (h : langsL[i]? = some y) : y.length ≤ 14 := by
  match i, h with
  | 0, h => cases h; decide +kernel
  | 1, h => cases h; decide +kernel
  | 2, h => cases h; decide +kernel
  | 3, h => cases h; decide +kernel
theorem info_some {i : Nat} {x y : Str} (hx : namesL[i]? = some x) (hy : langsL[i]? = some y) (hn : (y == S "") = false) : (x, S " class=" ++ y) ∈ infoL := by
  match i, hx, hy with
  | 0, hx, hy => cases hx; cases hy; decide +kernel
  | 1, hx, hy => cases hx; cases hy; decide +kernel
  | 2, hx, hy => cases hx; cases hy; decide +kernel
  | 3, hx, hy => cases hy; exact absurd hn (by decide +kernel)
theorem info_none {i : Nat} {x y : Str} (hx : namesL[i]? = some x) (hy : langsL[i]? = some y) (hn : (y == S "") = true) : (x, y) ∈ infoL := by
  match i, hx, hy with
  | 0, hx, hy => cases hy; exact absurd hn (by decide +kernel)
  | 1, hx, hy => cases hy; exact absurd hn (by decide +kernel)
  | 2, hx, hy => cases hy; exact absurd hn (by decide +kernel)
  | 3, hx, hy => cases hx; cases hy; decide +kernel
theorem add_strG {w : World} {A : Around} {E : Value → Shared → Prop} {s : Shared} {x y : Str} {t u : Nat} {n : Nat} {Q : Value → Shared → Prop} (hz : Sz (x ++ y) n) (hn : n ≤ 160)
    (h : ∀ t' k, s.toks ≤ k → Sz (x ++ y) n → Q (.str (x ++ y) t') { s with toks := k }) : wpAny (mdl w) A (binaryOp .Add (.str x t) (.str y u)) Q E s := by
  have hl : x.length + y.length ≤ sizeLine := by
    have e := Str.length_append x y
    have z := Nat.le_trans hz (Nat.mul_le_mul_right 100000 hn)
    have q : sizeLine = 16777216 := by decide
    omega
  exact any_up (Nat.le_refl s.toks) (SBL.add (fun t' k _ hk => h t' k hk hz) hl)
theorem add_strP {w : World} {A : Around} {E : Value → Shared → Prop} {s : Shared} {x y : Str} {t u : Nat} {n : Nat} {Q : Value → Shared → Prop} (hz : Sz (x ++ y) n) (hn : n ≤ 160)
    (h : ∀ t' k, Sz (x ++ y) n → Q (.str (x ++ y) t') { s with toks := k }) : wpAny (mdl w) A (binaryOp .Add (.str x t) (.str y u)) Q E s := add_strG hz hn fun t' k _ z => h t' k z
theorem room {dp dn need lim : Nat} (h : dp + dn < lim) (k : need ≤ dn) : dp + need < lim := Nat.lt_of_le_of_lt (Nat.add_le_add_left k dp) h
theorem room1 {dp dn need lim : Nat} (h : dp + dn < lim) (k : 1 + need ≤ dn) : dp + 1 + need < lim := by omega
theorem room3 {dp dn need lim : Nat} (h : dp + dn < lim) (k : 3 + need ≤ dn) : dp + 3 + need < lim := by omega


theorem num_sz (a : Int) : (Str.ofString (toString (Int.fmod a 6 + 1))).length ≤ 100000 := by
  have h0 := Int.fmod_nonneg_of_pos a (b := 6) (by decide)
  have h1 := Int.fmod_lt_of_pos a (b := 6) (by decide)
  generalize Int.fmod a 6 = v at h0 h1
  have : v = 0 ∨ v = 1 ∨ v = 2 ∨ v = 3 ∨ v = 4 ∨ v = 5 := by omega
  rcases this with rfl | rfl | rfl | rfl | rfl | rfl <;> decide +kernel
/-- a residue, value by value -/
theorem lt6 {v : Int} (h0 : 0 ≤ v) (h1 : v < 6) : 1 ≤ v + 1 ∧ v + 1 ≤ 6 := by omega
theorem listAt {h : Heap} {a : Addr} {vs : Array Value} (H : h.IsList a vs) {g : Heap} (k : Kp h g) : g.IsList a vs := H.at fun o e => k a o e
theorem iteP {c : Prop} [Decidable c] {P Q : Prop} (h : c) (x : P) : if c then P else Q := by rw [if_pos h]; exact x
theorem iteN {c : Prop} [Decidable c] {P Q : Prop} (h : ¬ c) (x : Q) : if c then P else Q := by rw [if_neg h]; exact x
theorem iteD {c : Prop} [Decidable c] {P Q : Prop} (x : c → P) (y : ¬ c → Q) : if c then P else Q := by
  by_cases h : c
  · rw [if_pos h]; exact x h
  · rw [if_neg h]; exact y h
theorem iteDec {c : Prop} [Decidable c] {P Q : Prop} (x : c → P) (y : ¬ c → Q) : if decide c = true then P else Q := by
  by_cases h : c
  · rw [if_pos (by simpa using h)]; exact x h
  · rw [if_neg (by simpa using h)]; exact y h
theorem iteB {b : Bool} {P Q : Prop} (x : b = true → P) (y : b = false → Q) : if b = true then P else Q := by
  cases b
  · exact y rfl
  · exact x rfl
theorem ite_sp {P Q : Prop} {a b : Int} (h1 : (a == b) = true → P) (h2 : (a == b) = false → Q) : if (a == b) = true then P else Q := by
  cases h : (a == b) with
  | true => rw [if_pos rfl]; exact h1 h
  | false => rw [if_neg (by decide)]; exact h2 h
theorem ite_eqno {P Q : Prop} {a b c : Int} (h1 : (a == c) = true) (h2 : (c == b) = false) (q : Q) : if (a == b) = true then P else Q := by
  rw [if_neg (by rw [eq_of_beq h1, h2]; decide)]; exact q
theorem ite_anyno {P Q : Prop} {a b : Int} {l : List Int} (h1 : (l.any fun x => x == a) = true) (h2 : (l.any fun x => x == b) = false) (q : Q) : if (a == b) = true then P else Q := by
  rw [if_neg (fun h => by rw [eq_of_beq h, h2] at h1; cases h1)]; exact q
end
section
abbrev tupOf (vs : List Value) : Obj := { cls := .type "tuple", data := .seq vs.toArray }
/-- what _law_inline hands back: tokens of level n, the text, the next place -/
def InlOut (w : World) (n : Nat) (b k : Int) (tl : Led) (r : Value) : Prop := ∃ a l vs x t1 t2 k', r = .ref a ∧ (a, tupOf [.ref l, .str x t1, .int k' t2]) ∈ tl ∧ LA (inLed tl) l vs ∧ vs.length ≤ 3 ∧ (∀ esc, Kids (TokIn w esc (inLed tl) n) vs x) ∧ k ≤ k' ∧ k' ≤ k + b
/-- what _law_block hands back: a token of level n, its text, the next place -/
def BlkOut (w : World) (esc : Bool) (n : Nat) (b k : Int) (tl : Led) (r : Value) : Prop := ∃ a v x t1 t2 k', r = .ref a ∧ (a, tupOf [v, .str x t1, .int k' t2]) ∈ tl ∧ TokIn w esc (inLed tl) n v x ∧ k ≤ k' ∧ k' ≤ k + b
theorem html_t {w : World} {esc : Bool} {At : Holder} {R : Value → Str → Prop} {d : Addr} {x : Str} {t1 t2 : Nat} (he : esc = true) (h : DA w At d [(S "type", .str (S "block_html") t1), (S "raw", .str (S "<p>\n" ++ x) t2)]) (hx : x ∈ textsL) : Shape w esc At R (.ref d) (S "<p>" ++ shownF (S "<p>\n" ++ x) ++ S "</p>\n") := by
  have z := Shape.html (esc := esc) (R := R) h hx
  rw [if_pos he] at z; exact z
theorem html_f {w : World} {esc : Bool} {At : Holder} {R : Value → Str → Prop} {d : Addr} {x : Str} {t1 t2 : Nat} (he : esc = false) (h : DA w At d [(S "type", .str (S "block_html") t1), (S "raw", .str (S "<p>\n" ++ x) t2)]) (hx : x ∈ textsL) : Shape w esc At R (.ref d) (S "<p>\n" ++ x ++ S "\n") := by
  have z := Shape.html (esc := esc) (R := R) h hx
  rw [if_neg (by rw [he]; decide)] at z; exact z
theorem LA.in {tl tl' : Led} {l : Addr} {vs : List Value} (x : LA (inLed tl) l vs) (h : ∀ d o, (d, o) ∈ tl → (d, o) ∈ tl') : LA (inLed tl') l vs := x.mono h
theorem Kids.in {w : World} {esc : Bool} {n n' : Nat} {tl tl' : Led} {vs : List Value} {x : Str} (k : Kids (TokIn w esc (inLed tl) n) vs x) (hn : n ≤ n') (h : ∀ d o, (d, o) ∈ tl → (d, o) ∈ tl') : Kids (TokIn w esc (inLed tl') n') vs x := k.mono fun _ _ z => TokIn.mono h hn z
theorem Kids.one {w : World} {esc : Bool} {n : Nat} {At : Holder} {v : Value} {x : Str} (h : TokIn w esc At n v x) : Kids (TokIn w esc At n) [v] (S "" ++ x) := Kids.snoc h (vs := []) rfl
theorem Kids.two {w : World} {esc : Bool} {n : Nat} {At : Holder} {v v' : Value} {x x' : Str} (h : TokIn w esc At n v x) (h' : TokIn w esc At n v' x') : Kids (TokIn w esc At n) [v, v'] (S "" ++ x ++ x') := Kids.snoc h' (Kids.one h)
end
section
/-- names a number for a line of the walk -/
inductive Marked : Int → Prop | mk (b : Int) : Marked b
section
variable {w : World} {A : Around} {E : Value → Shared → Prop} {s : Shared} {env : Env} {h₀ : Heap} {x : Str} {body : List Stmt} {Q : Flow → Shared → Prop}
/-- a loop that grows a list of tokens and their text: what holds between the turns -/
def LJ (w : World) (Es : Bool → Prop) (lv : Nat) (x on : Str) (st : List Str) (m₀ : Str → Option Value) (l : Addr) (k₀ b : Int) (i : Nat) (m : Str → Option Value) (nx : Led) : Prop :=
  ∃ vs c y t k t2 tl, nx = (l, W.listOf vs.toArray c) :: tl ∧ (∀ p ∈ tl, p.1 ≠ l) ∧ vs.length = i ∧ (∀ e, Es e → Kids (TokIn w e (inLed tl) lv) vs y) ∧ k₀ ≤ k ∧ k ≤ k₀ + b * (i : Int) ∧
    m on = some (.str y t) ∧ m (S "k") = some (.int k t2) ∧ ∀ z, z ≠ x → z ≠ on → z ≠ S "k" → st.contains z = false → m z = m₀ z
/-- the end of a turn -/
def TurnEnd (w : World) (Es : Bool → Prop) (lv : Nat) (x on : Str) (st : List Str) (m₀ : Str → Option Value) (h₀ : Heap) (L l : Addr) (vs : List Value) (y : Str) (k b : Int) (Z : Led) (s₁ s₂ : Shared) : Prop :=
  ∃ h' tk m' ns v yv c' t k' t2, s₂ = { s₁ with heap := h', toks := tk } ∧ Fr h₀ L h' m' ∧ News h₀ L h' ((l, W.listOf (vs ++ [v]).toArray c') :: (ns ++ Z)) ∧ (∀ p ∈ ns, p.1 ≠ l) ∧ (∀ p ∈ ns, ∀ q ∈ Z, p.1 ≠ q.1) ∧
    (∀ e, Es e → TokIn w e (inLed ns) lv v yv) ∧ m' on = some (.str (y ++ yv) t) ∧ m' (S "k") = some (.int k' t2) ∧ k ≤ k' ∧ k' ≤ k + b ∧ ∀ z, z ≠ x → z ≠ on → z ≠ S "k" → st.contains z = false → m' z = m₀ z
def TurnPost (w : World) (Es : Bool → Prop) (lv : Nat) (x on : Str) (st : List Str) (m₀ : Str → Option Value) (h₀ : Heap) (L l : Addr) (vs : List Value) (y : Str) (k b : Int) (Z : Led) (s₁ : Shared) (Q : Flow → Shared → Prop) (f : Flow) (s₂ : Shared) : Prop :=
  match f with
  | .ret v => Q (.ret v) s₂
  | .brk => Q .next s₂
  | _ => TurnEnd w Es lv x on st m₀ h₀ L l vs y k b Z s₁ s₂
theorem loop_toks {r : Addr} {b₀ : Int} {t₀ u₀ v₀ : Tok} {n : Nat} {m₀ : Str → Option Value} {news : Led} {l : Addr} {c₀ : Nat} {on : Str} {st : List Str} {k₀ b : Int} {kt ot : Nat} {Es : Bool → Prop} {lv : Nat} (_hmb : Marked b) (M1 : Nat) (hnM : n ≤ M1 + 1) (hb0 : 0 ≤ b) (hlv : lv ≤ 5) (hn3 : n ≤ 3) (hE : ∃ e, Es e)
    (hh : A.handled = none) (hr : IsRange s.heap r 0 b₀ 1 t₀ u₀ v₀) (hsmall : Builtin.Range.small 0 b₀ 1 = true) (hn : Builtin.Range.rangeSize 0 b₀ 1 = (n : Int)) (F : Fr h₀ env.locals s.heap m₀) (N : News h₀ env.locals s.heap news) (hl : (l, W.listOf #[] c₀) ∈ news)
    (hx : m₀ on = some (.str (S "") ot)) (hk : m₀ (S "k") = some (.int k₀ kt)) (hxo : x ≠ on) (hxk : x ≠ S "k") (hok : on ≠ S "k")
    (turn : ∀ vs c y t k t2 (u : Str → Option Value) (Z : Led) h tk j tj, vs.length ≤ M1 → Sz y 2 → (∀ p ∈ Z, p.1 ≠ l) → k₀ ≤ k → k ≤ k₀ + b * (M1 : Int) →
      Fr h₀ env.locals h (fun z => if z = x then some (.int j tj) else if z = on then some (.str y t) else if z = S "k" then some (.int k t2) else if st.contains z then u z else m₀ z) → News h₀ env.locals h ((l, W.listOf vs.toArray c) :: Z) →
      wpAny (mdl w) A (execs body env) (TurnPost w Es lv x on st m₀ h₀ env.locals l vs y k b Z { s with heap := h, toks := tk } Q) E { s with heap := h, toks := tk })
    (done : ∀ vs c y t k t2 (u : Str → Option Value) tl h tk, vs.length ≤ M1 + 1 → (∀ e, Es e → Kids (TokIn w e (inLed tl) lv) vs y) → Sz y 2 → k₀ ≤ k → k ≤ k₀ + b * ((M1 + 1 : Nat) : Int) → (∀ p ∈ tl, p.1 ≠ l) →
      Fr h₀ env.locals h (fun z => if z = x then u z else if z = on then some (.str y t) else if z = S "k" then some (.int k t2) else if st.contains z then u z else m₀ z) → News h₀ env.locals h ((l, W.listOf vs.toArray c) :: tl) → Q .next { s with heap := h, toks := tk }) :
    wpAny (mdl w) A (pyIter (.ref r)) (fun it s₂ => LoopAtV PySem.Challenge.rw_ba0042_01.row.prog w A h₀ env x body Q E it s₂) E s := by
  have mulUp : ∀ {k : Int} {i j : Nat}, k ≤ k₀ + b * (i : Int) → i ≤ j → k ≤ k₀ + b * (j : Int) := fun h1 h2 => by
    have := Int.mul_le_mul_of_nonneg_left (Int.ofNat_le.mpr h2) hb0
    omega
  have szK : ∀ {vs : List Value} {y : Str} {tl : Led}, vs.length ≤ n → (∀ e, Es e → Kids (TokIn w e (inLed tl) lv) vs y) → Sz y 2 := fun h1 h2 => by
    obtain ⟨e, he⟩ := hE
    exact kids_sz hlv (Nat.le_trans h1 hn3) (h2 e he)
  have mapE : ∀ (m₁ : Str → Option Value) (y : Str) (t : Nat) (k : Int) (t2 : Nat) (X : Option Value) , m₁ on = some (.str y t) → m₁ (S "k") = some (.int k t2) → (∀ z, z ≠ x → z ≠ on → z ≠ S "k" → st.contains z = false → m₁ z = m₀ z) →
      (fun z => if z = x then X else m₁ z) = fun z => if z = x then X else if z = on then some (Value.str y t) else if z = S "k" then some (Value.int k t2) else if st.contains z then m₁ z else m₀ z := by
    intro m₁ y t k t2 X h1 h2 h3
    funext z
    by_cases q1 : z = x
    · simp only [if_pos q1]
    · simp only [if_neg q1]
      by_cases q2 : z = on
      · simp only [if_pos q2]; rw [q2]; exact h1
      · simp only [if_neg q2]
        by_cases q3 : z = S "k"
        · simp only [if_pos q3]; rw [q3]; exact h2
        · simp only [if_neg q3]
          cases q4 : st.contains z with
          | true => simp
          | false => simp only [Bool.false_eq_true, if_false]; exact h3 z q1 q2 q3 q4
  refine tbr_invG (fun i m nx => LJ w Es lv x on st m₀ l k₀ b i m nx) hh hr hsmall hn F (news := [(l, W.listOf #[] c₀)]) (fun p hp => by rw [List.mem_singleton.mp hp]; exact N _ hl)
    ⟨[], c₀, S "", ot, k₀, kt, [], rfl, (fun p hp => nomatch hp), rfl, (fun _ _ => rfl), Int.le_refl _, by simp, hx, hk, fun _ _ _ _ _ => rfl⟩ ?_ ?_
  · rintro i j tj m₁ nx h tk own hi hoff ⟨vs, c, y, t, k, t2, tl, rfl, htl, hlen, hK, hk1, hk2, e1, e2, e3⟩ F₁ N₁
    have hin : i < n := by
      have := (List.getElem?_eq_some_iff.mp hi).1
      rwa [rangeKs_length] at this
    subst hlen
    rw [mapE m₁ y t k t2 _ e1 e2 e3] at F₁
    have hZ : ∀ p ∈ tl ++ own, p.1 ≠ l := fun p hp => by
      rcases List.mem_append.mp hp with hp | hp
      · exact htl p hp
      · exact hoff p hp _ (.head _)
    refine wpAny_mono (turn vs c y t k t2 m₁ (tl ++ own) h tk j tj (by omega) (szK (Nat.le_of_lt hin) hK) hZ hk1 (mulUp hk2 (by omega)) F₁ N₁) (fun f s₂ q => ?_) fun _ _ q => q
    have fin : TurnEnd w Es lv x on st m₀ h₀ env.locals l vs y k b (tl ++ own) { s with heap := h, toks := tk } s₂ → TbEnd h₀ env.locals (LJ w Es lv x on st m₀ l k₀ b (vs.length + 1)) own { s with heap := h, toks := tk } s₂ := by
      rintro ⟨h', tk', m', ns, v, yv, c', t', k', t2', e, F', N', a1, a2, hT, f1, f2, b1, b2, f3⟩
      refine ⟨h', tk', m', _, (l, W.listOf (vs ++ [v]).toArray c') :: (ns ++ tl), e, F', N', fun p hp => ?_, fun p hp => ?_, fun p hp q hq => ?_, vs ++ [v], c', y ++ yv, t', k', t2', ns ++ tl, rfl, fun p hp => ?_, by simp, fun e he => ?_, by omega, ?_, f1, f2, f3⟩
      · rcases List.mem_cons.mp hp with rfl | hp
        · exact .head _
        · rcases List.mem_append.mp hp with hp | hp
          · exact .tail _ (List.mem_append_left _ hp)
          · exact .tail _ (List.mem_append_right _ (List.mem_append_left _ hp))
      · exact .tail _ (List.mem_append_right _ (List.mem_append_right _ hp))
      · rcases List.mem_cons.mp hq with rfl | hq
        · exact hoff p hp (l, W.listOf vs.toArray c) (.head _)
        · rcases List.mem_append.mp hq with hq | hq
          · exact Ne.symm (a2 q hq p (List.mem_append_right _ hp))
          · exact hoff p hp q (.tail _ hq)
      · rcases List.mem_append.mp hp with hp | hp
        · exact a1 p hp
        · exact htl p hp
      · refine Kids.snoc ?_ ((hK e he).mono fun _ _ z => ?_)
        · exact TokIn.mono (fun _ _ z => List.mem_append_left _ z) (Nat.le_refl _) (hT e he)
        · exact TokIn.mono (fun _ _ z => List.mem_append_right _ z) (Nat.le_refl _) z
      · have : b * ((vs.length + 1 : Nat) : Int) = b * (vs.length : Int) + b := by rw [Int.natCast_add, Int.mul_add]; simp
        omega
    cases f with
    | ret v => exact q
    | brk => exact q
    | next => exact fin q
    | cont => exact fin q
  · rintro m₁ nx h tk ⟨vs, c, y, t, k, t2, tl, rfl, htl, hlen, hK, hk1, hk2, e1, e2, e3⟩ F₁ N₁
    have e := mapE m₁ y t k t2 (m₁ x) e1 e2 e3
    have e' : (fun z => if z = x then m₁ x else m₁ z) = m₁ := by
      funext z
      by_cases q : z = x
      · simp only [if_pos q]; rw [q]
      · simp only [if_neg q]
    rw [e'] at e
    refine done vs c y t k t2 m₁ tl h tk (by omega) hK (szK (Nat.le_of_eq hlen) hK) hk1 (mulUp hk2 hnM) htl ?_ N₁
    rw [e] at F₁
    have e'' : (fun z => if z = x then m₁ x else if z = on then some (Value.str y t) else if z = S "k" then some (Value.int k t2) else if st.contains z then m₁ z else m₀ z) = fun z => if z = x then m₁ z else if z = on then some (Value.str y t) else if z = S "k" then some (Value.int k t2) else if st.contains z then m₁ z else m₀ z := by
      funext z
      by_cases q : z = x
      · simp only [if_pos q]; rw [q]
      · simp only [if_neg q]
    rw [e''] at F₁
    exact F₁
end
theorem rngM {N M : Int} {k : Nat} (h : 0 < M) (h3 : M = (k : Int) + 1) : (Int.fmod N M + 1).toNat ≤ k + 1 := by
  have h0 := Int.fmod_nonneg_of_pos N h
  have h1 := Int.fmod_lt_of_pos N h
  omega
theorem rng {N M : Int} (h : 0 < M) (h3 : M ≤ 3) : Builtin.Range.small 0 (Int.fmod N M + 1) 1 = true ∧ Builtin.Range.rangeSize 0 (Int.fmod N M + 1) 1 = ((Int.fmod N M + 1).toNat : Int) ∧ (Int.fmod N M + 1).toNat ≤ 3 := by
  have h0 := Int.fmod_nonneg_of_pos N h
  have h1 := Int.fmod_lt_of_pos N h
  generalize Int.fmod N M = v at h0 h1
  have : v = 0 ∨ v = 1 ∨ v = 2 := by omega
  rcases this with rfl | rfl | rfl <;> refine ⟨by decide, by decide, by decide⟩
theorem apartE {news tl : Led} {l : Addr} {o : Obj} (h : ∀ q ∈ news, ∀ p ∈ tl, p.1 ≠ q.1) (hq : (l, o) ∈ news) : ∀ p ∈ tl, p.1 ≠ l := fun p hp => h _ hq p hp
theorem ltNe {tl : Led} {l : Addr} (h : AllLt l tl) : ∀ p ∈ tl, p.1 ≠ l := fun p hp => Nat.ne_of_lt (kst_ltOf h p hp)
theorem news_dup {h₀ h : Heap} {L : Addr} {X : Led} {p : Addr × Obj} (N : News h₀ L h X) (hp : p ∈ X) : News h₀ L h (p :: X) := fun q hq => by
  rcases List.mem_cons.mp hq with rfl | hq
  · exact N _ hp
  · exact N _ hq
theorem append_tok {prog : Program} {w : World} {A : Around} {E : Value → Shared → Prop} {s : Shared} {h₀ : Heap} {L D : Addr} {m : Str → Option Value} {news news' : Led} {vs : List Value} {n : Nat} {x : Value} {Q : Value → Shared → Prop} (F : Fr h₀ L s.heap m) (N : News h₀ L s.heap news)
    (U : Upd D (W.listOf vs.toArray n) (W.listOf (vs ++ [x]).toArray (n + 1)) news news') (hv : vs.length ≤ 2)
    (h : ∀ h', Fr h₀ L h' m → News h₀ L h' news' → Q .none { s with heap := h' }) : wpAny (model prog w) A (call (.builtin "list.append") [.ref D, x]) Q E s := by
  have e : (vs ++ [x]).toArray = vs.toArray.push x := by simp
  rw [e] at U
  exact append_K F N U h (by have : sizeLine = 16777216 := by decide
                             simp only [List.size_toArray]; omega)
theorem turn_blk {w : World} {Es : Bool → Prop} {lv : Nat} {x on : Str} {st : List Str} {m₀ : Str → Option Value} {h₀ : Heap} {L l : Addr} {vs : List Value} {y : Str} {k b : Int} {Z : Led} {s₁ s₂ : Shared} {Q : Flow → Shared → Prop}
    {h' : Heap} {tk c c' t t2 : Nat} {m' : Str → Option Value} {p₀ : Addr × Obj} {tl : Led} {v : Value} {yv : Str} {k' : Int} (e : s₂ = { s₁ with heap := h', toks := tk }) (F : Fr h₀ L h' m') (N : News h₀ L h' (p₀ :: (l, W.listOf (vs ++ [v]).toArray c') :: (Z ++ tl)))
    (hl : ∀ q ∈ (l, W.listOf vs.toArray c) :: Z, ∀ p ∈ tl, p.1 ≠ q.1) (hT : ∀ e, Es e → TokIn w e (inLed tl) lv v yv) (h1 : m' on = some (.str (y ++ yv) t)) (h2 : m' (S "k") = some (.int k' t2)) (hk : k ≤ k') (hk' : k' ≤ k + b)
    (h3 : ∀ z, z ≠ x → z ≠ on → z ≠ S "k" → st.contains z = false → m' z = m₀ z) : TurnPost w Es lv x on st m₀ h₀ L l vs y k b Z s₁ Q .next s₂ := by
  refine ⟨h', tk, m', tl, v, yv, c', t, k', t2, e, F, fun p hp => N p ?_, fun p hp => hl _ (.head _) p hp, fun p hp q hq => hl q (.tail _ hq) p hp, hT, h1, h2, hk, hk', h3⟩
  rcases List.mem_cons.mp hp with rfl | hp
  · exact .tail _ (.head _)
  · rcases List.mem_append.mp hp with hp | hp
    · exact .tail _ (.tail _ (List.mem_append_right _ hp))
    · exact .tail _ (.tail _ (List.mem_append_left _ hp))
theorem st_ne {st : List Str} {z a : Str} (h : st.contains z = false) (ha : a ∈ st) : z ≠ a := fun e => by
  subst e
  rw [List.contains_iff_mem.mpr ha] at h; cases h
theorem tokS {w : World} {esc : Bool} {At : Holder} {n : Nat} {v : Value} {o : Str} (h : Shape w esc At (TokIn w esc At n) v o) : TokIn w esc At (n + 1) v o := h
theorem isd {w : World} {o : Obj} {kvs kvs' : List (Str × Value)} (h : o.IsDictOf (sk w) kvs) (e : kvs = kvs') : o.IsDictOf (sk w) kvs' := e ▸ h
theorem info_n {i : Nat} {x y : Str} (hx : namesL[i]? = some x) (hy : langsL[i]? = some y) (hn : ¬ (y != S "") = true) : (x, y) ∈ infoL := info_none hx hy (by simpa using hn)
theorem info_s {i : Nat} {x y : Str} (hx : namesL[i]? = some x) (hy : langsL[i]? = some y) (hn : (y != S "") = true) : (x, S " class=" ++ y) ∈ infoL := info_some hx hy (by simpa using hn)
theorem bnd1 {k b : Int} (h : 8 ≤ b) : k ≤ k + 1 ∧ k + 1 ≤ k + (2 * b + 1) := by omega
theorem bnd2 {k b k' : Int} (h : 8 ≤ b) (h1 : k + 1 ≤ k') (h2 : k' ≤ k + 1 + 16) : k ≤ k' ∧ k' ≤ k + (2 * b + 1) := by omega
theorem bnd3 {k b k' : Int} (_ : 8 ≤ b) (h1 : k + 1 ≤ k') (h2 : k' ≤ k + 1 + b * ((1 + 1 : Nat) : Int)) : k ≤ k' ∧ k' ≤ k + (2 * b + 1) := by
  have : b * ((1 + 1 : Nat) : Int) = 2 * b := by rw [Int.mul_comm]; rfl
  omega
theorem info_f {i : Nat} {x y : Str} (hx : namesL[i]? = some x) (hy : langsL[i]? = some y) (hn : (y != S "") = false) : (x, y) ∈ infoL := info_none hx hy (by simpa using hn)
theorem info_g {i : Nat} {x y : Str} (hx : namesL[i]? = some x) (hy : langsL[i]? = some y) (hn : (y == S "") = true) : (x, y) ∈ infoL := info_none hx hy hn
theorem info_h {i : Nat} {x y : Str} (hx : namesL[i]? = some x) (hy : langsL[i]? = some y) (hn : (y == S "") = false) : (x, S " class=" ++ y) ∈ infoL := info_some hx hy hn
theorem callWith_m1 {prog : Program} {w : World} {A : Around} {E : Value → Shared → Prop} {s : Shared} {env : Env} {pos : Pos} {id : String} {a : Value} {e : Expr} {rest : List Expr} {Q : Value → Shared → Prop}
    (h : wpAny (model prog w) A (spliced (backTo pos (starEach (e :: rest) env))) (fun vs s₁ => wpAny (model prog w) A (call (.builtin id) (a :: vs)) Q E s₁) E s)
    (he : starEach (e :: rest) env = (false, eval e env) :: starEach rest env) (hplain : (backTo pos (starEach rest env)).any (·.1) = false) :
    wpAny (model prog w) A (callWith pos (.builtin id) [a] (backTo pos (starEach (e :: rest) env)) []) Q E s := callWith_method1 h he hplain
theorem ltNe2 {tl : Led} {l a : Addr} (h : a < l ∧ AllLt l tl) : ∀ p ∈ tl, p.1 ≠ l := ltNe h.2
theorem ltNe3 {tl : Led} {l a b : Addr} (h : a < l ∧ b < l ∧ AllLt l tl) : ∀ p ∈ tl, p.1 ≠ l := ltNe h.2.2
theorem ltNe4 {tl : Led} {l a b c : Addr} (h : a < l ∧ b < l ∧ c < l ∧ AllLt l tl) : ∀ p ∈ tl, p.1 ≠ l := ltNe h.2.2.2
end
section
theorem turn_A {p₀ : Addr × Obj} {w : World} {Es : Bool → Prop} {lv : Nat} {x on : Str} {st : List Str} {m₀ : Str → Option Value} {h₀ : Heap} {L l : Addr} {vs : List Value} {y : Str} {k b : Int} {Z : Led} {s₁ s₂ : Shared} {Q : Flow → Shared → Prop}
    {h' : Heap} {tk c c' t t2 : Nat} {m' : Str → Option Value} {d : Addr} {o : Obj} {v : Value} {yv out' : Str} {k' : Int} (e : s₂ = { s₁ with heap := h', toks := tk }) (F : Fr h₀ L h' m') (N : News h₀ L h' ((d, o) :: p₀ :: (l, W.listOf (vs ++ [v]).toArray c') :: Z)) (hd : p₀.1 < d ∧ l < d ∧ AllLt d Z) (hT : ∀ e, Es e → TokIn w e (inLed [(d, o)]) lv v yv)
    (h1 : m' on = some (.str out' t)) (h1' : out' = y ++ yv) (h2 : m' (S "k") = some (.int k' t2)) (hk : k ≤ k') (hk' : k' ≤ k + b)
    (h3 : ∀ z, z ≠ x → z ≠ on → z ≠ S "k" → st.contains z = false → m' z = m₀ z) : TurnPost w Es lv x on st m₀ h₀ L l vs y k b Z s₁ Q .next s₂ := by
  subst h1'
  refine ⟨h', tk, m', [(d, o)], v, yv, c', t, k', t2, e, F, fun p hp => N p ?_, fun p hp => ?_, fun p hp q hq => ?_, hT, h1, h2, hk, hk', h3⟩
  · rcases List.mem_cons.mp hp with rfl | hp
    · exact .tail _ (.tail _ (.head _))
    · rcases List.mem_append.mp hp with hp | hp
      · rw [List.mem_singleton.mp hp]; exact .head _
      · exact .tail _ (.tail _ (.tail _ hp))
  · rw [List.mem_singleton.mp hp]; exact Nat.ne_of_gt hd.2.1
  · rw [List.mem_singleton.mp hp]; exact Nat.ne_of_gt (kst_ltOf hd.2.2 q hq)
theorem ltApp {d : Addr} : ∀ {a b : Led}, AllLt d (a ++ b) → ∀ p, p ∈ a ∨ p ∈ b → p.1 < d := fun h p hp => kst_ltOf h p (List.mem_append.mpr hp)
theorem turn_B {w : World} {Es : Bool → Prop} {lv : Nat} {x on : Str} {st : List Str} {m₀ : Str → Option Value} {h₀ : Heap} {L l : Addr} {vs : List Value} {y : Str} {k b : Int} {Z : Led} {s₁ s₂ : Shared} {Q : Flow → Shared → Prop}
    {h' : Heap} {tk c c' t t2 : Nat} {m' : Str → Option Value} {d : Addr} {o : Obj} {v : Value} {yv out' : Str} {k' : Int} {p₀ : Addr × Obj} {tl : Led} (e : s₂ = { s₁ with heap := h', toks := tk }) (F : Fr h₀ L h' m') (N : News h₀ L h' ((d, o) :: p₀ :: (l, W.listOf (vs ++ [v]).toArray c') :: (Z ++ tl))) (hl : ∀ q ∈ (l, W.listOf vs.toArray c) :: Z, ∀ p ∈ tl, p.1 ≠ q.1)
    (hd : p₀.1 < d ∧ l < d ∧ AllLt d (Z ++ tl)) (hT : ∀ e, Es e → TokIn w e (inLed ((d, o) :: tl)) lv v yv)
    (h1 : m' on = some (.str out' t)) (h1' : out' = y ++ yv) (h2 : m' (S "k") = some (.int k' t2)) (hk : k ≤ k') (hk' : k' ≤ k + b)
    (h3 : ∀ z, z ≠ x → z ≠ on → z ≠ S "k" → st.contains z = false → m' z = m₀ z) : TurnPost w Es lv x on st m₀ h₀ L l vs y k b Z s₁ Q .next s₂ := by
  subst h1'
  refine ⟨h', tk, m', (d, o) :: tl, v, yv, c', t, k', t2, e, F, fun p hp => N p ?_, fun p hp => ?_, fun p hp q hq => ?_, hT, h1, h2, hk, hk', h3⟩
  · rcases List.mem_cons.mp hp with rfl | hp
    · exact .tail _ (.tail _ (.head _))
    · rcases List.mem_cons.mp hp with rfl | hp
      · exact .head _
      · refine .tail _ (.tail _ (.tail _ ?_))
        rcases List.mem_append.mp hp with hp | hp
        · exact List.mem_append_right _ hp
        · exact List.mem_append_left _ hp
  · rcases List.mem_cons.mp hp with rfl | hp
    · exact Nat.ne_of_gt hd.2.1
    · exact hl _ (.head _) p hp
  · rcases List.mem_cons.mp hp with rfl | hp
    · exact Nat.ne_of_gt (ltApp hd.2.2 q (.inl hq))
    · exact hl q (.tail _ hq) p hp
theorem turn_C {w : World} {Es : Bool → Prop} {lv : Nat} {x on : Str} {st : List Str} {m₀ : Str → Option Value} {h₀ : Heap} {L l : Addr} {vs : List Value} {y : Str} {k b : Int} {Z : Led} {s₁ s₂ : Shared} {Q : Flow → Shared → Prop}
    {h' : Heap} {tk c c' t t2 : Nat} {m' : Str → Option Value} {d : Addr} {o : Obj} {v : Value} {yv out' : Str} {k' : Int} {f : Addr} {of : Obj} {p₀ : Addr × Obj} {tl : Led} (e : s₂ = { s₁ with heap := h', toks := tk }) (F : Fr h₀ L h' m') (N : News h₀ L h' ((d, o) :: (f, of) :: p₀ :: (l, W.listOf (vs ++ [v]).toArray c') :: (Z ++ tl))) (hl : ∀ q ∈ (l, W.listOf vs.toArray c) :: Z, ∀ p ∈ tl, p.1 ≠ q.1)
    (hd : f < d ∧ p₀.1 < d ∧ l < d ∧ AllLt d (Z ++ tl)) (hf : p₀.1 < f ∧ l < f ∧ AllLt f (Z ++ tl)) (hT : ∀ e, Es e → TokIn w e (inLed ((d, o) :: (f, of) :: tl)) lv v yv)
    (h1 : m' on = some (.str out' t)) (h1' : out' = y ++ yv) (h2 : m' (S "k") = some (.int k' t2)) (hk : k ≤ k') (hk' : k' ≤ k + b)
    (h3 : ∀ z, z ≠ x → z ≠ on → z ≠ S "k" → st.contains z = false → m' z = m₀ z) : TurnPost w Es lv x on st m₀ h₀ L l vs y k b Z s₁ Q .next s₂ := by
  subst h1'
  refine ⟨h', tk, m', (d, o) :: (f, of) :: tl, v, yv, c', t, k', t2, e, F, fun p hp => N p ?_, fun p hp => ?_, fun p hp q hq => ?_, hT, h1, h2, hk, hk', h3⟩
  · rcases List.mem_cons.mp hp with rfl | hp
    · exact .tail _ (.tail _ (.tail _ (.head _)))
    · rcases List.mem_cons.mp hp with rfl | hp
      · exact .head _
      · rcases List.mem_cons.mp hp with rfl | hp
        · exact .tail _ (.head _)
        · refine .tail _ (.tail _ (.tail _ (.tail _ ?_)))
          rcases List.mem_append.mp hp with hp | hp
          · exact List.mem_append_right _ hp
          · exact List.mem_append_left _ hp
  · rcases List.mem_cons.mp hp with rfl | hp
    · exact Nat.ne_of_gt hd.2.2.1
    · rcases List.mem_cons.mp hp with rfl | hp
      · exact Nat.ne_of_gt hf.2.1
      · exact hl _ (.head _) p hp
  · rcases List.mem_cons.mp hp with rfl | hp
    · exact Nat.ne_of_gt (ltApp hd.2.2.2 q (.inl hq))
    · rcases List.mem_cons.mp hp with rfl | hp
      · exact Nat.ne_of_gt (ltApp hf.2.2 q (.inl hq))
      · exact hl q (.tail _ hq) p hp
theorem bndI {k b : Int} (h : 0 ≤ b) : k ≤ k + 1 ∧ k + 1 ≤ k + (1 + b) := by omega
theorem bndJ {k b k' : Int} (h1 : k + 1 ≤ k') (h2 : k' ≤ k + 1 + b) : k ≤ k' ∧ k' ≤ k + (1 + b) := by omega
theorem bndL {k b k' : Int} (h1 : k + 1 ≤ k') (h2 : k' ≤ k + 1 + b) : k ≤ k' ∧ k' ≤ k + (1 + b) := by omega
theorem as1 (y a : Str) : y ++ a = y ++ a := rfl
theorem as3 (y a b c : Str) : y ++ a ++ b ++ c = y ++ (a ++ b ++ c) := by simp only [Str.append_assoc]
theorem as6 (y a b c d e f : Str) : y ++ a ++ b ++ c ++ d ++ e ++ f = y ++ (a ++ b ++ c ++ d ++ e ++ f) := by simp only [Str.append_assoc]
theorem as9 (y a b c d e f g i j : Str) : y ++ a ++ b ++ c ++ d ++ e ++ f ++ g ++ i ++ j = y ++ (a ++ b ++ c ++ d ++ e ++ f ++ g ++ i ++ j) := by simp only [Str.append_assoc]
end
section
open PySem.W.KStt (codes code_at kst_text)
section
variable {w : World} {A : Around} {E : Value → Shared → Prop} {s : Shared} {env : Env} {h₀ : Heap} {x : Str} {body : List Stmt} {Q : Flow → Shared → Prop}
/-- a loop that looks and stores nothing but its own name -/
def SJ (P : Prop) (x : Str) (m₀ : Str → Option Value) (news : Led) (m : Str → Option Value) (nx : Led) : Prop := nx = news ∧ P ∧ ∀ z, z ≠ x → m z = m₀ z
def LookPost (P : Prop) (x : Str) (m₀ : Str → Option Value) (news : Led) (h₀ : Heap) (L : Addr) (own : Led) (s₁ : Shared) (Q : Flow → Shared → Prop) (f : Flow) (s₂ : Shared) : Prop := InvPostN h₀ L (SJ P x m₀ news) own (news.map (·.1)) s₁ Q f s₂
theorem look_end {P : Prop} {m₀ m' : Str → Option Value} {news own news' : Led} {L : Addr} {s₁ s₂ : Shared} {h' : Heap} {tk : Nat} (e : s₂ = { s₁ with heap := h', toks := tk }) (F : Fr h₀ L h' m') (N : News h₀ L h' news') (h1 : ∀ p ∈ news, p ∈ news') (h2 : ∀ p ∈ own, p ∈ news') (hp : P) (hm : ∀ z, z ≠ x → m' z = m₀ z) :
    LookPost P x m₀ news h₀ L own s₁ Q .next s₂ := ⟨h', tk, m', news', news, e, F, N, h1, h2, rfl, rfl, hp, hm⟩
theorem mapX {m₁ m₀ : Str → Option Value} {v : Option Value} (h : ∀ z, z ≠ x → m₁ z = m₀ z) : (fun y => if y = x then v else m₁ y) = fun y => if y = x then v else m₀ y := by
  funext z
  by_cases q : z = x
  · simp only [if_pos q]
  · simp only [if_neg q]; exact h z q
theorem mapY {m₁ m₀ : Str → Option Value} (h : ∀ z, z ≠ x → m₁ z = m₀ z) : m₁ = fun y => if y = x then m₁ y else m₀ y := by
  funext z
  by_cases q : z = x
  · simp only [if_pos q]
  · simp only [if_neg q]; exact h z q
theorem look_list {l : Addr} {vs : List Value} {xs : List Str} {c : Nat} {m₀ : Str → Option Value} {news : Led} (P : List Str → Prop)
    (hh : A.handled = none) (F : Fr h₀ env.locals s.heap m₀) (N : News h₀ env.locals s.heap news) (hm : (l, W.listOf vs.toArray c) ∈ news) (hx : StrsAre vs xs) (p0 : P [])
    (turn : ∀ pre e post t h tk own, xs = pre ++ e :: post → P pre → Fr h₀ env.locals h (fun y => if y = x then some (.str e t) else m₀ y) → News h₀ env.locals h own →
      wpAny (mdl w) A (execs body env) (LookPost (P (pre ++ [e])) x m₀ [] h₀ env.locals own { s with heap := h, toks := tk } Q) E { s with heap := h, toks := tk })
    (done : ∀ (u : Str → Option Value) h tk, P xs → Fr h₀ env.locals h (fun y => if y = x then u y else m₀ y) → News h₀ env.locals h [] → Q .next { s with heap := h, toks := tk }) :
    wpAny (mdl w) A (pyIter (.ref l)) (fun it s₂ => LoopAtV PySem.Challenge.rw_ba0042_01.row.prog w A h₀ env x body Q E it s₂) E s := by
  have hls : s.heap.IsList l vs.toArray := ⟨_, (N _ hm).1, rfl, c, rfl⟩
  have hlt : l < s.heap.objs.size := Heap.lt_size (N _ hm).1
  have hne : l ≠ s.heap.objs.size := Nat.ne_of_lt hlt
  refine wpAny_pyIter_list hls ?_
  have W := Walks.list (prog := PySem.Challenge.rw_ba0042_01.row.prog) (w := w) hh s.heap.objs.size l hne vs.toArray
  have hlen : vs.toArray.size = xs.length := by simp [hx.length]
  rw [hlen] at W
  refine loop_invN (news := []) (fun i m nx => SJ (P (xs.take i)) x m₀ [] m nx) W ?_ ?_ (fun _ hp => absurd hp List.not_mem_nil) (fun _ hp => absurd hp List.not_mem_nil) ⟨⟨_, Heap.get?_push_size _ rfl, rfl, rfl⟩, hls.at fun o e => Heap.get?_push_of_some _ e⟩ (F.push _) (fun _ hp => absurd hp List.not_mem_nil) ⟨rfl, by simpa using p0, fun _ _ => rfl⟩ ?_ ?_
  · intro hq
    rcases List.mem_cons.mp hq with e | hq
    · exact absurd F.ns.lt (e ▸ Nat.lt_irrefl _)
    · exact (N _ hm).2.1 (List.mem_singleton.mp hq).symm
  · intro b hb
    rw [List.mem_singleton.mp hb]
    exact next_is_new F
  · rintro i v m₁ news₁ h tk own hi hP _ _ ⟨rfl, hp, hmm⟩ F₁ N₁
    have hP' : vs[i]? = some v := by simpa using hP
    obtain ⟨e, t, h1, h2⟩ := strs_at hx hi
    rw [hP'] at h2
    cases h2
    rw [mapX hmm] at F₁
    have es : xs = xs.take i ++ e :: xs.drop (i + 1) := by
      have := List.getElem?_eq_some_iff.mp h1
      obtain ⟨_, g⟩ := this
      rw [← g, ← List.drop_eq_getElem_cons hi, List.take_append_drop]
    have ts : xs.take (i + 1) = xs.take i ++ [e] := by rw [List.take_add_one, h1]; rfl
    show wpAny _ _ _ (InvPostN h₀ env.locals (SJ (P (xs.take (i + 1))) x m₀ []) own _ _ Q) _ _
    rw [ts]
    exact turn _ e _ t h tk own es hp F₁ N₁
  · rintro m₁ news₁ h tk ⟨rfl, hp, hmm⟩ F₁ N₁
    rw [List.take_length] at hp
    refine done m₁ h tk hp ?_ N₁
    rw [← mapY hmm]; exact F₁
theorem look_str {xt : Str} {tx : Tok} {m₀ : Str → Option Value} {news : Led} (P : List Int → Prop)
    (hh : A.handled = none) (F : Fr h₀ env.locals s.heap m₀) (_N : News h₀ env.locals s.heap news) (p0 : P [])
    (turn : ∀ (pre post : List Int) (n : Nat) t h tk own, codes xt = pre ++ (n : Int) :: post → P pre → Fr h₀ env.locals h (fun y => if y = x then some (.str ⟨#[n]⟩ t) else m₀ y) → News h₀ env.locals h own →
      wpAny (mdl w) A (execs body env) (LookPost (P (pre ++ [(n : Int)])) x m₀ [] h₀ env.locals own { s with heap := h, toks := tk } Q) E { s with heap := h, toks := tk })
    (done : ∀ (u : Str → Option Value) h tk, P (codes xt) → Fr h₀ env.locals h (fun y => if y = x then u y else m₀ y) → News h₀ env.locals h [] → Q .next { s with heap := h, toks := tk }) :
    wpAny (mdl w) A (pyIter (.str xt tx)) (fun it s₂ => LoopAtV PySem.Challenge.rw_ba0042_01.row.prog w A h₀ env x body Q E it s₂) E s := by
  refine kst_text (σ := Unit) (fun _ => []) (fun _ => []) (fun _ => True) [] (fun pre _ => P pre) () hh F (fun _ hp => absurd hp List.not_mem_nil) trivial (fun _ hp => absurd hp List.not_mem_nil) p0 ?_ ?_
  · intro c pre post n t u h tk own e _ _ hp F₁ N₁
    refine wpAny_mono (turn pre post n t h tk own e hp F₁ N₁) (fun f s₂ q => ?_) fun _ _ q => q
    have fin : InvEndN h₀ env.locals (SJ (P (pre ++ [(n : Int)])) x m₀ []) own [] { s with heap := h, toks := tk } s₂ → InvEndN h₀ env.locals (KstS (σ := Unit) (fun _ => []) (fun _ => []) (fun _ => True) x [] m₀ (fun pre _ => P pre) (pre ++ [(n : Int)])) own [] { s with heap := h, toks := tk } s₂ := by
      rintro ⟨h', tk', m', news', nx, e, F', N', a1, a2, a3, rfl, hp', hm⟩
      exact ⟨h', tk', m', news', [], e, F', N', a1, a2, a3, (), rfl, trivial, (fun _ hp => absurd hp List.not_mem_nil), (fun z hz _ _ => hm z hz), hp'⟩
    cases f with
    | ret v => exact q
    | brk => exact q
    | next => exact fin q
    | cont => exact fin q
  · intro c u h tk _ hp F₁ N₁
    exact done u h tk hp F₁ N₁
end
end
section
open PySem.W.KStt (codes)
def safeL : List Str := [S "http:", S "https:", S "mailto:", S "tel:", S "ftp:", S "ftps:", S "irc:", S "ircs:", S "data:image/gif;", S "data:image/png;", S "data:image/jpeg;", S "data:image/webp;", S "/", S "#", S "?"]
abbrev plain (u : Str) : Str := Txt.lstrip (Txt.lower u)
def headP (u : Str) (pre : List Str) : Prop := ∀ h ∈ pre, (Txt.slice (plain u) none (some (h.length : Int)) == h) = false
abbrev headQ {u : Str} (_ : u ∈ urlsL) (pre : List Str) : Prop := headP u pre
theorem headP0 (u : Str) : headP u [] := fun _ h => absurd h List.not_mem_nil
theorem headP1 {u : Str} {pre : List Str} {e : Str} (h : headP u pre) (h1 : (Txt.slice (plain u) none (some (e.length : Int)) == e) = false) : headP u (pre ++ [e]) := fun x hx => by
  rcases List.mem_append.mp hx with hx | hx
  · exact h x hx
  · rw [List.mem_singleton.mp hx]; exact h1
def signP (pre : List Int) : Prop := ∀ c ∈ pre, c ≠ 58 ∧ c ≠ 47
theorem signP0 : signP [] := fun _ h => absurd h List.not_mem_nil
theorem chr_is {n k : Nat} {y : Str} (e : y = ⟨#[k]⟩) (h : ((⟨#[n]⟩ : Str) == y) = true) : n = k := by
  subst e
  have := beq_iff_eq.mp h
  injection this with h1
  injection h1 with h2
  injection h2
theorem chr_not {n k : Nat} {y : Str} (e : y = ⟨#[k]⟩) (h : ((⟨#[n]⟩ : Str) == y) = false) : n ≠ k := by
  subst e
  rintro rfl
  simp at h
theorem signP1 {pre : List Int} {n : Nat} (h : signP pre) (h1 : ((⟨#[n]⟩ : Str) == Str.ofString ":") = false) (h2 : ((⟨#[n]⟩ : Str) == Str.ofString "/") = false) : signP (pre ++ [(n : Int)]) := fun c hc => by
  rcases List.mem_append.mp hc with hc | hc
  · exact h c hc
  · rw [List.mem_singleton.mp hc]
    have a := chr_not (k := 58) (by decide +kernel) h1
    have b := chr_not (k := 47) (by decide +kernel) h2
    omega
theorem safe_mem {pre post : List Str} {e : Str} (h : safeL = pre ++ e :: post) : e ∈ safeL := h ▸ List.mem_append_right _ (.head _)
theorem safe_len {pre post : List Str} {e : Str} (h : safeL = pre ++ e :: post) : e.length ≤ 16 := by
  have hm := safe_mem h
  unfold safeL at hm
  simp only [List.mem_cons, List.not_mem_nil, or_false] at hm
  rcases hm with rfl | rfl | rfl | rfl | rfl | rfl | rfl | rfl | rfl | rfl | rfl | rfl | rfl | rfl | rfl <;> decide +kernel
def scan : List Int → Nat
  | [] => 0
  | c :: r => if c = 58 then 1 else if c = 47 then 2 else scan r
theorem scan_pre : ∀ {pre : List Int} {n : Int} {post : List Int}, signP pre → scan (pre ++ n :: post) = scan (n :: post)
  | [], _, _, _ => rfl
  | c :: r, n, post, h => by
    have hc := h c (.head _)
    show (if c = 58 then 1 else if c = 47 then 2 else scan (r ++ n :: post)) = _
    rw [if_neg hc.1, if_neg hc.2]
    exact scan_pre fun x hx => h x (.tail _ hx)
theorem scan_none : ∀ {l : List Int}, signP l → scan l = 0
  | [], _ => rfl
  | c :: r, h => by
    have hc := h c (.head _)
    show (if c = 58 then 1 else if c = 47 then 2 else scan r) = _
    rw [if_neg hc.1, if_neg hc.2]
    exact scan_none fun x hx => h x (.tail _ hx)
theorem tabA : (urlsL.all fun u => safeL.all fun h => !(Txt.slice (plain u) none (some (h.length : Int)) == h) || (addrF u == shownF u)) = true := by decide +kernel
theorem tabB : (urlsL.all fun u => (safeL.any fun h => Txt.slice (plain u) none (some (h.length : Int)) == h) || (addrF u == if scan (codes (plain u)) = 1 then S "#harmful-link" else shownF u)) = true := by decide +kernel
theorem ad1 {u e : Str} (hu : u ∈ urlsL) (he : e ∈ safeL) (h : (Txt.slice (plain u) none (some (e.length : Int)) == e) = true) : shownF u = addrF u := by
  have := List.all_eq_true.mp (List.all_eq_true.mp tabA u hu) e he
  rw [h] at this
  exact (by simpa using this : addrF u = shownF u).symm
theorem ad2 {u : Str} (hu : u ∈ urlsL) (h : headP u safeL) : addrF u = if scan (codes (plain u)) = 1 then S "#harmful-link" else shownF u := by
  have := List.all_eq_true.mp tabB u hu
  have h0 : (safeL.any fun h => Txt.slice (plain u) none (some (h.length : Int)) == h) = false := by
    rw [List.any_eq_false]
    intro x hx
    rw [h x hx]; decide
  rw [h0] at this
  simpa using this
theorem ad_bad {u : Str} {pre post : List Int} {n : Nat} (hu : u ∈ urlsL) (h : headP u safeL) (e : codes (plain u) = pre ++ (n : Int) :: post) (hp : signP pre) (hn : ((⟨#[n]⟩ : Str) == Str.ofString ":") = true) : S "#harmful-link" = addrF u := by
  have := chr_is (k := 58) (by decide +kernel) hn
  rw [ad2 hu h, e, scan_pre hp, this]; rfl
theorem ad_ok {u : Str} {pre post : List Int} {n : Nat} (hu : u ∈ urlsL) (h : headP u safeL) (e : codes (plain u) = pre ++ (n : Int) :: post) (hp : signP pre) (hn : ((⟨#[n]⟩ : Str) == Str.ofString "/") = true) : shownF u = addrF u := by
  have := chr_is (k := 47) (by decide +kernel) hn
  rw [ad2 hu h, e, scan_pre hp, this]; rfl
theorem ad_end {u : Str} (hu : u ∈ urlsL) (h : headP u safeL) (hp : signP (codes (plain u))) : shownF u = addrF u := by
  rw [ad2 hu h, scan_none hp]; rfl
theorem look_ret {P : Prop} {x : Str} {m₀ : Str → Option Value} {news own : Led} {h₀ : Heap} {L : Addr} {s₁ s₂ : Shared} {Q : Flow → Shared → Prop} {v : Value} (h : Q (.ret v) s₂) : LookPost P x m₀ news h₀ L own s₁ Q (.ret v) s₂ := h
theorem addr_sz {u : Str} (h : u ∈ urlsL) : Sz (addrF u) 1 := Sz.one (Nat.le_trans (addr_len h) (by decide))
end
section
/-- all that is ever escaped -/
def rawsL : List Str := textsL ++ textsL.map (· ++ S "\n") ++ textsL.map (S "<p>\n" ++ ·) ++ urlsL ++ [S "#harmful-link"] ++ textsL.map (S "t<" ++ ·) ++ textsL.map (S "k>" ++ ·) ++ [S "language-py", S "language-c++", S "language-e", S "py", S "c++  d", S "e"]
abbrev r1 (x : Str) : Str := Txt.replace x (Str.ofString "&") (Str.ofString "&amp;")
abbrev r2 (x : Str) : Str := Txt.replace x (Str.ofString "<") (Str.ofString "&lt;")
abbrev r3 (x : Str) : Str := Txt.replace x (Str.ofString ">") (Str.ofString "&gt;")
abbrev r4 (x : Str) : Str := Txt.replace x (Str.ofString "\"") (Str.ofString "&quot;")
theorem raw_tab : (rawsL.all fun x => decide (x.length ≤ 1000) && decide ((r1 x).length ≤ 1000) && decide ((r2 (r1 x)).length ≤ 1000) && decide ((r3 (r2 (r1 x))).length ≤ 1000) && (r4 (r3 (r2 (r1 x))) == shownF x) && decide ((shownF x).length ≤ 1000)) = true := by decide +kernel
theorem raw_all {x : Str} (h : x ∈ rawsL) : x.length ≤ 1000 ∧ (r1 x).length ≤ 1000 ∧ (r2 (r1 x)).length ≤ 1000 ∧ (r3 (r2 (r1 x))).length ≤ 1000 ∧ r4 (r3 (r2 (r1 x))) = shownF x ∧ (shownF x).length ≤ 1000 := by
  have := List.all_eq_true.mp raw_tab x h
  simp only [Bool.and_eq_true, decide_eq_true_eq, beq_iff_eq] at this
  obtain ⟨⟨⟨⟨⟨a, b⟩, c⟩, d⟩, e⟩, f⟩ := this
  exact ⟨a, b, c, d, e, f⟩
theorem replP {w : World} {A : Around} {E : Value → Shared → Prop} {s : Shared} {x y z : Str} {t u v : Nat} {Q : Value → Shared → Prop} (hu : u ≠ 0) (hv : v ≠ 0) (huv : u ≠ v) (hyz : (y == z) = false) (hx : x.length ≤ 1000) (hz : z.length ≤ 14)
    (h : ∀ t' k, s.toks ≤ k → Q (.str (Txt.replace x y z) t') { s with toks := k }) : wpAny (mdl w) A (call (.builtin "str.replace") [.str x t, .str y u, .str z v]) Q E s :=
  any_up (Nat.le_refl s.toks) (SC.replaceW hu hv huv hyz (by omega) hz (fun t' k hk => h t' k hk))
theorem raw_text {x : Str} (h : x ∈ textsL) : x ∈ rawsL := by unfold rawsL; simp only [List.mem_append]; exact .inl (.inl (.inl (.inl (.inl (.inl (.inl h))))))
end
section
/-- an AttributeError, new, not traced yet; c: what it was raised in the midst of -/
structure NewAE (h h' : Heap) (e : Addr) (c : Value) : Prop where
  keeps : ∀ b o, h.get? b = some o → h'.get? b = some o
  new : h.get? e = none
  there : ∃ ob vs a0, h'.get? e = some ob ∧ ob.cls = .type "AttributeError" ∧ ob.data = .fields vs ∧ vs[0]? = some a0 ∧ vs[1]? = some .none ∧ vs[2]? = some c
theorem NewAE.of {h h' : Heap} {e : Addr} {o : Value} {name : Str} (x : Heap.NewAttrErr h h' e o name) : NewAE h h' e .none :=
  ⟨x.keeps, x.new, by obtain ⟨t, u, he⟩ := x.there; exact ⟨_, _, _, he, rfl, rfl, rfl, rfl, rfl⟩⟩
/-- it hangs at e with its trace T, and was raised in the midst of nothing -/
def HangsAt (B : Heap) (e : Addr) (h : Heap) : Prop :=
  ∃ oe vs T oT ts, h.get? e = some oe ∧ oe.cls = .type "AttributeError" ∧ oe.data = .fields vs ∧ vs[1]? = some (.ref T) ∧ vs[2]? = some .none ∧ B.get? T = none ∧ T ≠ e ∧ h.get? T = some oT ∧ oT.data = .fields ts ∧ 3 < ts.size
def ExAt (B : Heap) (l : List Env) (e : Addr) (h : Heap) : Prop := B.StaysIn h ∧ B.get? e = none ∧ h.FunFrames B l ∧ HangsAt B e h
section
variable {M : Model} {A : Around} {E : Value → Shared → Prop} {s : Shared} {B : Heap} {env : Env} {outer l : List Env} {L e : Addr} {oe : Obj} {vs : Array Value} {Q : Unit → Shared → Prop}
theorem note_first (hfr : A.frames = some (env :: outer)) (hl : s.heap.FunFrames B (env :: outer)) (hf : env.frame = some L) (hkb : B.StaysIn s.heap) (hen : B.get? e = none)
    (he : s.heap.get? e = some oe) (hc : oe.cls = .type "AttributeError") (hd : oe.data = .fields vs) (h1 : vs[1]? = some .none) (h2 : vs[2]? = some .none)
    (h : ∀ h', ExAt B (env :: outer) e h' → s.heap.UpToSlots h' → Q () { s with heap := h' }) : wpAny M A (noteFrame (.ref e) env) Q E s := by
  have hne : e ∉ (env :: outer).filterMap (·.frame) := fun hm => by
    obtain ⟨_, o, ho, hnf⟩ := hl.mem hm
    rw [he] at ho
    cases ho
    exact hnf vs hd
  have h1s : 1 < vs.size := (Array.getElem?_eq_some_iff.mp h1).1
  unfold noteFrame
  simp only [hf]
  refine wpAny_bind (wpAny_field he hd h1 ?_)
  rw [if_neg (by decide)]
  refine wpAny_bind (wpAny_frameOf_fun hfr hl hf fun g₁ hg => ?_)
  refine wpAny_bind (wpAny_entryPlaceOf fun pl hpl => ?_)
  unfold EntryCells.newEntry newFields
  refine wpAny_bind (wpAny_newObj_type ?_ (hpl.sizeOk5 _ _ _ _ _))
  have hz : 3 < (([Value.none, .ref L, .none, rawInt L, .none] ++ (if pl.isEmpty then List.replicate 6 Value.none else pl)).toArray).size := by
    simp only [List.size_toArray, List.length_append, List.length_cons, List.length_nil]
    omega
  revert hz
  generalize ([Value.none, .ref L, .none, rawInt L, .none] ++ (if pl.isEmpty then List.replicate 6 Value.none else pl)).toArray = ts
  intro hz
  have e1 : g₁.get? e = some oe := (hg.2.1 e hne).trans he
  have s1 : B.StaysIn g₁ := fun b o q => (hg.2.1 b fun hm => by rw [(hl.mem hm).1] at q; cases q).trans (hkb b o q)
  have e2 := Heap.get?_push_of_some (h := g₁) { cls := .type "traceback", dict := none, data := .fields ts } e1
  have hTe : g₁.objs.size ≠ e := Nat.ne_of_gt (Heap.lt_size e1)
  have e3 := Obj.data_mapFields hd (·.setIfInBounds 1 (Value.ref g₁.objs.size))
  have e4 := Heap.get?_update_self (Obj.mapFields (·.setIfInBounds 1 (Value.ref g₁.objs.size))) e2 (Obj.isFreed_of_fields e3)
  have e5 := (Heap.get?_update_other (g₁.push { cls := .type "traceback", dict := none, data := .fields ts }) (Obj.mapFields (·.setIfInBounds 1 (Value.ref g₁.objs.size))) (Ne.symm hTe)).trans (Heap.get?_push_size g₁ rfl)
  have kp : ∀ b o, b ≠ e → g₁.get? b = some o → ((g₁.push { cls := .type "traceback", dict := none, data := .fields ts }).update e (Obj.mapFields (·.setIfInBounds 1 (Value.ref g₁.objs.size)))).get? b = some o := fun b o q z => by
    rw [Heap.get?_update_other _ _ (Ne.symm q)]
    exact Heap.get?_push_of_some _ z
  have off : ∀ b o, s.heap.get? b = some o → (∀ vs, o.data ≠ .fields vs) → b ≠ e := fun b o z nf q => by
    rw [q, he] at z
    cases z
    exact nf vs hd
  refine wpAny_setField e2 hd h1s (h _ ⟨fun b o q => kp b o (fun z => by rw [z, hen] at q; cases q) (s1 b o q), hen, hl.of_keeps fun b o z nf => ?_, ?_⟩ fun b o z nf => ?_)
  · obtain ⟨sl, q⟩ := hg.2.2 b o z
    exact ⟨_, kp b _ (off b o z nf) q, rfl⟩
  · refine ⟨_, _, g₁.objs.size, _, ts, e4, (Obj.cls_mapFields _ _).trans hc, e3, by simp [h1s], by rw [Array.getElem?_setIfInBounds_ne (by decide)]; exact h2, s1.fresh, hTe, e5, rfl, hz⟩
  · obtain ⟨sl, q⟩ := hg.2.2 b o z
    exact ⟨sl, kp b _ (off b o z nf) q⟩
theorem flight_none (x : ExAt B l e s.heap) (h : ∀ h', ExAt B l e h' → s.heap.UpToSlots h' → Q () { s with heap := h' }) : wpAny M A (setFlight (.ref e) none) Q E s := by
  obtain ⟨x1, x2, x3, oe, vs, T, oT, ts, he, hc, hd, h1, h2, hn, hTe, hT, hdT, hz⟩ := x
  have ot : ∀ b, b ≠ T → (s.heap.update T (Obj.mapFields (·.setIfInBounds 3 ((none : Option Addr).elim Value.none fun f => rawInt f)))).get? b = s.heap.get? b := fun b q => Heap.get?_update_other _ _ (Ne.symm q)
  have off : ∀ b o, s.heap.get? b = some o → (∀ vs, o.data ≠ .fields vs) → b ≠ T := fun b o z nf q => by
    rw [q, hT] at z
    cases z
    exact nf ts hdT
  unfold setFlight
  refine wpAny_bind (wpAny_field he hd h1 ?_)
  rw [if_pos (show (Value.ref T != Value.none) = true from by simp)]
  refine wpAny_setField hT hdT hz (h _ ⟨fun b o q => (ot b fun z => by rw [z, hn] at q; cases q).trans (x1 b o q), x2, x3.of_keeps fun b o z nf => ⟨o, (ot b (off b o z nf)).trans z, rfl⟩, ?_⟩ fun b o z nf => ⟨o.slots, (ot b (off b o z nf)).trans z⟩)
  exact ⟨oe, vs, T, _, _, (ot e (Ne.symm hTe)).trans he, hc, hd, h1, h2, hn, hTe, Heap.get?_update_self _ hT (Obj.isFreed_of_fields (Obj.data_mapFields hdT _)), Obj.data_mapFields hdT _, by simp [hz]⟩
end
end
section
theorem ae_isExc : isSubtype (.type "AttributeError") (.type "BaseException") = pure true := by rw [isSubtype_type]; kernel_rfl
theorem ae_notTuple : isSubtype (.type ((Manifest.find? "AttributeError").elim "type" fun x => x.metatype)) (.type "tuple") = pure false := by
  rw [show ((Manifest.find? "AttributeError").elim "type" fun x => x.metatype) = "type" from by decide +kernel, isSubtype_type]; kernel_rfl
/-- what hangs at e was raised in the midst of nothing -/
def CtxNone (h : Heap) (e : Addr) : Prop := ∃ oe vs, h.get? e = some oe ∧ oe.data = .fields vs ∧ vs[2]? = some .none
def CtxObj (oe : Obj) : Prop := ∃ vs, oe.data = .fields vs ∧ vs[2]? = some .none
theorem CtxObj.at {h : Heap} {e : Addr} {oe : Obj} (x : CtxObj oe) (he : h.get? e = some oe) : CtxNone h e := let ⟨vs, a, b⟩ := x; ⟨oe, vs, he, a, b⟩
theorem CtxNone.keeps {h h' : Heap} {e : Addr} (x : CtxNone h e) (k : ∀ b o, h.get? b = some o → h'.get? b = some o) : CtxNone h' e := by
  obtain ⟨oe, vs, a, b, c⟩ := x
  exact ⟨oe, vs, k _ _ a, b, c⟩
section
variable {prog : Program} {w : World} {A₀ : Around} {E : Value → Shared → Prop} {s' : Shared} {base g h : Heap} {outer : List Env} {L a e : Addr} {m mg mb : Str → Option Value} {name : Str} {scope : Scope} {cd : Value}
  {b₀ : Stmt} {suite : List Stmt} {pos np : Pos} {rest : List ExceptHandler} {Q : Flow → Shared → Prop} {Q1 : Unit → Shared → Prop} {news : List (Addr × Obj)} {KF : Frag} {p : Program} {loose : List Str} {mean : ExcName → Option Value} {c : Value}
theorem catch_own (K : Below A₀ base outer g) (hx : NewAE h s'.heap e .none) (F : Fr g L h m) (N : News g L h news) (XB : KF.In base) (TB : Top p loose mean mg mb base)
    (ex : nsIn KF mainGlobals "AttributeError" = some none) (hv : bootBuiltins "AttributeError" = some (.type "AttributeError"))
    (k : ∀ h' g' oe, KtsTurn (outer.filterMap (·.frame)) g g' → Fr g' L h' m → News g' L h' ((e, oe) :: news) → Below A₀ base outer g' → KF.In g' → Top p loose mean mg mb g' → CtxObj oe → s'.heap.UpToSlots h' →
      wpAny (model prog w) ((A₀.deeper (envOf name scope L a cd)).mark (some (.ref e))) (execs (b₀ :: suite) (envOf name scope L a cd)) Q E { s' with heap := h' })
    (hk : scope.kind = .function := by rfl) (hxk : (envOf name scope L a cd).kindOf "AttributeError" = some .globalImplicit := by rfl)
    (hE : PassesOwnAt (model prog w) ((A₀.deeper (envOf name scope L a cd)).mark (some (.ref e))) (A₀.deeper (envOf name scope L a cd)) (envOf name scope L a cd) E := by passes_own) :
    wpAny (model prog w) (A₀.deeper (envOf name scope L a cd)) (noteFrame (.ref e) (envOf name scope L a cd))
      (fun _ s₂ => wpAny (model prog w) (A₀.deeper (envOf name scope L a cd)) (setFlight (.ref e) none) (fun _ s₃ =>
        wpAny (model prog w) (A₀.deeper (envOf name scope L a cd)) (handleBy (.ref e) (envOf name scope L a cd) (.ExceptHandler (some (.Name "AttributeError" np)) none (b₀ :: suite) pos :: rest)) Q E s₃) E s₂) E s' := by
  have K' := K.push (name := name) (a := a) (cd := cd) F hk
  obtain ⟨ob, vs, a0, he, hc, hd, _, h1, h2⟩ := hx.there
  have hin : ∀ env ∈ (envOf name scope L a cd :: outer), ∀ b, env.frame = some b → b ∈ (envOf name scope L a cd :: outer).filterMap (·.frame) := fun env he b hb => List.mem_filterMap.mpr ⟨env, he, hb⟩
  have hBG : ∀ b o, h.get? b = some o → b ∉ (envOf name scope L a cd :: outer).filterMap (·.frame) → (hideAll h ((envOf name scope L a cd :: outer).filterMap (·.frame))).get? b = some o := fun b o q nm => hideAll_get _ q nm
  have hBs : (hideAll h ((envOf name scope L a cd :: outer).filterMap (·.frame))).StaysIn s'.heap := fun b o q => hx.keeps b o (of_hideAll _ q)
  have hen : (hideAll h ((envOf name scope L a cd :: outer).filterMap (·.frame))).get? e = none := by
    cases q : (hideAll h ((envOf name scope L a cd :: outer).filterMap (·.frame))).get? e with
    | none => rfl
    | some o => have := of_hideAll _ q; rw [hx.new] at this; cases this
  have hLB : (hideAll h ((envOf name scope L a cd :: outer).filterMap (·.frame))).get? L = none := hideAll_none _ (List.mem_filterMap.mpr ⟨_, List.mem_cons_self, rfl⟩)
  have hl : ∀ q ∈ news, (hideAll h ((envOf name scope L a cd :: outer).filterMap (·.frame))).get? q.1 = some q.2 := fun q hq => by
    refine hideAll_get _ (N q hq).1 fun hm => ?_
    rcases kts_mem hm with z | z
    · exact (N q hq).2.1 z
    · obtain ⟨_, o, ho, _⟩ := K.frames.mem z
      rw [(N q hq).2.2] at ho
      cases ho
  have hu : h.UpToSlots s'.heap := Heap.UpToSlots.of_keeps hx.keeps
  refine note_first (Around.frames_deeper K.stack) ((funFrames_hide K'.frames hin).of_keeps fun b o hb _ => ⟨o, hx.keeps b o hb, rfl⟩) rfl hBs hen he hc hd h1 h2 fun h₄ x₄ u₄ => ?_
  refine flight_none x₄ fun h₅ x₅ u₅ => ?_
  obtain ⟨g₅, T₅, F₅, K₅⟩ := kts_ground K F hBG x₅.1 ((hu.trans u₄).trans u₅)
  have X₅ : KF.In g₅ := XB.keeps K₅.stays
  have P₅ : TopRead p loose mg mb g₅ := topRead_of (TB.keeps K₅.stays)
  obtain ⟨oe₅, _, _, _, _, y1, y2, _⟩ := id x₅.2.2.2
  refine wpAny_handleBy_builtin (X := "AttributeError") (T := "AttributeError") (b := true) ae_isExc ae_notTuple sub_AttributeError (name_B F₅ X₅ P₅ ex hv (by decide) ⟨rfl, ⟨oe₅, y1, y2⟩, ?_⟩ hk hxk (by decide))
  refine flight_none x₅ fun h₆ x₆ u₆ => ?_
  obtain ⟨g₆, T₆, F₆, K₆⟩ := kts_ground K F hBG x₆.1 (((hu.trans u₄).trans u₅).trans u₆)
  have N₆ : News g₆ L h₆ news := fun q hq => ⟨x₆.1 _ _ (hl q hq), (fun z => by have := hl q hq; rw [z, hLB] at this; cases this), T₆.none_ _ (N q hq).2.2⟩
  obtain ⟨oe₆, vs₆, _, _, _, z1, z2, z3, _, z5, _⟩ := x₆.2.2.2
  exact wpAny_passesOwnAt hE (k h₆ g₆ oe₆ T₆ F₆ (News.more F₆ N₆ z1 (fun es n q => by rw [z3] at q; cases q) (T₆.none_ _ (kts_none F.keep hx.new))) K₆ (XB.keeps K₆.stays) (TB.keeps K₆.stays) ⟨vs₆, z3, z5⟩ ((u₄.trans u₅).trans u₆))
/-- it leaves the def that it was raised in -/
theorem leave_ae (K : Below A₀ base outer g) (hx : NewAE h s'.heap e c) (F : Fr g L h m)
    (hQ : ∀ h', RaisedSN base g outer e (.type "AttributeError") [] h' → g.UpToSlots h' → Q1 () { s' with heap := h' }) (hk : scope.kind = .function := by rfl) :
    wpAny (model prog w) (A₀.deeper (envOf name scope L a cd)) (leaving (envOf name scope L a cd) (.ref e)) Q1 E s' := by
  have K' := K.push (name := name) (a := a) (cd := cd) F hk
  have hin : ∀ env ∈ (envOf name scope L a cd :: outer), ∀ b, env.frame = some b → b ∈ (envOf name scope L a cd :: outer).filterMap (·.frame) := fun env he b hb => List.mem_filterMap.mpr ⟨env, he, hb⟩
  obtain ⟨ob, vs, a0, he, hc, hd, h0, h1, _⟩ := hx.there
  have hen : (hideAll h ((envOf name scope L a cd :: outer).filterMap (·.frame))).get? e = none := by
    cases q : (hideAll h ((envOf name scope L a cd :: outer).filterMap (·.frame))).get? e with
    | none => rfl
    | some o => have := of_hideAll _ q; rw [hx.new] at this; cases this
  refine wpAny_leaving_firstW (a0 := a0) (Around.frames_deeper K.stack) ((funFrames_hide K'.frames hin).of_keeps fun b o hb _ => ⟨o, hx.keeps b o hb, rfl⟩) rfl he (fun b o hb => hx.keeps b o (of_hideAll _ hb)) hen hd h1 h0 fun h' hL => ?_
  obtain ⟨k1, ⟨_, _, k2⟩, k3, k4⟩ := hL
  refine hQ h' ⟨hideAll h ((envOf name scope L a cd :: outer).filterMap (·.frame)), a0, fun b o q => hideAll_get _ (K'.stays b o q) (fun hm => by rw [(K'.frames.mem hm).1] at q; cases q), fun b o q nm => hideAll_get _ (F.keep b o q) (fun hm => ?_), fun q hq => (nomatch hq), k1, hen, k2, by rw [← hc]; exact k3⟩ (((Heap.UpToSlots.of_keeps F.keep).trans (Heap.UpToSlots.of_keeps hx.keeps)).trans k4)
  rcases kts_mem hm with z | z
  · rw [z, kts_self F] at q
    cases q
  · exact nm z
/-- the same seen from the ground as it was before the frames were seen -/
theorem raised_turn {l : List Env} {g' h' : Heap} {cls : Value} (R : RaisedSN base g' l e cls [] h') (T : KtsTurn (l.filterMap (·.frame)) g g') (u : g'.UpToSlots h') : RaisedSN base g l e cls [] h' ∧ g.UpToSlots h' := by
  obtain ⟨B, a0, hB, hBG, _, hf⟩ := R
  refine ⟨⟨B, a0, hB, fun b o q nm => hBG b o (T.other b o q nm) nm, fun q hq => (nomatch hq), hf⟩, fun b o q nf => ?_⟩
  obtain ⟨sl, z⟩ := T.up q
  obtain ⟨sl', z'⟩ := u b _ z nf
  exact ⟨sl', z'⟩
/-- the ledger of the caller stands through it -/
theorem raised_led {h' : Heap} {cls : Value} (R : RaisedSN base h (envOf name scope L a cd :: outer) e cls [] h') (K : Below A₀ base outer g) (F : Fr g L h m) (N : News g L h news) :
    ∃ G, Fr g L G m ∧ RaisedSN base G (envOf name scope L a cd :: outer) e cls news h' ∧ ∀ b o, G.get? b = some o → h.get? b = some o := by
  obtain ⟨B, a0, hB, hBG, _, hf⟩ := R
  refine ⟨hideAll h (news.map (·.1)), ?_, ⟨B, a0, hB, fun b o q nm => hBG b o (of_hideAll _ q) nm, fun q hq => ⟨hBG _ _ (N q hq).1 fun hm => ?_, hideAll_none _ (List.mem_map.mpr ⟨q, hq, rfl⟩), fresh_of_stays K.stays (N q hq).2.2⟩, hf⟩, fun b o q => of_hideAll _ q⟩
  · refine ⟨?_, fun b o q => hideAll_get _ (F.keep b o q) fun hm => ?_, F.above⟩
    · obtain ⟨o, es, ep, ho, hd, r⟩ := F.ns
      refine ⟨o, es, ep, hideAll_get _ ho fun hm => ?_, hd, r⟩
      obtain ⟨q, hq, z⟩ := List.mem_map.mp hm
      exact (N q hq).2.1 z
    · obtain ⟨q', hq, z⟩ := List.mem_map.mp hm
      have := (N q' hq).2.2
      rw [z, q] at this
      cases this
  · rcases kts_mem hm with z | z
    · exact (N q hq).2.1 z
    · obtain ⟨_, o, ho, _⟩ := K.frames.mem z
      rw [(N q hq).2.2] at ho
      cases ho
end
end
section
open Sem (wp)
theorem ae_newEntry : entryFor table "Exception.__new__" = some Builtin.«BaseException.__new__» := entryFor_alias (id' := "BaseException.__new__") (by rw [fastTable_eq_tree]; kernel_rfl) (by first | rfl | decide +kernel) (by decide +kernel) (by rw [fastTable_eq_tree]; kernel_rfl)
theorem ae_owner : ("Exception.__new__").dropRight 8 = "Exception" := by decide +kernel
theorem ae_ends : ("Exception.__new__").endsWith ".__new__" = true := by decide +kernel
theorem ae_made : Bind.madeHere "BaseException.__new__" (.type "AttributeError") = pure () := by kernel_rfl
theorem ae_canMake : ((Manifest.find? "AttributeError").bind fun x => List.findSome? (fun t => (Manifest.find? t).bind fun b =>
    if b.noNew = true then some true else if (b.attrs.any fun x => x.fst == "__new__") = true then some false else none) x.mro).getD false = false := by kernel_rfl
theorem ae_noVector (args : Args) : checkTypeCall "AttributeError" args = pure () := by kernel_rfl
theorem ae_madeBy : Bind.madeBy (.type "AttributeError") = pure (some "Exception.__new__") := by kernel_rfl
theorem ae_newOk (rest : List Value) : checkBuiltinCall "Exception.__new__" ⟨.type "AttributeError" :: rest, []⟩ = pure () := by kernel_rfl
theorem ae_initEntry : entryFor table "AttributeError.__init__" = some Builtin.«AttributeError.__init__» := entryFor_of_tree (by kernel_rfl)
theorem ae_initKind : builtinKind "AttributeError.__init__" = some .slot := by kernel_rfl
theorem ae_initSplit : splitId "AttributeError.__init__" = some ("AttributeError", "__init__") := by kernel_rfl
theorem ae_init : Slot "AttributeError" "__init__" "AttributeError.__init__" := .of (owner := "AttributeError") (n := "__init__") (by rw [typeLookup_type, builtinLookup_eq_fast]; kernel_rfl) (by decide +kernel) (by decide +kernel) (by decide +kernel)
    (by first | exact .inl (by decide +kernel) | exact .inr (by decide +kernel)) (by rw [isSubtype_type]; kernel_rfl)
theorem ae_notType : (Value.type "AttributeError" == Value.type "type") = false := by decide +kernel
theorem ae_mro : mroOf (.type "AttributeError") = pure [.type "AttributeError", .type "Exception", .type "BaseException", .type "object"] := by rw [mroOf_type]; kernel_rfl
theorem ae_initRow : Manifest.signature? "AttributeError.__init__" = some ⟨.hand, "wrapper __init__", "", .self, []⟩ := by kernel_rfl
theorem ae_sub : isSubtype (.type "AttributeError") (.type "Exception") = pure true := by rw [isSubtype_type]; kernel_rfl
/-- an AttributeError, made by its class and not raised yet -/
structure MadeAE (h h' : Heap) (e : Addr) : Prop where
  keeps : ∀ b o, h.get? b = some o → h'.get? b = some o
  new : h.get? e = none
  there : ∃ t, h'.get? e = some { cls := .type "AttributeError", data := .fields #[.ref t, .none, .none, .none, .bool false, .none, rawInt 0, rawInt 0] }
section
variable {prog : Program} {w : World} {A : Around} {R : Result → Shared → Prop}
theorem codeAny_ae_new {rest : List Value} {hp : Heap} {g : Array GenState} {d : Drawn} {tk : Nat} {os : OsState}
    (h : R (.ok (.ret (.ref (hp.objs.size + 1)))) ⟨(hp.push { cls := .type "tuple", data := .seq rest.toArray }).push
      { cls := .type "AttributeError", data := .fields #[.ref hp.objs.size, .none, .none, .none, .bool false, .none, rawInt 0, rawInt 0] }, g, d, tk, os⟩)
    (hrest : rest.length ≤ sizeLine := by size_fits) :
    codeAny (model prog w) A (.builtin "Exception.__new__" ⟨.type "AttributeError" :: rest, []⟩) R ⟨hp, g, d, tk, os⟩ := by
  have hends := ae_ends
  have hsub := ae_sub
  have hna := sub_AttributeError
  have hmade := ae_made
  refine codeAny_builtinAt ae_newEntry ?_
  unfold Builtin.«BaseException.__new__»
  refine PySem.wpAt_bind ?_
  show PySem.wpAt _ _ _ (stack >>= _) _ _ _
  refine PySem.wpAt_bind (PySem.wpAt_stack fun p below => PySem.wpAt_of_wpAny ?_)
  wp_walk
  refine PySem.wpAt_of_wpAny ?_
  rw [ae_owner]
  wp_walk
  show R _ _
  rw [Heap.size_push]
  exact h
theorem wpAny_check_ae {M : Model} {self : Value} {rest : List Value} {E : Value → Shared → Prop} {Q : Unit → Shared → Prop}
    {hp : Heap} {g : Array GenState} {d : Drawn} {tk : Nat} {os : OsState} (hT : Shared.TypeIs ⟨hp, g, d, tk, os⟩ self "AttributeError") (h : Q () ⟨hp, g, d, tk, os⟩) :
    wpAny M A (checkBuiltinCall "AttributeError.__init__" ⟨self :: rest, []⟩) Q E ⟨hp, g, d, tk, os⟩ := by
  have hsub := sub_AttributeError
  simp only [checkBuiltinCall, ae_initKind, ae_initSplit, ae_initRow]
  wp_walk
  exact h
abbrev aeObj (t : Addr) : Obj := { cls := .type "AttributeError", data := .fields #[.ref t, .none, .none, .none, .bool false, .none, rawInt 0, rawInt 0] }
theorem put_ae {hp : Heap} {g : Array GenState} {d : Drawn} {tk : Nat} {os : OsState} {e : Addr} {o : Obj} {vs : Array Value} {i : Nat} {v x : Value} {E : Value → Shared → Prop} {Q : Unit → Shared → Prop}
    (he : hp.get? e = some o) (hd : o.data = .fields vs) (hi : vs[i]? = some x) (h : Q () ⟨hp.update e (Obj.mapFields (·.setIfInBounds i v)), g, d, tk, os⟩) :
    wpAny (model prog w) A (Builtin.Exceptions.excPut (.ref e) i v) Q E ⟨hp, g, d, tk, os⟩ := by
  unfold Builtin.Exceptions.excPut
  refine wpAny_bind (wpAny_field he hd hi ?_)
  refine wpAny_bind (wpAny_setField he hd (Array.getElem?_eq_some_iff.mp hi).1 ?_)
  cases x with
  | ref a => exact wpAny_bind (wpAny_holding (wpAny_point (wpAny_pure h)))
  | _ => exact wpAny_pure h
theorem init_ae {rest : List Value} {hp : Heap} {g : Array GenState} {d : Drawn} {tk : Nat} {os : OsState} {e t : Addr} {E : Value → Shared → Prop} {Q : Fin → Shared → Prop} (he : hp.get? e = some (aeObj t))
    (h : ∀ h', (∀ b o, b ≠ e → hp.get? b = some o → h'.get? b = some o) → (∃ t', h'.get? e = some (aeObj t')) → Q (.done (.ret .none)) ⟨h', g, d, tk, os⟩) (hrest : rest.length ≤ sizeLine) :
    wpAny (model prog w) A (Builtin.«AttributeError.__init__» ⟨.ref e :: rest, []⟩) Q E ⟨hp, g, d, tk, os⟩ := by
  unfold Builtin.«AttributeError.__init__» Builtin.Exceptions.excInitWithMembers
  dsimp only
  unfold newTuple
  refine wpAny_bind (wpAny_newObj_type ?_ (by show rest.toArray.size ≤ sizeLine; simpa using hrest))
  have q1 := Heap.get?_push_of_some { cls := .type "tuple", data := .seq rest.toArray } he
  refine wpAny_bind (put_ae q1 rfl rfl ?_)
  have q2 := Heap.get?_update_self (Obj.mapFields (·.setIfInBounds 0 (.ref hp.objs.size))) q1 rfl
  refine wpAny_bind (wpAny_of_eq (a := [rawInt 0, rawInt 0]) rfl ?_)
  have q3 := Heap.get?_update_self (Obj.mapFields (·.setIfInBounds 6 (rawInt 0))) q2 rfl
  have q4 := Heap.get?_update_self (Obj.mapFields (·.setIfInBounds 7 (rawInt 0))) q3 rfl
  unfold Builtin.Exceptions.excSetOwn
  refine wpAny_bind ?_
  refine wpAny_bind (wpAny_fieldsOf q2 rfl ?_)
  rw [if_neg (by simp)]
  simp only [List.zipIdx_cons, List.zipIdx_nil, List.forIn_cons, List.forIn_nil]
  refine wpAny_bind (wpAny_bind (wpAny_bind (put_ae q2 rfl rfl (wpAny_pure ?_))))
  refine wpAny_bind (wpAny_bind (put_ae q3 rfl rfl (wpAny_pure ?_)))
  refine wpAny_pure (wpAny_pure (wpAny_pure (h _ (fun b o q z => ?_) ⟨_, q4⟩)))
  have hne : e ≠ b := Ne.symm q
  exact (Heap.get?_update_other _ _ hne).trans ((Heap.get?_update_other _ _ hne).trans ((Heap.get?_update_other _ _ hne).trans (Heap.get?_push_of_some _ z)))
theorem wpAny_type_call_ae {rest : List Value} {E : Value → Shared → Prop} {Q : Fin → Shared → Prop}
    {hp : Heap} {g : Array GenState} {d : Drawn} {tk : Nat} {os : OsState}
    (h : ∀ h' e, MadeAE hp h' e → Q (.done (.ret (.ref e))) ⟨h', g, d, tk, os⟩) (hrest : rest.length ≤ sizeLine := by size_fits) :
    wpAny (model prog w) A (Builtin.«type.__call__» ⟨.type "AttributeError" :: rest, []⟩) Q E ⟨hp, g, d, tk, os⟩ := by
  have hnt := ae_notType
  have hcan := ae_canMake
  have hchk := ae_noVector ⟨rest, []⟩
  have hmro := ae_mro
  have hmade := ae_madeBy
  wp_walk
  refine codeAny_call_builtin_code (Code.quiet_builtin _ (by decide +kernel)) (wpAny_of_eq (ae_newOk rest) ?_)
  refine codeAny_ae_new ?_ hrest
  show wpAny _ _ _ _ _ _
  have hget : ((hp.push { cls := .type "tuple", data := .seq rest.toArray }).push
      { cls := .type "AttributeError", data := .fields #[.ref hp.objs.size, .none, .none, .none, .bool false, .none, rawInt 0, rawInt 0] }).get? (hp.objs.size + 1) = some
      { cls := .type "AttributeError", data := .fields #[.ref hp.objs.size, .none, .none, .none, .bool false, .none, rawInt 0, rawInt 0] } := by heap_get
  refine wpAny_bind (wpAny_isInstance ⟨_, hget, rfl⟩ sub_AttributeError ?_)
  wp_step
  refine wpAny_bind (wpAny_holding (wpAny_callSpecial?_slot ⟨_, hget, rfl⟩ ae_init (wpAny_call (codeAny_call_builtin ae_init.plain ae_initEntry (wpAny_check_ae ⟨_, hget, rfl⟩ ?_)))))
  refine init_ae hget (fun h' k1 k2 => ?_) hrest
  wp_walk
  refine h _ _ ⟨fun b o hb => k1 b o (Nat.ne_of_lt (Nat.lt_succ_of_lt (Heap.lt_size hb))) (Heap.get?_push_of_some _ (Heap.get?_push_of_some _ hb)), Heap.get?_none_of_le (Nat.le_succ _), k2⟩
theorem wpAny_call_ae {rest : List Value} {E : Value → Shared → Prop} {Q : Value → Shared → Prop}
    {hp : Heap} {g : Array GenState} {d : Drawn} {tk : Nat} {os : OsState}
    (h : ∀ h' e, MadeAE hp h' e → Q (.ref e) ⟨h', g, d, tk, os⟩) (hrest : rest.length ≤ sizeLine := by size_fits) :
    wpAny (model prog w) A (call (.type "AttributeError") rest) Q E ⟨hp, g, d, tk, os⟩ := by
  refine wpAny_call (codeAny_of_tree ?_)
  show wpAny _ _ (again (.builtin "type.__call__" ⟨.type "AttributeError" :: rest, []⟩)) _ _ _
  exact wpAny_pure ⟨Code.quiet_builtin _ (by decide +kernel), codeAny_builtin entry_typeCall (wpAny_type_call_ae (fun h' e hm => h h' e hm) hrest)⟩
end
end
section
open Sem (wp)
theorem ae_plainMeta : (Value.type ((Manifest.find? "AttributeError").elim "type" fun x => x.metatype) == Value.type "type") = true := by kernel_rfl
theorem unchain_entry : entryFor table "proto.unchain" = some Builtin.«proto.unchain» := entryFor_of_tree (by kernel_rfl)
section
variable {prog : Program} {w : World} {A : Around} {E : Value → Shared → Prop} {s : Shared} {env : Env} {e1 : Addr}
/-- a new AttributeError is raised in the midst of e1 -/
theorem raiseNew_in {α : Type} {e t : Addr} {Q : α → Shared → Prop} (hA : A.handled = some (.ref e1)) (hc : CtxNone s.heap e1) (hne : e1 ≠ e)
    (he : s.heap.get? e = some { cls := .type "AttributeError", data := .fields #[.ref t, .none, .none, .none, .bool false, .none, rawInt 0, rawInt 0] })
    (h : E (.ref e) { s with heap := s.heap.update e (Obj.mapFields (·.setIfInBounds 2 (.ref e1))) }) :
    wpAny (model prog w) A (raiseNew (.ref e) : Sem α) Q E s := by
  obtain ⟨oe, vs, c1, c2, c3⟩ := hc
  unfold raiseNew
  refine wpAny_bind (wpAny_handled ?_)
  rw [hA]
  dsimp only
  have q : (Value.ref e1 != Value.ref e) = true := by simp [hne]
  rw [if_pos q]
  refine wpAny_bind (wpAny_holding (wpAny_runValue (codeAny_builtin unchain_entry ?_)))
  unfold Builtin.«proto.unchain»
  refine wpAny_bind (wpAny_field c1 c2 c3 ?_)
  rw [if_pos (by decide)]
  refine wpAny_bind (wpAny_pure (wpAny_pure ?_))
  show wpAny _ _ _ _ _ _
  refine wpAny_bind (wpAny_setField he rfl (by show 2 < 8; decide) ?_)
  first
    | exact wpAny_throw h
    | exact wpAny_bind (wpAny_pure (wpAny_throw h))
theorem raiseStmt_in {x : Sem Value} {Q : Flow → Shared → Prop} (hA : A.handled = some (.ref e1))
    (h : wpAny (model prog w) A x (fun v s₁ => ∃ e t, v = .ref e ∧ s₁.heap.get? e = some { cls := .type "AttributeError", data := .fields #[.ref t, .none, .none, .none, .bool false, .none, rawInt 0, rawInt 0] } ∧
      CtxNone s₁.heap e1 ∧ e1 ≠ e ∧ E (.ref e) { s₁ with heap := s₁.heap.update e (Obj.mapFields (·.setIfInBounds 2 (.ref e1))) }) E s) :
    wpAny (model prog w) A (raiseStmt env (some x) none) Q E s := by
  unfold raiseStmt
  refine wpAny_bind (wpAny_mono h (fun v s₁ h₁ => ?_) fun _ _ x => x)
  obtain ⟨e, t, rfl, he, hc, hne, hE⟩ := h₁
  obtain ⟨hp, g, d, tk, os⟩ := s₁
  have hsub := ae_isExc
  have hmeta := ae_plainMeta
  repeat (first | refine wpAny_loadPart he ?_ | wp_step)
  exact raiseNew_in hA hc hne he hE
theorem Raise_in {x : PySem.Expr} {pos : Pos} {Q : Flow → Shared → Prop} (hA : A.handled = some (.ref e1))
    (h : wpAny (model prog w) A (eval x env) (fun v s₁ => ∃ e t, v = .ref e ∧ s₁.heap.get? e = some { cls := .type "AttributeError", data := .fields #[.ref t, .none, .none, .none, .bool false, .none, rawInt 0, rawInt 0] } ∧
      CtxNone s₁.heap e1 ∧ e1 ≠ e ∧ E (.ref e) { s₁ with heap := s₁.heap.update e (Obj.mapFields (·.setIfInBounds 2 (.ref e1))) }) E s) :
    wpAny (model prog w) A (exec (.Raise (some x) none pos) env) Q E s := by
  rw [arm_exec_Raise]
  first
    | exact wpAny_bind (wpAny_standAt (raiseStmt_in hA (wpAny_bind (wpAny_mono h (fun v s₁ h₁ => wpAny_bind (wpAny_standAt (wpAny_pure h₁))) fun _ _ x => x))))
    | (simp only [evalOpt, Option.map]; exact wpAny_bind (wpAny_standAt (raiseStmt_in hA (wpAny_bind (wpAny_mono h (fun v s₁ h₁ => wpAny_bind (wpAny_standAt (wpAny_pure h₁))) fun _ _ x => x)))))
    | (show wpAny _ A (do standAt pos; raiseStmt env (some (do let v ← eval x env; standAt pos; pure v)) none) Q E s; exact wpAny_bind (wpAny_standAt (raiseStmt_in hA (wpAny_bind (wpAny_mono h (fun v s₁ h₁ => wpAny_bind (wpAny_standAt (wpAny_pure h₁))) fun _ _ x => x)))))
/-- raise AttributeError(arg) in the midst of e1 -/
theorem Raise_ae {np cpos pos : Pos} {args : List PySem.Expr} {Q : Flow → Shared → Prop}
    (hA : A.handled = some (.ref e1)) (hplain : (backTo cpos (starEach args env)).any (·.1) = false)
    (h : wpAny (model prog w) A (eval (.Name "AttributeError" np) env) (fun f s₁ => f = .type "AttributeError" ∧ wpAny (model prog w) A (evalArgs (.type "AttributeError") true (backTo cpos (starEach args env)) [])
      (fun a s₂ => a.kw = [] ∧ a.pos.length ≤ sizeLine ∧ CtxNone s₂.heap e1 ∧ ∀ h' e, NewAE s₂.heap h' e (.ref e1) → E (.ref e) { s₂ with heap := h' }) E s₁) E s) :
    wpAny (model prog w) A (exec (.Raise (some (.Call (.Name "AttributeError" np) args [] cpos)) none pos) env) Q E s := by
  refine Raise_in hA (wpAny_Call_ofName (wpAny_mono h (fun f s₁ h₁ => ?_) fun _ _ x => x))
  obtain ⟨rfl, h₁⟩ := h₁
  refine callWith_excType hplain (wpAny_mono h₁ (fun a s₂ h₂ => ?_) fun _ _ x => x)
  obtain ⟨apos, akw⟩ := a
  obtain ⟨hkw, hlen, hc, h₂⟩ := h₂
  obtain rfl : akw = [] := hkw
  obtain ⟨hp, g, d, tk, os⟩ := s₂
  refine wpAny_call_ae (hrest := hlen) fun h' e hm => ?_
  obtain ⟨t, ht⟩ := hm.there
  have hne : e1 ≠ e := fun q => by
    obtain ⟨oe, _, c1, _⟩ := hc
    have := hm.new
    rw [← q] at this
    rw [this] at c1
    cases c1
  refine ⟨e, t, rfl, ht, hc.keeps hm.keeps, hne, h₂ _ e ⟨fun b o q => ?_, hm.new, ?_⟩⟩
  · exact (Heap.get?_update_other _ _ (fun z => by have n := hm.new; rw [z, show hp.get? b = some o from q] at n; cases n)).trans (hm.keeps b o q)
  · exact ⟨_, _, _, Heap.get?_update_self _ ht rfl, rfl, rfl, rfl, rfl, rfl⟩
end
end
section
open PySem PySem.W PyProof.Rows PySem.Spec PySem.Calls Builtin Builtin.ObjectAttr
section
variable {prog : Program} {w : World} {A : Around} {E : Value → Shared → Prop} {s : Shared} {K : Frag} {x C : Addr} {ox od : Obj} {name nm : Str} {expr : Bool} {Q : Value → Shared → Prop} {t : Tok}
theorem findObj_miss (hh : hasDictIn K C = true) (ha : findIn K (.ref C) name = some none) (hc : copiedNames.contains name = false) (hl : lookIn name od = some none) : findObj K C (some od) name = some .missing := by
  obtain ⟨cd, hc', hd⟩ := any_some hh
  unfold findObj
  have ho : W.ownOf cd (some od) name = some none := by unfold W.ownOf; rw [if_pos hd]; exact hl
  rw [hc', Option.bind_some, ha, Option.bind_some]
  simp only [Option.bind_some, ho, hc, Bool.false_and, Bool.false_eq_true, if_false]
/-- a made thing has no such attribute -/
theorem kbm_miss (X : K.In s.heap) (I : InstAt s.heap x ox C (some od)) (hga : findIn K (.ref C) "__getattribute__" = some (some (.builtin "object.__getattribute__")))
    (hf : findObj K C (some od) name = some .missing) (hk : findIn K (.ref C) "__getattr__" = some none) (hA : A.handled = none) (hnm : (clsIn K C).map (fun cd => cd.name) = some nm)
    (hcut : (nm.cps.foldl (fun k c => k + (Str.utf8Of c).length) 0 ≤ 100)) (hmsg : ((s!"'{nm.toString}' object has no attribute '" : Str) ++ name ++ "'").length ≤ sizeLine)
    (h : ∀ h' tk e, NewAE s.heap h' e .none → E (.ref e) { s with heap := h', toks := tk }) : wpAny (model prog w) A (getAttrBy (.ref x) (.str name t) true expr) Q E s := by
  refine kbm_open X I hga ?_
  obtain ⟨hh', g, d, tk, os⟩ := s
  have L0 := I.type (M := model prog w)
  have L1 := looks_find (M := model prog w) X I hf
  have L2 := looks_findIn (M := model prog w) X hk
  obtain ⟨cd, hcd, rfl⟩ := Option.map_eq_some_iff.mp hnm
  have L3 := looks_clsIn (M := model prog w) X hcd
  refine wpAny_bind (wpAny_pure (wpAny_bind (L0.at (wpAny_bind (L1.at (wpAny_bind (L2.at ?_)))))))
  show wpAny _ _ (noSuchAttribute (.ref x) name) _ _ _
  unfold noSuchAttribute
  have L4 : Looks (model prog w) hh' (typeNameOfCut 100 (.ref x)) cd.name.toString := by
    have L5 : Looks (model prog w) hh' (shownTypeOf (.ref x)) (.ref C) := L0.andThen .now
    refine L5.andThen (L3.andThen ?_)
    rw [if_pos hcut]
    exact .now
  refine wpAny_bind (L4.at ?_)
  refine wpAny_raiseAttrError hA (fun h' tk' e hx => ?_) hmsg
  obtain ⟨t', u', he⟩ := hx.there
  have q := h h' tk' e (NewAE.of hx)
  show wpAny _ _ (noteAttr (.ref e) (.ref x) (.str name t)) _ _ _
  have f1 := sub_AttributeError
  unfold noteAttr lacksNameAndObj
  repeat (any_goals (first | assumption | wp_step))

end
end
section
open PySem.W.KStt (codes)
theorem lines_NC2 : True := by
  k_with_none
  k_with "z1" => (((try simp only [depth_under_make, depth_under_kw, depth_in1, depth_deeper, depth_caller]); (try dsimp only [ktrTop]); omega))
  k_with "ktr_enter" => ((refine' code_def ?k1 ?k2 ?k3 ?k4 ?k5 ?kA ?kF ?kK ?k6 ?k7 ?k8 ?k9 ?kB ?_ ?c2 ?c3 ?c4 ?c5; (case kA => exact rfl); (case kF => exact rfl); (case kK => first | assumption | exact rfl); (case k1 => k_asm); (case k2 => k_asm); (case k3 => k_asm); (case k4 => k_asm); (case k5 => k_asm); (case k6 => k_is); (case k7 => k_is); (case k8 => k_extra "z1"); (case k9 => first | exact BindsTo.of_eq rfl | exact binds_K (by k_in) rfl (by k_is) rfl rfl rfl | fail "enter: no rule for these arguments"); (case c5 => decide); (case kB => exact locs rfl); (case c2 => exact rfl); (case c3 => exact rfl); (case c4 => exact rfl); k_whole); intro gpq0 Lpq0 hpq0 FGpq0 Fpq0 Npq0 Bpq0 Xpq0 Tpq0; (try dsimp only); (try k_lift Bpq0); (try k_fold))
  k_with "k_mem" => (first | with_reducible exact List.mem_cons_self | with_reducible assumption | (with_reducible refine List.mem_cons_of_mem _ ?_; k_mem) | (with_reducible refine List.mem_append_left _ ?_; k_mem) | (with_reducible refine List.mem_append_right _ ?_; k_mem))
  k_with "execs cons" => (k_here; k_dflt (refine wpAny_execs_cons ?_))
  k_with "execs cons" => (k_here; (with_reducible refine execs_cons_gen ?_); intro tk9q3)
  k_with "execs nil" => (k_here; (with_reducible refine wpAny_execs_nil ?_))
  k_with "exec If" => (k_here; k_dflt (refine wpAny_If ?_))
  k_with "ite" => (k_here; first | (with_reducible refine ite_tt ?_) | (with_reducible refine ite_ff ?_) | (k_closed; (first | (with_reducible refine iteP ?iteC ?_; (case iteC => decide)) | (with_reducible refine iteN ?iteC ?_; (case iteC => decide)))) | (with_reducible refine split_ine ?_ ?_ <;> intro _) | (with_reducible refine split_ieq ?_ ?_ <;> intro _) | with_reducible refine split_not ?_ | (with_reducible refine iteDec ?_ ?_ <;> intro _) | (with_reducible refine iteB ?_ ?_ <;> intro _))
  k_with "callWith ref" => (k_here; k_dflt ((with_reducible refine' callWith_K ?k1 ?k2 ?_ ?he ?hp); (case he => exact rfl); (case hp => exact rfl); (case k1 => k_asm); (case k2 => k_is)))
  k_with "callWith ref" => (k_here; k_dflt ((with_reducible refine' callWith_K0 ?k1 ?k2 ?_); (case k1 => exact Frag.In.keeps (by with_reducible assumption) (Fr.keep (by with_reducible assumption))); (case k2 => k_is); (try dsimp only [List.nil_append])))
  k_with "callWith" => (k_here; k_dflt ((with_reducible refine' callWith_m1 ?_ ?he ?hp); (case he => exact rfl); (case hp => exact rfl)))
  k_with "binaryOp Mod int int" => (k_here; (with_reducible refine' mod_int' ?kbe ?_); (case kbe => decide); (try dsimp only); (try k_fold))
  k_with "look" => (with_reducible first | exact Look1.str | exact Look1.int | (refine' Look1.name ?hx ?hd ?hm; (case hx => k_dflt (exact rfl)); (case hd => k_dflt decide); (case hm => k_dflt (exact rfl))) | exact LookN.nil | (refine' LookN.cons ?x ?y; (case x => k_extra "look"); (case y => k_extra "look")) | exact LookP.nil | (refine' LookP.cons ?x ?y ?z; (case x => k_extra "look"); (case y => k_extra "look"); (case z => k_extra "look")))
  k_with "spliced" => (k_here; (with_reducible show wpAny _ _ (spliced (backTo _ (starEach (_ :: _) _))) _ _ _); (with_reducible rename Fr _ _ _ _ => F8q16); ((with_reducible refine' args_lk F8q16 ?he ?hk ?l ?_); (case he => k_dflt (exact ⟨_, _, _, _, rfl⟩)); (case hk => k_dflt (exact rfl)); (case l => k_extra "look")); (try dsimp only); (try k_fold))
  k_with "evalPairs" => (k_here; (with_reducible show wpAny _ _ (evalPairs (pairTrees (_ :: _) _ _ _)) _ _ _); (with_reducible rename Fr _ _ _ _ => F8q17); ((with_reducible refine' pairs_lk F8q17 ?he ?hk ?l ?_); (case he => k_dflt (exact ⟨_, _, _, _, rfl⟩)); (case hk => k_dflt (exact rfl)); (case l => k_extra "look")); (try dsimp only); (try k_fold))
  k_with "eval BinOp" => (k_here; (with_reducible show wpAny _ _ (eval (Expr.BinOp (Expr.Name _ _) _ (Expr.Constant _ _ _) _) _) _ _ _); (with_reducible rename Fr _ _ _ _ => F8q18); ((with_reducible refine' bin_lk F8q18 ?he ?hk ?l ?r ?_); (case he => k_dflt (exact ⟨_, _, _, _, rfl⟩)); (case hk => k_dflt (exact rfl)); (case l => k_extra "look"); (case r => k_extra "look")); (try dsimp only); (try k_fold))
  k_with "eval BinOp" => (k_here; (with_reducible show wpAny _ _ (eval (Expr.BinOp (Expr.Name _ _) _ (Expr.Name _ _) _) _) _ _ _); (with_reducible rename Fr _ _ _ _ => F8q19); ((with_reducible refine' bin_lk F8q19 ?he ?hk ?l ?r ?_); (case he => k_dflt (exact ⟨_, _, _, _, rfl⟩)); (case hk => k_dflt (exact rfl)); (case l => k_extra "look"); (case r => k_extra "look")); (try dsimp only); (try k_fold))
  k_with "exec If" => (k_here; (with_reducible show wpAny _ _ (exec (Stmt.If (Expr.Compare (Expr.Name _ _) [CmpOp.Eq] [Expr.Constant (Const.int _) _ _] _) _ _ _) _) _ _ _); (with_reducible rename Fr _ _ _ _ => F8q20); ((with_reducible refine' if_lk F8q20 ?he ?hk ?l ?r ?h ?_); (case he => k_dflt (exact ⟨_, _, _, _, rfl⟩)); (case hk => k_dflt (exact rfl)); (case l => k_extra "look"); (case r => k_extra "look"); (case h => k_dflt (with_unfolding_all rfl))); (try dsimp only); (try k_fold))
  trivial
def OutIs (pre : List Int) (out : Str) : Prop := out = outL pre ∧ out.length ≤ 6 * pre.length
theorem one_is {n k : Nat} {y : Str} (e : y = ⟨#[k]⟩) (h : ((⟨#[n]⟩ : Str) == y) = true) : n = k := by
  subst e
  have := beq_iff_eq.mp h
  injection this with h1
  injection h1 with h2
  injection h2
theorem one_not {n k : Nat} {y : Str} (e : y = ⟨#[k]⟩) (h : ((⟨#[n]⟩ : Str) == y) = false) : n ≠ k := by
  subst e
  rintro rfl
  simp at h
theorem out_snoc {pre : List Int} {n : Nat} {out add : Str} (P : OutIs pre out) (h : add.cps.toList = escN n) (hl : add.length ≤ 6) : OutIs (pre ++ [(n : Int)]) (out ++ add) := by
  obtain ⟨rfl, hlen⟩ := P
  refine ⟨?_, ?_⟩
  · unfold outL
    rw [List.flatMap_append]
    apply Str.ext'
    show _ = _
    simp only [Str.cps_append, List.flatMap_cons, List.flatMap_nil, List.append_nil, Int.toNat_natCast, ← h]
    simp
  · rw [Str.length_append, List.length_append, List.length_singleton]; omega
theorem out_lt {pre : List Int} {n : Nat} {out : Str} (P : OutIs pre out) (h : ((⟨#[n]⟩ : Str) == Str.ofString "<") = true) : OutIs (pre ++ [(n : Int)]) (out ++ Str.ofString "&lt;") := by
  have := one_is (k := 60) (by decide +kernel) h
  subst this
  exact out_snoc P (by decide +kernel) (by decide +kernel)
theorem out_gt {pre : List Int} {n : Nat} {out : Str} (P : OutIs pre out) (h : ((⟨#[n]⟩ : Str) == Str.ofString ">") = true) : OutIs (pre ++ [(n : Int)]) (out ++ Str.ofString "&gt;") := by
  have := one_is (k := 62) (by decide +kernel) h
  subst this
  exact out_snoc P (by decide +kernel) (by decide +kernel)
theorem out_qu {pre : List Int} {n : Nat} {out : Str} (P : OutIs pre out) (h : ((⟨#[n]⟩ : Str) == Str.ofString "\"") = true) : OutIs (pre ++ [(n : Int)]) (out ++ Str.ofString "&quot;") := by
  have := one_is (k := 34) (by decide +kernel) h
  subst this
  exact out_snoc P (by decide +kernel) (by decide +kernel)
theorem out_el {pre : List Int} {n : Nat} {out : Str} (P : OutIs pre out) (h1 : ((⟨#[n]⟩ : Str) == Str.ofString "<") = false) (h2 : ((⟨#[n]⟩ : Str) == Str.ofString ">") = false) (h3 : ((⟨#[n]⟩ : Str) == Str.ofString "\"") = false) : OutIs (pre ++ [(n : Int)]) (out ++ ⟨#[n]⟩) := by
  refine out_snoc P ?_ (by simp [Str.length])
  have a := one_not (k := 60) (by decide +kernel) h1
  have b := one_not (k := 62) (by decide +kernel) h2
  have c := one_not (k := 34) (by decide +kernel) h3
  simp [escN, a, b, c]
theorem out_nil : OutIs [] (Str.ofString "") := ⟨by decide +kernel, by decide +kernel⟩
theorem out_both {pre : List Int} {out : Str} (h : OutIs pre out) : OutIs pre out ∧ out.length ≤ 6 * pre.length := ⟨h, h.2⟩
theorem out_ret {x out : Str} {t : Nat} (h : OutIs (codes x) out) (hx : x.length ≤ 200000) : ∃ t', Value.str out t = .str (shownF x) t' ∧ Sz (shownF x) 12 := ⟨t, by rw [h.1]; rfl, by have z := h.2; rw [h.1, PySem.W.KStt.codes_length] at z; exact Nat.le_trans z (by omega)⟩
theorem tell_shown {w : World} {x : Str} {tk n : Nat} (hz : Sz x n) (hn : n ≤ 2) :
    Tell0 w 538 20 100 [.str x tk] (fun _ => True) (fun r => ∃ t, r = .str (shownF x) t ∧ Sz (shownF x) 12) := by
  intro p loose mean mg mb dp un gd cn cs a ccd cl outer A₀ base h₀ L m news s Q E B F X N T hk hdp hun _ ret
  refine fillT w ?_
  k_fill
  intro _ _
  refine wpAny_call ?_
  have hx : x.length ≤ 200000 := Nat.le_trans hz (Nat.mul_le_mul_right 100000 hn)
  clear hz hn
  k_dflt ((refine' code_all ?k1 ?k2 ?k3 ?k4 ?k5 ?kA ?kF ?kK ?k6 ?k7 ?k8 ?k9 ?kB ?_ ?c2 ?c3 ?c4 ?c5; (case kA => exact rfl); (case kF => exact rfl); (case kK => first | assumption | exact rfl); (case k1 => k_asm); (case k2 => k_asm); (case k3 => k_asm); (case k4 => k_asm); (case k5 => k_asm); (case k6 => k_is); (case k7 => k_is); (case k8 => ((try simp only [depth_under_make, depth_under_kw, depth_in1, depth_deeper, depth_caller]); (try dsimp only [ktrTop]); omega)); (case k9 => first | exact BindsTo.of_eq rfl | exact binds_K (by k_in) rfl (by k_is) rfl rfl rfl | fail "enter: no rule for these arguments"); (case c5 => decide); (case kB => exact locs rfl); (case c2 => exact rfl); (case c3 => exact rfl); (case c4 => exact rfl); k_whole); intro g0 L0 h' FG' F' N' B' X' T' hs0; (try dsimp only); (try k_fold))
  (k_with "pyIter str" => k_state (fun pre out => OutIs pre out ∧ out.length ≤ 6 * pre.length) "out")
  (k_with "state" => first | exact ⟨out_nil, by decide +kernel⟩ | (with_reducible refine out_both (out_lt ?_ ?_) <;> with_reducible assumption) | (with_reducible refine out_both (out_gt ?_ ?_) <;> with_reducible assumption) | (with_reducible refine out_both (out_qu ?_ ?_) <;> with_reducible assumption) | (with_reducible refine out_both (out_el ?_ ?_ ?_ ?_) <;> with_reducible assumption))
  repeat' (first | ((with_reducible show Q _ _); fail) | (k_unfold; (try dsimp only)) | ((fail_if_success (with_reducible show Q _ _)); walk1) | ((fail_if_success (with_reducible show Q _ _)); dsimp only; walk1) | (leave1; try dsimp only) | fail "no step")
  exact ret _ _ _ (by k_asm) (back0 N (by k_asm) (by k_asm)) (out_ret (by with_reducible assumption) (by with_reducible assumption))
end
section
open PySem.W.KStt (codes)
theorem lines_NC1 : True := by
  k_with_none
  k_with "z1" => (((try simp only [depth_under_make, depth_under_kw, depth_in1, depth_deeper, depth_caller]); (try dsimp only [ktrTop]); omega))
  k_with "ktr_enter" => ((refine' code_def ?k1 ?k2 ?k3 ?k4 ?k5 ?kA ?kF ?kK ?k6 ?k7 ?k8 ?k9 ?kB ?_ ?c2 ?c3 ?c4 ?c5; (case kA => exact rfl); (case kF => exact rfl); (case kK => first | assumption | exact rfl); (case k1 => k_asm); (case k2 => k_asm); (case k3 => k_asm); (case k4 => k_asm); (case k5 => k_asm); (case k6 => k_is); (case k7 => k_is); (case k8 => k_extra "z1"); (case k9 => first | exact BindsTo.of_eq rfl | exact binds_K (by k_in) rfl (by k_is) rfl rfl rfl | fail "enter: no rule for these arguments"); (case c5 => decide); (case kB => exact locs rfl); (case c2 => exact rfl); (case c3 => exact rfl); (case c4 => exact rfl); k_whole); intro gpq0 Lpq0 hpq0 FGpq0 Fpq0 Npq0 Bpq0 Xpq0 Tpq0; (try dsimp only); (try k_lift Bpq0); (try k_fold))
  k_with "k_mem" => (first | with_reducible exact List.mem_cons_self | with_reducible assumption | (with_reducible refine List.mem_cons_of_mem _ ?_; k_mem) | (with_reducible refine List.mem_append_left _ ?_; k_mem) | (with_reducible refine List.mem_append_right _ ?_; k_mem))
  k_with "execs cons" => (k_here; k_dflt (refine wpAny_execs_cons ?_))
  k_with "execs cons" => (k_here; (with_reducible refine execs_cons_gen ?_); intro tk9q3)
  k_with "execs nil" => (k_here; (with_reducible refine wpAny_execs_nil ?_))
  k_with "exec If" => (k_here; k_dflt (refine wpAny_If ?_))
  k_with "ite" => (k_here; first | (with_reducible refine ite_tt ?_) | (with_reducible refine ite_ff ?_) | (k_closed; (first | (with_reducible refine iteP ?iteC ?_; (case iteC => decide)) | (with_reducible refine iteN ?iteC ?_; (case iteC => decide)))) | (with_reducible refine split_ine ?_ ?_ <;> intro _) | (with_reducible refine split_ieq ?_ ?_ <;> intro _) | with_reducible refine split_not ?_ | (with_reducible refine iteDec ?_ ?_ <;> intro _) | (with_reducible refine iteB ?_ ?_ <;> intro _))
  k_with "callWith ref" => (k_here; k_dflt ((with_reducible refine' callWith_K ?k1 ?k2 ?_ ?he ?hp); (case he => exact rfl); (case hp => exact rfl); (case k1 => k_asm); (case k2 => k_is)))
  k_with "callWith ref" => (k_here; k_dflt ((with_reducible refine' callWith_K0 ?k1 ?k2 ?_); (case k1 => exact Frag.In.keeps (by with_reducible assumption) (Fr.keep (by with_reducible assumption))); (case k2 => k_is); (try dsimp only [List.nil_append])))
  k_with "callWith" => (k_here; k_dflt ((with_reducible refine' callWith_m1 ?_ ?he ?hp); (case he => exact rfl); (case hp => exact rfl)))
  k_with "binaryOp Mod int int" => (k_here; (with_reducible refine' mod_int' ?kbe ?_); (case kbe => decide); (try dsimp only); (try k_fold))
  k_with "look" => (with_reducible first | exact Look1.str | exact Look1.int | (refine' Look1.name ?hx ?hd ?hm; (case hx => k_dflt (exact rfl)); (case hd => k_dflt decide); (case hm => k_dflt (exact rfl))) | exact LookN.nil | (refine' LookN.cons ?x ?y; (case x => k_extra "look"); (case y => k_extra "look")) | exact LookP.nil | (refine' LookP.cons ?x ?y ?z; (case x => k_extra "look"); (case y => k_extra "look"); (case z => k_extra "look")))
  k_with "spliced" => (k_here; (with_reducible show wpAny _ _ (spliced (backTo _ (starEach (_ :: _) _))) _ _ _); (with_reducible rename Fr _ _ _ _ => F8q16); ((with_reducible refine' args_lk F8q16 ?he ?hk ?l ?_); (case he => k_dflt (exact ⟨_, _, _, _, rfl⟩)); (case hk => k_dflt (exact rfl)); (case l => k_extra "look")); (try dsimp only); (try k_fold))
  k_with "evalPairs" => (k_here; (with_reducible show wpAny _ _ (evalPairs (pairTrees (_ :: _) _ _ _)) _ _ _); (with_reducible rename Fr _ _ _ _ => F8q17); ((with_reducible refine' pairs_lk F8q17 ?he ?hk ?l ?_); (case he => k_dflt (exact ⟨_, _, _, _, rfl⟩)); (case hk => k_dflt (exact rfl)); (case l => k_extra "look")); (try dsimp only); (try k_fold))
  k_with "eval BinOp" => (k_here; (with_reducible show wpAny _ _ (eval (Expr.BinOp (Expr.Name _ _) _ (Expr.Constant _ _ _) _) _) _ _ _); (with_reducible rename Fr _ _ _ _ => F8q18); ((with_reducible refine' bin_lk F8q18 ?he ?hk ?l ?r ?_); (case he => k_dflt (exact ⟨_, _, _, _, rfl⟩)); (case hk => k_dflt (exact rfl)); (case l => k_extra "look"); (case r => k_extra "look")); (try dsimp only); (try k_fold))
  k_with "eval BinOp" => (k_here; (with_reducible show wpAny _ _ (eval (Expr.BinOp (Expr.Name _ _) _ (Expr.Name _ _) _) _) _ _ _); (with_reducible rename Fr _ _ _ _ => F8q19); ((with_reducible refine' bin_lk F8q19 ?he ?hk ?l ?r ?_); (case he => k_dflt (exact ⟨_, _, _, _, rfl⟩)); (case hk => k_dflt (exact rfl)); (case l => k_extra "look"); (case r => k_extra "look")); (try dsimp only); (try k_fold))
  k_with "exec If" => (k_here; (with_reducible show wpAny _ _ (exec (Stmt.If (Expr.Compare (Expr.Name _ _) [CmpOp.Eq] [Expr.Constant (Const.int _) _ _] _) _ _ _) _) _ _ _); (with_reducible rename Fr _ _ _ _ => F8q20); ((with_reducible refine' if_lk F8q20 ?he ?hk ?l ?r ?h ?_); (case he => k_dflt (exact ⟨_, _, _, _, rfl⟩)); (case hk => k_dflt (exact rfl)); (case l => k_extra "look"); (case r => k_extra "look"); (case h => k_dflt (with_unfolding_all rfl))); (try dsimp only); (try k_fold))
  k_with "storeName" => (k_here; (with_reducible rename Fr _ _ _ _ => F8q21); (with_reducible rename News _ _ _ _ => N8q21); ((with_reducible refine' store_lk F8q21 N8q21 ?he ?hk ?hx ?_); (case he => k_dflt (exact ⟨_, _, _, _, rfl⟩)); (case hk => k_dflt (exact rfl)); (case hx => k_dflt (exact rfl)); intro h9q21 m9q21 F9q21 N9q21; (try clear F8q21 N8q21); (try dsimp only); (try k_fold)))
  trivial
theorem tell_at {w : World} {sa : Addr} {vs : List Value} {ns : List Int} {k : Int} {tk : Nat} (hi : IntsAre vs ns) (hlen : ns.length ≤ 63) (hk0 : 0 ≤ k) (hk1 : k < 100000) :
    Tell0 w 531 20 100 [.ref sa, .int k tk] (fun h => h.IsList sa vs.toArray) (fun r => ∃ n t, r = .int n t) := by
  intro p loose mean mg mb dp un gd cn cs a ccd cl outer A₀ base h₀ L m news s Q E B F X N T hk hdp hun hpre ret
  refine fillT w ?_
  k_fill
  intro _ _
  refine wpAny_call ?_
  k_dflt ((refine' code_all ?k1 ?k2 ?k3 ?k4 ?k5 ?kA ?kF ?kK ?k6 ?k7 ?k8 ?k9 ?kB ?_ ?c2 ?c3 ?c4 ?c5; (case kA => exact rfl); (case kF => exact rfl); (case kK => first | assumption | exact rfl); (case k1 => k_asm); (case k2 => k_asm); (case k3 => k_asm); (case k4 => k_asm); (case k5 => k_asm); (case k6 => k_is); (case k7 => k_is); (case k8 => ((try simp only [depth_under_make, depth_under_kw, depth_in1, depth_deeper, depth_caller]); (try dsimp only [ktrTop]); omega)); (case k9 => first | exact BindsTo.of_eq rfl | exact binds_K (by k_in) rfl (by k_is) rfl rfl rfl | fail "enter: no rule for these arguments"); (case c5 => decide); (case kB => exact locs rfl); (case c2 => exact rfl); (case c3 => exact rfl); (case c4 => exact rfl); k_whole); intro g0 L0 h' FG' F' N' B' X' T' hs0; (try dsimp only); (try k_fold))
  replace hpre := listAt hpre hs0
  repeat' (first | ((with_reducible show Q _ _); fail) | (k_unfold; (try dsimp only)) | ((fail_if_success (with_reducible show Q _ _)); walk1) | ((fail_if_success (with_reducible show Q _ _)); dsimp only; walk1) | (leave1; try dsimp only) | fail "no step")
  all_goals exact ret _ _ _ (by k_asm) (back0 N (by k_asm) (by k_asm)) ⟨_, _, rfl⟩
end
section
open PySem.W.KStt (codes)
theorem lines_NE1 : True := by
  k_with_none
  k_with "z1" => (((try simp only [depth_under_make, depth_under_kw, depth_in1, depth_deeper, depth_caller]); (try dsimp only [ktrTop]); omega))
  k_with "ktr_enter" => ((refine' code_def ?k1 ?k2 ?k3 ?k4 ?k5 ?kA ?kF ?kK ?k6 ?k7 ?k8 ?k9 ?kB ?_ ?c2 ?c3 ?c4 ?c5; (case kA => exact rfl); (case kF => exact rfl); (case kK => first | assumption | exact rfl); (case k1 => k_asm); (case k2 => k_asm); (case k3 => k_asm); (case k4 => k_asm); (case k5 => k_asm); (case k6 => k_is); (case k7 => k_is); (case k8 => k_extra "z1"); (case k9 => first | exact BindsTo.of_eq rfl | exact binds_K (by k_in) rfl (by k_is) rfl rfl rfl | fail "enter: no rule for these arguments"); (case c5 => decide); (case kB => exact locs rfl); (case c2 => exact rfl); (case c3 => exact rfl); (case c4 => exact rfl); k_whole); intro gpq0 Lpq0 hpq0 FGpq0 Fpq0 Npq0 Bpq0 Xpq0 Tpq0; (try dsimp only); (try k_lift Bpq0); (try k_fold))
  k_with "k_mem" => (first | with_reducible exact List.mem_cons_self | with_reducible assumption | (with_reducible refine List.mem_cons_of_mem _ ?_; k_mem) | (with_reducible refine List.mem_append_left _ ?_; k_mem) | (with_reducible refine List.mem_append_right _ ?_; k_mem))
  k_with "execs cons" => (k_here; k_dflt (refine wpAny_execs_cons ?_))
  k_with "execs cons" => (k_here; (with_reducible refine execs_cons_gen ?_); intro tk9q3)
  k_with "execs nil" => (k_here; (with_reducible refine wpAny_execs_nil ?_))
  k_with "exec If" => (k_here; k_dflt (refine wpAny_If ?_))
  k_with "ite" => (k_here; first | (with_reducible refine ite_tt ?_) | (with_reducible refine ite_ff ?_) | (k_closed; (first | (with_reducible refine iteP ?iteC ?_; (case iteC => decide)) | (with_reducible refine iteN ?iteC ?_; (case iteC => decide)))) | (with_reducible refine split_ine ?_ ?_ <;> intro _) | (with_reducible refine split_ieq ?_ ?_ <;> intro _) | with_reducible refine split_not ?_ | (with_reducible refine iteDec ?_ ?_ <;> intro _) | (with_reducible refine iteB ?_ ?_ <;> intro _))
  k_with "callWith ref" => (k_here; k_dflt ((with_reducible refine' callWith_K ?k1 ?k2 ?_ ?he ?hp); (case he => exact rfl); (case hp => exact rfl); (case k1 => k_asm); (case k2 => k_is)))
  k_with "callWith ref" => (k_here; k_dflt ((with_reducible refine' callWith_K0 ?k1 ?k2 ?_); (case k1 => exact Frag.In.keeps (by with_reducible assumption) (Fr.keep (by with_reducible assumption))); (case k2 => k_is); (try dsimp only [List.nil_append])))
  k_with "callWith" => (k_here; k_dflt ((with_reducible refine' callWith_m1 ?_ ?he ?hp); (case he => exact rfl); (case hp => exact rfl)))
  k_with "binaryOp Mod int int" => (k_here; (with_reducible refine' mod_int' ?kbe ?_); (case kbe => decide); (try dsimp only); (try k_fold))
  k_with "eval Call" => (k_here; (with_reducible show wpAny _ _ (eval (Expr.Call (Expr.Name _ _) _ [] _) _) _ _ _); k_dflt (refine Call_ ?_))
  k_with "k_all" => (first | with_reducible assumption | exact List.forall_mem_nil _ | (with_reducible refine' List.forall_mem_cons.mpr ⟨?ka, ?kb⟩; (case ka => k_ne); (case kb => k_all)) | (with_reducible refine' ltNe2 ?ka; (case ka => with_reducible assumption)) | (with_reducible refine' ltNe3 ?ka; (case ka => with_reducible assumption)) | (with_reducible refine' ltNe4 ?ka; (case ka => with_reducible assumption)) | (with_reducible refine' List.forall_mem_append.mpr ⟨?ka, ?kb⟩; (case ka => k_all); (case kb => k_all)) | (with_reducible refine' apartE ?ka ?kb; (case ka => with_reducible assumption); (case kb => k_mem)) | (with_reducible refine' ltNe ?ka; (case ka => with_reducible assumption)))
  k_with "k_ne" => (refine neN ?_; (try dsimp only); first | with_reducible assumption | (with_reducible exact Ne.symm (by assumption)) | (with_reducible exact Nat.ne_of_lt (by assumption)) | (with_reducible exact Nat.ne_of_gt (by assumption)) | omega)
  k_with "execs cons" => (k_here; k_dflt (refine wpAny_execs_cons ?_))
  k_with "call builtin:str.replace" => (k_here; k_dflt ((with_reducible refine' replP ?ka ?kb ?kc ?kd ?ke ?kf ?_); (case ka => omega); (case kb => omega); (case kc => omega); (case kd => decide +kernel); (case ke => with_reducible assumption); (case kf => decide +kernel); intro t9q14 k9q14 hk9q14; (try dsimp only at hk9q14); (try dsimp only); (try k_fold)))
  k_with "look" => (with_reducible first | exact Look1.str | exact Look1.int | (refine' Look1.name ?hx ?hd ?hm; (case hx => k_dflt (exact rfl)); (case hd => k_dflt decide); (case hm => k_dflt (exact rfl))) | exact LookN.nil | (refine' LookN.cons ?x ?y; (case x => k_extra "look"); (case y => k_extra "look")) | exact LookP.nil | (refine' LookP.cons ?x ?y ?z; (case x => k_extra "look"); (case y => k_extra "look"); (case z => k_extra "look")))
  k_with "spliced" => (k_here; (with_reducible show wpAny _ _ (spliced (backTo _ (starEach (_ :: _) _))) _ _ _); (with_reducible rename Fr _ _ _ _ => F8q16); ((with_reducible refine' args_lk F8q16 ?he ?hk ?l ?_); (case he => k_dflt (exact ⟨_, _, _, _, rfl⟩)); (case hk => k_dflt (exact rfl)); (case l => k_extra "look")); (try dsimp only); (try k_fold))
  k_with "evalPairs" => (k_here; (with_reducible show wpAny _ _ (evalPairs (pairTrees (_ :: _) _ _ _)) _ _ _); (with_reducible rename Fr _ _ _ _ => F8q17); ((with_reducible refine' pairs_lk F8q17 ?he ?hk ?l ?_); (case he => k_dflt (exact ⟨_, _, _, _, rfl⟩)); (case hk => k_dflt (exact rfl)); (case l => k_extra "look")); (try dsimp only); (try k_fold))
  k_with "eval BinOp" => (k_here; (with_reducible show wpAny _ _ (eval (Expr.BinOp (Expr.Name _ _) _ (Expr.Constant _ _ _) _) _) _ _ _); (with_reducible rename Fr _ _ _ _ => F8q18); ((with_reducible refine' bin_lk F8q18 ?he ?hk ?l ?r ?_); (case he => k_dflt (exact ⟨_, _, _, _, rfl⟩)); (case hk => k_dflt (exact rfl)); (case l => k_extra "look"); (case r => k_extra "look")); (try dsimp only); (try k_fold))
  k_with "eval BinOp" => (k_here; (with_reducible show wpAny _ _ (eval (Expr.BinOp (Expr.Name _ _) _ (Expr.Name _ _) _) _) _ _ _); (with_reducible rename Fr _ _ _ _ => F8q19); ((with_reducible refine' bin_lk F8q19 ?he ?hk ?l ?r ?_); (case he => k_dflt (exact ⟨_, _, _, _, rfl⟩)); (case hk => k_dflt (exact rfl)); (case l => k_extra "look"); (case r => k_extra "look")); (try dsimp only); (try k_fold))
  k_with "exec If" => (k_here; (with_reducible show wpAny _ _ (exec (Stmt.If (Expr.Compare (Expr.Name _ _) [CmpOp.Eq] [Expr.Constant (Const.int _) _ _] _) _ _ _) _) _ _ _); (with_reducible rename Fr _ _ _ _ => F8q20); ((with_reducible refine' if_lk F8q20 ?he ?hk ?l ?r ?h ?_); (case he => k_dflt (exact ⟨_, _, _, _, rfl⟩)); (case hk => k_dflt (exact rfl)); (case l => k_extra "look"); (case r => k_extra "look"); (case h => k_dflt (with_unfolding_all rfl))); (try dsimp only); (try k_fold))
  k_with "storeName" => (k_here; (with_reducible rename Fr _ _ _ _ => F8q21); (with_reducible rename News _ _ _ _ => N8q21); ((with_reducible refine' store_lk F8q21 N8q21 ?he ?hk ?hx ?_); (case he => k_dflt (exact ⟨_, _, _, _, rfl⟩)); (case hk => k_dflt (exact rfl)); (case hx => k_dflt (exact rfl)); intro h9q21 m9q21 F9q21 N9q21; (try clear F8q21 N8q21); (try dsimp only); (try k_fold)))
  trivial
theorem tell_escape {w : World} {x : Str} {tk : Nat} (hx : x ∈ rawsL) : Tell0 w 238 20 200 [.str x tk] (fun _ => True) (fun r => ∃ t, r = .str (shownF x) t) := by
  obtain ⟨hx0, hx1, hx2, hx3, hx4, hx5⟩ := raw_all hx
  intro p loose mean mg mb dp un gd cn cs a ccd cl outer A₀ base h₀ L m news s Q E B F X N T hk hdp hun _ ret
  refine fillT w ?_
  k_fill
  intro _ _
  refine wpAny_call ?_
  k_dflt ((refine' code_all ?k1 ?k2 ?k3 ?k4 ?k5 ?kA ?kF ?kK ?k6 ?k7 ?k8 ?k9 ?kB ?_ ?c2 ?c3 ?c4 ?c5; (case kA => exact rfl); (case kF => exact rfl); (case kK => first | assumption | exact rfl); (case k1 => k_asm); (case k2 => k_asm); (case k3 => k_asm); (case k4 => k_asm); (case k5 => k_asm); (case k6 => k_is); (case k7 => k_is); (case k8 => ((try simp only [depth_under_make, depth_under_kw, depth_in1, depth_deeper, depth_caller]); (try dsimp only [ktrTop]); omega)); (case k9 => first | exact BindsTo.of_eq rfl | exact binds_K (by k_in) rfl (by k_is) rfl rfl rfl | fail "enter: no rule for these arguments"); (case c5 => decide); (case kB => exact locs rfl); (case c2 => exact rfl); (case c3 => exact rfl); (case c4 => exact rfl); k_whole); intro g0 L0 h' FG' F' N' B' X' T' hs0; (try dsimp only); (try k_fold))
  repeat' (first | ((with_reducible show Q _ _); fail) | (k_unfold; (try dsimp only)) | ((fail_if_success (with_reducible show Q _ _)); walk1) | ((fail_if_success (with_reducible show Q _ _)); dsimp only; walk1) | (leave1; try dsimp only) | fail "no step")
  all_goals (
    with_reducible rename Fr h₀ L _ _ => kF
    with_reducible rename Fr g0 _ _ _ => F9
    exact ret _ _ _ kF (back0 N hs0 F9) ⟨_, congrArg (fun x => Value.str x _) hx4⟩)
end
section
open PySem.W.KStt (codes)
theorem lines_NE2 : True := by
  k_with_none
  k_with "z1" => (((try simp only [depth_under_make, depth_under_kw, depth_in1, depth_deeper, depth_caller]); (try dsimp only [ktrTop]); omega))
  k_with "ktr_enter" => ((refine' code_def ?k1 ?k2 ?k3 ?k4 ?k5 ?kA ?kF ?kK ?k6 ?k7 ?k8 ?k9 ?kB ?_ ?c2 ?c3 ?c4 ?c5; (case kA => exact rfl); (case kF => exact rfl); (case kK => first | assumption | exact rfl); (case k1 => k_asm); (case k2 => k_asm); (case k3 => k_asm); (case k4 => k_asm); (case k5 => k_asm); (case k6 => k_is); (case k7 => k_is); (case k8 => k_extra "z1"); (case k9 => first | exact BindsTo.of_eq rfl | exact binds_K (by k_in) rfl (by k_is) rfl rfl rfl | fail "enter: no rule for these arguments"); (case c5 => decide); (case kB => exact locs rfl); (case c2 => exact rfl); (case c3 => exact rfl); (case c4 => exact rfl); k_whole); intro gpq0 Lpq0 hpq0 FGpq0 Fpq0 Npq0 Bpq0 Xpq0 Tpq0; (try dsimp only); (try k_lift Bpq0); (try k_fold))
  k_with "k_mem" => (first | with_reducible exact List.mem_cons_self | with_reducible assumption | (with_reducible refine List.mem_cons_of_mem _ ?_; k_mem) | (with_reducible refine List.mem_append_left _ ?_; k_mem) | (with_reducible refine List.mem_append_right _ ?_; k_mem))
  k_with "execs cons" => (k_here; k_dflt (refine wpAny_execs_cons ?_))
  k_with "execs cons" => (k_here; (with_reducible refine execs_cons_gen ?_); intro tk9q3)
  k_with "execs nil" => (k_here; (with_reducible refine wpAny_execs_nil ?_))
  k_with "exec If" => (k_here; k_dflt (refine wpAny_If ?_))
  k_with "ite" => (k_here; first | (with_reducible refine ite_tt ?_) | (with_reducible refine ite_ff ?_) | (k_closed; (first | (with_reducible refine iteP ?iteC ?_; (case iteC => decide)) | (with_reducible refine iteN ?iteC ?_; (case iteC => decide)))) | (with_reducible refine split_ine ?_ ?_ <;> intro _) | (with_reducible refine split_ieq ?_ ?_ <;> intro _) | with_reducible refine split_not ?_ | (with_reducible refine iteDec ?_ ?_ <;> intro _) | (with_reducible refine iteB ?_ ?_ <;> intro _))
  k_with "callWith ref" => (k_here; k_dflt ((with_reducible refine' callWith_K ?k1 ?k2 ?_ ?he ?hp); (case he => exact rfl); (case hp => exact rfl); (case k1 => k_asm); (case k2 => k_is)))
  k_with "callWith ref" => (k_here; k_dflt ((with_reducible refine' callWith_K0 ?k1 ?k2 ?_); (case k1 => exact Frag.In.keeps (by with_reducible assumption) (Fr.keep (by with_reducible assumption))); (case k2 => k_is); (try dsimp only [List.nil_append])))
  k_with "callWith" => (k_here; k_dflt ((with_reducible refine' callWith_m1 ?_ ?he ?hp); (case he => exact rfl); (case hp => exact rfl)))
  k_with "binaryOp Mod int int" => (k_here; (with_reducible refine' mod_int' ?kbe ?_); (case kbe => decide); (try dsimp only); (try k_fold))
  k_with "eval Call" => (k_here; (with_reducible show wpAny _ _ (eval (Expr.Call (Expr.Name _ _) _ [] _) _) _ _ _); k_dflt (refine Call_ ?_))
  k_with "k_all" => (first | with_reducible assumption | exact List.forall_mem_nil _ | (with_reducible refine' List.forall_mem_cons.mpr ⟨?ka, ?kb⟩; (case ka => k_ne); (case kb => k_all)) | (with_reducible refine' ltNe2 ?ka; (case ka => with_reducible assumption)) | (with_reducible refine' ltNe3 ?ka; (case ka => with_reducible assumption)) | (with_reducible refine' ltNe4 ?ka; (case ka => with_reducible assumption)) | (with_reducible refine' List.forall_mem_append.mpr ⟨?ka, ?kb⟩; (case ka => k_all); (case kb => k_all)) | (with_reducible refine' apartE ?ka ?kb; (case ka => with_reducible assumption); (case kb => k_mem)) | (with_reducible refine' ltNe ?ka; (case ka => with_reducible assumption)))
  k_with "k_ne" => (refine neN ?_; (try dsimp only); first | with_reducible assumption | (with_reducible exact Ne.symm (by assumption)) | (with_reducible exact Nat.ne_of_lt (by assumption)) | (with_reducible exact Nat.ne_of_gt (by assumption)) | omega)
  k_with "ite" => (k_here; first | (with_reducible refine iteP (by with_reducible assumption) ?_) | (with_reducible refine iteF (by with_reducible assumption) ?_))
  k_with "call ref" => (k_here; (first | (with_reducible show wpAny _ _ (call (Value.ref 257) _) _ _ _)); k_dflt (refine wpAny_call ?_; ktr_enter))
  k_with "z2" => ((with_reducible rename _ + _ < recursionLimit => hr9; first | exact room1 hr9 (by first | decide | assumption | (refine' Nat.le_trans ?qa ?qb; (case qb => assumption); (case qa => decide))) | ((try simp only [depth_under_make, depth_under_kw, depth_in1, depth_deeper, depth_caller, units_in1, units_deeper, units_caller]); (try dsimp only [ktrTop]); omega)))
  k_with "z3" => ((with_reducible rename _ + _ < cLine => hr9; first | exact room3 hr9 (by first | decide | assumption | (refine' Nat.le_trans ?qa ?qb; (case qb => assumption); (case qa => decide))) | ((try simp only [depth_under_make, depth_under_kw, depth_in1, depth_deeper, depth_caller, units_in1, units_deeper, units_caller]); (try dsimp only [ktrTop]); omega)))
  k_with "call ref" => (k_here; (with_reducible show wpAny _ _ (call (Value.ref 238) _) _ _ _); k_dflt (refine' Tell0.use (tell_escape ?ka) ?k1 ?k2 ?k3 ?k4 ?k5 ?k6 ?k7 ?k8 ?k9 ?_; (case ka => with_reducible assumption); (case k1 => k_asm); (case k2 => k_asm); (case k3 => k_asm); (case k4 => k_asm); (case k5 => k_asm); (case k6 => exact rfl); (case k7 => k_extra "z2"); (case k8 => k_extra "z3"); (case k9 => exact True.intro); intro r9q24 h9q24 t9q24 F9q24 N9q24 o9q24; obtain ⟨tn9q24, e9q24⟩ := o9q24; subst e9q24; (try k_sweep); (try dsimp only); (try k_fold)))
  k_with "look" => (with_reducible first | exact Look1.str | exact Look1.int | (refine' Look1.name ?hx ?hd ?hm; (case hx => k_dflt (exact rfl)); (case hd => k_dflt decide); (case hm => k_dflt (exact rfl))) | exact LookN.nil | (refine' LookN.cons ?x ?y; (case x => k_extra "look"); (case y => k_extra "look")) | exact LookP.nil | (refine' LookP.cons ?x ?y ?z; (case x => k_extra "look"); (case y => k_extra "look"); (case z => k_extra "look")))
  k_with "spliced" => (k_here; (with_reducible show wpAny _ _ (spliced (backTo _ (starEach (_ :: _) _))) _ _ _); (with_reducible rename Fr _ _ _ _ => F8q16); ((with_reducible refine' args_lk F8q16 ?he ?hk ?l ?_); (case he => k_dflt (exact ⟨_, _, _, _, rfl⟩)); (case hk => k_dflt (exact rfl)); (case l => k_extra "look")); (try dsimp only); (try k_fold))
  k_with "evalPairs" => (k_here; (with_reducible show wpAny _ _ (evalPairs (pairTrees (_ :: _) _ _ _)) _ _ _); (with_reducible rename Fr _ _ _ _ => F8q17); ((with_reducible refine' pairs_lk F8q17 ?he ?hk ?l ?_); (case he => k_dflt (exact ⟨_, _, _, _, rfl⟩)); (case hk => k_dflt (exact rfl)); (case l => k_extra "look")); (try dsimp only); (try k_fold))
  k_with "eval BinOp" => (k_here; (with_reducible show wpAny _ _ (eval (Expr.BinOp (Expr.Name _ _) _ (Expr.Constant _ _ _) _) _) _ _ _); (with_reducible rename Fr _ _ _ _ => F8q18); ((with_reducible refine' bin_lk F8q18 ?he ?hk ?l ?r ?_); (case he => k_dflt (exact ⟨_, _, _, _, rfl⟩)); (case hk => k_dflt (exact rfl)); (case l => k_extra "look"); (case r => k_extra "look")); (try dsimp only); (try k_fold))
  k_with "eval BinOp" => (k_here; (with_reducible show wpAny _ _ (eval (Expr.BinOp (Expr.Name _ _) _ (Expr.Name _ _) _) _) _ _ _); (with_reducible rename Fr _ _ _ _ => F8q19); ((with_reducible refine' bin_lk F8q19 ?he ?hk ?l ?r ?_); (case he => k_dflt (exact ⟨_, _, _, _, rfl⟩)); (case hk => k_dflt (exact rfl)); (case l => k_extra "look"); (case r => k_extra "look")); (try dsimp only); (try k_fold))
  k_with "exec If" => (k_here; (with_reducible show wpAny _ _ (exec (Stmt.If (Expr.Compare (Expr.Name _ _) [CmpOp.Eq] [Expr.Constant (Const.int _) _ _] _) _ _ _) _) _ _ _); (with_reducible rename Fr _ _ _ _ => F8q20); ((with_reducible refine' if_lk F8q20 ?he ?hk ?l ?r ?h ?_); (case he => k_dflt (exact ⟨_, _, _, _, rfl⟩)); (case hk => k_dflt (exact rfl)); (case l => k_extra "look"); (case r => k_extra "look"); (case h => k_dflt (with_unfolding_all rfl))); (try dsimp only); (try k_fold))
  k_with "storeName" => (k_here; (with_reducible rename Fr _ _ _ _ => F8q21); (with_reducible rename News _ _ _ _ => N8q21); ((with_reducible refine' store_lk F8q21 N8q21 ?he ?hk ?hx ?_); (case he => k_dflt (exact ⟨_, _, _, _, rfl⟩)); (case hk => k_dflt (exact rfl)); (case hx => k_dflt (exact rfl)); intro h9q21 m9q21 F9q21 N9q21; (try clear F8q21 N8q21); (try dsimp only); (try k_fold)))
  trivial
theorem iteF {b : Bool} {P Q : Prop} (h : b = false) (x : Q) : if b = true then P else Q := by rw [if_neg (by rw [h]; decide)]; exact x
theorem amp_tab : (rawsL.all fun x => (Builtin.Str.occurrences x (Str.ofString "&") 0 x.length 1).isEmpty) = true := by decide +kernel
theorem tell_safe {w : World} {x : Str} {tk : Nat} (hx : x ∈ rawsL) : Tell0 w 245 40 400 [.str x tk] (fun _ => True) (fun r => ∃ t, r = .str (shownF x) t) := by
  have hx0 := (raw_all hx).1
  have hxa := List.all_eq_true.mp amp_tab x hx
  intro p loose mean mg mb dp un gd cn cs a ccd cl outer A₀ base h₀ L m news s Q E B F X N T hk hdp hun _ ret
  refine fillT w ?_
  k_fill
  intro _ _
  refine wpAny_call ?_
  k_dflt ((refine' code_all ?k1 ?k2 ?k3 ?k4 ?k5 ?kA ?kF ?kK ?k6 ?k7 ?k8 ?k9 ?kB ?_ ?c2 ?c3 ?c4 ?c5; (case kA => exact rfl); (case kF => exact rfl); (case kK => first | assumption | exact rfl); (case k1 => k_asm); (case k2 => k_asm); (case k3 => k_asm); (case k4 => k_asm); (case k5 => k_asm); (case k6 => k_is); (case k7 => k_is); (case k8 => ((try simp only [depth_under_make, depth_under_kw, depth_in1, depth_deeper, depth_caller]); (try dsimp only [ktrTop]); omega)); (case k9 => first | exact BindsTo.of_eq rfl | exact binds_K (by k_in) rfl (by k_is) rfl rfl rfl | fail "enter: no rule for these arguments"); (case c5 => decide); (case kB => exact locs rfl); (case c2 => exact rfl); (case c3 => exact rfl); (case c4 => exact rfl); k_whole); intro g0 L0 h' FG' F' N' B' X' T' hs0; (try dsimp only); (try k_fold))
  repeat' (first | ((with_reducible show Q _ _); fail) | (k_unfold; (try dsimp only)) | ((fail_if_success (with_reducible show Q _ _)); walk1) | ((fail_if_success (with_reducible show Q _ _)); dsimp only; walk1) | (leave1; try dsimp only) | fail "no step")
  all_goals (
    with_reducible rename Fr h₀ L _ _ => kF
    with_reducible rename Fr g0 _ _ _ => F9
    exact ret _ _ _ kF (back0 N hs0 F9) ⟨_, rfl⟩)
end
section
/-- the renderer, as a heap holds it -/
def SelfAt (w : World) (esc : Bool) (h : Heap) (sa : Addr) : Prop := ∃ dx md k1 k2 k3, InstAt h sa (instObj 487 dx) 487 (some (dictOf [⟨PyData.keyHash w.params (Str.ofString "_BaseRenderer__methods"), .str (Str.ofString "_BaseRenderer__methods") k1, .ref md⟩, ⟨PyData.keyHash w.params (Str.ofString "_allow_harmful_protocols"), .str (Str.ofString "_allow_harmful_protocols") k2, .none⟩, ⟨PyData.keyHash w.params (Str.ofString "_escape"), .str (Str.ofString "_escape") k3, .bool esc⟩] 3)) ∧ ∃ om, h.get? md = some om ∧ om.IsDictOf (sk w) [] ∧ (md == sysModules) = false
theorem InstAt.kept {h h' : Heap} {x C : Addr} {ox : Obj} {od : Option Obj} (I : InstAt h x ox C od) (k : Kp h h') : InstAt h' x ox C od := by
  refine ⟨k _ _ I.at_, I.cls, I.no, ?_⟩
  have d := I.dict
  cases hx : ox.dict with
  | none => rw [hx] at d; cases od with
    | none => trivial
    | some o => exact d.elim
  | some dx => rw [hx] at d; cases od with
    | none => exact d.elim
    | some o => exact k _ _ d
theorem SelfAt.kept {w : World} {esc : Bool} {h h' : Heap} {sa : Addr} (x : SelfAt w esc h sa) (k : Kp h h') : SelfAt w esc h' sa := let ⟨a, b, c, d, e, i, om, m1, m2, m3⟩ := x; ⟨a, b, c, d, e, InstAt.kept i k, om, k _ _ m1, m2, m3⟩
theorem raw_sz {x : Str} (h : x ∈ rawsL) : Sz (shownF x) 1 := Sz.one (Nat.le_trans (raw_all h).2.2.2.2.2 (by decide))
end
section
/-- a dict that stands in the ground -/
structure DG (w : World) (g : Heap) (d : Addr) (kvs : List (Str × Value)) : Prop where
  at_ : DA w (inHeap g) d kvs
theorem DG.kept {w : World} {g h : Heap} {d : Addr} {kvs : List (Str × Value)} (x : DG w g d kvs) (k : Kp g h) : DG w h d kvs := ⟨x.at_.mono fun d o e => k d o e⟩
theorem DG.dict {w : World} {h : Heap} {d : Addr} {kvs : List (Str × Value)} (x : DG w h d kvs) : h.DictOf (sk w) d kvs := let ⟨o, a, b, _⟩ := x.at_; Heap.dictOf_iff.mpr ⟨o, a, b⟩
theorem DG.lo {w : World} {h : Heap} {d : Addr} {kvs : List (Str × Value)} (x : DG w h d kvs) : (d == sysModules) = false := let ⟨_, _, _, c⟩ := x.at_; c
section
variable {w : World} {A : Around} {E : Value → Shared → Prop} {s : Shared} {g : Heap} {d : Addr} {kvs : List (Str × Value)} {k : Str} {t : Nat} {v : Value} {L : Addr} {m : Str → Option Value}
theorem g_item {value slice : PySem.Expr} {Q : Value → Shared → Prop} (x : DG w g d kvs) (F : Fr g L s.heap m) (hl : valueAt kvs k = some v) (h : Q v { s with toks := s.toks + 1 })
    (hs : subscripted slice false (.ref d) (.str k t) = operate [.ref d, .str k t] (getItem (.ref d) (.str k t))) (hg : ∀ r, letTemporaryGo value (.ref d) r = pure ()) :
    wpAny (mdl w) A (subscriptTail value slice (.ref d) (.str k t)) Q E s :=
  have hD := (x.kept F.keep).dict
  subscriptTail_builtin hD.typeIs slot_dict_getitem.lookup (wpAny_getItem_of (strKind_is _ _ _ _) hD.mapOf hl h) hs hg
theorem g_in {Q : Value → Shared → Prop} (x : DG w g d kvs) (F : Fr g L s.heap m) (b : Bool) (hb : (valueAt kvs k).isSome = b) (h : Q (.bool b) { s with toks := s.toks + 1 }) :
    wpAny (mdl w) A (compareOp .In (.str k t) (.ref d)) Q E s := wpAny_in_of (strKind_is _ _ _ _) x.lo (x.kept F.keep).dict.mapOf (by rw [hb]; exact h)
theorem g_meth {pl : Sem Bool} {Q : Value × List Value → Shared → Prop} (x : DG w g d kvs) (F : Fr g L s.heap m) (h : Q (.builtin "dict.get", [.ref d]) s) : wpAny (mdl w) A (getMethod (.ref d) (Str.ofString "get") pl) Q E s :=
  have hD := (x.kept F.keep).dict
  getMethod_builtin hD.typeIs PySem.F.plainAttrs_dict PySem.F.slot_dict_get PySem.F.type_dict_get hD.mapOf.noDict h
theorem g_get {Q : Value → Shared → Prop} (x : DG w g d kvs) (F : Fr g L s.heap m) (y : Option Value) (hl : valueAt kvs k = y) (h : Q (y.getD .none) { s with toks := s.toks + 1 }) :
    wpAny (mdl w) A (call (.builtin "dict.get") [.ref d, .str k t]) Q E s :=
  have hD := (x.kept F.keep).dict
  call_meetsIn PySem.F.slot_dict_get hD.typeIs PySem.F.entry_dict_get (PySem.F.args_dict_get_2 _ _) (meets_dict_get (sk w) d (strKind_is _ _ _ _) x.lo) ⟨_, hD.mapOf, by rw [hl]; exact h⟩
end
theorem roomA2 {dp dn need lim : Nat} (h : dp + dn < lim) (k : 2 + need ≤ dn) : dp + 1 + 1 + need < lim := by omega
theorem roomA3 {dp dn need lim : Nat} (h : dp + dn < lim) (k : 3 + need ≤ dn) : dp + 1 + 1 + 1 + need < lim := by omega
theorem roomA4 {dp dn need lim : Nat} (h : dp + dn < lim) (k : 4 + need ≤ dn) : dp + 1 + 1 + 1 + 1 + need < lim := by omega
theorem roomB2 {dp dn need lim : Nat} (h : dp + dn < lim) (k : 6 + need ≤ dn) : dp + 3 + 3 + need < lim := by omega
theorem roomB3 {dp dn need lim : Nat} (h : dp + dn < lim) (k : 9 + need ≤ dn) : dp + 3 + 3 + 3 + need < lim := by omega
theorem roomB4 {dp dn need lim : Nat} (h : dp + dn < lim) (k : 12 + need ≤ dn) : dp + 3 + 3 + 3 + 3 + need < lim := by omega
end
section
section
variable {w : World} {A : Around} {E : Value → Shared → Prop} {s : Shared} {d a : Addr} {kvs more : List (Str × Value)} {k : Str} {key v : Value}
theorem find_none {Q : Option Nat → Shared → Prop} (hkey : (sk w).is k key = true) (hm : s.heap.DictOf (sk w) d kvs) (hf : k ∉ kvs.map (·.1)) (h : Q none s) : wpAny (mdl w) A (dictFind d key ((sk w).hash k)) Q E s := by
  obtain ⟨o, es, ep, ho, hc, hd, hk, hp, hn⟩ := hm
  refine wpAny_dictFind_of hkey ho hd hk ?_
  have hidx : (es.findIdx? fun e => (sk w).is k e.key) = kvs.findIdx? fun kv => decide (kv.1 = k) := by
    rw [← hp.findIdx k]; obtain ⟨l⟩ := es; simp
  have : (kvs.findIdx? fun kv => decide (kv.1 = k)) = none := by
    rw [List.findIdx?_eq_none_iff]
    intro x hx
    exact decide_eq_false fun e => hf (List.mem_map.mpr ⟨x, hx, e⟩)
  rw [hidx, this]; exact h
theorem put_fresh {Q : Unit → Shared → Prop} (hkey : (sk w).is k key = true) (hm : s.heap.DictOf (sk w) d kvs) (hf : k ∉ kvs.map (·.1)) (hsz : kvs.length ≤ sizeLine)
    (hQ : ∀ h', h'.DictOf (sk w) d (kvs ++ [(k, v)]) → Heap.SameBut d s.heap h' → Q () { s with heap := h' }) : wpAny (mdl w) A (dictPut d ((sk w).hash k) key v) Q E s := by
  unfold dictPut
  refine wpAny_bind (find_none hkey hm hf ?_)
  obtain ⟨o, es, ep, ho, hc, hd, hk, hp, hn⟩ := hm
  have hes : es.size ≤ sizeLine := by
    have e1 := hp.length
    have e2 : es.toList.length = es.size := by simp
    omega
  refine wpAny_updateDictKeys (hz := hes) ho hd (hQ _ ⟨_, _, ep + 1, Heap.get?_update_self _ ho (Obj.isFreed_of_dict (Obj.data_mapDictKeys hd _)), hc.mapDictKeys _, Obj.data_mapDictKeys hd _, hk.push hkey _, ?_, ?_⟩ (Heap.SameBut.update ..))
  · have := hp.append hkey ((sk w).hash k) v
    obtain ⟨l⟩ := es
    simpa using this
  · rw [List.map_append, List.nodup_append]
    refine ⟨hn, by simp, ?_⟩
    intro x hx y hy
    simp only [List.map_cons, List.map_nil, List.mem_singleton] at hy
    subst hy
    exact fun e => hf (e ▸ hx)
theorem merge_all {Q : Unit → Shared → Prop} (hne : d ≠ a) (hlo : (a == sysModules) = false) (hd : s.heap.DictOf (sk w) d []) (ha : s.heap.DictOf (sk w) a more) (hsz : more.length ≤ 10)
    (hQ : ∀ h', h'.DictOf (sk w) d more → Heap.SameBut d s.heap h' → Q () { s with heap := h' }) : wpAny (mdl w) A (mergeMapping d (.ref a) true) Q E s := by
  obtain ⟨oa, es, ep, hoa, hca, hda, hka, hpa, hna⟩ := id ha
  obtain ⟨od, esd, epd, hod, hcd, hdd, hkd, hpd, hnd⟩ := id hd
  have hlen : more.length = es.size := by rw [← hpa.length]; simp
  unfold mergeMapping
  refine wpAny_bind (wpAny_isInstance ha.typeIs isSubtype_dict_dict ?_)
  rw [if_pos rfl]
  refine wpAny_bind (wpAny_specialOf ha.typeIs F.slot_dict_iter.lookup (wpAny_bind (wpAny_pure ?_)))
  simp only [beq_self_eq_true]
  rw [if_neg (by rw [hlo]; exact Bool.false_ne_true)]
  refine wpAny_bind (wpAny_dictEntries hod hdd ?_)
  have he0 : esd = #[] := by
    obtain ⟨l⟩ := esd
    have := hpd.length
    simp at this
    rw [this]
  rw [if_pos (by rw [he0]; rfl)]
  refine wpAny_bind (wpAny_dictEntries hoa hda ?_)
  refine wpAny_bind (PySem.MeetsSeq2.wpAny_forIn_array _ (fun rest _ s' => s' = s ∧ ∀ e ∈ rest, e ∈ es) _ ?_ ?_ _ _ ⟨rfl, fun e he => Array.mem_toList_iff.mp he⟩)
  · rintro e rest b s' ⟨rfl, hr⟩
    obtain ⟨k, hk, _⟩ := hka e (hr e (.head _))
    obtain ⟨t, ek⟩ := Value.isStrOf_shape hk
    rw [ek]
    exact wpAny_pure ⟨rfl, fun e he => hr e (.tail _ he)⟩
  rintro b s' ⟨rfl, _⟩
  try dsimp only
  refine wpAny_bind (wpAny_dictEntries hoa hda (wpAny_bind (wpAny_dictEpoch hoa hda (wpAny_bind ?_))))
  rw [List.range_eq_range']
  refine wpAny_forIn_list _
    (fun rest _ s₁ => ∃ h' i, s₁ = { s' with heap := h' } ∧ rest = List.range' i (es.size - i) ∧ i ≤ es.size ∧ h'.DictOf (sk w) d (more.take i) ∧ h'.get? a = some oa ∧ Heap.SameBut d s'.heap h')
    _ ?_ ?_ _ _ ⟨s'.heap, 0, rfl, by simp, Nat.zero_le _, by simpa using hd, hoa, Heap.SameBut.refl _ _⟩
  · rintro x rest b s₁ ⟨h', i, rfl, hr, hi, hd', hoa', hs'⟩
    have hlt : i < es.size := by
      rcases Nat.lt_or_ge i es.size with h | h
      · exact h
      · rw [Nat.sub_eq_zero_of_le h] at hr; simp at hr
    obtain ⟨rfl, hrest⟩ : x = i ∧ rest = List.range' (i + 1) (es.size - (i + 1)) := by
      have e : es.size - i = (es.size - (i + 1)) + 1 := by omega
      rw [e, List.range'_succ] at hr
      injection hr with h1 h2
      exact ⟨h1, h2⟩
    refine wpAny_bind (wpAny_dictEntries hoa' hda ?_)
    rw [Array.getElem?_eq_getElem hlt]
    have hx : x < more.length := by rw [hlen]; exact hlt
    obtain ⟨k, v, hkv⟩ : ∃ k v, more[x]? = some (k, v) := ⟨(more[x]'hx).1, (more[x]'hx).2, List.getElem?_eq_getElem hx⟩
    obtain ⟨hkey, hval⟩ := hpa.get? (e := es[x]) (by simp [hlt]) hkv
    obtain ⟨k', hkey', hhash⟩ := hka es[x] (Array.getElem_mem hlt)
    obtain rfl : k' = k := (sk w).inj _ _ _ hkey' hkey
    have htake : more.take (x + 1) = more.take x ++ [(k', v)] := by rw [List.take_add_one, hkv]; rfl
    have hfresh : k' ∉ (more.take x).map (·.1) := by
      have hn := hna
      rw [← List.take_append_drop (x + 1) more, List.map_append, List.nodup_append, htake, List.map_append, List.nodup_append] at hn
      exact fun hm => hn.1.2.2 _ hm _ (List.mem_singleton.mpr rfl) rfl
    have hmx : (more.take x).length ≤ sizeLine := by
      have e2 : (more.take x).length ≤ more.length := by rw [List.length_take]; omega
      have e3 : 10 ≤ sizeLine := by decide
      omega
    dsimp only
    rw [hhash, hval]
    refine wpAny_bind (wpAny_holding ?_)
    rw [if_pos trivial]
    refine wpAny_bind (find_none hkey hd' hfresh ?_)
    rw [if_neg (by simp)]
    refine put_fresh hkey hd' hfresh hmx fun h'' hd'' hs'' => ?_
    have hoa'' : h''.get? a = some oa := (hs''.2 a (Ne.symm hne)).trans hoa'
    refine wpAny_bind (wpAny_dictEpoch hoa'' hda ?_)
    rw [if_neg (by simp)]
    exact wpAny_pure ⟨h'', x + 1, rfl, hrest, hlt, by rw [htake]; exact hd'', hoa'', hs'.trans hs''⟩
  · rintro b s₁ ⟨h', i, rfl, hr, hi, hd', hoa', hs'⟩
    have hin : i = es.size := by
      rcases Nat.lt_or_ge i es.size with h | h
      · have e : es.size - i = (es.size - (i + 1)) + 1 := by omega
        rw [e, List.range'_succ] at hr; exact nomatch hr
      · exact Nat.le_antisymm hi h
    refine wpAny_pure (hQ h' ?_ hs')
    rw [hin, ← hlen, List.take_length] at hd'; exact hd'
theorem merged_kw {f : Value} {x : Sem Value} {Q : Addr → Shared → Prop}
    (h : wpAny (mdl w) A x (fun v s₂ => ∃ a more, v = .ref a ∧ s.heap.objs.size ≠ a ∧ (a == sysModules) = false ∧ s₂.heap.DictOf (sk w) s.heap.objs.size [] ∧ s₂.heap.DictOf (sk w) a more ∧ more.length ≤ 10 ∧
      ∀ h', h'.DictOf (sk w) s.heap.objs.size more → Heap.SameBut s.heap.objs.size s₂.heap h' → Q s.heap.objs.size { s₂ with heap := h' }) E { s with heap := s.heap.push { cls := .type "dict", data := .dict #[] } }) :
    wpAny (mdl w) A (mergedKeywords f [(none, x)]) Q E s := by
  unfold mergedKeywords
  refine wpAny_bind (wpAny_alloc ?_)
  refine wpAny_bind (wpAny_holding ?_)
  dsimp only
  refine wpAny_bind (wpAny_mono (Q := fun g s' => g = [] ∧ Q s.heap.objs.size s') ?_ (fun g s' hg => ?_) fun _ _ e => e)
  · rw [List.forIn_cons]
    refine wpAny_bind ?_
    dsimp only
    rw [if_pos (show ([] : List (Str × Sem Value)).isEmpty = true from rfl)]
    refine wpAny_bind (wpAny_pure ?_)
    refine wpAny_bind (wpAny_mono h (fun v s₂ hv => ?_) fun _ _ e => e)
    obtain ⟨a, more, rfl, hne, hlo, hd, ha, hsz, hQ⟩ := hv
    refine wpAny_bind (wpAny_onRaise (wpAny_holding (wpAny_tryCatch (wpAny_onRaise (merge_all hne hlo hd ha hsz fun h' hd' hs' => ?_)))))
    refine wpAny_pure ?_
    exact wpAny_pure ⟨rfl, hQ h' hd' hs'⟩
  · obtain ⟨rfl, hq⟩ := hg
    rw [if_pos (show ([] : List (Str × Sem Value)).isEmpty = true from rfl)]
    exact wpAny_pure (wpAny_pure hq)
theorem kw_in {f : Value} {Q : List (Str × Value) → Shared → Prop} (hd : s.heap.DictOf (sk w) d more) (h : Q more s) : wpAny (mdl w) A (keywordsIn f d) Q E s := by
  obtain ⟨od, es, ep, hod, hcd, hdd, hkd, hpd, hnd⟩ := hd
  unfold keywordsIn
  refine wpAny_bind (wpAny_dictEntries hod hdd ?_)
  refine wpAny_bind (PySem.MeetsSeq2.wpAny_forIn_array _ (fun rest kw s' => s' = s ∧ ∃ r, Pairs (sk w) rest r ∧ kw ++ r = more) _ ?_ ?_ _ _ ⟨rfl, more, hpd, rfl⟩)
  · rintro e rest kw s' ⟨rfl, r, hp, hm⟩
    cases hp with
    | cons hk hv hr =>
      obtain ⟨t, ek⟩ := Value.isStrOf_shape hk
      rw [ek]
      refine wpAny_pure ⟨rfl, _, hr, ?_⟩
      rw [← hm, hv, List.append_assoc]; rfl
  · rintro kw s' ⟨rfl, r, hp, hm⟩
    cases hp
    rw [List.append_nil] at hm
    subst hm
    exact wpAny_pure h
/-- the keywords that a dict gives -/
def KwStar (w : World) (A : Around) (E : Value → Shared → Prop) (f : Value) (x : Sem Value) (R : List (Str × Value) → Shared → Prop) (s : Shared) : Prop :=
  wpAny (mdl w) A (mergedKeywords f [(none, x)]) (fun d s₂ => wpAny (mdl w) A (keywordsIn f d) R E s₂) E s
def KwDict (w : World) (d : Addr) (R : List (Str × Value) → Shared → Prop) (v : Value) (s₂ : Shared) : Prop :=
  ∃ a more, v = .ref a ∧ d ≠ a ∧ (a == sysModules) = false ∧ s₂.heap.DictOf (sk w) d [] ∧ s₂.heap.DictOf (sk w) a more ∧ more.length ≤ 10 ∧ ∀ h', h'.DictOf (sk w) d more → Heap.SameBut d s₂.heap h' → R more { s₂ with heap := h' }
abbrev noDict : Obj := { cls := .type "dict", data := .dict #[] }
theorem kw_star {f : Value} {x : Sem Value} {R : List (Str × Value) → Shared → Prop} {h₀ : Heap} {L : Addr} {m : Str → Option Value} {news : Led} (F : Fr h₀ L s.heap m) (N : News h₀ L s.heap news)
    (h : ∀ d h', Fr h₀ L h' m → News h₀ L h' ((d, noDict) :: news) → (∀ p ∈ news, p.1 < d) → wpAny (mdl w) A x (KwDict w d R) E { s with heap := h' }) : KwStar w A E f x R s := by
  refine merged_kw (wpAny_mono (h _ _ (F.push _) (N.push F _) fun p hp => Heap.lt_size (N p hp).1) (fun v s₂ hv => ?_) fun _ _ e => e)
  obtain ⟨a, more, rfl, h1, h2, h3, h4, h5, h6⟩ := hv
  exact ⟨a, more, rfl, h1, h2, h3, h4, h5, fun h' hd hs => kw_in hd (h6 h' hd hs)⟩
theorem kw_star' {f : Value} {e : PySem.Expr} {env : Env} {pos : Pos} {R : List (Str × Value) → Shared → Prop} {h₀ : Heap} {L : Addr} {m : Str → Option Value} {news : Led} (F : Fr h₀ L s.heap m) (N : News h₀ L s.heap news)
    (h : ∀ d h', Fr h₀ L h' m → News h₀ L h' ((d, noDict) :: news) → (∀ p ∈ news, p.1 < d) → wpAny (mdl w) A (eval e env) (KwDict w d R) E { s with heap := h' }) : KwStar w A E f (do let v ← eval e env; standAt pos; pure v) R s :=
  kw_star F N fun d h' F' N' hl => wpAny_bind (wpAny_mono (h d h' F' N' hl) (fun _ _ hv => wpAny_bind (wpAny_standAt (wpAny_pure hv))) fun _ _ x => x)
theorem g_truthy {h₀ : Heap} {L : Addr} {m : Str → Option Value} {Q : Bool → Shared → Prop} (x : DG w h₀ a more) (F : Fr h₀ L s.heap m) (b : Bool) (hb : (!more.isEmpty) = b) (hf : more.length ≤ 10) (h : Q b { s with toks := s.toks + 1 + 1 }) : wpAny (mdl w) A (truthy (.ref a)) Q E s :=
  wpAny_truthy_dict x.lo (x.kept F.keep).dict (by omega) (by rw [hb]; exact h)
theorem kw_dict {R : List (Str × Value) → Shared → Prop} {h₀ : Heap} {L : Addr} {m : Str → Option Value} {news : Led} (x : DG w h₀ a more) (F : Fr h₀ L s.heap m) (N : News h₀ L s.heap ((d, noDict) :: news)) (hap : ∀ p ∈ news, p.1 < d)
    (hsz : more.length ≤ 10) (h : ∀ h', Fr h₀ L h' m → News h₀ L h' news → R more { s with heap := h' }) : KwDict w d R (.ref a) s := by
  have n := N _ (.head _)
  have ha := (x.kept F.keep).dict
  have hne : d ≠ a := by
    rintro rfl
    obtain ⟨o, e, _⟩ := x.at_
    rw [show h₀.get? d = some o from e] at n
    exact absurd n.2.2 (by simp)
  refine ⟨a, more, rfl, hne, x.lo, ⟨_, #[], 0, n.1, ⟨rfl, rfl, rfl⟩, rfl, fun _ he => by simp at he, .nil, List.nodup_nil⟩, ha, hsz, fun h' hd hs => h h' (F.change hs n.2.1 n.2.2) fun p hp => ?_⟩
  have z := N p (.tail _ hp)
  exact ⟨(hs.2 _ (Nat.ne_of_lt (hap p hp))).trans z.1, z.2⟩
theorem evalArgs_star {f : Value} {x k : Sem Value} {rest : List (Bool × Sem Value)} {Q : Args → Shared → Prop}
    (h : wpAny (mdl w) A (spliced ((false, x) :: rest)) (fun vs s₁ => KwStar w A E f k (fun kw s₃ => Q ⟨vs, kw⟩ s₃) s₁) E s) : wpAny (mdl w) A (evalArgs f true ((false, x) :: rest) [(none, k)]) Q E s := by
  unfold evalArgs
  show wpAny (mdl w) A (spliced ((false, x) :: rest) >>= _) Q E s
  refine wpAny_bind (wpAny_mono h (fun vs s₁ h₁ => ?_) fun _ _ x => x)
  refine wpAny_holding ?_
  rw [if_neg (by simp)]
  refine wpAny_bind (wpAny_mono h₁ (fun d s₂ h₂ => ?_) fun _ _ x => x)
  exact wpAny_bind (wpAny_pure (wpAny_bind (wpAny_holding (wpAny_mono h₂ (fun kw s₃ h₃ => wpAny_pure h₃) fun _ _ x => x))))
theorem evalArgs_star0 {f : Value} {k : Sem Value} {Q : Args → Shared → Prop}
    (h : KwStar w A E f k (fun kw s₃ => Q ⟨[], kw⟩ s₃) s) : wpAny (mdl w) A (evalArgs f true [] [(none, k)]) Q E s := by
  unfold evalArgs
  show wpAny (mdl w) A (spliced [] >>= _) Q E s
  refine wpAny_bind (PySem.Calls.spliced_nil (wpAny_bind (wpAny_pure ?_)))
  refine wpAny_holding ?_
  rw [if_neg (by simp)]
  refine wpAny_bind (wpAny_mono h (fun d s₂ h₂ => ?_) fun _ _ x => x)
  exact wpAny_bind (wpAny_pure (wpAny_bind (wpAny_holding (wpAny_mono h₂ (fun kw s₃ h₃ => wpAny_pure h₃) fun _ _ x => x))))
theorem callWith_star {M : Model} {pos : Pos} {f : Value} {first : List Value} {args : List (Bool × Sem Value)} {keywords : List (Option Str × Sem Value)} {P : Heap → Prop} {Q : Value → Shared → Prop} (hst : (args.any (·.1) || keywords.any (·.1.isNone)) = true)
    (hk : ∀ h, P h → Looks M h (keeperOf f) .boundFrame)
    (h : wpAny M A (evalArgs f true args keywords) (fun a s₁ => P s₁.heap ∧ wpAny M A (call f (first ++ a.pos) a.kw) Q E s₁) E s) : wpAny M A (callWith pos f first args keywords) Q E s := by
  unfold callWith
  refine wpAny_bind (wpAny_holding (wpAny_mono h (fun a s₁ h₁ => wpAny_bind (wpAny_standAt ?_)) fun _ _ x => x))
  simp only [hst]
  refine wpAny_bind ((hk _ h₁.1).here ?_)
  dsimp only
  exact wpAny_bind (wpAny_mono (wpAny_operateT h₁.2) (fun r s₂ hr => wpAny_bind (wpAny_holding (wpAny_point (wpAny_pure hr)))) fun _ _ x => x)
theorem looks_M {M : Model} {K : Frag} {q f : Addr} {self : Value} (hf : fnIn K f = true) (h : Heap) (X : MethP K q f self h) : Looks M h (keeperOf (.ref q)) .boundFrame := by
  unfold fnIn at hf
  split at hf
  · rename_i e
    exact (Looks.ld (part := none) X.1).andThen ((Looks.ld (part := none) (X.2 _ _ e)).andThen .now)
  · cases hf
theorem callWith_MS {K : Frag} {h₀ : Heap} {L : Addr} {news : Led} {q g : Addr} {self : Value} {env : Env} {pos : Pos} {first : List Value} {e x : PySem.Expr} {rest : List PySem.Expr} {kp : Pos} {Q : Value → Shared → Prop} (_X : K.In h₀) (_N : News h₀ L s.heap news) (_q : (q, methodObj (.ref g) self) ∈ news) (hf : fnIn K g = true)
    (h : wpAny (mdl w) A (spliced (backTo pos (starEach (e :: rest) env))) (fun vs s₁ => KwStar w A E (.ref q) (do let v ← eval x env; standAt pos; pure v) (fun kw s₃ => MethP K q g self s₃.heap ∧ wpAny (mdl w) A (call (.ref q) (first ++ vs) kw) Q E s₃) s₁) E s)
    (he : starEach (e :: rest) env = (false, eval e env) :: starEach rest env := by rfl) :
    wpAny (mdl w) A (callWith pos (.ref q) first (backTo pos (starEach (e :: rest) env)) (backToKw pos (keywordEach [⟨none, x, kp⟩] env))) Q E s := by
  rw [he] at h ⊢
  exact callWith_star (by simp [backToKw, keywordEach]) (looks_M hf) (evalArgs_star h)
theorem callWith_MS0 {K : Frag} {h₀ : Heap} {L : Addr} {news : Led} {q g : Addr} {self : Value} {env : Env} {pos : Pos} {first : List Value} {x : PySem.Expr} {kp : Pos} {Q : Value → Shared → Prop} (_X : K.In h₀) (_N : News h₀ L s.heap news) (_q : (q, methodObj (.ref g) self) ∈ news) (hf : fnIn K g = true)
    (h : KwStar w A E (.ref q) (do let v ← eval x env; standAt pos; pure v) (fun kw s₃ => MethP K q g self s₃.heap ∧ wpAny (mdl w) A (call (.ref q) (first ++ []) kw) Q E s₃) s) :
    wpAny (mdl w) A (callWith pos (.ref q) first (backTo pos (starEach [] env)) (backToKw pos (keywordEach [⟨none, x, kp⟩] env))) Q E s :=
  callWith_star (by simp [backToKw, keywordEach]) (looks_M hf) (evalArgs_star0 h)
end
theorem raw_lit {x : Str} (h : rawsL.contains x = true) : x ∈ rawsL := List.contains_iff_mem.mp h
theorem tell_safeL {w : World} {x y : Str} {tk : Nat} (hx : x ∈ rawsL) (e : shownF x = y) : Tell0 w 245 40 400 [.str x tk] (fun _ => True) (fun r => ∃ t, r = .str y t) := e ▸ tell_safe hx
theorem tell_escapeL {w : World} {x y : Str} {tk : Nat} (hx : x ∈ rawsL) (e : shownF x = y) : Tell0 w 238 20 200 [.str x tk] (fun _ => True) (fun r => ∃ t, r = .str y t) := e ▸ tell_escape hx
end
section
open PySem.Builtin PySem.Builtin.Str
theorem words_tree (x : Str) (k : Int) (t v : Tok) (hk : (decide (k < -(2 ^ 63 : Int)) || decide (k ≥ 2 ^ 63)) = false) : «str.split» ⟨[.str x t, .none, .int k v], []⟩ = (do
    rule "str.split.whitespace"
    if (true && decide (limitOf x k > 0) && spaceWords x (limitOf x k) == [(0, x.length)]) = true then (do rule "str.split.whitespace.same-object"; ret (← newList [.str x t]))
    else ret (← newList (← (spaceWords x (limitOf x k)).mapM fun (i, j) => mkStr (strSub x i j)))) := by
  show (do let limit ← countLimit "str.split" (some (.int k v)) (x.length + 1); _) = _
  rw [countLimit_int "str.split" k v (x.length + 1) hk]
  rfl
/-- a list of texts, its first one known -/
def HeadList (w : Str) (parts : List Str) : Prop := ∃ r, parts = w :: r
theorem split_words {w : World} {A : Around} {E : Value → Shared → Prop} {s : Shared} {h₀ : Heap} {L : Addr} {m : Str → Option Value} {news : Led} {x y : Str} {t u : Tok} {Q : Value → Shared → Prop} (F : Fr h₀ L s.heap m) (N : News h₀ L s.heap news)
    (hx : x.length ≤ 1000) (hw : ((spaceWords x 1).map fun p => strSub x p.1 p.2).head? = some y) (hl : (spaceWords x 1).length ≤ 1000) (hz : strSub x 0 x.length = x)
    (h : ∀ D t' r h' k, Fr h₀ L h' m → News h₀ L h' ((D, W.listOf (Value.str y t' :: r).toArray 0) :: news) → (∀ p ∈ news, p.1 < D) → Q (.ref D) { s with heap := h', toks := k }) :
    wpAny (mdl w) A (call (.builtin "str.split") [.str x t, .none, .int 1 u]) Q E s := by
  have hsz : 1000 ≤ sizeLine := by decide
  refine call_meets PySem.F.slot_str_split (typeIs_str _ _ _) PySem.F.entry_str_split (PySem.F.args_str_split_3 _ _ _) (S := fun _ R s => ∀ t' r k, R (.ok (.ret (.ref s.heap.objs.size))) { s with toks := k, heap := s.heap.push { cls := .type "list", data := .seq (Value.str y t' :: r).toArray } }) ?_
    (fun t' r k => h _ t' r _ k (F.push _) (N.push F _) fun p hp => Heap.lt_size (N p hp).1)
  refine .of_wp fun prog w A R s h => ?_
  rw [words_tree x 1 t u rfl]
  refine wpAny_bind (wpAny_rule ?_)
  have hlim : limitOf x 1 = 1 := rfl
  rw [hlim]
  cases hc : spaceWords x 1 == [(0, x.length)]
  · show wpAny _ _ (do ret (← newList (← (spaceWords x 1).mapM fun (i, j) => mkStr (strSub x i j)))) _ _ s
    refine wpAny_bind (wpAny_mapM_mkStr_of (fun (p : Nat × Nat) => strSub x p.1 p.2) (fun p => Nat.le_trans (strSub_length_le ..) (Nat.le_trans hx hsz)) _ _ _ (wpAny_bind (wpAny_newList (wpAny_pure ⟨_, rfl, ?_⟩) (by rw [strsFrom_length, List.length_map]; exact Nat.le_trans hl hsz))))
    cases hm : (spaceWords x 1).map (fun p => strSub x p.1 p.2) with
    | nil => rw [hm] at hw; cases hw
    | cons z r =>
      rw [hm] at hw
      injection hw with hw
      subst hw
      exact h _ _ _
  · show wpAny _ _ (do rule "str.split.whitespace.same-object"; ret (← newList [.str x t])) _ _ s
    have e : spaceWords x 1 = [(0, x.length)] := eq_of_beq hc
    rw [e] at hw
    injection hw with hw
    have hy : y = x := hw.symm.trans hz
    subst hy
    exact wpAny_bind (wpAny_rule (wpAny_bind (wpAny_newList (wpAny_pure ⟨_, rfl, h _ _ _⟩) (by show 1 ≤ sizeLine; decide))))
theorem split_cut {w : World} {A : Around} {E : Value → Shared → Prop} {s : Shared} {h₀ : Heap} {L : Addr} {m : Str → Option Value} {news : Led} {x y z : Str} {t u v : Tok} {Q : Value → Shared → Prop} (F : Fr h₀ L s.heap m) (N : News h₀ L s.heap news)
    (hx : x.length ≤ 1000) (hz : (z.length == 0) = false) (hw : (if (decide (x.length < z.length) || decide (strKind x < strKind z)) = true then [x] else if (occurrences x z 0 x.length 1).isEmpty = true then [x] else partsBetween x (occurrences x z 0 x.length 1) z.length).head? = some y)
    (hl : (partsBetween x (occurrences x z 0 x.length 1) z.length).length ≤ 1000)
    (h : ∀ D t' r h' k, Fr h₀ L h' m → News h₀ L h' ((D, W.listOf (Value.str y t' :: r).toArray 0) :: news) → (∀ p ∈ news, p.1 < D) → Q (.ref D) { s with heap := h', toks := k }) :
    wpAny (mdl w) A (call (.builtin "str.split") [.str x t, .str z v, .int 1 u]) Q E s := by
  have hsz : 1000 ≤ sizeLine := by decide
  refine call_meets PySem.F.slot_str_split (typeIs_str _ _ _) PySem.F.entry_str_split (PySem.F.args_str_split_3 _ _ _) (S := fun _ R s => ∀ t' r k, R (.ok (.ret (.ref s.heap.objs.size))) { s with toks := k, heap := s.heap.push { cls := .type "list", data := .seq (Value.str y t' :: r).toArray } }) ?_
    (fun t' r k => h _ t' r _ k (F.push _) (N.push F _) fun p hp => Heap.lt_size (N p hp).1)
  refine .of_wp fun prog w A R s h => ?_
  obtain ⟨raising, htree⟩ := split_sep_max_tree x z 1 t v u rfl
  rw [htree]
  have hlim : limitOf x 1 = 1 := rfl
  rw [hlim]
  have one (e : y = x) : wpAny (model prog w) A.in1 (do ret (← newList [.str x t])) (fun fin s' => ∃ v, fin = .done (.ret v) ∧ R (.ok (.ret v)) s') (fun e s' => R (.error e) s') s := by
    subst e
    exact wpAny_bind (wpAny_newList (wpAny_pure ⟨_, rfl, h _ _ _⟩) (by show 1 ≤ sizeLine; decide))
  cases h1 : (decide (x.length < z.length) || decide (strKind x < strKind z))
  · rw [h1, if_neg Bool.false_ne_true] at hw
    rw [if_neg Bool.false_ne_true, hz, if_neg Bool.false_ne_true, Bool.true_and]
    cases h2 : (occurrences x z 0 x.length 1).isEmpty
    · rw [h2, if_neg Bool.false_ne_true] at hw
      rw [if_neg Bool.false_ne_true]
      refine wpAny_bind (wpAny_mapM_mkStr _ _ _ (fun p hp => ?_) (wpAny_bind (wpAny_newList (wpAny_pure ⟨_, rfl, ?_⟩) (by rw [strsFrom_length]; exact Nat.le_trans hl hsz))))
      · simp only [partsBetween, List.mem_map] at hp
        obtain ⟨⟨i, j⟩, _, rfl⟩ := hp
        exact Nat.le_trans (strSub_length_le ..) (Nat.le_trans hx hsz)
      · cases hm : partsBetween x (occurrences x z 0 x.length 1) z.length with
        | nil => rw [hm] at hw; cases hw
        | cons z r =>
          rw [hm] at hw
          injection hw with hw
          subst hw
          exact h _ _ _
    · rw [h2, if_pos rfl] at hw
      rw [if_pos rfl]
      injection hw with hw
      exact wpAny_bind (wpAny_rule (one hw.symm))
  · rw [h1, if_pos rfl] at hw
    rw [if_pos rfl]
    injection hw with hw
    exact wpAny_bind (wpAny_rule (one hw.symm))
/-- the first of a list of texts -/
theorem first_of {w : World} {A : Around} {E : Value → Shared → Prop} {s : Shared} {h₀ : Heap} {L : Addr} {news : Led} {l : Addr} {v : Value} {r : List Value} {c : Nat} {u : Nat} {value slice : PySem.Expr} {Q : Value → Shared → Prop}
    (N : News h₀ L s.heap ((l, W.listOf (v :: r).toArray c) :: news)) (hs : subscripted slice false (.ref l) (.int 0 u) = operate [.ref l, .int 0 u] (getItem (.ref l) (.int 0 u)))
    (h : News h₀ L s.heap news → Q v s) : wpAny (mdl w) A (subscriptTail value slice (.ref l) (.int 0 u)) Q E s := by
  have hl : s.heap.IsList l (v :: r).toArray := ⟨_, (N _ (.head _)).1, rfl, c, rfl⟩
  exact tail_any hl.typeIs slot_list_getitem.lookup (wpAny_getItem_list hl (by decide) (by decide) (by simp) (h (news_tail N))) hs
def wordAt (x y : Str) : Bool := decide (x.length ≤ 1000) && (((spaceWords x 1).map fun p => strSub x p.1 p.2).head? == some y) && decide ((spaceWords x 1).length ≤ 1000) && (strSub x 0 x.length == x)
structure WordAt (x y : Str) : Prop where
  is : wordAt x y = true
theorem split_wordsA {w : World} {A : Around} {E : Value → Shared → Prop} {s : Shared} {h₀ : Heap} {L : Addr} {m : Str → Option Value} {news : Led} {x y : Str} {t u : Tok} {Q : Value → Shared → Prop} (Wd : WordAt x y) (F : Fr h₀ L s.heap m) (N : News h₀ L s.heap news)
    (h : ∀ D t' r h' k, Fr h₀ L h' m → News h₀ L h' ((D, W.listOf (Value.str y t' :: r).toArray 0) :: news) → (∀ p ∈ news, p.1 < D) → Q (.ref D) { s with heap := h', toks := k }) :
    wpAny (mdl w) A (call (.builtin "str.split") [.str x t, .none, .int 1 u]) Q E s := by
  have a := Wd.is
  unfold wordAt at a
  simp only [Bool.and_eq_true, decide_eq_true_eq, beq_iff_eq] at a
  exact split_words F N a.1.1.1 a.1.1.2 a.1.2 a.2 h
def cutAt (x z y : Str) : Bool := decide (x.length ≤ 1000) && (z.length != 0) && ((if (decide (x.length < z.length) || decide (strKind x < strKind z)) = true then [x] else if (occurrences x z 0 x.length 1).isEmpty = true then [x] else partsBetween x (occurrences x z 0 x.length 1) z.length).head? == some y) && decide ((partsBetween x (occurrences x z 0 x.length 1) z.length).length ≤ 1000)
structure CutAt (x z y : Str) : Prop where
  is : cutAt x z y = true
theorem split_cutA {w : World} {A : Around} {E : Value → Shared → Prop} {s : Shared} {h₀ : Heap} {L : Addr} {m : Str → Option Value} {news : Led} {x y z : Str} {t u v : Tok} {Q : Value → Shared → Prop} (Wd : CutAt x z y) (F : Fr h₀ L s.heap m) (N : News h₀ L s.heap news)
    (h : ∀ D t' r h' k, Fr h₀ L h' m → News h₀ L h' ((D, W.listOf (Value.str y t' :: r).toArray 0) :: news) → (∀ p ∈ news, p.1 < D) → Q (.ref D) { s with heap := h', toks := k }) :
    wpAny (mdl w) A (call (.builtin "str.split") [.str x t, .str z v, .int 1 u]) Q E s := by
  have a := Wd.is
  unfold cutAt at a
  simp only [Bool.and_eq_true, decide_eq_true_eq, beq_iff_eq, bne_iff_ne] at a
  exact split_cut F N a.1.1.1 (by simpa using a.1.1.2) a.1.2 a.2 h
theorem wa_py : WordAt (S "py") (S "py") := ⟨by decide +kernel⟩
theorem wa_cpp : WordAt (S "c++  d") (S "c++") := ⟨by decide +kernel⟩
theorem wa_e : WordAt (S "e") (S "e") := ⟨by decide +kernel⟩
end
section
open PySem.Builtin PySem.Builtin.Re
theorem slot_full : Slot "re.Pattern" "fullmatch" "re.Pattern.fullmatch" :=
  .of (owner := "re.Pattern") (n := "fullmatch") (by rw [typeLookup_type, builtinLookup_eq_fast]; kernel_rfl) (by decide +kernel) (by decide +kernel) (by decide +kernel)
    (by first | exact .inl (by decide +kernel) | exact .inr (by decide +kernel)) (by rw [isSubtype_type]; kernel_rfl)
theorem type_full : typeOf (.builtin "re.Pattern.fullmatch") = pure (.type "method_descriptor") := by show builtinType _ = _; rw [builtinType_eq_fast]; kernel_rfl
theorem entry_full : entryFor table "re.Pattern.fullmatch" = some Builtin.«re.Pattern.fullmatch» := entryFor_of_tree (by kernel_rfl)
theorem args_full (a b : Value) : argsOk "re.Pattern.fullmatch" ⟨[a, b], []⟩ := by
  unfold argsOk; kernel_rfl
theorem match_bool : typeLookup (.type "re.Match") (Str.ofString "__bool__") = pure none := by rw [typeLookup_type, builtinLookup_eq_fast]; kernel_rfl
theorem match_len : typeLookup (.type "re.Match") (Str.ofString "__len__") = pure none := by rw [typeLookup_type, builtinLookup_eq_fast]; kernel_rfl
theorem plainAttrs_pat : PlainAttrs "re.Pattern" :=
  ⟨⟨"object.__getattribute__", by rw [typeLookup_type, builtinLookup_eq_fast]; kernel_rfl, by decide +kernel⟩, by rw [typeLookup_type, builtinLookup_eq_fast]; kernel_rfl⟩
def codeO : Array Nat := #[14,4,0,1,4294967295,6,0,13,11,9,0,67108864,2281701374,134217726,0,0,0,0,0,24,16,0,4294967295,13,11,9,0,134176768,2281701374,134217726,0,0,0,0,0,1,6,5,1]
def runM : Nat → Sre.M → Option Sre.M
  | 0, _ => none
  | n + 1, m => if (m.runFor reTurnSteps).outcome.isSome then some (m.runFor reTurnSteps) else runM n (m.runFor reTurnSteps)
def isMatched : Option Sre.M → Bool
  | some m => (match m.outcome with | some .matched => true | _ => false)
  | none => false
def full (x : Str) : Bool := isMatched (runM 100 (Sre.forMatch codeO x.cps 0 0 x.cps.size true false))
theorem full_class : full (S "class") = true := by decide +kernel
theorem full_href : full (S "href") = true := by decide +kernel
theorem full_title : full (S "title") = true := by decide +kernel
theorem full_id : full (S "id") = true := by decide +kernel
section
variable {M : Model} {A : Around} {E : Value → Shared → Prop} {s : Shared}
theorem drive_of : ∀ {n : Nat} {m m' : Sre.M} {k : Nat} {Q : Sre.M → Shared → Prop}, runM n m = some m' → n ≤ k → Q m' s → wpAny M A (reDrive k m) Q E s
  | 0, _, _, _, _, e, _, _ => by cases e
  | n + 1, m, m', 0, _, _, l, _ => absurd l (Nat.not_succ_le_zero _)
  | n + 1, m, m', k + 1, Q, e, l, h => by
    unfold runM at e
    unfold reDrive
    dsimp only
    by_cases hc : (m.runFor reTurnSteps).outcome.isSome = true
    · rw [if_pos hc] at e
      rw [if_pos hc]
      injection e with e
      subst e
      exact wpAny_pure h
    · rw [if_neg hc] at e
      rw [if_neg hc]
      exact wpAny_bind (wpAny_rule (drive_of e (Nat.le_of_succ_le_succ l) h))
theorem toEnd_of {n : Nat} {m m' : Sre.M} {Q : Option Sre.M → Shared → Prop} (e : runM n m = some m') (l : n ≤ 100) (hm : m'.outcome = some .matched) (h : Q (some m') s) : wpAny M A (reRunToEnd m) Q E s := by
  unfold reRunToEnd
  refine wpAny_bind (drive_of e (Nat.le_trans l (by decide)) ?_)
  refine wpAny_bind (wpAny_forIn_list _ (fun _ _ s' => s' = s) _ ?_ ?_ _ _ rfl)
  · rintro x rest b s' rfl
    by_cases hc : m'.seen.has x = true
    · rw [if_pos hc]; exact wpAny_bind (wpAny_rule (wpAny_pure rfl))
    · rw [if_neg hc]; exact wpAny_pure rfl
  · rintro b s' rfl
    rw [hm]
    exact wpAny_pure h
theorem meets_full {a c : Addr} {x : Str} {t : Tok} {oa oc : Obj} {p fl g n4 : Value} {t0 t1 : Tok} {items : Array Value} {k : Nat} (ha : oa.data = .fields #[p, fl, .int 0 t0, g, n4, .ref c, .int 0 t1]) (hc : oc.data = .seq items k) (hcode : (items.map reRawOf).map (·.toNat) = codeO) (hx : full x = true) (hsz : x.cps.size < 1000) :
    Meets (Builtin.«re.Pattern.fullmatch» ⟨[.ref a, .str x t], []⟩) (fun _ R s => s.heap.get? a = some oa ∧ s.heap.get? c = some oc ∧
      ∀ o₁ o₂ : Obj, o₁.isFreed = false → o₂.isFreed = false → o₂.cls = .type "re.Match" → R (.ok (.ret (.ref (s.heap.push o₁).objs.size))) { s with heap := (s.heap.push o₁).push o₂ }) := by
  refine .of_wp fun prog w A R s h => ?_
  obtain ⟨h1, h2, h3⟩ := h
  unfold Builtin.«re.Pattern.fullmatch»
  refine wpAny_bind ?_
  unfold reTarget
  dsimp only
  have hn : reNamed "re.Pattern.fullmatch" "fullmatch" ["string", "pos", "endpos"] 1 [.str x t] [] = pure [some (.str x t), none, none] := rfl
  have ht : reTextOf (.str x t) = pure (x.cps, 0) := rfl
  refine wpAny_bind (hn ▸ wpAny_pure ?_)
  dsimp only
  refine wpAny_bind (wpAny_pure (wpAny_bind (wpAny_pure (wpAny_bind (wpAny_fieldsOf h1 ha ?_)))))
  refine wpAny_bind (ht ▸ wpAny_pure ?_)
  dsimp only
  rw [if_neg (by simp), if_neg (by simp [reRawNat])]
  refine wpAny_bind (wpAny_pure ?_)
  refine wpAny_bind ?_
  show wpAny _ _ (reRawItems (.ref c)) _ _ _
  unfold reRawItems
  refine wpAny_bind (wpAny_seqItems h2 hc (wpAny_pure (wpAny_pure ?_)))
  have hp : Min.min (Int.toNat 0) x.cps.size = 0 := by simp
  have hl : Min.min ((2 ^ 63 - 1 : Int)).toNat x.cps.size = x.cps.size := by
    have : ((2 ^ 63 - 1 : Int)).toNat = 9223372036854775807 := rfl
    omega
  have hg : reRawNat (#[p, fl, Value.int 0 t0, g, n4, Value.ref c, Value.int 0 t1].getD 2 Value.none) = 0 := rfl
  dsimp only [Option.getD]
  rw [hp, hl, hg, hcode]
  unfold reAnswer
  dsimp only
  unfold full at hx
  cases hr : runM 100 (Sre.forMatch codeO x.cps 0 0 x.cps.size true false) with
  | none => rw [hr] at hx; cases hx
  | some m' =>
    rw [hr] at hx
    have hm : m'.outcome = some .matched := by
      unfold isMatched at hx
      dsimp only at hx
      split at hx
      · assumption
      · cases hx
    refine wpAny_bind (toEnd_of hr (Nat.le_refl _) hm ?_)
    dsimp only
    refine wpAny_bind ?_
    unfold reNewMatch
    rw [if_neg (by simp)]
    refine wpAny_bind (wpAny_newTuple ?_ ?_)
    · unfold newFields
      refine wpAny_newObj_type (wpAny_pure ⟨_, rfl, h3 _ _ rfl rfl rfl⟩) ?_
      first | trivial | size_fits | (unfold sizeOk; trivial)
    · simp only [List.range_zero, List.flatMap_nil, List.length_cons, List.length_nil]; decide
theorem news_drop {h₀ h : Heap} {L : Addr} {p q : Addr × Obj} {news : Led} (N : News h₀ L h (p :: q :: news)) : News h₀ L h (p :: news) := fun r hr => N r (by rcases List.mem_cons.mp hr with e | e; exact e ▸ .head _; exact .tail _ (.tail _ e))
theorem full_call {w : World} {K : Frag} {h₀ : Heap} {L : Addr} {mm : Str → Option Value} {news : Led} {a c : Addr} {x : Str} {t : Tok} {oa oc : Obj} {p fl g n4 : Value} {t0 t1 : Tok} {items : Array Value} {k : Nat} {Q : Value → Shared → Prop}
    (hx : full x = true ∧ x.cps.size < 1000) (X : K.In h₀) (F : Fr h₀ L s.heap mm) (N : News h₀ L s.heap news) (la : K.lookup a = some oa) (lc : K.lookup c = some oc) (hcls : oa.cls = .type "re.Pattern")
    (ha : oa.data = .fields #[p, fl, .int 0 t0, g, n4, .ref c, .int 0 t1]) (hc : oc.data = .seq items k) (hcode : (items.map reRawOf).map (·.toNat) = codeO)
    (h : ∀ mt o h', o.cls = .type "re.Match" → Fr h₀ L h' mm → News h₀ L h' ((mt, o) :: news) → (∀ p ∈ news, p.1 < mt) → Q (.ref mt) { s with heap := h' }) :
    wpAny (mdl w) A (call (.builtin "re.Pattern.fullmatch") [.ref a, .str x t]) Q E s := by
  have h1 := (X.keeps F.keep) _ _ la
  have h2 := (X.keeps F.keep) _ _ lc
  refine call_meets slot_full ⟨oa, h1, hcls⟩ entry_full (args_full _ _) (meets_full ha hc hcode hx.1 hx.2) ⟨h1, h2, fun o₁ o₂ hf₁ hf₂ hm => ?_⟩
  have N1 := N.push F o₁ hf₁
  have F1 := F.push o₁
  exact h _ o₂ _ hm (F1.push o₂) (news_drop (N1.push F1 o₂ hf₂)) fun p hp => Heap.lt_size (N1 p (.tail _ hp)).1
theorem match_true {w : World} {h₀ : Heap} {L : Addr} {news : Led} {mt : Addr} {o : Obj} {Q : Bool → Shared → Prop} (N : News h₀ L s.heap news) (hm : (mt, o) ∈ news) (hc : o.cls = .type "re.Match") (h : Q true s) : wpAny (mdl w) A (truthy (.ref mt)) Q E s := by
  have hT : s.TypeIs (.ref mt) "re.Match" := ⟨o, (N _ hm).1, hc⟩
  unfold truthy
  dsimp only
  refine wpAny_bind ?_
  unfold callSpecial?
  refine wpAny_bind (wpAny_specialOf hT match_bool ?_)
  refine wpAny_pure ?_
  refine wpAny_bind (wpAny_specialOf hT match_len ?_)
  exact wpAny_pure h
theorem full_meth {w : World} {K : Frag} {h₀ : Heap} {L : Addr} {mm : Str → Option Value} {a : Addr} {oa : Obj} {pl : Sem Bool} {Q : Value × List Value → Shared → Prop} (X : K.In h₀) (F : Fr h₀ L s.heap mm) (la : K.lookup a = some oa) (hcls : oa.cls = .type "re.Pattern") (hd : oa.dict = none)
    (h : Q (.builtin "re.Pattern.fullmatch", [.ref a]) s) : wpAny (mdl w) A (getMethod (.ref a) (Str.ofString "fullmatch") pl) Q E s :=
  have h1 := (X.keeps F.keep) _ _ la
  getMethod_builtin ⟨oa, h1, hcls⟩ plainAttrs_pat slot_full type_full (fun b e => by injection e with e; subst e; exact ⟨oa, h1, hd⟩) h
end
end
section
open PySem.Builtin PySem.Builtin.Re
theorem full_279 {w : World} {A : Around} {E : Value → Shared → Prop} {s : Shared} {h₀ : Heap} {L : Addr} {mm : Str → Option Value} {news : Led} {x : Str} {t : Tok} {Q : Value → Shared → Prop}
    (hx : full x = true ∧ x.cps.size < 1000) (X : (hd.heap_39 w.params).In h₀) (F : Fr h₀ L s.heap mm) (N : News h₀ L s.heap news)
    (h : ∀ mt o h', o.cls = .type "re.Match" → Fr h₀ L h' mm → News h₀ L h' ((mt, o) :: news) → (∀ p ∈ news, p.1 < mt) → Q (.ref mt) { s with heap := h' }) :
    wpAny (mdl w) A (call (.builtin "re.Pattern.fullmatch") [.ref 279, .str x t]) Q E s := by
  refine' full_call hx X F N (a := 279) (c := 278) (la := rfl) ?lc ?hcls ?ha ?hc ?hcode h
  case lc => exact rfl
  case hcls => exact rfl
  case ha => exact rfl
  case hc => exact rfl
  case hcode => decide +kernel
theorem meth_279 {w : World} {A : Around} {E : Value → Shared → Prop} {s : Shared} {h₀ : Heap} {L : Addr} {mm : Str → Option Value} {pl : Sem Bool} {Q : Value × List Value → Shared → Prop} (X : (hd.heap_39 w.params).In h₀) (F : Fr h₀ L s.heap mm)
    (h : Q (.builtin "re.Pattern.fullmatch", [.ref 279]) s) : wpAny (mdl w) A (getMethod (.ref 279) (Str.ofString "fullmatch") pl) Q E s :=
  full_meth X F (la := rfl) rfl rfl h
end
section
section
variable {w : World} {A : Around} {E : Value → Shared → Prop} {s : Shared} {K : Frag} {h₀ : Heap} {L x C D : Addr} {ox : Obj} {odx : Option Obj} {m : Str → Option Value} {news : Led}
theorem super_two {cdD : ClassData} {Q : Value → Shared → Prop} (F : Fr h₀ L s.heap m) (X₀ : K.In h₀) (N : News h₀ L s.heap news) (I : W.InstAt s.heap x ox C odx) (hD : clsIn K D = some cdD) (hsub : mroIn K C (.ref D) = some true)
    (h : ∀ so h', Fr h₀ L h' m → News h₀ L h' ((so, ks_superObj D x C) :: news) → (∀ p ∈ news, p.1 < so) → Q (.ref so) { s with heap := h' }) :
    wpAny (mdl w) A (call (.type "super") [.ref D, .ref x]) Q E s := by
  have X : K.In s.heap := X₀.keeps F.keep
  obtain ⟨hh, g, d, t, os⟩ := s
  obtain ⟨oD, hD1, hD2⟩ : ∃ oD, hh.get? D = some oD ∧ oD.data = .cls cdD := by
    unfold clsIn at hD
    split at hD
    · rename_i c d cd' sl ho
      cases hD
      exact ⟨_, X _ _ ho, rfl⟩
    · cases hD
  refine ks_wpAny_call_super hD1 hD2 I.at_ I.cls (fun c e => ?_) (looks_mroIn X hsub) (fun h' e k => ?_)
  · have := I.no
    unfold notCls at this
    rw [e] at this
    exact Bool.noConfusion this
  · obtain ⟨F', N', l'⟩ := ks_newsPush (s := ⟨hh, g, d, t, os⟩) F N rfl e k
    exact h _ _ F' N' l'
theorem list_fr {h₀ h : Heap} {L l : Addr} {m : Str → Option Value} {its : Array Value} (F : Fr h₀ L h m) (x : h₀.IsList l its) : h.IsList l its := x.at fun o e => F.keep l o e
theorem range_split3 {n : Int} {t : Tok} {Q : Value → Shared → Prop} (h1 : wpAny (mdl w) A (call (.type "range") [.int 1 t]) Q E s) (h2 : wpAny (mdl w) A (call (.type "range") [.int 2 t]) Q E s) (h3 : wpAny (mdl w) A (call (.type "range") [.int 3 t]) Q E s) :
    wpAny (mdl w) A (call (.type "range") [.int (Int.fmod n 3 + 1) t]) Q E s := by
  have a := Int.fmod_nonneg_of_pos n (b := 3) (by decide)
  have b := Int.fmod_lt_of_pos n (b := 3) (by decide)
  have : Int.fmod n 3 = 0 ∨ Int.fmod n 3 = 1 ∨ Int.fmod n 3 = 2 := by omega
  rcases this with e | e | e
  · rw [e]; exact h1
  · rw [e]; exact h2
  · rw [e]; exact h3
end
end
section
/-- the renderer, as a ledger holds it -/
def SelfLed (w : World) (esc : Bool) (tl : Led) (sa : Addr) : Prop := ∃ dx md om k1 k2 k3, (sa, instObj 487 dx) ∈ tl ∧ (dx, dictOf [⟨PyData.keyHash w.params (Str.ofString "_BaseRenderer__methods"), .str (Str.ofString "_BaseRenderer__methods") k1, .ref md⟩, ⟨PyData.keyHash w.params (Str.ofString "_allow_harmful_protocols"), .str (Str.ofString "_allow_harmful_protocols") k2, .none⟩, ⟨PyData.keyHash w.params (Str.ofString "_escape"), .str (Str.ofString "_escape") k3, .bool esc⟩] 3) ∈ tl ∧ (md, om) ∈ tl ∧ om.IsDictOf (sk w) [] ∧ (md == sysModules) = false
theorem SelfLed.at {w : World} {esc : Bool} {tl : Led} {sa : Addr} {h₀ h : Heap} {L : Addr} (x : SelfLed w esc tl sa) (N : News h₀ L h tl) : SelfAt w esc h sa := by
  obtain ⟨dx, md, om, k1, k2, k3, a, b, c, d, e⟩ := x
  exact ⟨dx, md, k1, k2, k3, ⟨(N _ a).1, rfl, rfl, (N _ b).1⟩, om, (N _ c).1, d, e⟩
theorem SelfLed.mono {w : World} {esc : Bool} {tl tl' : Led} {sa : Addr} (x : SelfLed w esc tl sa) (h : ∀ p ∈ tl, p ∈ tl') : SelfLed w esc tl' sa := by
  obtain ⟨dx, md, om, k1, k2, k3, a, b, c, d, e⟩ := x
  exact ⟨dx, md, om, k1, k2, k3, h _ a, h _ b, h _ c, d, e⟩
def TellC (w : World) (f : Addr) (dn ne : Nat) (args : List Value) (kw : List (Str × Value)) (Out : Led → Value → Prop) : Prop :=
  ∀ (p : Program) (loose : List Str) (mean : ExcName → Option Value) (mg mb : Str → Option Value) (dp un : Nat) (gd : Option (List Code)) (cn : Str) (cs : Scope) (a : Addr) (ccd : Value) (cl : List (Str × Addr)) (outer : List Env) (A₀ : Around) (base h₀ : Heap) (L : Addr) (m : Str → Option Value) (news : Led) (s : Shared)
    (Q E : Value → Shared → Prop),
    Below A₀ base outer h₀ → Fr h₀ L s.heap m → (hd.heap_39 w.params).In h₀ → News h₀ L s.heap news → Top p loose mean mg mb h₀ → cs.kind = .function → dp + dn < recursionLimit → un + ne < cLine →
    (∀ r tl h' tk', Fr h₀ L h' m → News h₀ L h' (news ++ tl) → (∀ q ∈ news, ∀ p ∈ tl, p.1 ≠ q.1) → Out tl r → Q r { s with heap := h', toks := tk' }) →
    wpAny (model PySem.Challenge.rw_ba0042_01.row.prog w) (ktrTop dp un gd cn cs L a ccd cl outer) (call (.ref f) args kw) Q E s
section
variable {w : World} {f : Addr} {dn ne : Nat} {args : List Value} {kw : List (Str × Value)} {p : Program} {loose : List Str} {mean : ExcName → Option Value} {mg mb : Str → Option Value} {dp un : Nat} {gd : Option (List Code)} {cn : Str} {cs : Scope} {a : Addr} {ccd : Value} {cl : List (Str × Addr)} {outer : List Env} {A₀ : Around} {base h₀ : Heap} {L : Addr} {m : Str → Option Value} {news : Led} {s : Shared}
    {Q E : Value → Shared → Prop}
theorem TellC.use {Out : Led → Value → Prop} (C : TellC w f dn ne args kw Out) (B : Below A₀ base outer h₀) (F : Fr h₀ L s.heap m) (X : (hd.heap_39 w.params).In h₀) (N : News h₀ L s.heap news) (T : Top p loose mean mg mb h₀) (hk : cs.kind = .function) (hd : dp + dn < recursionLimit) (hu : un + ne < cLine)
    (ret : ∀ r tl h' tk', Fr h₀ L h' m → News h₀ L h' (news ++ tl) → (∀ q ∈ news, ∀ p ∈ tl, p.1 ≠ q.1) → Out tl r → Q r { s with heap := h', toks := tk' }) :
    wpAny (model PySem.Challenge.rw_ba0042_01.row.prog w) (ktrTop dp un gd cn cs L a ccd cl outer) (call (.ref f) args kw) Q E s := C _ _ _ _ _ _ _ _ _ _ _ _ _ _ _ _ _ _ _ _ _ _ _ B F X N T hk hd hu ret
end
theorem news_left {h₀ h : Heap} {L : Addr} {x tl : Led} (N : News h₀ L h (x ++ tl)) : News h₀ L h x := fun p hp => N p (List.mem_append_left _ hp)
theorem self_end {w : World} {b : Bool} {h₀ h : Heap} {L sa dx md q so : Addr} {om oq oso : Obj} {k1 k2 k3 : Tok} {news : Led}
    (N : News h₀ L h ((md, om) :: (q, oq) :: (so, oso) :: (sa, instObj 487 dx) :: (dx, dictOf [⟨PyData.keyHash w.params (Str.ofString "_BaseRenderer__methods"), .str (Str.ofString "_BaseRenderer__methods") k1, .ref md⟩, ⟨PyData.keyHash w.params (Str.ofString "_allow_harmful_protocols"), .str (Str.ofString "_allow_harmful_protocols") k2, .none⟩, ⟨PyData.keyHash w.params (Str.ofString "_escape"), .str (Str.ofString "_escape") k3, .bool b⟩] 3) :: news))
    (l1 : ∀ p ∈ news, p.1 < dx) (l2 : dx < sa) (l3 : q < md ∧ so < md ∧ sa < md ∧ dx < md ∧ AllLt md news) (hd : om.IsDictOf (sk w) []) (hlo : (md == sysModules) = false) :
    ∃ tl, News h₀ L h (news ++ tl) ∧ (∀ q ∈ news, ∀ p ∈ tl, p.1 ≠ q.1) ∧ SelfLed w b tl sa := by
  refine ⟨[(sa, instObj 487 dx), (dx, _), (md, om)], fun p hp => ?_, fun q hq p hp => ?_, dx, md, om, k1, k2, k3, .head _, .tail _ (.head _), .tail _ (.tail _ (.head _)), hd, hlo⟩
  · rcases List.mem_append.mp hp with hp | hp
    · exact N _ (.tail _ (.tail _ (.tail _ (.tail _ (.tail _ hp)))))
    · rcases List.mem_cons.mp hp with rfl | hp
      · exact N _ (.tail _ (.tail _ (.tail _ (.head _))))
      · rcases List.mem_cons.mp hp with rfl | hp
        · exact N _ (.tail _ (.tail _ (.tail _ (.tail _ (.head _)))))
        · rw [List.mem_singleton.mp hp]; exact N _ (.head _)
  · have a := l1 q hq
    have c := kst_ltOf l3.2.2.2.2 q hq
    rcases List.mem_cons.mp hp with rfl | hp
    · exact Nat.ne_of_gt (Nat.lt_trans a l2)
    · rcases List.mem_cons.mp hp with rfl | hp
      · exact Nat.ne_of_gt a
      · rw [List.mem_singleton.mp hp]; exact Nat.ne_of_gt c
end
section
open PySem.W.KStt (codes)
open PySem.Builtin PySem.Builtin.Str
def signsL : List Nat := [32, 34, 35, 47, 49, 58, 59, 60, 62, 63, 65, 67, 68, 72, 73, 74, 80, 82, 83, 84, 86, 97, 98, 99, 100, 101, 102, 103, 104, 105, 106, 107, 108, 109, 110, 111, 112, 113, 114, 115, 116, 117, 118, 119, 120, 121, 122]
theorem item_tab : (urlsL.all fun x => (List.range x.length).all fun i => match x.cps[i]? with | some c => signsL.contains c && (Txt.item x (i : Int) == (⟨#[c]⟩ : Str)) && !(Txt.item x (i : Int) == Str.ofString "%") && decide (((codes x)[i]?) = some (c : Int)) | none => false) = true := by decide +kernel
theorem sign_lt : ∀ c ∈ signsL, c < 128 := by decide
theorem item_of {x : Str} {i : Nat} (hx : x ∈ urlsL) (hi : i < x.length) : ∃ c, c ∈ signsL ∧ Txt.item x (i : Int) = ⟨#[c]⟩ ∧ (Txt.item x (i : Int) == Str.ofString "%") = false ∧ (codes x)[i]? = some (c : Int) := by
  have h := List.all_eq_true.mp (List.all_eq_true.mp item_tab x hx) i (List.mem_range.mpr hi)
  cases e : x.cps[i]? with
  | none => rw [e] at h; cases h
  | some c =>
    rw [e] at h
    simp only [Bool.and_eq_true, Bool.not_eq_true', decide_eq_true_eq, beq_iff_eq] at h
    exact ⟨c, by simpa using h.1.1.1, by simpa using h.1.1.2, by simpa using h.1.2, h.2⟩
theorem enc_tab (id : String) (self : Value) : ∀ c ∈ signsL, Builtin._codecs.encodeNarrow id Builtin._codecs.utf8Codec none self ⟨#[c]⟩ = pure #[c.toUInt8] := by
  intro c hc
  unfold signsL at hc
  simp only [List.mem_cons, List.not_mem_nil, or_false] at hc
  rcases hc with rfl | rfl | rfl | rfl | rfl | rfl | rfl | rfl | rfl | rfl | rfl | rfl | rfl | rfl | rfl | rfl | rfl | rfl | rfl | rfl | rfl | rfl | rfl | rfl | rfl | rfl | rfl | rfl | rfl | rfl | rfl | rfl | rfl | rfl | rfl | rfl | rfl | rfl | rfl | rfl | rfl | rfl | rfl | rfl | rfl | rfl | rfl <;> kernel_rfl
theorem encode_tree2 (x : Str) (t u : Tok) : «str.encode» ⟨[.str x t, .str (Str.ofString "utf-8") u], []⟩ = (do ret (← Builtin._codecs.encodeRoad "str.encode" (.str x t) x (Str.ofString "utf-8") none)) := by kernel_rfl
theorem bytes_len : typeLookup (.type "bytes") "__len__" = pure (some (.builtin "bytes.__len__")) := by rw [typeLookup_type, builtinLookup_eq_fast]; kernel_rfl
section
variable {w : World} {A : Around} {E : Value → Shared → Prop} {s : Shared} {h₀ : Heap} {L : Addr} {m : Str → Option Value} {Q : Value → Shared → Prop}
theorem enc_call {c : Nat} {t u : Tok} (hc : c ∈ signsL) (h : ∀ t' k, Q (.bytes #[c.toUInt8] t') { s with toks := k }) : wpAny (mdl w) A (call (.builtin "str.encode") [.str ⟨#[c]⟩ t, .str (Str.ofString "utf-8") u]) Q E s := by
  refine wpAny_call (codeAny_call_builtin PySem.F.slot_str_encode.plain PySem.F.entry_str_encode (PySem.F.slot_str_encode.check _ _ _ _ _ _ _ _ (typeIs_str _ _ _) (PySem.F.args_str_encode_2 _ _) ?_))
  rw [encode_tree2, encodeRoad_utf8, enc_tab _ _ c hc]
  refine wpAny_bind (wpAny_bind (wpAny_pure (wpAny_mkBytes ?_ (by show 1 ≤ sizeLine; decide))))
  exact wpAny_pure (h _ _)
theorem ext_byte {D : Addr} {vs : List Value} {n : Nat} {c : UInt8} {t : Tok} (hh : A.handled = none) (F : Fr h₀ L s.heap m) (N : News h₀ L s.heap [(D, W.listOf vs.toArray n)]) (hz : vs.length ≤ 1000)
    (h : ∀ h' u n' k, Fr h₀ L h' m → News h₀ L h' [(D, W.listOf (vs ++ [Value.int (c.toNat : Int) u]).toArray n')] → Q .none { s with heap := h', toks := k }) : wpAny (mdl w) A (call (.builtin "list.extend") [.ref D, .bytes #[c] t]) Q E s := by
  have z := N _ (.head _)
  have hsz : 1000 ≤ sizeLine := by decide
  refine wpAny_call (codeAny_call_builtin PySem.F.slot_list_extend.plain PySem.F.entry_list_extend (PySem.F.slot_list_extend.check _ _ _ _ _ _ _ _ ⟨_, z.1, rfl⟩ (PySem.F.args_list_extend_2 _ _) ?_))
  show wpAny _ A.in1 (Builtin.List.listExtendWith (.ref D) (.bytes #[c] t) .none) _ _ s
  unfold Builtin.List.listExtendWith
  refine wpAny_bind (wpAny_typeOf (T := "bytes") (typeIs_bytes _ _ _) ?_)
  have h1 : Builtin.List.listSameRef (.ref D) (.bytes #[c] t) = false := rfl
  have h2 : (Value.type "bytes" == Value.type "list") = false := by decide
  have h3 : (Value.type "bytes" == Value.type "tuple") = false := by decide
  simp only [h1, h2, h3, Bool.or_false, Bool.false_eq_true, if_false]
  refine wpAny_bind (KBw.pyIter_bytes ?_)
  refine wpAny_bind (wpAny_holding ?_)
  unfold Builtin.List.listLengthHint
  refine wpAny_bind (wpAny_specialOf (T := "bytes") (v := .bytes #[c] t) rfl bytes_len ?_)
  wp_delta
  refine wpAny_bind (wpAny_isInstance (T := "bytes") (v := .bytes #[c] t) (b := true) rfl (by rw [isSubtype_type]; kernel_rfl) ?_)
  show wpAny _ A.in1 (typeOf (Value.bytes #[c] t) >>= _) _ _ _
  refine wpAny_bind (wpAny_typeOf (T := "bytes") (v := .bytes #[c] t) rfl ?_)
  refine wpAny_pure ?_
  rw [if_neg (by decide)]
  have hIne : s.heap.objs.size ≠ D := fun e => Nat.lt_irrefl _ (e ▸ Heap.lt_size z.1)
  have F1 := F.push ({ cls := .type "bytes_iterator", data := .fields #[.bytes #[c] t, .int 0 0] } : Obj)
  have hD1 := Heap.get?_push_of_some ({ cls := .type "bytes_iterator", data := .fields #[.bytes #[c] t, .int 0 0] } : Obj) z.1
  have hI1 : KBw.IsBytesIter (s.heap.push ({ cls := .type "bytes_iterator", data := .fields #[.bytes #[c] t, .int 0 0] } : Obj)) s.heap.objs.size #[c] t 0 := ⟨_, Heap.get?_push_size _ rfl, rfl, rfl⟩
  have k1 : ∀ b o, s.heap.get? b = some o → (s.heap.push ({ cls := .type "bytes_iterator", data := .fields #[.bytes #[c] t, .int 0 0] } : Obj)).get? b = some o := fun b o e => Heap.get?_push_of_some _ e
  refine wpAny_pure ⟨plainId_quiet PySem.F.plain_extend_loop _, codeAny_builtin PySem.F.entry_extend_loop ?_⟩
  rw [Around.under_plainId PySem.F.plain_extend_loop _]
  show wpAny _ A.in1 (pyNext (.ref s.heap.objs.size) >>= _) _ _ _
  refine wpAny_bind (KBw.next_item hI1 (c := c) rfl fun h' hit' hs' => ?_)
  have hD2 : h'.get? D = some (W.listOf vs.toArray n) := (hs'.2 D (Ne.symm hIne)).trans hD1
  show wpAny _ A.in1 (updateSeq D (·.push _) >>= _) _ _ _
  refine wpAny_bind (wpAny_updateSeq hD2 rfl (wpAny_pure ⟨plainId_quiet PySem.F.plain_extend_loop _, codeAny_builtin PySem.F.entry_extend_loop ?_⟩) (by simp; omega) (by simp; omega))
  rw [Around.under_plainId PySem.F.plain_extend_loop _]
  have hI3 : ∀ {hp : Heap}, Heap.SameBut D h' hp → KBw.IsBytesIter hp s.heap.objs.size #[c] t 1 := fun hs => let ⟨o, ho, r⟩ := hit'; ⟨o, (hs.2 _ hIne).trans ho, r⟩
  show wpAny _ A.in1 (pyNext (.ref s.heap.objs.size) >>= _) _ _ _
  refine wpAny_bind (KBw.next_end hh (hI3 (Heap.SameBut.update ..)) rfl fun h'' he => ?_)
  refine wpAny_pure ?_
  have hD3 := Heap.get?_update_self (h := h') (Obj.mapSeq (·.push (Value.int (c.toNat : Int) s.toks))) hD2 rfl
  have hD4 := he D _ (Ne.symm hIne) hD3
  have kk : ∀ b o, b ≠ D → s.heap.get? b = some o → h''.get? b = some o := fun b o hb e => by
    have hbI : b ≠ s.heap.objs.size := Nat.ne_of_lt (Heap.lt_size e)
    exact he b o hbI ((Heap.get?_update_other _ _ (Ne.symm hb)).trans ((hs'.2 b hbI).trans (k1 b o e)))
  refine h h'' s.toks (n + 1) _ ⟨F.ns.at' fun o e => kk L o z.2.1.symm e, fun b o e => kk b o (fun q => ?_) (F.keep b o e), F.above⟩ fun p hp => ?_
  · rw [q, z.2.2] at e; cases e
  · rw [List.mem_singleton.mp hp]
    refine ⟨?_, z.2⟩
    rw [hD4]
    simp [Obj.mapSeq, W.listOf]
end
theorem ints_snoc {c : Int} {u : Tok} : ∀ {vs : List Value} {ns : List Int}, IntsAre vs ns → IntsAre (vs ++ [.int c u]) (ns ++ (some c).toList)
  | _, _, .nil => .cons _ _ .nil
  | _, _, .cons a b h => .cons a b (ints_snoc h)
def urlB (x : Str) : Array UInt8 := ((codes x).map fun n => n.toNat.toUInt8).toArray
theorem args_dec3 (a b c : Value) : argsOk "bytes.decode" ⟨[a, b, c], []⟩ := by
  unfold argsOk; kernel_rfl
theorem dec_eq {c : UInt8} {cs : List UInt8} {t u v : Tok} : «bytes.decode» ⟨[.bytes (c :: cs).toArray t, .str (Str.ofString "utf-8") u, .str (Str.ofString "replace") v], []⟩ = (mkStr (Str.ofString "utf-8") >>= fun _ => mkStr (Str.ofString "utf-8") >>= fun e => mkStr (Str.ofString "replace") >>= fun er => mkStr (Str.ofString "bytes.decode") >>= fun d =>
    call (.builtin "_codecs.decode.text") [.bytes (c :: cs).toArray t, e, er, d] >>= fun v => ret v) := by kernel_rfl
theorem dec_eq0 {t u v : Tok} : «bytes.decode» ⟨[.bytes #[] t, .str (Str.ofString "utf-8") u, .str (Str.ofString "replace") v], []⟩ = (rule "bytes.decode.empty" >>= fun _ => retStr Str.empty) := by kernel_rfl
theorem road_rep {id : String} {b : Array UInt8} : _codecs.decodeRoad id b (Str.ofString "utf-8") (some (Str.ofString "replace")) [] = (_codecs.runDecoder id _codecs.utf8Decoder (some (Str.ofString "replace")) true b 0 [] >>= fun r => mkStr ⟨r.1⟩) := by kernel_rfl
theorem meets_text3 {b : Array UInt8} {x : Str} {n : Nat} {t t1 t2 t3 : Tok} {d : Str} (hd : ∀ id, _codecs.runDecoder id _codecs.utf8Decoder (some (Str.ofString "replace")) true b 0 [] = pure (x.cps, n)) :
    Meets («_codecs.decode.text» ⟨[.bytes b t, .str (Str.ofString "utf-8") t1, .str (Str.ofString "replace") t3, .str d t2], []⟩) (fun _ R s => x.length ≤ sizeLine ∧ R (.ok (.ret (.str x s.toks))) { s with toks := s.toks + 1 }) := by
  refine .of_wp fun prog w A R s hS => ?_
  obtain ⟨hsz, h⟩ := hS
  show wpAny _ _ (Bytes.bytesLike _ (.bytes b t) >>= fun r => _) _ _ s
  refine wpAny_bind (wpAny_of_eq KBd.like_eq ?_)
  refine wpAny_bind (wpAny_of_eq KBd.held_eq ?_)
  show wpAny _ _ (_codecs.decodeRoad _ b (Str.ofString "utf-8") (some (Str.ofString "replace")) [] >>= fun v => _) _ _ s
  rw [road_rep, hd]
  refine wpAny_bind (wpAny_bind (wpAny_pure ?_))
  exact wpAny_mkStr (wpAny_pure ⟨_, rfl, h⟩) hsz
section
variable {w : World} {A : Around} {E : Value → Shared → Prop} {s : Shared} {h₀ : Heap} {L : Addr} {m : Str → Option Value} {Q : Value → Shared → Prop}
theorem dec_list {c : UInt8} {cs : List UInt8} {x : Str} {n : Nat} {t u v : Tok} (hd : ∀ id, _codecs.runDecoder id _codecs.utf8Decoder (some (Str.ofString "replace")) true (c :: cs).toArray 0 [] = pure (x.cps, n)) (hsz : x.length ≤ sizeLine) (h : ∀ t' k, Q (.str x t') { s with toks := k }) :
    wpAny (mdl w) A (call (.builtin "bytes.decode") [.bytes (c :: cs).toArray t, .str (Str.ofString "utf-8") u, .str (Str.ofString "replace") v]) Q E s := by
  refine wpAny_call (codeAny_call_builtin FB.slot_bytes_decode.plain FB.entry_bytes_decode (FB.slot_bytes_decode.check _ _ _ _ _ _ _ _ (typeIs_bytes _ _ _) (args_dec3 _ _ _) ?_))
  rw [dec_eq]
  refine wpAny_bind (wpAny_mkStr ?_ (by decide))
  refine wpAny_bind (wpAny_mkStr ?_ (by decide))
  refine wpAny_bind (wpAny_mkStr ?_ (by decide))
  refine wpAny_bind (wpAny_mkStr ?_ (by decide))
  exact wpAny_bind (call_function_meets KBd.kind_text KBd.plain_text KBd.entry_text (KBd.args_text _ _ _ _) (meets_text3 hd) ⟨hsz, wpAny_pure (h _ _)⟩)
theorem dec_lit {c : UInt8} {cs : List UInt8} {x : Str} {n : Nat} {t u v : Tok} (e : urlB x = (c :: cs).toArray) (hd : ∀ id, _codecs.runDecoder id _codecs.utf8Decoder (some (Str.ofString "replace")) true (c :: cs).toArray 0 [] = pure (x.cps, n)) (hsz : x.length ≤ sizeLine) (h : ∀ t' k, Q (.str x t') { s with toks := k }) :
    wpAny (mdl w) A (call (.builtin "bytes.decode") [.bytes (urlB x) t, .str (Str.ofString "utf-8") u, .str (Str.ofString "replace") v]) Q E s := by rw [e]; exact dec_list hd hsz h
theorem codes_tab : (urlsL.all fun x => (codes x).all fun c => decide (0 ≤ c) && decide (c < 256)) = true := by decide +kernel
theorem bytes_url {x : Str} {D : Addr} {vs : List Value} {n i : Nat} (hx : x ∈ urlsL) (F : Fr h₀ L s.heap m) (N : News h₀ L s.heap [(D, W.listOf vs.toArray n)]) (hvs : IntsAre vs ((codes x).take i)) (hi : ¬ (i : Int) < (x.length : Int)) (hh : A.handled = none)
    (h : ∀ h' t k, Fr h₀ L h' m → News h₀ L h' [(D, W.listOf vs.toArray n)] → Q (.bytes (urlB x) t) { s with heap := h', toks := k }) : wpAny (mdl w) A (call (.type "bytes") [.ref D]) Q E s := by
  have e : (codes x).take i = codes x := List.take_of_length_le (by rw [PySem.W.KStt.codes_length]; omega)
  rw [e] at hvs
  have hl := hvs.length
  rw [PySem.W.KStt.codes_length] at hl
  have h16 := urls_len hx
  refine bytes_K F N (l := D) (ns := codes x) ⟨_, (N _ (.head _)).1, rfl, n, rfl⟩ hvs (fun k hk => ?_) (Nat.le_trans (m := 16) (by omega) (by decide)) hh fun h' t k F' N' _ => h h' t k F' N'
  have z := List.all_eq_true.mp (List.all_eq_true.mp codes_tab x hx) k hk
  simpa using z
theorem dec_url {x : Str} {t u v : Tok} (hx : x ∈ urlsL) (h : ∀ t' k, Q (.str x t') { s with toks := k }) :
    wpAny (mdl w) A (call (.builtin "bytes.decode") [.bytes (urlB x) t, .str (Str.ofString "utf-8") u, .str (Str.ofString "replace") v]) Q E s := by
  unfold urlsL at hx
  simp only [List.mem_cons, List.not_mem_nil, or_false] at hx
  rcases hx with rfl | rfl | rfl | rfl | rfl | rfl | rfl | rfl | rfl | rfl | rfl | rfl | rfl | rfl | rfl
  · exact dec_lit (c := 47) (cs := [120]) (n := 2) (by decide +kernel) (by intro _; kernel_rfl) (by decide +kernel) h
  · exact dec_lit (c := 104) (cs := [116, 116, 112, 58, 47, 47, 121, 47, 122]) (n := 10) (by decide +kernel) (by intro _; kernel_rfl) (by decide +kernel) h
  · exact dec_lit (c := 35) (cs := [107]) (n := 2) (by decide +kernel) (by intro _; kernel_rfl) (by decide +kernel) h
  · exact dec_lit (c := 106) (cs := [97, 118, 97, 115, 99, 114, 105, 112, 116, 58, 113]) (n := 12) (by decide +kernel) (by intro _; kernel_rfl) (by decide +kernel) h
  · exact dec_lit (c := 74) (cs := [65, 86, 65, 83, 67, 82, 73, 80, 84, 58, 49]) (n := 12) (by decide +kernel) (by intro _; kernel_rfl) (by decide +kernel) h
  · exact dec_lit (c := 109) (cs := [97, 105, 108, 116, 111, 58, 109]) (n := 8) (by decide +kernel) (by intro _; kernel_rfl) (by decide +kernel) h
  · exact dec_lit (c := 97) (cs := [34, 98]) (n := 3) (by decide +kernel) (by intro _; kernel_rfl) (by decide +kernel) h
  · exact dec_lit (c := 100) (cs := [97, 116, 97, 58, 105, 109, 97, 103, 101, 47, 112, 110, 103, 59, 119]) (n := 16) (by decide +kernel) (by intro _; kernel_rfl) (by decide +kernel) h
  · exact dec_lit (c := 68) (cs := [65, 84, 65, 58, 116, 101, 120, 116, 47, 104, 116, 109, 108, 59, 118]) (n := 16) (by decide +kernel) (by intro _; kernel_rfl) (by decide +kernel) h
  · exact dec_lit (c := 32) (cs := [118, 98, 58, 120]) (n := 5) (by decide +kernel) (by intro _; kernel_rfl) (by decide +kernel) h
  · exact dec_lit (c := 112) (cs := [47, 113, 58, 114]) (n := 5) (by decide +kernel) (by intro _; kernel_rfl) (by decide +kernel) h
  · exact dec_lit (c := 72) (cs := [116, 116, 112, 115, 58, 115]) (n := 7) (by decide +kernel) (by intro _; kernel_rfl) (by decide +kernel) h
  · exact dec_lit (c := 63) (cs := [116, 58, 117]) (n := 4) (by decide +kernel) (by intro _; kernel_rfl) (by decide +kernel) h
  · exact dec_lit (c := 102) (cs := [116, 112, 58, 60, 118, 62]) (n := 7) (by decide +kernel) (by intro _; kernel_rfl) (by decide +kernel) h
  · rw [show urlB (S "") = #[] from by decide +kernel]
    refine wpAny_call (codeAny_call_builtin FB.slot_bytes_decode.plain FB.entry_bytes_decode (FB.slot_bytes_decode.check _ _ _ _ _ _ _ _ (typeIs_bytes _ _ _) (args_dec3 _ _ _) ?_))
    rw [dec_eq0]
    refine wpAny_bind (wpAny_rule ?_)
    unfold retStr
    exact wpAny_bind (wpAny_mkStr (wpAny_pure (h _ _)) (by decide))
theorem notPct {x : Str} {i : Nat} (hx : x ∈ urlsL) (hi : (i : Int) < (x.length : Int)) : (Txt.item x (i : Int) == Str.ofString "%") = false := let ⟨_, _, _, h, _⟩ := item_of hx (Int.ofNat_lt.mp hi); h
theorem meth_enc {M : Model} {x : Str} {t : Tok} {pl : Sem Bool} {Q : Value × List Value → Shared → Prop} (h : Q (.builtin "str.encode", [.str x t]) s) : wpAny M A (getMethod (.str x t) (Str.ofString "encode") pl) Q E s :=
  getMethod_builtin (typeIs_str _ _ _) PySem.F.plainAttrs_str PySem.F.slot_str_encode PySem.F.type_str_encode (fun _ e => nomatch e) h
theorem enc_item {x : Str} {i : Nat} {t u : Tok} (hx : x ∈ urlsL) (hi : (i : Int) < (x.length : Int)) (h : ∀ c t' k, c ∈ signsL → (codes x)[i]? = some (c : Int) → Q (.bytes #[c.toUInt8] t') { s with toks := k }) :
    wpAny (mdl w) A (call (.builtin "str.encode") [.str (Txt.item x (i : Int)) t, .str (Str.ofString "utf-8") u]) Q E s := by
  obtain ⟨c, hc, e, _, hg⟩ := item_of hx (Int.ofNat_lt.mp hi)
  rw [e]
  exact enc_call hc fun t' k => h c t' k hc hg
theorem byte_code {c : Nat} (hc : c ∈ signsL) : ((c.toUInt8.toNat : Nat) : Int) = (c : Int) := by
  have := sign_lt c hc
  show ((c % 256 : Nat) : Int) = c
  omega
theorem unq_end {x : Str} {D : Addr} {vs : List Value} {n n' i t t' c : Nat} {u : Tok} {h' : Heap} {tk : Nat} {m' m₀ : Str → Option Value} {s s₂ : Shared} {Q : Flow → Shared → Prop} (e : s₂ = { s with heap := h', toks := tk }) (hi : (i : Int) < (x.length : Int)) (hvs : IntsAre vs ((codes x).take i)) (hc : c ∈ signsL) (hg : (codes x)[i]? = some (c : Int))
    (F : Fr h₀ L h' m') (N : News h₀ L h' [(D, W.listOf (vs ++ [Value.int ((c.toUInt8.toNat : Nat) : Int) u]).toArray n')]) (hp : m' (S "place") = some (.int ((i : Int) + 1) t')) (hr : ∀ z, z ≠ S "place" → z ≠ S "pair" → m' z = m₀ z) :
    KswPost h₀ L s (fun c : Nat × Nat × List Value × Nat => [(D, W.listOf c.2.2.1.toArray c.2.2.2)]) (fun c => [(S "place", .int (c.1 : Int) c.2.1)]) (fun c => c.1 ≤ x.length ∧ IntsAre c.2.2.1 ((codes x).take c.1)) [S "pair"] m₀ (fun _ => True) (fun c => x.length - c.1) Q (i, t, vs, n) .next s₂ := by
  subst e
  have hi' := Int.ofNat_lt.mp hi
  refine ksw_end (i + 1, t', vs ++ [Value.int ((c.toUInt8.toNat : Nat) : Int) u], n') F N (fun p hp => hp) ⟨hi', ?_⟩ (fun p hp' => ?_) (fun z h1 h2 => ?_) True.intro (by show x.length - (i + 1) < x.length - i; omega)
  · show IntsAre _ ((codes x).take (i + 1))
    rw [List.take_add_one, hg, byte_code hc]
    exact ints_snoc hvs
  · rw [List.mem_singleton.mp hp', hp]; rfl
  · refine hr z (h1 (S "place", .int ((i + 1 : Nat) : Int) t') (.head _)) fun e => ?_
    rw [e] at h2
    simp at h2
end
end
section
/-- a def is entered with all that stands as its ground, but for some things of the caller's that are its ledger -/
theorem code_own {prog : Program} {w : World} {A A₀ : Around} {s : Shared} {K : Frag} {L : Addr} {h₀ base : Heap} {m mg mb : Str → Option Value} {news own : Led} {p : Program} {loose : List Str} {mean : ExcName → Option Value} {env : Env} {outer : List Env} {R : Result → Shared → Prop} {name qual : Str} {params : Arguments} {body : List Stmt} {scope : Scope} {dV kV doc pm cdv ct oc : Value} {an od : Option Addr} {osl : Array (Option Value)} {f : Addr} {args : Args} {binds : List (Str × Value)}
    (O : ∀ p ∈ own, p ∈ news) (B : Below A₀ base outer h₀) (F : Fr h₀ L s.heap m) (X₀ : K.In h₀) (N : News h₀ L s.heap news) (T : Top p loose mean mg mb h₀) (hA : A.frames = some (env :: outer)) (hf : env.frame = some L) (hke : env.scope.kind = .function)
    (ho : K.lookup f = some ⟨oc, od, .func (fnOf name qual params body scope dV kV doc pm an cdv ct), osl⟩) (hcd : codeIn K cdv qual = true) (hroom : A.depth < recursionLimit)
    (hbind : BindsTo s (fnOf name qual params body scope dV kV doc pm an cdv ct) args binds) (hloc : ∀ y ∈ binds, scope.names.lookup y.1 = some .local)
    (h : ∀ g L' h₁, Fr h₀ L g m → Fr g L' h₁ (fun y => binds.reverse.lookup y) → News g L' h₁ own → Below A base (env :: outer) g → K.In g → Top p loose mean mg mb g → (∀ b o, b ∉ own.map (·.1) → s.heap.get? b = some o → g.get? b = some o) → Kp h₀ g → (∀ p ∈ own, p.1 < L') →
      wpAny (model prog w) (A.deeper (envOf qual scope L' f cdv)) (execs body (envOf qual scope L' f cdv))
        (fun fl s' => LeaveK h₀ L m g R (match fl with | .ret v => v | _ => .none) s')
        (fun e s' => wpAny (model prog w) (A.deeper (envOf qual scope L' f cdv)) (leaving (envOf qual scope L' f cdv) e) (fun _ s'' => R (.error e) s'') (fun e' s'' => R (.error e') s'') s')
        { s with heap := h₁, toks := s.toks + binds.length })
    (hco : scope.isCoroutine = false) (hgen : scope.isGenerator = false) (hk : scope.kind = .function)
    (hcell : ∀ x ∈ scope.names, x.2 ≠ .cell) : codeAny (model prog w) A (.call (.ref f) args) R s := by
  have N₁ : News h₀ L s.heap own := fun q hq => N q (O q hq)
  obtain ⟨FG, BG, st, lv⟩ := groundX (R := R) B F N₁ hA hf hke
  refine codeAny_call_def (fd := fnOf name qual params body scope dV kV doc pm an cdv ct) (body := body) (binds := binds) hroom ((X₀.keeps F.keep) _ _ ho) rfl (T.nolimit.keeps F.keep) (codeRec_of (X₀.keeps F.keep) hcd) rfl hbind hcell hloc (fun h₁ hns hk₁ => ?_) hco hgen hk
  exact wpAny_mono (h _ s.heap.objs.size h₁ FG ⟨hns, fun b o e => hk₁ b o (of_hideAll _ e), Nat.le_of_eq (hideAll_size _ _)⟩
    (fun p hp => ⟨hk₁ _ _ (N₁ p hp).1, Nat.ne_of_lt (Heap.lt_size (N₁ p hp).1), hideAll_none _ (List.mem_map_of_mem hp)⟩) BG (X₀.keeps st) (T.keeps st) (fun b o hb e => hideAll_get _ e hb) st (fun p hp => Heap.lt_size (N₁ p hp).1)) (fun fl s' hl => lv _ _ hl) fun _ _ y => y
/-- what a call tells that is given some things of the caller's to look at -/
def TellO (w : World) (f : Addr) (dn ne : Nat) (args : List Value) (kw : List (Str × Value)) (own : Led) (Pre : Heap → Prop) (Out : Value → Prop) : Prop :=
  ∀ (p : Program) (loose : List Str) (mean : ExcName → Option Value) (mg mb : Str → Option Value) (dp un : Nat) (gd : Option (List Code)) (cn : Str) (cs : Scope) (a : Addr) (ccd : Value) (cl : List (Str × Addr)) (outer : List Env) (A₀ : Around) (base h₀ : Heap) (L : Addr) (m : Str → Option Value) (news : Led) (s : Shared)
    (Q E : Value → Shared → Prop),
    Below A₀ base outer h₀ → Fr h₀ L s.heap m → (hd.heap_39 w.params).In h₀ → News h₀ L s.heap news → Top p loose mean mg mb h₀ → cs.kind = .function → dp + dn < recursionLimit → un + ne < cLine → Pre h₀ → (∀ p ∈ own, p ∈ news) →
    (∀ r h' tk', Fr h₀ L h' m → News h₀ L h' news → Out r → Q r { s with heap := h', toks := tk' }) →
    codeAny (model PySem.Challenge.rw_ba0042_01.row.prog w) (ktrTop dp un gd cn cs L a ccd cl outer) (.call (.ref f) ⟨args, kw⟩) (fun r s' => match r with | .ok (.ret v) => Q v s' | .ok _ => False | .error e => E e s') s
section
variable {w : World} {f : Addr} {dn ne : Nat} {args : List Value} {kw : List (Str × Value)} {own : Led} {Pre : Heap → Prop} {p : Program} {loose : List Str} {mean : ExcName → Option Value} {mg mb : Str → Option Value} {dp un : Nat} {gd : Option (List Code)} {cn : Str} {cs : Scope} {a : Addr} {ccd : Value} {cl : List (Str × Addr)} {outer : List Env} {A₀ : Around} {base h₀ : Heap} {L : Addr} {m : Str → Option Value} {news : Led} {s : Shared}
    {Q E : Value → Shared → Prop}
theorem TellO.use {Out : Value → Prop} (C : TellO w f dn ne args kw own Pre Out) (B : Below A₀ base outer h₀) (F : Fr h₀ L s.heap m) (X : (hd.heap_39 w.params).In h₀) (N : News h₀ L s.heap news) (T : Top p loose mean mg mb h₀) (hk : cs.kind = .function) (hd : dp + dn < recursionLimit) (hu : un + ne < cLine) (pre : Pre h₀) (O : ∀ p ∈ own, p ∈ news)
    (ret : ∀ r h' tk', Fr h₀ L h' m → News h₀ L h' news → Out r → Q r { s with heap := h', toks := tk' }) :
    wpAny (model PySem.Challenge.rw_ba0042_01.row.prog w) (ktrTop dp un gd cn cs L a ccd cl outer) (call (.ref f) args kw) Q E s := wpAny_call (C _ _ _ _ _ _ _ _ _ _ _ _ _ _ _ _ _ _ _ _ _ _ _ B F X N T hk hd hu pre O ret)
theorem TellO.meth {Out : Value → Prop} {self : Value} {pos : List Value} {q : Addr} (C : TellO w f dn ne (self :: pos) kw own Pre Out) (hq : (q, methodObj (.ref f) self) ∈ news) (B : Below A₀ base outer h₀) (F : Fr h₀ L s.heap m) (X : (hd.heap_39 w.params).In h₀) (N : News h₀ L s.heap news) (T : Top p loose mean mg mb h₀) (hk : cs.kind = .function) (hd : dp + dn < recursionLimit) (hu : un + ne < cLine) (pre : Pre h₀) (O : ∀ p ∈ own, p ∈ news)
    (ret : ∀ r h' tk', Fr h₀ L h' m → News h₀ L h' news → Out r → Q r { s with heap := h', toks := tk' }) :
    wpAny (model PySem.Challenge.rw_ba0042_01.row.prog w) (ktrTop dp un gd cn cs L a ccd cl outer) (call (.ref q) pos kw) Q E s := call_meth N hq (C _ _ _ _ _ _ _ _ _ _ _ _ _ _ _ _ _ _ _ _ _ _ _ B F X N T hk hd hu pre O ret)
/-- the end of such a contract -/
theorem backO {g h' : Heap} {L' : Addr} {m' : Str → Option Value} {tl : Led} (N : News h₀ L s.heap news) (O : ∀ p ∈ own, p ∈ news) (hs : ∀ b o, b ∉ own.map (·.1) → s.heap.get? b = some o → g.get? b = some o) (F' : Fr g L' h' m') (kN : News h₀ L h' tl) (ho : ∀ p ∈ own, p ∈ tl) : News h₀ L h' news := fun p hp => by
  by_cases hm : p.1 ∈ own.map (·.1)
  · obtain ⟨q, hq, e⟩ := List.mem_map.mp hm
    have h1 := (N q (O q hq)).1
    have h2 := (N p hp).1
    rw [e, h2] at h1
    injection h1 with h1
    have : p = q := Prod.ext e.symm h1
    rw [this]
    exact kN q (ho q hq)
  · exact ⟨F'.keep _ _ (hs _ _ hm (N p hp).1), (N p hp).2⟩
end
theorem inst_fr {h₀ h : Heap} {L x C : Addr} {m : Str → Option Value} {ox : Obj} {od : Option Obj} (F : Fr h₀ L h m) (I : W.InstAt h₀ x ox C od) : W.InstAt h x ox C od := InstAt.kept I F.keep
/-- how a name and its value are written -/
def attrF (n x : Str) : Str := S " " ++ n ++ S "=\"" ++ shownF x ++ S "\""
theorem attr_sz {n x : Str} (hn : Sz n 1) (hx : x ∈ rawsL) : Sz (attrF n x) 5 :=
  Sz.app (a := 4) (b := 1) (Sz.app (a := 3) (b := 1) (Sz.app (a := 2) (b := 1) (Sz.app (a := 1) (b := 1) (Sz.one (by decide +kernel)) hn) (Sz.one (by decide +kernel))) (raw_sz hx)) (Sz.one (by decide +kernel))
theorem own_nil {news : Led} : ∀ p ∈ ([] : Led), p ∈ news := fun _ h => nomatch h
theorem own_one {news : Led} {q : Addr × Obj} (h : q ∈ news) : ∀ p ∈ [q], p ∈ news := fun p hp => by rw [List.mem_singleton.mp hp]; exact h
theorem txt_join0 : Txt.join (S "") [] = S "" := by decide +kernel
theorem txt_join1 (x : Str) : Txt.join (S "") [x] = x := by
  have e : Txt.join (S "") [x] = Str.join (S "") [x] := by simpa using join_plain_closes (S "") [x]
  rw [e]; rfl
theorem txt_join2 (x y : Str) : Txt.join (S "") [x, y] = x ++ y := by
  have e : Txt.join (S "") [x, y] = Str.join (S "") [x, y] := by simpa using join_plain_closes (S "") [x, y]
  rw [e]
  show x ++ S "" ++ y = x ++ y
  apply Str.ext'
  simp [Str.cps_append, show (S "").cps = #[] from by decide +kernel]
section
variable {w : World} {A : Around} {E : Value → Shared → Prop} {s : Shared} {h₀ : Heap} {L : Addr} {news : Led} {l : Addr} {c : Nat} {x y : Str} {t t1 t2 : Tok} {Q : Value → Shared → Prop}
theorem join_0 (N : News h₀ L s.heap news) (hm : (l, W.listOf [].toArray c) ∈ news) (h : ∀ t' k, Q (.str (S "") t') { s with toks := k }) :
    wpAny (mdl w) A (call (.builtin "str.join") [.str (S "") t, .ref l]) Q E s := by
  refine join_listW (items := #[]) (ys := []) ⟨_, (N _ hm).1, rfl, c, rfl⟩ .nil (by decide +kernel) (by decide) fun t' k => ?_
  rw [txt_join0]; exact h t' k
theorem join_1 {n : Nat} (N : News h₀ L s.heap news) (hm : (l, W.listOf [Value.str x t1].toArray c) ∈ news) (hx : Sz x n) (hn : n ≤ 9) (h : ∀ t' k, Q (.str x t') { s with toks := k }) :
    wpAny (mdl w) A (call (.builtin "str.join") [.str (S "") t, .ref l]) Q E s := by
  refine join_listW (items := [Value.str x t1].toArray) (ys := [x]) ⟨_, (N _ hm).1, rfl, c, rfl⟩ (.cons _ _ .nil) (by decide +kernel) (by unfold Sz at hx; simp; omega) fun t' k => ?_
  rw [txt_join1]; exact h t' k
theorem join_2 {n n' : Nat} (N : News h₀ L s.heap news) (hm : (l, W.listOf [Value.str x t1, Value.str y t2].toArray c) ∈ news) (hx : Sz x n) (hy : Sz y n') (hn : n + n' ≤ 10) (h : ∀ t' k, Q (.str (x ++ y) t') { s with toks := k }) :
    wpAny (mdl w) A (call (.builtin "str.join") [.str (S "") t, .ref l]) Q E s := by
  refine join_listW (items := [Value.str x t1, Value.str y t2].toArray) (ys := [x, y]) ⟨_, (N _ hm).1, rfl, c, rfl⟩ (.cons _ _ (.cons _ _ .nil)) (by decide +kernel) (by unfold Sz at hx hy; simp; omega) fun t' k => ?_
  rw [txt_join2]; exact h t' k
end
end
section
section
variable {prog : Program} {w : World} {A : Around} {R : GenEnd} {Y : Protocol} {n : Nat} {s₀ : Shared} {c : Code} {fs : List Frame} {s : Shared} {env : Env}
  {K : Flow → Sem PySem.Fin} {H : Value → Sem PySem.Fin} {gd : Bool → Bool} {lv : List Value → List Value}
abbrev NoE : Value → Shared → Prop := fun _ _ => False
theorem noE {α : Type} {M : Model} {m : Sem α} {Q Q' : α → Shared → Prop} {E : Value → Shared → Prop} (h : wpAny M A m Q NoE s) (hq : ∀ a s', Q a s' → Q' a s') : wpAny M A m Q' E s := wpAny_mono h hq fun _ _ x => x.elim
/-- how the loop's end goes on -/
abbrev loopK (env : Env) (K : Flow → Sem PySem.Fin) (H : Value → Sem PySem.Fin) (gd : Bool → Bool) (lv : List Value → List Value) : Result → Sem PySem.Fin := fun r =>
  ((match r with | .ok f => (.pure f : Sem Flow) | .error e => .raise e).onRaise fun (x : Value) => do
        if (← field x 1) == Value.none then unsupported "frame.own-activation:exception-without-traceback"
        setFlight x env.frame).wrap K H gd lv
theorem seg_For {target : PySem.Expr} {iter : PySem.Expr} {body orelse : List Stmt} {pos : Pos} (hs : ∀ x, foldedSetIterable iter env x = pure x)
    (h : wpAny (model prog w) (A.over c fs) (eval iter env) (fun x s₁ => wpAny (model prog w) (A.over c fs) (pyIter x) (fun it s₂ =>
      ∀ p, Seg (model prog w) A R Y n s₀ (.forLoop target it body orelse env) ((model prog w).den (.forLoop target it body orelse env)) (.ret (loopK env K H gd lv) none (gd false) (lv []) c p [] :: fs) s₂) NoE s₁) NoE s) :
    Seg (model prog w) A R Y n s₀ c ((exec (.For target iter body orelse pos) env).wrap K H gd lv) fs s := by
  rw [exec_For]
  refine seg_bind_wrap (wpAny_standAt ?_)
  refine seg_bind_wrap (noE h fun x s₁ h₁ => ?_)
  refine seg_bind_wrap (wpAny_of_eq (hs x) ?_)
  refine seg_bind_wrap (wpAny_standAt ?_)
  refine seg_bind_wrap (wpAny_holding (noE h₁ fun it s₂ h₂ => ?_))
  exact seg_call h₂
abbrev bodyK (target : PySem.Expr) (it : Value) (body orelse : List Stmt) (env : Env) : Flow → Sem PySem.Fin := fun f => match f with
  | .next | .cont => .pure (.again (.forLoop target it body orelse env))
  | .brk => .pure (.done .next)
  | .ret v => .pure (.done (.ret v))
abbrev bodyH (env : Env) : Value → Sem PySem.Fin := fun e => (do noteFrame e env; theTreesLotGoes e : Sem Unit).wrap (fun _ => .raise e) .raise id id
theorem seg_turn {target : PySem.Expr} {it : Value} {body orelse : List Stmt} (ht : ∀ v, letOwnedTupleGo target it v = pure ())
    (h : wpAny (model prog w) (A.over (.forLoop target it body orelse env) fs) (pyNext it) (fun r s₁ => match r with
      | none => Seg (model prog w) A R Y n s₀ (.block orelse env) ((model prog w).den (.block orelse env)) fs s₁
      | some v => wpAny (model prog w) (A.over (.forLoop target it body orelse env) fs) (assign target env v) (fun _ s₂ =>
          Seg (model prog w) A R Y n s₀ (.forLoop target it body orelse env) ((execs body env).wrap (bodyK target it body orelse env) (bodyH env) id id) fs s₂) NoE s₁) NoE s) :
    Seg (model prog w) A R Y n s₀ (.forLoop target it body orelse env) ((model prog w).den (.forLoop target it body orelse env)) fs s := by
  show Seg _ A R Y n s₀ _ ((forTurn target it body orelse env).onRaise (fun x => do noteFrame x env; theTreesLotGoes x)) fs s
  unfold forTurn
  rw [Sem.onRaise_eq_wrap]
  refine seg_bind_wrap (wpAny_standAt ?_)
  refine seg_bind_wrap (wpAny_onRaise (noE h fun r s₁ h₁ => ?_))
  cases r with
  | none => exact seg_again rfl h₁
  | some v =>
    refine seg_bind_wrap (wpAny_of_eq (ht v) ?_)
    refine seg_bind_wrap (noE h₁ fun _ s₂ h₂ => ?_)
    rw [Sem.bind_eq_wrap', Sem.wrap_wrap]
    rw [Sem.wrap_congr (execs body env) _ _ (K' := bodyK target it body orelse env) (H' := bodyH env)
      (fun f => by cases f <;> rfl)
      (fun e => by first | exact Sem.bind_eq_wrap _ _ | (show (do noteFrame e env; theTreesLotGoes e : Sem Unit).bind (fun _ => .raise e) = _; rw [Sem.bind_eq_wrap]))]
    exact h₂
theorem pyNext_def {E : Value → Shared → Prop} {a : Addr} {g n : Nat} {gs : GenState} {P : Nat → Shared → Shared → Prop} {Y : Protocol} {Q : Option Value → Shared → Prop} (hh : A.handled = none)
    (hl : s.heap.NoLimit) (hroom : A.depth < recursionLimit)
    (hg : s.heap.IsGen a g) (hgs : s.gens[g]? = some gs)
    (hgo : gs.Goes (model prog w) A.in1 (fun n s₀ r s₁ => r = .ok (.ret .none) ∧ P n s₀ s₁) Y n (.send .none) (s.setGen g .running))
    (hY : ∀ v s₁ gs', gs'.bare = true → Y (n - 1) (s.setGen g .running) v s₁ (fun r' s'' => match n with
        | 0 => False
        | m + 1 => gs'.Goes (model prog w) A.in1 (fun n s₀ r s₁ => r = .ok (.ret .none) ∧ P n s₀ s₁) Y m r' s'') → Q (some v) (s₁.setGen g gs'))
    (hP : ∀ s₁, P n (s.setGen g .running) s₁ → ∀ h', (∀ b o, s₁.heap.get? b = some o → h'.get? b = some o) → Q none { s₁.setGen g .finished with heap := h' }) :
    wpAny (model prog w) A (pyNext (.ref a)) Q E s := by
  unfold pyNext
  refine wpAny_bind (wpAny_attempt (wpAny_callSpecial?_slot (name := Str.ofString "__next__") hg.typeIs slot_gen_next
    (wpAny_call_entry slot_gen_next hg.typeIs entry_gen_next ?_ (args_gen_next _))))
  show wpAny _ A.in1 (Builtin.Generator.genWake (.ref a) (.send .none)) _ _ s
  unfold Builtin.Generator.genWake
  refine wpAny_bind (wpAny_holding (wpAny_genNumber hg (wpAny_bind (wpAny_genState hgs ?_))))
  cases gs with
  | running => exact hgo.elim
  | finished => exact hgo.elim
  | _ =>
    refine wpAny_bind (wpAny_roomToWake hl hroom ?_)
    show wpAny _ A.in1 (.resume g (.send .none) [] _) _ _ s
    refine wpAny_resumeQ hgs hgo (fun x s₁ hx => ?_) (fun v s₁ gs' hb hv => ?_)
    · obtain ⟨rfl, hp⟩ := hx
      show wpAny _ A.in1 (newExc (.type "StopIteration") [] >>= _) _ _ _
      refine wpAny_bind ?_
      simp only [newExc, newTuple]
      refine wpAny_bind (wpAny_newObj_type ?_ (by size_fits))
      refine wpAny_bind (m := firstArgMember _ _) (wpAny_of_eq (a := Value.none) (by first | rfl | (simp only [firstArgMember]; rfl)) ?_)
      refine wpAny_newObj_type ?_ (by size_fits)
      simp only [raiseNew]
      refine wpAny_bind (wpAny_bind (wpAny_handled ?_))
      first | rw [show A.in1.handled = none from hh] | rw [hh]
      refine wpAny_throw ?_
      refine wpAny_bind (wpAny_isInstance (T := "StopIteration") (b := true) ⟨_, Heap.get?_push_size _ rfl, rfl⟩ isSubtype_stop ?_)
      exact wpAny_pure (hP s₁ hp _ fun b o hb => Heap.get?_push_of_some _ (Heap.get?_push_of_some _ hb))
    · exact wpAny_pure ⟨v, rfl, wpAny_pure (hY v s₁ gs' hb hv)⟩
end
end
section
def Since (G : Heap) (L' S a : Addr) (oa : Obj) (s₀ s : Shared) : Prop :=
  ∃ h tk g m oS, s = { s₀ with heap := h, toks := tk, gens := g } ∧ GX s₀.gens g ∧ Fr G L' h m ∧ News G L' s₀.heap [(S, oS)] ∧ News G L' h [(S, oS), (a, oa)]
def KeptBut (S : Addr) (h h' : Heap) : Prop := ∀ b o, b ≠ S → h.get? b = some o → h'.get? b = some o
theorem news1 {G h : Heap} {L : Addr} {p : Addr × Obj} {news : Led} (N : News G L h news) (hp : p ∈ news) : News G L h [p] := fun q hq => by rw [List.mem_singleton.mp hq]; exact N p hp
theorem frBut {G h h' : Heap} {L S : Addr} {m : Str → Option Value} (F : Fr G L h m) (k : KeptBut S h h') (hS : S ≠ L) (hG : G.get? S = none) : Fr G L h' m :=
  ⟨F.ns.at' fun o e => k L o (Ne.symm hS) e, fun b o e => k b o (fun q => by rw [q, hG] at e; cases e) (F.keep b o e), F.above⟩
abbrev genR (G : Heap) (L' S a : Addr) (oa : Obj) : GenEnd := fun n s₀ r s₁ => r = .ok (.ret .none) ∧ (n = 0 ∧ Since G L' S a oa s₀ s₁)
abbrev genY (G : Heap) (L' S a : Addr) (oa : Obj) (ys : List Str) : Protocol := fun m s₀ v s kap =>
  (∃ y t, v = .str y t ∧ ys[ys.length - 1 - m]? = some y) ∧ Since G L' S a oa s₀ s ∧ ∀ s'' : Shared, KeptBut S s.heap s''.heap → (∃ oS, News G L' s''.heap [(S, oS)]) → kap (.send .none) s''
section
variable {prog : Program} {w : World} {A A' : Around} {G : Heap} {L' S a l : Addr} {oa : Obj} {vs : List Value} {ys : List Str} {m₀ : Str → Option Value} {env : Env} {x : Str} {px ypos pos : Pos} {e : PySem.Expr} {bd : List Stmt}
  {K : Flow → Sem PySem.Fin} {H : Value → Sem PySem.Fin} {gd : Bool → Bool} {lv : List Value → List Value}
/-- what the yielded expression is worth -/
def EltOk (prog : Program) (w : World) (A' : Around) (G : Heap) (L' : Addr) (vs : List Value) (ys : List Str) (m₀ : Str → Option Value) (env : Env) (x : Str) (e : PySem.Expr) : Prop :=
  ∀ (i : Nat) (v : Value) (y : Str) (s₂ : Shared) (m₂ : Str → Option Value) (news : Led), vs[i]? = some v → ys[i]? = some y → Fr G L' s₂.heap m₂ → m₂ x = some v → (∀ z, z ≠ x → m₂ z = m₀ z) → News G L' s₂.heap news →
    wpAny (model prog w) A' (eval e env) (fun r s₃ => ∃ h' tk g' t, r = .str y t ∧ s₃ = { s₂ with heap := h', toks := tk, gens := g' } ∧ Fr G L' h' m₂ ∧ News G L' h' news ∧ GX s₂.gens g') NoE s₂
theorem seg_loop (hlen : vs.length = ys.length) (hA : A'.handled = none) (hL : env.locals = L') (hx : env.kindOf x = some .local) (hp : (env.scope.kind == .class || (env.scope.kind == .module && env.locals != env.globals)) = false)
    (hco : env.scope.isCoroutine = false) (hi : interactive env = false) (hl : G.IsList l vs.toArray) (hK : K .next = .pure (.done (.ret .none))) (hgd : gd false = false)
    (hA' : ∀ (it : Value) k li p, A.over (.forLoop (.Name x px) it [.Expr (.Yield (some e) ypos) pos] [] env) [.ret k none false li (.func bd env) p []] = A')
    (elt : EltOk prog w A' G L' vs ys m₀ env x e) (hSa : S ≠ a) :
    ∀ (k i : Nat) (s₀ s : Shared) (it : Addr) (m : Str → Option Value) (p : Pos) (li : List Value), ys.length - i = k → i ≤ ys.length → Fr G L' s.heap m → (∀ z, z ≠ x → m z = m₀ z) → s.heap.IsListIter it l i → it ≠ L' → it ≠ S → it ≠ a → G.get? it = none → Since G L' S a oa s₀ s →
      Seg (model prog w) A (genR G L' S a oa) (genY G L' S a oa ys) (ys.length - i) s₀ (.forLoop (.Name x px) (.ref it) [.Expr (.Yield (some e) ypos) pos] [] env)
        ((model prog w).den (.forLoop (.Name x px) (.ref it) [.Expr (.Yield (some e) ypos) pos] [] env)) [.ret (loopK env K H gd lv) none false li (.func bd env) p []] s := by
  intro k
  induction k with
  | zero =>
    intro i s₀ s it m p li hk hile F hm hit hitL hitS hita hitG hs
    have hin : i = ys.length := by omega
    subst hin
    have hls : s.heap.IsList l vs.toArray := hl.at fun o e => F.keep l o e
    have hlI : l ≠ it := fun q => by obtain ⟨o, e, _⟩ := hl; rw [q, hitG] at e; cases e
    refine seg_turn (fun _ => rfl) ?_
    rw [hA']
    have W := Walks.list (prog := prog) (w := w) hA it l hlI vs.toArray
    have hsz : vs.toArray.size = ys.length := by simp [hlen]
    rw [hsz] at W
    refine W.done s _ _ ⟨hit, hls⟩ fun h' tk hk' => ?_
    show Seg _ A _ _ _ s₀ _ ((execs [] env).onRaise (fun x => do noteFrame x env; theTreesLotGoes x) >>= fun f => pure (.done f)) _ _
    have e1 : ((execs [] env).onRaise (fun x => do noteFrame x env; theTreesLotGoes x) >>= fun f => (pure (.done f) : Sem PySem.Fin)) = leafOf (.ok .next) := rfl
    rw [e1]
    refine seg_leaf _ ?_
    show Seg _ A _ _ _ s₀ _ (K .next) [] _
    rw [hK]
    refine seg_end (.ok (.ret .none)) ⟨rfl, by omega, ?_⟩
    obtain ⟨h, tk₁, g, m₁, oS, rfl, hg, F₁, N₀, N₁⟩ := hs
    have kp : KeptBut it h h' := fun b o hb e => hk' b o (fun q => hb (List.mem_singleton.mp q)) e
    refine ⟨h', tk, g, m₁, oS, rfl, hg, frBut F₁ kp hitL hitG, N₀, fun q hq => ⟨kp _ _ (fun e => ?_) (N₁ q hq).1, (N₁ q hq).2⟩⟩
    rcases List.mem_cons.mp hq with rfl | hq
    · exact hitS e.symm
    · rw [List.mem_singleton.mp hq] at e; exact hita e.symm
  | succ k ih =>
    intro i s₀ s it m p li hk hile F hm hit hitL hitS hita hitG hs
    have hlt : i < ys.length := by omega
    have hls : s.heap.IsList l vs.toArray := hl.at fun o e => F.keep l o e
    have hlI : l ≠ it := fun q => by obtain ⟨o, e, _⟩ := hl; rw [q, hitG] at e; cases e
    refine seg_turn (fun _ => rfl) ?_
    rw [hA']
    have W := Walks.list (prog := prog) (w := w) hA it l hlI vs.toArray
    have hsz : vs.toArray.size = ys.length := by simp [hlen]
    rw [hsz] at W
    refine W.item i s _ _ hlt ⟨hit, hls⟩ fun v h₁ tk₁ hv st₁ hk₁ => ?_
    obtain ⟨h, tk₀, g, m₁, oS, rfl, hg, F₁, N₀, N₁⟩ := hs
    have kp : KeptBut it h h₁ := fun b o hb e => hk₁ b o (fun q => hb (List.mem_singleton.mp q)) e
    have F₂ := frBut F kp hitL hitG
    have N₂ : News G L' h₁ [(S, oS), (a, oa)] := fun q hq => ⟨kp _ _ (fun e => by
      rcases List.mem_cons.mp hq with rfl | hq
      · exact hitS e.symm
      · rw [List.mem_singleton.mp hq] at e; exact hita e.symm) (N₁ q hq).1, (N₁ q hq).2⟩
    obtain ⟨oi, hoi, hci, hdi⟩ := st₁.1
    have N₃ : News G L' h₁ [(it, oi), (S, oS), (a, oa)] := fun q hq => by
      rcases List.mem_cons.mp hq with rfl | hq
      · exact ⟨hoi, hitL, hitG⟩
      · exact N₂ q hq
    refine wpAny_assign_Name (wpAny_storeName_local hx (hL ▸ F₂.ns) (fun h₂ hn₂ hs₂ => ?_) hp)
    rw [hL] at hn₂ hs₂
    have F₄ : Fr G L' h₂ (fun z => if z = x then some v else m z) := F₂.set hn₂ hs₂
    have N₄ : News G L' h₂ [(it, oi), (S, oS), (a, oa)] := N₃.set hs₂
    refine seg_execs_cons ?_
    have hn : ys.length - i = (ys.length - (i + 1)) + 1 := by omega
    rw [hn]
    refine seg_Expr_Yield rfl rfl rfl ?_ hco hi
    rw [hA']
    have hvi : vs[i]? = some v := by simpa using hv
    obtain ⟨y, hy⟩ : ∃ y, ys[i]? = some y := ⟨ys[i], List.getElem?_eq_getElem hlt⟩
    refine noE (elt i v y _ _ _ hvi hy F₄ (if_pos rfl) (fun z hz => by rw [if_neg hz]; exact hm z hz) N₄) fun r s₃ h₃ => ?_
    obtain ⟨h₅, tk₅, g₅, t, rfl, rfl, F₅, N₅, hg₅⟩ := h₃
    intro kap hkap
    refine ⟨⟨y, t, rfl, ?_⟩, ⟨h₅, tk₅, g₅, _, oS, rfl, hg.trans hg₅, F₅, N₀, fun q hq => N₅ q (.tail _ hq)⟩, fun s'' hkp hS'' => ?_⟩
    · have : ys.length - 1 - (ys.length - (i + 1)) = i := by omega
      rw [this]; exact hy
    · refine hkap .none s'' ?_
      obtain ⟨oS'', NS⟩ := hS''
      have hSn := (N₅ (S, oS) (.tail _ (.head _))).2
      have F₆ := frBut F₅ hkp hSn.1 hSn.2
      refine seg_again rfl (ih (i + 1) s'' s'' it _ p li (by omega) hlt F₆ (fun z hz => by rw [if_neg hz]; exact hm z hz) ⟨oi, hkp _ _ hitS (N₅ _ (.head _)).1, hci, hdi⟩ hitL hitS hita hitG ?_)
      refine ⟨s''.heap, s''.toks, s''.gens, _, oS'', rfl, GX.refl _, F₆, NS, fun q hq => ?_⟩
      rcases List.mem_cons.mp hq with rfl | hq
      · exact NS _ (.head _)
      · have hqa := List.mem_singleton.mp hq
        subst hqa
        exact ⟨hkp _ _ (Ne.symm hSa) (N₅ (a, oa) (.tail _ (.tail _ (.head _)))).1, (N₅ (a, oa) (.tail _ (.tail _ (.head _)))).2⟩
end
end
section
section
variable {prog : Program} {w : World} {A A' : Around} {G : Heap} {L' S a l : Addr} {oa : Obj} {vs : List Value} {ys : List Str} {m₀ : Str → Option Value} {env : Env} {x : Str} {px ypos pos pos2 : Pos} {e iter : PySem.Expr}
theorem seg_start (hlen : vs.length = ys.length) (hA : A'.handled = none) (hL : env.locals = L') (hx : env.kindOf x = some .local) (hp : (env.scope.kind == .class || (env.scope.kind == .module && env.locals != env.globals)) = false)
    (hco : env.scope.isCoroutine = false) (hi : interactive env = false) (hl : G.IsList l vs.toArray) (hs : ∀ x, foldedSetIterable iter env x = pure x)
    (hA' : ∀ (it : Value) k li p, A.over (.forLoop (.Name x px) it [.Expr (.Yield (some e) ypos) pos] [] env) [.ret k none false li (.func [.For (.Name x px) iter [.Expr (.Yield (some e) ypos) pos] [] pos2] env) p []] = A')
    (itOk : ∀ (A'' : Around) (s : Shared), Fr G L' s.heap m₀ → wpAny (model prog w) A'' (eval iter env) (fun r s' => r = .ref l ∧ s' = s) NoE s)
    (elt : EltOk prog w A' G L' vs ys m₀ env x e) (hSa : S ≠ a) {s₀ s : Shared} (F : Fr G L' s.heap m₀) (hsn : Since G L' S a oa s₀ s) :
    Seg (model prog w) A (genR G L' S a oa) (genY G L' S a oa ys) ys.length s₀ (.func [.For (.Name x px) iter [.Expr (.Yield (some e) ypos) pos] [] pos2] env)
      ((model prog w).den (.func [.For (.Name x px) iter [.Expr (.Yield (some e) ypos) pos] [] pos2] env)) [] s := by
  refine seg_func ?_
  refine seg_execs_cons ?_
  refine seg_For hs ?_
  refine noE (itOk _ s F) fun r s' hr => ?_
  obtain ⟨rfl, rfl⟩ := hr
  have hls : s'.heap.IsList l vs.toArray := hl.at fun o e => F.keep l o e
  refine wpAny_pyIter_list hls ?_
  intro p
  have hlt : ∀ b o, s'.heap.get? b = some o → b ≠ s'.heap.objs.size := fun b o e => Nat.ne_of_lt (Heap.lt_size e)
  obtain ⟨h, tk, g, m₁, oS, e1, hg, F₁, N₀, N₁⟩ := hsn
  have e2 : s'.heap = h := by rw [e1]
  have loop := seg_loop (A := A) (S := S) (a := a) (oa := oa) (K := fun f => match f with
      | .next => (execs [] env).wrap (fun f => .pure (.done (.ret (match f with | .ret v => v | _ => .none)))) (fun e => (leaving env e).wrap (fun _ => .raise e) .raise id id) id id
      | f => .pure (.done (.ret (match f with | .ret v => v | _ => .none)))) (H := fun e => (leaving env e).wrap (fun _ => .raise e) .raise id id) (gd := id) (lv := id)
    hlen hA hL hx hp hco hi hl rfl rfl hA' elt hSa ys.length 0 s₀ { s' with heap := s'.heap.push { cls := .type "list_iterator", data := .fields #[.ref l, .int 0 0] } } s'.heap.objs.size m₀ p [] (Nat.sub_zero _) (Nat.zero_le _) (F.push _) (fun _ _ => rfl)
    ⟨_, Heap.get?_push_size _ rfl, rfl, rfl⟩ (fun q => by
      obtain ⟨o, es, ep, hL, _⟩ := F.ns
      exact hlt _ _ hL q.symm) (fun q => by
      have := (N₁ (S, oS) (.head _)).1
      rw [← e2] at this
      exact hlt _ _ this q.symm) (fun q => by
      have := (N₁ (a, oa) (.tail _ (.head _))).1
      rw [← e2] at this
      exact hlt _ _ this q.symm) (by
      cases q : G.get? s'.heap.objs.size with
      | none => rfl
      | some o => exact absurd rfl (hlt _ _ (F.keep _ _ q))) ⟨_, s'.toks, g, m₀, oS, by rw [e1], hg, F.push _, N₀, fun q hq => ⟨Heap.get?_push_of_some _ (by rw [e2]; exact (N₁ q hq).1), (N₁ q hq).2⟩⟩
  exact loop
/-- the generator's own place among the generators may change -/
def GB (gi : Nat) (a b : Array GenState) : Prop := a.size ≤ b.size ∧ (∀ j, j < a.size → j ≠ gi → b[j]? = a[j]?) ∧ (AllBare a → AllBare b)
theorem GB.refl (gi : Nat) (a : Array GenState) : GB gi a a := ⟨Nat.le_refl _, fun _ _ _ => rfl, id⟩
theorem GB.trans {gi : Nat} {a b c : Array GenState} (x : GB gi a b) (y : GB gi b c) : GB gi a c :=
  ⟨Nat.le_trans x.1 y.1, fun j h hn => (y.2.1 j (Nat.lt_of_lt_of_le h x.1) hn).trans (x.2.1 j h hn), fun h => y.2.2 (x.2.2 h)⟩
theorem GX.gb {gi : Nat} {a b : Array GenState} (x : GX a b) : GB gi a b := ⟨x.1, fun j h _ => x.2.1 j h, x.2.2⟩
theorem bare_set {a : Array GenState} {gi : Nat} {y : GenState} (h : AllBare a) (hy : y.bare = true) : AllBare (a.setIfInBounds gi y) := by
  intro z hz
  obtain ⟨i, hi, rfl⟩ := Array.mem_iff_getElem.mp hz
  have hi' : i < a.size := by simpa using hi
  rw [Array.getElem_setIfInBounds hi']
  split
  · exact hy
  · exact h _ (Array.getElem_mem hi')
theorem GB.set (s : Shared) (gi : Nat) {y : GenState} (hy : y.bare = true) : GB gi s.gens (s.setGen gi y).gens :=
  ⟨by simp [Shared.setGen], fun j _ hn => by simp [Shared.setGen, Ne.symm hn], fun h => bare_set h hy⟩
def GInv (prog : Program) (w : World) (A : Around) (G : Heap) (L' S a : Addr) (oa : Obj) (ys : List Str) (gi i : Nat) (s : Shared) : Prop :=
  s.heap.IsGen a gi ∧ s.heap.NoLimit ∧ News G L' s.heap [(a, oa)] ∧ (∃ m, Fr G L' s.heap m) ∧ ∃ gs, s.gens[gi]? = some gs ∧ ∀ s'' : Shared, KeptBut S s.heap s''.heap → (∃ oS, News G L' s''.heap [(S, oS)]) →
    gs.Goes (model prog w) A.in1 (genR G L' S a oa) (genY G L' S a oa ys) (ys.length - i) (.send .none) s''
variable {gi : Nat} {E : Value → Shared → Prop}
theorem since_out {s₀ s : Shared} {oS : Obj} (h : Since G L' S a oa s₀ s) (N : News G L' s₀.heap [(S, oS)]) : ∃ h' tk g m, s = { s₀ with heap := h', toks := tk, gens := g } ∧ GX s₀.gens g ∧ Fr G L' h' m ∧ News G L' h' [(S, oS)] ∧ News G L' h' [(a, oa)] := by
  obtain ⟨h', tk, g, m, oS', e, hg, F, N₀, N₁⟩ := h
  have e1 := (N₀ _ (.head _)).1
  rw [(N _ (.head _)).1] at e1
  injection e1 with e1
  subst e1
  exact ⟨h', tk, g, m, e, hg, F, news1 N₁ (.head _), news1 N₁ (.tail _ (.head _))⟩
theorem isGen_of {h h' : Heap} {g : Nat} (x : h.IsGen a g) (N : News G L' h [(a, oa)]) (N' : News G L' h' [(a, oa)]) : h'.IsGen a g := by
  obtain ⟨o, nm, qn, ho, r⟩ := x
  have := (N _ (.head _)).1
  rw [ho] at this
  injection this with this
  subst this
  exact ⟨_, nm, qn, (N' _ (.head _)).1, r⟩
theorem noLimit_of {h : Heap} {m : Str → Option Value} (T : G.NoLimit) (F : Fr G L' h m) : h.NoLimit := T.keeps F.keep
theorem gen_item {i : Nat} {s : Shared} {oS : Obj} {Q : Option Value → Shared → Prop} (hh : A.handled = none) (hroom : A.depth < recursionLimit) (T : G.NoLimit) (hi : i < ys.length) (I : GInv prog w A G L' S a oa ys gi i s) (NS : News G L' s.heap [(S, oS)])
    (hQ : ∀ y t h' tk g, ys[i]? = some y → GInv prog w A G L' S a oa ys gi (i + 1) { s with heap := h', toks := tk, gens := g } → News G L' h' [(S, oS)] → GB gi s.gens g → Q (some (.str y t)) { s with heap := h', toks := tk, gens := g }) :
    wpAny (model prog w) A (pyNext (.ref a)) Q E s := by
  obtain ⟨hg, hl, Na, ⟨m, F⟩, gs, hgs, hgo⟩ := I
  obtain ⟨k, hk⟩ : ∃ k, ys.length - i = k + 1 := ⟨ys.length - i - 1, by omega⟩
  rw [hk] at hgo
  refine pyNext_def (P := fun n s₀ s₁ => n = 0 ∧ Since G L' S a oa s₀ s₁) hh hl hroom hg hgs (hgo (s.setGen gi .running) (fun _ _ _ e => e) ⟨oS, NS⟩) (fun v s₁ gs' hb hv => ?_) (fun s₁ hp h' hk' => ?_)
  · obtain ⟨⟨y, t, rfl, hy⟩, hsn, hkap⟩ := hv
    have hidx : ys.length - 1 - (k + 1 - 1) = i := by omega
    rw [hidx] at hy
    obtain ⟨h', tk, g, m', rfl, hgx, F', NS', Na'⟩ := since_out hsn NS
    refine hQ y t h' tk _ hy ⟨isGen_of hg Na Na', noLimit_of T F', Na', ⟨m', F'⟩, gs', ?_, fun s'' hkp hS'' => ?_⟩ NS' ?_
    · have h1 : g[gi]? = some .running := by
        have : gi < (s.setGen gi .running).gens.size := by
          have := setGen_self (x := .running) hgs
          rcases Nat.lt_or_ge gi (s.setGen gi .running).gens.size with h | h
          · exact h
          · rw [Array.getElem?_eq_none h] at this; cases this
        rw [hgx.2.1 gi this]
        exact setGen_self hgs
      exact setGen_self (s := { s with heap := h', toks := tk, gens := g }) h1
    · have e : ys.length - (i + 1) = k := by omega
      rw [e]
      exact hkap s'' hkp hS''
    · exact ((GB.set s gi rfl).trans hgx.gb).trans (GB.set { s with heap := h', toks := tk, gens := g } gi hb)
  · exact absurd hp.1 (Nat.succ_ne_zero k)
theorem gen_done {s : Shared} {oS : Obj} {Q : Option Value → Shared → Prop} (hh : A.handled = none) (hroom : A.depth < recursionLimit) (I : GInv prog w A G L' S a oa ys gi ys.length s) (NS : News G L' s.heap [(S, oS)])
    (hQ : ∀ h' tk g m, Fr G L' h' m → News G L' h' [(S, oS)] → GB gi s.gens g → Q none { s with heap := h', toks := tk, gens := g }) :
    wpAny (model prog w) A (pyNext (.ref a)) Q E s := by
  obtain ⟨hg, hl, Na, ⟨m, F⟩, gs, hgs, hgo⟩ := I
  rw [Nat.sub_self] at hgo
  refine pyNext_def (P := fun n s₀ s₁ => n = 0 ∧ Since G L' S a oa s₀ s₁) hh hl hroom hg hgs (hgo (s.setGen gi .running) (fun _ _ _ e => e) ⟨oS, NS⟩) (fun v s₁ gs' hb hv => ?_) (fun s₁ hp h' hk' => ?_)
  · obtain ⟨_, hsn, hkap⟩ := hv
    obtain ⟨h', tk, g, m', rfl, hgx, F', NS', Na'⟩ := since_out hsn NS
    exact (hkap { s with heap := h', toks := tk, gens := g } (fun _ _ _ e => e) ⟨oS, NS'⟩).elim
  · obtain ⟨_, hsn⟩ := hp
    obtain ⟨h₂, tk, g, m', rfl, hgx, F', NS', Na'⟩ := since_out hsn NS
    exact hQ h' tk _ m' (F'.keeps hk') (fun q hq => ⟨hk' _ _ (NS' q hq).1, (NS' q hq).2⟩) (((GB.set s gi rfl).trans hgx.gb).trans (GB.set { s with heap := h₂, toks := tk, gens := g } gi rfl))
end
end
section
open PySem.Builtin PySem.Builtin.Str
theorem KeptBut.trans {S : Addr} {a b c : Heap} (x : KeptBut S a b) (y : KeptBut S b c) : KeptBut S a c := fun d o h e => y d o h (x d o h e)
theorem strs_snoc {y : Str} {u : Tok} : ∀ {vs : List Value} {ys : List Str}, StrsAre vs ys → StrsAre (vs ++ [.str y u]) (ys ++ [y])
  | _, _, .nil => .cons _ _ .nil
  | _, _, .cons a b h => .cons a b (strs_snoc h)
section
variable {prog : Program} {w : World} {A : Around} {G : Heap} {L' S a : Addr} {oa : Obj} {ys : List Str} {gi : Nat} {E : Value → Shared → Prop}
theorem GInv.but {i : Nat} {s s' : Shared} (T : G.NoLimit) (I : GInv prog w A G L' S a oa ys gi i s) (k : KeptBut S s.heap s'.heap) (hg : s'.gens = s.gens) (hSa : S ≠ a) (hSL : S ≠ L') (hSG : G.get? S = none) : GInv prog w A G L' S a oa ys gi i s' := by
  obtain ⟨h1, h2, h3, ⟨m, F⟩, gs, hgs, hgo⟩ := I
  have h3' : News G L' s'.heap [(a, oa)] := fun q hq => by
    have := List.mem_singleton.mp hq; subst this
    exact ⟨k _ _ (Ne.symm hSa) (h3 _ (.head _)).1, (h3 _ (.head _)).2⟩
  exact ⟨isGen_of h1 h3 h3', noLimit_of T (frBut F k hSL hSG), h3', ⟨m, frBut F k hSL hSG⟩, gs, by rw [hg]; exact hgs, fun s'' hk hS => hgo s'' (k.trans hk) hS⟩
theorem ext_gen (T : G.NoLimit) (hh : A.in1.handled = none) (hroom : A.in1.depth < recursionLimit) (hSa : S ≠ a) (hSL : S ≠ L') (hSG : G.get? S = none) (hn : ys.length ≤ 1000) (res : Value) {R : Result → Shared → Prop} :
    ∀ (k i : Nat) (s : Shared) (acc : Array Value) (c : Nat), ys.length - i = k → i ≤ ys.length → GInv prog w A.in1 G L' S a oa ys gi i s → News G L' s.heap [(S, W.listOf acc c)] → StrsAre acc.toList (ys.take i) → acc.size = i →
    (∀ h' tk g m acc' c', Fr G L' h' m → News G L' h' [(S, W.listOf acc' c')] → StrsAre acc'.toList ys → GB gi s.gens g → R (.ok (.ret res)) { s with heap := h', toks := tk, gens := g }) →
    codeAny (model prog w) A (.builtin "list.extend.loop" ⟨[.ref S, .ref a, res], []⟩) R s := by
  have hsz : 1000 ≤ sizeLine := by decide
  intro k
  induction k with
  | zero =>
    intro i s acc c hk hi I NS hacc hsize hR
    have hin : i = ys.length := by omega
    subst hin
    refine codeAny_builtin PySem.F.entry_extend_loop ?_
    rw [Around.under_plainId PySem.F.plain_extend_loop _]
    show wpAny _ A.in1 (pyNext (.ref a) >>= _) _ _ s
    refine wpAny_bind (gen_done hh hroom I NS fun h' tk g m F' NS' hg => ?_)
    rw [List.take_length] at hacc
    exact wpAny_pure (hR h' tk g m acc c F' NS' hacc hg)
  | succ k ih =>
    intro i s acc c hk hi I NS hacc hsize hR
    have hlt : i < ys.length := by omega
    refine codeAny_builtin PySem.F.entry_extend_loop ?_
    rw [Around.under_plainId PySem.F.plain_extend_loop _]
    show wpAny _ A.in1 (pyNext (.ref a) >>= _) _ _ s
    refine wpAny_bind (gen_item hh hroom T hlt I NS fun y t h' tk g hy I' NS' hg => ?_)
    have hS' := (NS' _ (.head _)).1
    show wpAny _ A.in1 (updateSeq S (·.push _) >>= _) _ _ _
    refine wpAny_bind (wpAny_updateSeq hS' rfl (wpAny_pure ⟨plainId_quiet PySem.F.plain_extend_loop _, ?_⟩) (by rw [hsize]; omega) (by show (acc.push _).size ≤ sizeLine + 1; rw [Array.size_push, hsize]; omega))
    have hS'' := Heap.get?_update_self (h := h') (Obj.mapSeq (·.push (Value.str y t))) hS' rfl
    refine ih (i + 1) _ (acc.push (.str y t)) (c + 1) (by omega) hlt (I'.but T (fun b o hb e => (Heap.get?_update_other _ _ (Ne.symm hb)).trans e) rfl hSa hSL hSG) (fun q hq => ?_) ?_ (by rw [Array.size_push, hsize]) fun h₂ tk₂ g₂ m₂ acc₂ c₂ F₂ N₂ hs₂ hg₂ => hR h₂ tk₂ g₂ m₂ acc₂ c₂ F₂ N₂ hs₂ (hg.trans hg₂)
    · have := List.mem_singleton.mp hq; subst this
      exact ⟨hS''.trans (by simp [Obj.mapSeq, W.listOf]), hSL, hSG⟩
    · rw [List.take_add_one, hy]
      simpa using strs_snoc hacc
theorem collect_gen {s : Shared} {Q : List Value → Shared → Prop} (T : G.NoLimit) (hh : A.handled = none) (hroom : A.depth < recursionLimit) (hn : ys.length ≤ 1000) (hGs : G.objs.size ≤ s.heap.objs.size) (hal : a < s.heap.objs.size) (hLl : L' < s.heap.objs.size) (hT : s.heap.IsGen a gi)
    (I : GInv prog w A.in1 G L' s.heap.objs.size a oa ys gi 0 { s with heap := s.heap.push { cls := .type "list", data := .seq ([] : List Value).toArray } })
    (hQ : ∀ h' tk g m vs, Fr G L' h' m → StrsAre vs ys → GB gi s.gens g → Q vs { s with heap := h', toks := tk, gens := g }) : wpAny (model prog w) A (collect (.ref a)) Q E s := by
  have hSa : s.heap.objs.size ≠ a := Nat.ne_of_gt hal
  have hSL : s.heap.objs.size ≠ L' := Nat.ne_of_gt hLl
  have hSG : G.get? s.heap.objs.size = none := by
    cases q : G.get? s.heap.objs.size with
    | none => rfl
    | some o => exact absurd (Heap.lt_size q) (Nat.not_lt.mpr hGs)
  unfold collect
  refine wpAny_bind (wpAny_runValue (codeAny_builtin PySem.F.entry_proto_collect ?_))
  rw [Around.under_plainId PySem.F.plain_proto_collect _]
  show wpAny _ A.in1 (newList [] >>= fun l => again (.builtin "list.__iadd__" ⟨[l, .ref a], []⟩)) _ _ s
  refine wpAny_bind (wpAny_newObj_type ?_)
  refine wpAny_pure ⟨plainId_quiet PySem.F.plain_list_iadd _, codeAny_builtin PySem.F.entry_list_iadd ?_⟩
  rw [Around.under_plainId PySem.F.plain_list_iadd _]
  have hT₁ : (s.heap.push { cls := .type "list", data := .seq ([] : List Value).toArray }).IsGen a gi := hT.push _
  show wpAny _ A.in1 (Builtin.List.listExtendWith (.ref s.heap.objs.size) (.ref a) (.ref s.heap.objs.size)) _ _ _
  unfold Builtin.List.listExtendWith
  refine wpAny_bind (wpAny_typeOf (hT₁.typeIs (s := { s with heap := s.heap.push { cls := .type "list", data := .seq ([] : List Value).toArray } })) ?_)
  have h1 : Builtin.List.listSameRef (.ref s.heap.objs.size) (.ref a) = false := by simp [Builtin.List.listSameRef, hSa]
  have h2 : (Value.type "generator" == Value.type "list") = false := by decide
  have h3 : (Value.type "generator" == Value.type "tuple") = false := by decide
  simp only [h1, h2, h3, Bool.or_false, Bool.false_eq_true, if_false]
  refine wpAny_bind (wpAny_pyIter_gen hT₁ ?_)
  refine wpAny_bind (wpAny_holding ?_)
  unfold Builtin.List.listLengthHint
  refine wpAny_bind (wpAny_specialOf (hT₁.typeIs (s := { s with heap := s.heap.push { cls := .type "list", data := .seq ([] : List Value).toArray } })) PySem.F.gen_no_len ?_)
  show wpAny _ A.in1 (specialOf (Value.ref a) (Str.ofString "__length_hint__") >>= _) _ _ _
  refine wpAny_bind (wpAny_specialOf (hT₁.typeIs (s := { s with heap := s.heap.push { cls := .type "list", data := .seq ([] : List Value).toArray } })) PySem.F.gen_no_hint ?_)
  refine wpAny_pure ?_
  show wpAny _ A.in1 (rule "list.extend.makes-room" >>= fun _ => Builtin.List.listTouch (.ref s.heap.objs.size) >>= fun _ =>
    again (.builtin "list.extend.loop" ⟨[.ref s.heap.objs.size, .ref a, .ref s.heap.objs.size], []⟩)) _ _ _
  refine wpAny_bind (wpAny_rule ?_)
  have hS₁ : (s.heap.push { cls := .type "list", data := .seq ([] : List Value).toArray }).get? s.heap.objs.size = some { cls := .type "list", data := .seq ([] : List Value).toArray } := Heap.get?_push_size _ rfl
  refine wpAny_bind ?_
  show wpAny _ A.in1 (updateSeq s.heap.objs.size (·.push .none) >>= fun _ => updateSeq s.heap.objs.size (·.pop)) _ _ _
  refine wpAny_bind (wpAny_updateSeq hS₁ rfl ?_)
  have hS₂ := Heap.get?_update_self (Obj.mapSeq (·.push Value.none)) hS₁ rfl
  refine wpAny_updateSeq hS₂ rfl ?_
  have hS₃ := Heap.get?_update_self (Obj.mapSeq (·.pop)) hS₂ rfl
  have oth : KeptBut s.heap.objs.size (s.heap.push { cls := .type "list", data := .seq ([] : List Value).toArray })
      (((s.heap.push { cls := .type "list", data := .seq ([] : List Value).toArray }).update s.heap.objs.size (Obj.mapSeq (·.push Value.none))).update s.heap.objs.size (Obj.mapSeq (·.pop))) :=
    fun b o hb e => (Heap.get?_update_other _ _ (Ne.symm hb)).trans ((Heap.get?_update_other _ _ (Ne.symm hb)).trans e)
  refine wpAny_pure ⟨plainId_quiet PySem.F.plain_extend_loop _, ext_gen T hh hroom hSa hSL hSG hn _ ys.length 0 _ #[] 2 rfl (Nat.zero_le _) (GInv.but (s := { s with heap := s.heap.push { cls := .type "list", data := .seq ([] : List Value).toArray } }) T I oth rfl hSa hSL hSG) (fun q hq => ?_) .nil rfl fun h' tk g m acc' c' F' N' hs hg => ?_⟩
  · have := List.mem_singleton.mp hq; subst this
    exact ⟨hS₃.trans (by simp [Obj.mapSeq, W.listOf]), hSL, hSG⟩
  show wpAny _ A (load s.heap.objs.size >>= _) _ _ _
  refine wpAny_bind (wpAny_load (N' _ (.head _)).1 ?_)
  exact wpAny_pure (hQ h' tk g m _ F' hs hg)
end
end
section
open PySem.Builtin PySem.Builtin.Str
def catL : List Str → Str
  | [] => S ""
  | x :: r => x ++ catL r
theorem str_nil_app (x : Str) : S "" ++ x = x := by
  apply Str.ext'
  simp [Str.cps_append, show (S "").cps = #[] from by decide +kernel]
theorem str_app_nil (x : Str) : x ++ S "" = x := by
  apply Str.ext'
  simp [Str.cps_append, show (S "").cps = #[] from by decide +kernel]
theorem join_cat : ∀ ys : List Str, Str.join (S "") ys = catL ys
  | [] => by rfl
  | [x] => (str_app_nil x).symm
  | x :: y :: r => by
    show x ++ S "" ++ Str.join (S "") (y :: r) = x ++ catL (y :: r)
    rw [str_app_nil, join_cat (y :: r)]
theorem txt_join_cat (ys : List Str) : Txt.join (S "") ys = catL ys := by
  have e : Txt.join (S "") ys = Str.join (S "") ys := by simpa using join_plain_closes (S "") ys
  rw [e, join_cat]
theorem cat_len : ∀ ys : List Str, (catL ys).length = (ys.map (·.length)).sum
  | [] => by decide +kernel
  | x :: r => by
    show (x ++ catL r).length = _
    rw [Str.length_append, cat_len r]; rfl
theorem kids_list {R : Value → Str → Prop} : ∀ {vs : List Value} {x : Str}, Kids R vs x → ∃ ys : List Str, vs.length = ys.length ∧ x = catL ys ∧ ∀ (i : Nat) (v : Value) (y : Str), vs[i]? = some v → ys[i]? = some y → R v y
  | [], _, k => by
    cases k
    exact ⟨[], rfl, rfl, fun i v y h _ => by simp at h⟩
  | v :: vs, _, ⟨y, z, hr, hk, e⟩ => by
    obtain ⟨ys, hl, rfl, hy⟩ := kids_list hk
    refine ⟨y :: ys, by simp [hl], e, fun i u x h1 h2 => ?_⟩
    cases i with
    | zero => simp at h1 h2; subst h1; subst h2; exact hr
    | succ i => exact hy i u x (by simpa using h1) (by simpa using h2)
section
variable {prog : Program} {w : World} {A : Around} {G : Heap} {L' a : Addr} {oa : Obj} {ys : List Str} {gi : Nat} {E : Value → Shared → Prop}
theorem join_gen {s : Shared} {t : Tok} {Q : Value → Shared → Prop} (T : G.NoLimit) (hh : A.handled = none) (hroom : A.depth < recursionLimit) (hn : ys.length ≤ 1000) (hsz : (catL ys).length ≤ 16777216) (hGs : G.objs.size ≤ s.heap.objs.size) (hal : a < s.heap.objs.size) (hLl : L' < s.heap.objs.size) (hT : s.heap.IsGen a gi)
    (I : GInv prog w A.in1.in1 G L' s.heap.objs.size a oa ys gi 0 { s with heap := s.heap.push { cls := .type "list", data := .seq ([] : List Value).toArray } })
    (hQ : ∀ h' tk g m t', Fr G L' h' m → GB gi s.gens g → Q (.str (catL ys) t') { s with heap := h', toks := tk, gens := g }) :
    wpAny (model prog w) A (call (.builtin "str.join") [.str (S "") t, .ref a]) Q E s := by
  refine wpAny_call (codeAny_call_builtin PySem.F.slot_str_join.plain PySem.F.entry_str_join (PySem.F.slot_str_join.check _ _ _ _ _ _ _ _ (typeIs_str _ _ _) (PySem.F.args_str_join_2 _ _) ?_))
  rw [join_tree_other]
  refine wpAny_bind (wpAny_typeOf hT.typeIs ?_)
  show wpAny _ A.in1 ((pyIter (.ref a)).tryCatch _ >>= fun it => collect it >>= fun items => joinTail (S "") items) _ _ s
  refine wpAny_bind (wpAny_tryCatch (wpAny_pyIter_gen hT ?_))
  refine wpAny_bind (collect_gen (A := A.in1) T hh hroom hn hGs hal hLl hT I fun h' tk g m vs F' hs hg => ?_)
  obtain ⟨l, hl, ht⟩ := strsAre_values hs
  rw [hl]
  have hok : JoinOk (S "") (l.map (·.1)) = true := by
    rw [ht]
    refine joinOk_of ?_
    have : (S "").length = 0 := by decide +kernel
    rw [this, ← cat_len]; omega
  have hq : ∀ t', Q (.str (Txt.join (S "") (l.map (·.1))) t') { s with heap := h', toks := t', gens := g } → True := fun _ _ => trivial
  unfold JoinOk at hok
  rw [Bool.not_eq_true'] at hok
  have g1 : Gives (joinTail (S "") (strValues l)) (joinMade (S "") l) := by
    have g0 := gives_joinTail (S "") l hok
    cases l with
    | nil => exact g0
    | cons p r => cases r with
      | nil => exact g0
      | cons q r' => exact g0
  refine g1 prog w A (wants Q E) { s with heap := h', toks := tk, gens := g } (post_join l ⟨joinFit_length hok, fun t' k => ?_⟩)
  rw [ht, txt_join_cat]
  exact hQ h' k g m t' F' hg
end
end
section
/-- a generator that stands ready to be joined -/
def GReady (w : World) (A : Around) (h₀ : Heap) (L : Addr) (m : Str → Option Value) (news : Led) (g₀ : Array GenState) (x : Str) (a : Addr) (h' : Heap) (g' : Array GenState) : Prop :=
  ∀ (s' : Shared) (Q E : Value → Shared → Prop) (t : Tok), s'.heap = h' → s'.gens = g' →
    (∀ h'' tk g'' t', Fr h₀ L h'' m → News h₀ L h'' news → GX g₀ g'' → Q (.str x t') { s' with heap := h'', toks := tk, gens := g'' }) →
    wpAny (mdl w) A (call (.builtin "str.join") [.str (S "") t, .ref a]) Q E s'
def TokC (w : World) (esc : Bool) (n dn ne : Nat) : Prop := ∀ (sa st : Addr) (v : Value) (x : Str), TellG w 341 dn ne [.ref sa, v, .ref st] (fun h => SelfAt w esc h sa ∧ TokIn w esc (inHeap h) n v x) (fun r => ∃ t, r = .str x t)
def KidsC (w : World) (esc : Bool) (n dn ne : Nat) : Prop := ∀ (sa l st : Addr) (vs : List Value) (x : Str), vs.length ≤ 3 → x.length ≤ 1000000 → TellG w 216 dn ne [.ref sa, .ref l, .ref st] (fun h => SelfAt w esc h sa ∧ LA (inHeap h) l vs ∧ Kids (TokIn w esc (inHeap h) n) vs x) (fun r => ∃ t, r = .str x t)
theorem tok_use {w : World} {esc : Bool} {n dn ne : Nat} {sa st : Addr} {v : Value} {x : Str} {g : Heap} (hC : TokC w esc n dn ne) (_ : TokIn w esc (inHeap g) n v x) : TellG w 341 dn ne [.ref sa, v, .ref st] (fun h => SelfAt w esc h sa ∧ TokIn w esc (inHeap h) n v x) (fun r => ∃ t, r = .str x t) := hC _ _ _ _
theorem pre_tok {w : World} {esc : Bool} {n : Nat} {sa L : Addr} {m : Str → Option Value} {v : Value} {x : Str} {g h : Heap} (R : TokIn w esc (inHeap g) n v x) (H : SelfAt w esc g sa) (F : Fr g L h m) : SelfAt w esc h sa ∧ TokIn w esc (inHeap h) n v x := ⟨SelfAt.kept H F.keep, TokIn.mono (fun d o e => F.keep d o e) (Nat.le_refl _) R⟩
theorem kids_use {w : World} {esc : Bool} {n dn ne : Nat} {sa l st : Addr} {vs : List Value} {x : Str} {g : Heap} (hC : KidsC w esc n dn ne) (hv : vs.length ≤ 3) (hx : x.length ≤ 100000) (_ : Kids (TokIn w esc (inHeap g) n) vs x) : TellG w 216 dn ne [.ref sa, .ref l, .ref st] (fun h => SelfAt w esc h sa ∧ LA (inHeap h) l vs ∧ Kids (TokIn w esc (inHeap h) n) vs x) (fun r => ∃ t, r = .str x t) := hC _ _ _ _ _ hv (Nat.le_trans hx (by decide))
theorem pre_kids {w : World} {esc : Bool} {n : Nat} {sa l L : Addr} {m : Str → Option Value} {vs : List Value} {x : Str} {g h : Heap} (R : Kids (TokIn w esc (inHeap g) n) vs x) (La : LA (inHeap g) l vs) (H : SelfAt w esc g sa) (F : Fr g L h m) : SelfAt w esc h sa ∧ LA (inHeap h) l vs ∧ Kids (TokIn w esc (inHeap h) n) vs x :=
  ⟨SelfAt.kept H F.keep, La.mono fun d o e => F.keep d o e, R.mono fun v o z => TokIn.mono (fun d o e => F.keep d o e) (Nat.le_refl _) z⟩
theorem fn_of {m₂ m₀ : Str → Option Value} {x : Str} {v : Value} (h : m₂ x = some v) (hz : ∀ z, z ≠ x → m₂ z = m₀ z) : (fun z => if z = x then some v else m₀ z) = m₂ := funext fun z => by
  by_cases e : z = x
  · rw [if_pos e, e, h]
  · rw [if_neg e, hz z e]
theorem push_keeps {α : Type} {a : Array α} (x : α) {i : Nat} (h : i < a.size) : (a.push x)[i]? = a[i]? := by
  rw [Array.getElem?_push]
  split
  · omega
  · rfl
theorem over_eq {dp un : Nat} {gd : Option (List Code)} {e0 env : Env} {outer : List Env} {x : Str} {px ypos pos pos2 : Pos} {e iter : PySem.Expr} {it : Value} {k : Result → Sem PySem.Fin} {li : List Value} {p : Pos} :
    Around.over (Around.in1 (Around.in1 (Around.in1 ({ handled := none, depth := dp, frames := some (e0 :: outer), guards := gd, units := un } : Around)))) (.forLoop (.Name x px) it [.Expr (.Yield (some e) ypos) pos] [] env)
      [.ret k none false li (.func [.For (.Name x px) iter [.Expr (.Yield (some e) ypos) pos] [] pos2] env) p []] =
      { handled := none, depth := dp + 1, frames := some (env :: e0 :: outer), guards := gd, units := un + 6 } := by
  cases gd <;> rfl
section
variable {w : World} {K : Frag} {h₀ base : Heap} {L a0 : Addr} {m mg mb : Str → Option Value} {news : Led} {p : Program} {loose : List Str} {mean : ExcName → Option Value} {dp un : Nat} {gd : Option (List Code)} {cn : Str} {cs : Scope} {ccd : Value} {cl : List (Str × Addr)} {outer : List Env} {A₀ : Around} {s : Shared} {Q E : Value → Shared → Prop}
  {name qual : Str} {params : Arguments} {scope : Scope} {dV kV doc pm cdv ct oc : Value} {an od : Option Addr} {osl : Array (Option Value)} {f l : Addr} {args : List Value} {binds : List (Str × Value)} {x : Str} {px ypos pos pos2 : Pos} {e iter : PySem.Expr} {vs : List Value} {ys : List Str}
theorem gen_call (B : Below A₀ base outer h₀) (F : Fr h₀ L s.heap m) (X₀ : K.In h₀) (N : News h₀ L s.heap news) (T : Top p loose mean mg mb h₀) (hke : cs.kind = .function)
    (ho : K.lookup f = some ⟨oc, od, .func (fnOf name qual params [.For (.Name x px) iter [.Expr (.Yield (some e) ypos) pos] [] pos2] scope dV kV doc pm an cdv ct), osl⟩) (hcd : codeIn K cdv qual = true) (hroom : dp < recursionLimit)
    (hbind : BindsTo s (fnOf name qual params [.For (.Name x px) iter [.Expr (.Yield (some e) ypos) pos] [] pos2] scope dV kV doc pm an cdv ct) ⟨args, []⟩ binds) (hloc : ∀ y ∈ binds, scope.names.lookup y.1 = some .local)
    (hco : scope.isCoroutine = false) (hgen : scope.isGenerator = true) (hk : scope.kind = .function) (hcell : ∀ x ∈ scope.names, x.2 ≠ .cell)
    (hx : ∀ L', (envOf qual scope L' f cdv).kindOf x = some .local) (hi : ∀ L', interactive (envOf qual scope L' f cdv) = false) (hs : ∀ L' x, foldedSetIterable iter (envOf qual scope L' f cdv) x = pure x)
    (hl : s.heap.IsList l vs.toArray) (hlen : vs.length = ys.length) (hn : ys.length ≤ 1000) (hsz : (catL ys).length ≤ 16777216)
    (itOk : ∀ (L' : Addr) (A'' : Around) (s' : Shared), Fr s.heap L' s'.heap (fun y => binds.reverse.lookup y) → wpAny (mdl w) A'' (eval iter (envOf qual scope L' f cdv)) (fun r s'' => r = .ref l ∧ s'' = s') NoE s')
    (elt : ∀ L', Below (ktrTop dp un gd cn cs L a0 ccd cl outer) base (envX cn cs L a0 ccd cl :: outer) s.heap → K.In s.heap → Top p loose mean mg mb s.heap →
      EltOk PySem.Challenge.rw_ba0042_01.row.prog w (ktrTop (dp + 1) (un + 6) gd qual scope L' f cdv [] (envX cn cs L a0 ccd cl :: outer)) s.heap L' vs ys (fun y => binds.reverse.lookup y) (envOf qual scope L' f cdv) x e)
    (ret : ∀ a h' tk g', GReady w (ktrTop dp un gd cn cs L a0 ccd cl outer) h₀ L m news s.gens (catL ys) a h' g' → Fr h₀ L h' m → News h₀ L h' news → Q (.ref a) { s with heap := h', toks := tk, gens := g' }) :
    wpAny (mdl w) (ktrTop dp un gd cn cs L a0 ccd cl outer) (call (.ref f) args) Q E s := by
  have N₀ : News h₀ L s.heap [] := fun _ hp => nomatch hp
  obtain ⟨FG, BG, st, lv⟩ := groundX (A := ktrTop dp un gd cn cs L a0 ccd cl outer) (env := envX cn cs L a0 ccd cl) (R := fun _ _ => True) B F N₀ rfl rfl hke
  have hT : s.heap.NoLimit := T.nolimit.keeps F.keep
  refine wpAny_call (codeAny_call_generator (fd := fnOf name qual params [.For (.Name x px) iter [.Expr (.Yield (some e) ypos) pos] [] pos2] scope dV kV doc pm an cdv ct) hroom ((X₀.keeps F.keep) _ _ ho) rfl hco hgen rfl (codeRec_of (X₀.keeps F.keep) hcd) (hbind _ _ _ _ ?_))
  refine wpAny_newFunctionEnv hcell hloc (fun h₁ hns hsb => ?_) hk
  have k1 : Kp s.heap h₁ := fun b o e => hsb.extBut b o (Nat.ne_of_lt (Heap.lt_size e)) (Heap.get?_push_of_some _ e)
  refine ⟨hT.keeps k1, ?_⟩
  have hs1 : h₁.objs.size = s.heap.objs.size + 1 := by rw [hsb.1, Heap.size_push]
  have F₁ : Fr s.heap s.heap.objs.size h₁ (fun y => binds.reverse.lookup y) := ⟨hns, k1, Nat.le_refl _⟩
  refine ret h₁.objs.size _ _ _ ?_ ?_ ?_
  · intro s' Q' E' t e1 e2 hq
    have hz : s'.heap.objs.size = s.heap.objs.size + 2 := by
      rw [e1, Heap.size_push]
      show h₁.objs.size + 1 = _
      rw [hs1]
    have ea : h₁.objs.size < s'.heap.objs.size := by omega
    have Fs : Fr s.heap s.heap.objs.size s'.heap (fun y => binds.reverse.lookup y) := by rw [e1]; exact F₁.push _
    have hgen' : s'.heap.get? h₁.objs.size = some ({ cls := .type "generator", data := .fields #[.int s.gens.size 0, .str name (s.toks + binds.length), .str qual (s.toks + binds.length + 1)] } : Obj) := by
      rw [e1]; exact Heap.get?_push_size _ rfl
    have hG : s.heap.get? h₁.objs.size = none := by
      cases q : s.heap.get? h₁.objs.size with
      | none => rfl
      | some o => exact absurd (Heap.lt_size q) (by rw [hs1]; exact Nat.not_lt.mpr (Nat.le_succ _))
    have hgn : s'.gens[s.gens.size]? = some (.fresh (.func [.For (.Name x px) iter [.Expr (.Yield (some e) ypos) pos] [] pos2] (envOf qual scope s.heap.objs.size f cdv))) := by
      rw [e2]; exact Array.getElem?_push_size ..
    have Na : News s.heap s.heap.objs.size s'.heap [(h₁.objs.size, ({ cls := .type "generator", data := .fields #[.int s.gens.size 0, .str name (s.toks + binds.length), .str qual (s.toks + binds.length + 1)] } : Obj))] := fun q hq => by
      have := List.mem_singleton.mp hq; subst this
      exact ⟨hgen', by show h₁.objs.size ≠ s.heap.objs.size; rw [hs1]; exact Nat.succ_ne_self _, hG⟩
    have elt' := elt s.heap.objs.size BG (X₀.keeps F.keep) (T.keeps F.keep)
    refine join_gen (G := s.heap) (L' := s.heap.objs.size) (oa := ({ cls := .type "generator", data := .fields #[.int s.gens.size 0, .str name (s.toks + binds.length), .str qual (s.toks + binds.length + 1)] } : Obj)) (gi := s.gens.size) hT rfl hroom hn hsz (by rw [hz]; exact Nat.le_add_right _ _) ea (by rw [hz]; exact Nat.lt_add_of_pos_right (by decide)) ⟨_, _, _, hgen', rfl, rfl, rfl⟩ ?_ fun h'' tk g m' t' F'' hg => ?_
    · have hSG : s'.heap.objs.size ≠ s.heap.objs.size := by omega
      refine ⟨⟨_, _, _, Heap.get?_push_of_some _ hgen', rfl, rfl, rfl⟩, noLimit_of hT (Fs.push _), fun q hq => ⟨Heap.get?_push_of_some _ (Na q hq).1, (Na q hq).2⟩, ⟨_, Fs.push _⟩, _, hgn, fun s'' hkp hS => ?_⟩
      have hne : s'.heap.objs.size ≠ h₁.objs.size := by omega
      have hSn : s.heap.get? s'.heap.objs.size = none := by
        cases q : s.heap.get? s'.heap.objs.size with
        | none => rfl
        | some o => exact absurd (Heap.lt_size q) (by rw [hz]; exact Nat.not_lt.mpr (Nat.le_add_right _ _))
      have F₅ := frBut (Fs.push _) hkp hSG hSn
      obtain ⟨oS, NS⟩ := hS
      refine ⟨rfl, ?_⟩
      refine seg_start (A := Around.in1 (Around.in1 (Around.in1 (ktrTop dp un gd cn cs L a0 ccd cl outer)))) hlen (A' := ktrTop (dp + 1) (un + 6) gd qual scope s.heap.objs.size f cdv [] (envX cn cs L a0 ccd cl :: outer)) rfl rfl (hx _) (by show (scope.kind == .class || (scope.kind == .module && _)) = false; rw [hk]; rfl) hco (hi _) hl (hs _) (fun it k li p => over_eq) (itOk _) elt' hne F₅ ?_
      refine ⟨s''.heap, s''.toks, s''.gens, _, oS, rfl, GX.refl _, F₅, NS, fun q hq => ?_⟩
      rcases List.mem_cons.mp hq with rfl | hq
      · exact NS _ (.head _)
      · have := List.mem_singleton.mp hq; subst this
        exact ⟨hkp _ _ (Ne.symm hne) (Heap.get?_push_of_some _ (Na _ (.head _)).1), (Na _ (.head _)).2⟩
    · refine hq h'' tk g t' (F.keeps F''.keep) (fun q hq => ⟨F''.keep _ _ (N q hq).1, (N q hq).2⟩) ⟨?_, fun i hi => ?_, fun hb => hg.2.2 ?_⟩
      · have := hg.1
        rw [e2] at this
        exact Nat.le_trans (by simp) this
      · have := hg.2.1 i (by rw [e2]; simp; omega) (by omega)
        rw [this, e2]
        exact push_keeps _ hi
      · rw [e2]
        intro y hy
        rcases Array.mem_push.mp hy with hy | hy
        · exact hb y hy
        · subst hy; rfl
  · exact (F.keeps k1).push _
  · exact fun q hq => ⟨Heap.get?_push_of_some _ (k1 _ _ (N q hq).1), (N q hq).2⟩
end
end
section
/-- nm names the method f of the renderer's class -/
structure MethOk (w : World) (nm : Str) (f : Addr) : Prop where
  small : nm.length ≤ 100
  plain : (Txt.slice nm none (some 2) == Str.ofString "__") = false
  get : plainGet (hd.heap_39 w.params) 487 nm = true
  dict : hasDictIn (hd.heap_39 w.params) 487 = true
  find : findIn (hd.heap_39 w.params) (.ref 487) nm = some (some (.ref f))
  fn : isFn (hd.heap_39 w.params) (.ref f) = true
  spec : specialIn (hd.heap_39 w.params) (.ref f) "__get__" = some (some (.builtin "function.__get__"))
  takes : takesIn (hd.heap_39 w.params) (.ref f) = some false
  copied : copiedNames.contains nm = false
  own : ∀ (h1 h2 h3 : Int) (k1 k2 k3 : Tok) (v1 v2 v3 : Value), getL nm [⟨h1, .str (Str.ofString "_BaseRenderer__methods") k1, v1⟩, ⟨h2, .str (Str.ofString "_allow_harmful_protocols") k2, v2⟩, ⟨h3, .str (Str.ofString "_escape") k3, v3⟩] = some none
theorem ite_no {P Q : Prop} {b : Bool} (h : b = false) (q : Q) : if b = true then P else Q := by rw [if_neg (by rw [h]; decide)]; exact q
end
section
/-- tokens, the values that hold their texts, and the texts -/
inductive Rows (R : Value → Str → Prop) : List Value → List Value → List Str → Prop
  | nil : Rows R [] [] []
  | snoc {vs us : List Value} {ys : List Str} {v : Value} {y : Str} {t : Tok} : Rows R vs us ys → R v y → Rows R (vs ++ [v]) (us ++ [Value.str y t]) (ys ++ [y])
theorem Rows.mono {R R' : Value → Str → Prop} (h : ∀ v y, R v y → R' v y) {vs us : List Value} {ys : List Str} (x : Rows R vs us ys) : Rows R' vs us ys := by
  induction x with
  | nil => exact .nil
  | snoc _ r ih => exact .snoc ih (h _ _ r)
theorem Rows.len {R : Value → Str → Prop} {vs us : List Value} {ys : List Str} (x : Rows R vs us ys) : us.length = vs.length ∧ ys.length = vs.length := by
  induction x with
  | nil => exact ⟨rfl, rfl⟩
  | snoc _ _ ih => simp [ih.1, ih.2]
theorem catL_snoc : ∀ (ys : List Str) (y : Str), catL (ys ++ [y]) = catL ys ++ y
  | [], y => by show y ++ S "" = S "" ++ y; rw [str_app_nil, str_nil_app]
  | x :: r, y => by
    show x ++ catL (r ++ [y]) = x ++ catL r ++ y
    rw [catL_snoc r y]
    apply Str.ext'
    simp [Str.cps_append]
theorem Rows.kids {R : Value → Str → Prop} {vs us : List Value} {ys : List Str} (x : Rows R vs us ys) : Kids R vs (catL ys) := by
  induction x with
  | nil => exact rfl
  | snoc _ r ih => rw [catL_snoc]; exact Kids.snoc r ih
theorem strsSnoc {y : Str} {t : Tok} : ∀ {us : List Value} {ys : List Str}, StrsAre us ys → StrsAre (us ++ [Value.str y t]) (ys ++ [y])
  | _, _, .nil => .cons _ _ .nil
  | _, _, .cons _ _ r => .cons _ _ (strsSnoc r)
theorem Rows.strs {R : Value → Str → Prop} {vs us : List Value} {ys : List Str} (x : Rows R vs us ys) : StrsAre us ys := by
  induction x with
  | nil => exact .nil
  | snoc _ _ ih => exact strsSnoc ih
theorem Rows.last {R : Value → Str → Prop} {vs us : List Value} {ys : List Str} (x : Rows R vs us ys) (h : 0 < vs.length) : ∃ vs' us' ys' v y t, vs = vs' ++ [v] ∧ us = us' ++ [.str y t] ∧ ys = ys' ++ [y] ∧ R v y := by
  cases x with
  | nil => simp at h
  | snoc _ r => exact ⟨_, _, _, _, _, _, rfl, rfl, rfl, r⟩
section
variable {w : World} {A : Around} {E : Value → Shared → Prop} {s : Shared} {env : Env} {h₀ : Heap} {x : Str} {body : List Stmt} {Q : Flow → Shared → Prop}
/-- the law's loop: what holds between the turns -/
def LJ2 (w : World) (esc : Bool) (x : Str) (st : List Str) (m₀ : Str → Option Value) (lt lw : Addr) (X : Led) (k₀ : Int) (i : Nat) (m : Str → Option Value) (nx : Led) : Prop :=
  ∃ vs us ys ct cw k t2 tl, nx = (lw, W.listOf us.toArray cw) :: (lt, W.listOf vs.toArray ct) :: (tl ++ X) ∧ (∀ p ∈ tl, p.1 ≠ lt) ∧ (∀ p ∈ tl, p.1 ≠ lw) ∧ vs.length = i ∧ Rows (TokIn w esc (inLed tl) 5) vs us ys ∧ k₀ ≤ k ∧ k ≤ k₀ + 71 * (i : Int) ∧
    m (S "k") = some (.int k t2) ∧ ∀ z, z ≠ x → z ≠ S "k" → st.contains z = false → m z = m₀ z
/-- the end of a turn -/
def TurnEnd2 (w : World) (esc : Bool) (x : Str) (st : List Str) (m₀ : Str → Option Value) (h₀ : Heap) (L lt lw : Addr) (vs us : List Value) (k : Int) (Z : Led) (s₁ s₂ : Shared) : Prop :=
  ∃ h' tk m' ns v yv ut ct cw k' t2, s₂ = { s₁ with heap := h', toks := tk } ∧ Fr h₀ L h' m' ∧ News h₀ L h' ((lw, W.listOf (us ++ [Value.str yv ut]).toArray cw) :: (lt, W.listOf (vs ++ [v]).toArray ct) :: (ns ++ Z)) ∧ (∀ p ∈ ns, p.1 ≠ lt) ∧ (∀ p ∈ ns, p.1 ≠ lw) ∧ (∀ p ∈ ns, ∀ q ∈ Z, p.1 ≠ q.1) ∧
    TokIn w esc (inLed ns) 5 v yv ∧ m' (S "k") = some (.int k' t2) ∧ k ≤ k' ∧ k' ≤ k + 71 ∧ ∀ z, z ≠ x → z ≠ S "k" → st.contains z = false → m' z = m₀ z
def TurnPost2 (w : World) (esc : Bool) (x : Str) (st : List Str) (m₀ : Str → Option Value) (h₀ : Heap) (L lt lw : Addr) (vs us : List Value) (k : Int) (Z : Led) (s₁ : Shared) (Q : Flow → Shared → Prop) (f : Flow) (s₂ : Shared) : Prop :=
  match f with
  | .ret v => Q (.ret v) s₂
  | .brk => Q .next s₂
  | _ => TurnEnd2 w esc x st m₀ h₀ L lt lw vs us k Z s₁ s₂
theorem loop_law {r : Addr} {b₀ : Int} {t₀ u₀ v₀ : Tok} {n : Nat} {m₀ : Str → Option Value} {lt lw : Addr} {c₁ c₂ : Nat} {X : Led} {st : List Str} {k₀ : Int} {kt : Nat} {esc : Bool} {tl0 : Led} {sa0 : Addr} (_hs : SelfLed w esc tl0 sa0) (hn1 : 1 ≤ n) (hn3 : n ≤ 3)
    (hh : A.handled = none) (hr : IsRange s.heap r 0 b₀ 1 t₀ u₀ v₀) (hsmall : Builtin.Range.small 0 b₀ 1 = true) (hn : Builtin.Range.rangeSize 0 b₀ 1 = (n : Int)) (F : Fr h₀ env.locals s.heap m₀) (N : News h₀ env.locals s.heap ((lw, W.listOf #[] c₁) :: (lt, W.listOf #[] c₂) :: X))
    (hX1 : ∀ p ∈ X, p.1 ≠ lt) (hX2 : ∀ p ∈ X, p.1 ≠ lw)
    (hk : m₀ (S "k") = some (.int k₀ kt)) (_hxk : x ≠ S "k")
    (turn : ∀ vs us ct cw k t2 (u : Str → Option Value) (Z : Led) h tk j tj, vs.length ≤ 2 → us.length ≤ 2 → (∀ p ∈ Z, p.1 ≠ lt) → (∀ p ∈ Z, p.1 ≠ lw) → k₀ ≤ k → k ≤ k₀ + 142 →
      Fr h₀ env.locals h (fun z => if z = x then some (.int j tj) else if z = S "k" then some (.int k t2) else if st.contains z then u z else m₀ z) → News h₀ env.locals h ((lw, W.listOf us.toArray cw) :: (lt, W.listOf vs.toArray ct) :: Z) →
      wpAny (mdl w) A (execs body env) (TurnPost2 w esc x st m₀ h₀ env.locals lt lw vs us k Z { s with heap := h, toks := tk } Q) E { s with heap := h, toks := tk })
    (done : ∀ vs us ys v y t ct cw k t2 (u : Str → Option Value) tl h tk, vs.length ≤ 2 → us.length = vs.length → TokIn w esc (inLed tl) 5 v y → Kids (TokIn w esc (inLed tl) 5) (vs ++ [v]) (catL (ys ++ [y])) → StrsAre (us ++ [Value.str y t]) (ys ++ [y]) → (ys ++ [y]).length ≤ 3 → Sz (catL (ys ++ [y])) 2 →
      Fr h₀ env.locals h (fun z => if z = x then u z else if z = S "k" then some (.int k t2) else if st.contains z then u z else m₀ z) → News h₀ env.locals h ((lw, W.listOf (us ++ [Value.str y t]).toArray cw) :: (lt, W.listOf (vs ++ [v]).toArray ct) :: (tl ++ X)) → Q .next { s with heap := h, toks := tk }) :
    wpAny (mdl w) A (pyIter (.ref r)) (fun it s₂ => LoopAtV PySem.Challenge.rw_ba0042_01.row.prog w A h₀ env x body Q E it s₂) E s := by
  have mapE : ∀ (m₁ : Str → Option Value) (k : Int) (t2 : Nat) (X : Option Value) , m₁ (S "k") = some (.int k t2) → (∀ z, z ≠ x → z ≠ S "k" → st.contains z = false → m₁ z = m₀ z) →
      (fun z => if z = x then X else m₁ z) = fun z => if z = x then X else if z = S "k" then some (Value.int k t2) else if st.contains z then m₁ z else m₀ z := by
    intro m₁ k t2 X h2 h3
    funext z
    by_cases q1 : z = x
    · simp only [if_pos q1]
    · simp only [if_neg q1]
      by_cases q3 : z = S "k"
      · simp only [if_pos q3]; rw [q3]; exact h2
      · simp only [if_neg q3]
        cases q4 : st.contains z with
        | true => simp
        | false => simp only [Bool.false_eq_true, if_false]; exact h3 z q1 q3 q4
  refine tbr_invG (fun i m nx => LJ2 w esc x st m₀ lt lw X k₀ i m nx) hh hr hsmall hn F (news := (lw, W.listOf #[] c₁) :: (lt, W.listOf #[] c₂) :: X) N
    ⟨[], [], [], c₂, c₁, k₀, kt, [], rfl, (fun p hp => nomatch hp), (fun p hp => nomatch hp), rfl, .nil, Int.le_refl _, by simp, hk, fun _ _ _ _ => rfl⟩ ?_ ?_
  · rintro i j tj m₁ nx h tk own hi hoff ⟨vs, us, ys, ct, cw, k, t2, tl, rfl, htl1, htl2, hlen, hK, hk1, hk2, e2, e3⟩ F₁ N₁
    have hin : i < n := by
      have := (List.getElem?_eq_some_iff.mp hi).1
      rwa [rangeKs_length] at this
    subst hlen
    rw [mapE m₁ k t2 _ e2 e3] at F₁
    have hZ1 : ∀ p ∈ (tl ++ X) ++ own, p.1 ≠ lt := fun p hp => by
      rcases List.mem_append.mp hp with hp | hp
      · rcases List.mem_append.mp hp with hp | hp
        · exact htl1 p hp
        · exact hX1 p hp
      · exact hoff p hp (lt, W.listOf vs.toArray ct) (.tail _ (.head _))
    have hZ2 : ∀ p ∈ (tl ++ X) ++ own, p.1 ≠ lw := fun p hp => by
      rcases List.mem_append.mp hp with hp | hp
      · rcases List.mem_append.mp hp with hp | hp
        · exact htl2 p hp
        · exact hX2 p hp
      · exact hoff p hp (lw, W.listOf us.toArray cw) (.head _)
    refine wpAny_mono (turn vs us ct cw k t2 m₁ ((tl ++ X) ++ own) h tk j tj (by omega) (by have := hK.len.1; omega) hZ1 hZ2 hk1 (by omega) F₁ N₁) (fun f s₂ q => ?_) fun _ _ q => q
    have fin : TurnEnd2 w esc x st m₀ h₀ env.locals lt lw vs us k ((tl ++ X) ++ own) { s with heap := h, toks := tk } s₂ → TbEnd h₀ env.locals (LJ2 w esc x st m₀ lt lw X k₀ (vs.length + 1)) own { s with heap := h, toks := tk } s₂ := by
      rintro ⟨h', tk', m', ns, v, yv, ut, ct', cw', k', t2', e, F', N', a1, a1', a2, hT, f2, b1, b2, f3⟩
      refine ⟨h', tk', m', _, (lw, W.listOf (us ++ [Value.str yv ut]).toArray cw') :: (lt, W.listOf (vs ++ [v]).toArray ct') :: ((ns ++ tl) ++ X), e, F', N', fun p hp => ?_, fun p hp => ?_, fun p hp q hq => ?_, vs ++ [v], us ++ [.str yv ut], ys ++ [yv], ct', cw', k', t2', ns ++ tl, rfl, fun p hp => ?_, fun p hp => ?_, by simp, ?_, by omega, ?_, f2, f3⟩
      · rcases List.mem_cons.mp hp with rfl | hp
        · exact .head _
        · rcases List.mem_cons.mp hp with rfl | hp
          · exact .tail _ (.head _)
          · refine .tail _ (.tail _ ?_)
            rcases List.mem_append.mp hp with hp | hp
            · rcases List.mem_append.mp hp with hp | hp
              · exact List.mem_append_left _ hp
              · exact List.mem_append_right _ (List.mem_append_left _ (List.mem_append_left _ hp))
            · exact List.mem_append_right _ (List.mem_append_left _ (List.mem_append_right _ hp))
      · exact .tail _ (.tail _ (List.mem_append_right _ (List.mem_append_right _ hp)))
      · rcases List.mem_cons.mp hq with rfl | hq
        · exact hoff p hp (lw, W.listOf us.toArray cw) (.head _)
        · rcases List.mem_cons.mp hq with rfl | hq
          · exact hoff p hp (lt, W.listOf vs.toArray ct) (.tail _ (.head _))
          · rcases List.mem_append.mp hq with hq | hq
            · rcases List.mem_append.mp hq with hq | hq
              · exact Ne.symm (a2 q hq p (List.mem_append_right _ hp))
              · exact hoff p hp q (.tail _ (.tail _ (List.mem_append_left _ hq)))
            · exact hoff p hp q (.tail _ (.tail _ (List.mem_append_right _ hq)))
      · rcases List.mem_append.mp hp with hp | hp
        · exact a1 p hp
        · exact htl1 p hp
      · rcases List.mem_append.mp hp with hp | hp
        · exact a1' p hp
        · exact htl2 p hp
      · exact .snoc (hK.mono fun _ _ z => TokIn.mono (fun _ _ z => List.mem_append_right _ z) (Nat.le_refl _) z) (TokIn.mono (fun _ _ z => List.mem_append_left _ z) (Nat.le_refl _) hT)
      · rw [Int.natCast_add]
        omega
    cases f with
    | ret v => exact q
    | brk => exact q
    | next => exact fin q
    | cont => exact fin q
  · rintro m₁ nx h tk ⟨vs, us, ys, ct, cw, k, t2, tl, rfl, htl1, htl2, hlen, hK, hk1, hk2, e2, e3⟩ F₁ N₁
    obtain ⟨vs', us', ys', v, y, t, rfl, rfl, rfl, hT⟩ := hK.last (by omega)
    have l1 := hK.len
    simp only [List.length_append, List.length_cons, List.length_nil] at l1 hlen
    have e := mapE m₁ k t2 (m₁ x) e2 e3
    have e' : (fun z => if z = x then m₁ x else m₁ z) = m₁ := by
      funext z
      by_cases q : z = x
      · simp only [if_pos q]; rw [q]
      · simp only [if_neg q]
    rw [e'] at e
    refine done vs' us' ys' v y t ct cw k t2 m₁ tl h tk (by omega) (by omega) hT hK.kids hK.strs (by simp; omega) (kids_sz (by decide) (by simp; omega) hK.kids) ?_ N₁
    rw [e] at F₁
    have e'' : (fun z => if z = x then m₁ x else if z = S "k" then some (Value.int k t2) else if st.contains z then m₁ z else m₀ z) = fun z => if z = x then m₁ z else if z = S "k" then some (Value.int k t2) else if st.contains z then m₁ z else m₀ z := by
      funext z
      by_cases q : z = x
      · simp only [if_pos q]; rw [q]
      · simp only [if_neg q]
    rw [e''] at F₁
    exact F₁
theorem last_item {l : Addr} {vs : List Value} {v : Value} {c : Nat} {u : Nat} {value slice : PySem.Expr} {L : Addr} {news : Led} {Q : Value → Shared → Prop}
    (N : News h₀ L s.heap news) (hm : (l, W.listOf (vs ++ [v]).toArray c) ∈ news) (hv : vs.length ≤ 2)
    (hs : subscripted slice false (.ref l) (.int (-1) u) = operate [.ref l, .int (-1) u] (getItem (.ref l) (.int (-1) u)))
    (h : Q v s) : wpAny (mdl w) A (subscriptTail value slice (.ref l) (.int (-1) u)) Q E s := by
  have hl : s.heap.IsList l (vs ++ [v]).toArray := ⟨_, (N _ hm).1, rfl, c, rfl⟩
  refine tail_any hl.typeIs slot_list_getitem.lookup (wpAny_getItem_list_neg (x := v) hl (by decide) (by simp; omega) (by decide) ?_ h) hs
  have e : ((-1 : Int) + ((vs ++ [v]).toArray.size : Int)).toNat = vs.length := by simp; omega
  rw [e]; simp
theorem join_all {l : Addr} {us : List Value} {ys : List Str} {c : Nat} {t : Tok} {L : Addr} {news : Led} {Q : Value → Shared → Prop} (N : News h₀ L s.heap news) (hm : (l, W.listOf us.toArray c) ∈ news) (hS : StrsAre us ys) (hy : ys.length ≤ 3) (hz : Sz (catL ys) 2) (h : ∀ t' k, Q (.str (catL ys) t') { s with toks := k }) :
    wpAny (mdl w) A (call (.builtin "str.join") [.str (S "") t, .ref l]) Q E s := by
  refine join_listW (items := us.toArray) (ys := ys) ⟨_, (N _ hm).1, rfl, c, rfl⟩ hS (by decide +kernel) ?_ fun t' k => ?_
  · have := cat_len ys
    unfold Sz at hz
    omega
  · rw [txt_join_cat]; exact h t' k
theorem InstAt.led {h₀ h : Heap} {L x C dx : Addr} {od : Obj} {news : Led} (N : News h₀ L h news) (h1 : (x, instObj C dx) ∈ news) (h2 : (dx, od) ∈ news) : W.InstAt h x (instObj C dx) C (some od) := ⟨(N _ h1).1, rfl, rfl, (N _ h2).1⟩
theorem rng1 {N : Int} : 1 ≤ (Int.fmod N 3 + 1).toNat := by
  have h0 := Int.fmod_nonneg_of_pos N (b := 3) (by decide)
  omega
theorem turn_law {esc : Bool} {st : List Str} {m₀ : Str → Option Value} {L lt lw : Addr} {vs us : List Value} {k : Int} {Z : Led} {s₁ s₂ : Shared} {h' : Heap} {tk ct cw c1 c2 t2 : Nat} {ut : Tok} {m' : Str → Option Value} {p₀ : Addr × Obj} {tl : Led} {v : Value} {yv : Str} {k' : Int}
    (e : s₂ = { s₁ with heap := h', toks := tk }) (F : Fr h₀ L h' m') (N : News h₀ L h' (p₀ :: (lw, W.listOf (us ++ [Value.str yv ut]).toArray cw) :: (lt, W.listOf (vs ++ [v]).toArray ct) :: (Z ++ tl)))
    (hl : ∀ q ∈ (lw, W.listOf us.toArray c1) :: (lt, W.listOf vs.toArray c2) :: Z, ∀ p ∈ tl, p.1 ≠ q.1) (hT : TokIn w esc (inLed tl) 5 v yv) (h2 : m' (S "k") = some (.int k' t2)) (hk : k ≤ k') (hk' : k' ≤ k + 71)
    (h3 : ∀ z, z ≠ x → z ≠ S "k" → st.contains z = false → m' z = m₀ z) : TurnPost2 w esc x st m₀ h₀ L lt lw vs us k Z s₁ Q .next s₂ := by
  refine ⟨h', tk, m', tl, v, yv, ut, ct, cw, k', t2, e, F, fun p hp => N p ?_, fun p hp => hl _ (.tail _ (.head _)) p hp, fun p hp => hl _ (.head _) p hp, fun p hp q hq => hl q (.tail _ (.tail _ hq)) p hp, hT, h2, hk, hk', h3⟩
  rcases List.mem_cons.mp hp with rfl | hp
  · exact .tail _ (.head _)
  · rcases List.mem_cons.mp hp with rfl | hp
    · exact .tail _ (.tail _ (.head _))
    · refine .tail _ (.tail _ (.tail _ ?_))
      rcases List.mem_append.mp hp with hp | hp
      · exact List.mem_append_right _ hp
      · exact List.mem_append_left _ hp
theorem pre_tokL {esc : Bool} {n : Nat} {sa L : Addr} {v : Value} {x : Str} {tl tl0 news : Led} {h : Heap} (R : TokIn w esc (inLed tl) n v x) (H : SelfLed w esc tl0 sa) (N : News h₀ L h news) (h1 : ∀ p ∈ tl, p ∈ news) (h2 : ∀ p ∈ tl0, p ∈ news) : SelfAt w esc h sa ∧ TokIn w esc (inHeap h) n v x :=
  ⟨SelfLed.at (H.mono h2) N, TokIn.mono (fun d o e => (N (d, o) (h1 _ e)).1) (Nat.le_refl _) R⟩
theorem pre_kidsL {esc : Bool} {n c : Nat} {sa l L : Addr} {vs : List Value} {x : Str} {tl tl0 news : Led} {h : Heap} (R : Kids (TokIn w esc (inLed tl) n) vs x) (H : SelfLed w esc tl0 sa) (N : News h₀ L h news) (h1 : ∀ p ∈ tl, p ∈ news) (h2 : ∀ p ∈ tl0, p ∈ news) (h3 : (l, W.listOf vs.toArray c) ∈ news) : SelfAt w esc h sa ∧ LA (inHeap h) l vs ∧ Kids (TokIn w esc (inHeap h) n) vs x :=
  ⟨SelfLed.at (H.mono h2) N, ⟨c, (N _ h3).1⟩, R.mono fun v o z => TokIn.mono (fun d o e => (N (d, o) (h1 _ e)).1) (Nat.le_refl _) z⟩
theorem tok_useL {esc : Bool} {n dn ne : Nat} {sa st : Addr} {v : Value} {x : Str} {tl : Led} (hC : TokC w esc n dn ne) (_ : TokIn w esc (inLed tl) n v x) : TellG w 341 dn ne [.ref sa, v, .ref st] (fun h => SelfAt w esc h sa ∧ TokIn w esc (inHeap h) n v x) (fun r => ∃ t, r = .str x t) := hC _ _ _ _
theorem kids_useL {esc : Bool} {n dn ne : Nat} {sa l st : Addr} {vs : List Value} {x : Str} {tl : Led} (hC : KidsC w esc n dn ne) (hv : vs.length ≤ 3) (hx : Sz x 2) (_ : Kids (TokIn w esc (inLed tl) n) vs x) : TellG w 216 dn ne [.ref sa, .ref l, .ref st] (fun h => SelfAt w esc h sa ∧ LA (inHeap h) l vs ∧ Kids (TokIn w esc (inHeap h) n) vs x) (fun r => ∃ t, r = .str x t) := hC _ _ _ _ _ hv (Nat.le_trans hx (by decide))
theorem ite_same {P Q : Prop} {y : Str} (h : Q) : if (y != y) = true then P else Q := by
  rw [if_neg (by simp)]; exact h
/-- the law's end: a bool that meets the claim, and generators that nobody holds -/
def GoodB (c : ClaimW) (args : List WData) (s₁ : Shared) (r : Result) (s' : Shared) : Prop :=
  (∃ b, r = .ok (.ret (.bool b)) ∧ (∀ cls, c.raises args cls = false) ∧ c.post args (.bool b) args = true) ∧ (∀ b o, s₁.heap.get? b = some o → s'.heap.get? b = some o) ∧ s'.os = s₁.os ∧ AllBare s'.gens
theorem kn_postB {M : Model} {cd : Code} {s₁ : Shared} {cw : ClaimW} {cl : Str → Option Addr} {mean : ExcName → Option Value} {args : List WData} {tabs : List (Addr × Addr)} (hT : TabsAt tabs s₁.heap)
    (h : codeAny M A cd (fun r s' => GoodB cw args { s₁ with heap := ghostOf s₁.heap tabs } r s' ∧ GrownAll tabs s'.heap) s) : codeAny M A cd (GoodWG cw cl mean args s₁) s := by
  refine codeAny_mono h ?_
  rintro r s' ⟨⟨⟨b, rfl, hr, hp⟩, hk, hos, hb⟩, hgr⟩
  have old : ∀ a o, s₁.heap.get? a = some o → s'.heap.get? a = some o ∨ (isCodeTable s₁.heap a ∧ o = tabObj #[] ∧ ∃ ps, s'.heap.get? a = some (tabObj ps)) := fun a o e => by
    by_cases hm : a ∈ tabs.map (·.2)
    · obtain ⟨q, hq, rfl⟩ := List.mem_map.mp hm
      have e2 := (hT q hq).2
      rw [e] at e2
      exact .inr ⟨((hT q hq).1.tab (hT q hq).2).isCodeTable, Option.some.inj e2, hgr.get q hq⟩
    · exact .inl (hk a o (ghost_ne e hm))
  refine ⟨.inl ⟨_, _, [], rfl, hr, ReadsW.bool b, hp, fun _ => ⟨List.nodup_nil, fun _ hm => (nomatch hm)⟩⟩, ⟨fun a o e => ?_, fun a o e => ?_⟩, hos, hb⟩
  · rcases old a o e with z | ⟨ht, rfl, ps, hP⟩
    · exact .inl z
    · exact .inr (.inl ⟨ht, rfl, #[], ps, rfl, by rw [Array.empty_append]; exact hP⟩)
  · rcases old a o e with z | ⟨_, _, ps, hP⟩
    · exact ⟨o, z⟩
    · exact ⟨_, hP⟩
end
end
section
def offFr (l : List Env) (a : Addr) : Prop := a ∉ l.filterMap (·.frame)
/-- the renderer, and that it is no frame of the calls that stand -/
def SelfX (w : World) (esc : Bool) (h : Heap) (l : List Env) (sa : Addr) : Prop := ∃ dx md k1 k2 k3, (InstAt h sa (instObj 487 dx) 487 (some (dictOf [⟨PyData.keyHash w.params (Str.ofString "_BaseRenderer__methods"), .str (Str.ofString "_BaseRenderer__methods") k1, .ref md⟩, ⟨PyData.keyHash w.params (Str.ofString "_allow_harmful_protocols"), .str (Str.ofString "_allow_harmful_protocols") k2, .none⟩, ⟨PyData.keyHash w.params (Str.ofString "_escape"), .str (Str.ofString "_escape") k3, .bool esc⟩] 3)) ∧ ∃ om, h.get? md = some om ∧ om.IsDictOf (sk w) [] ∧ (md == sysModules) = false) ∧ offFr l sa ∧ offFr l dx ∧ offFr l md
theorem SelfX.at {w : World} {esc : Bool} {h : Heap} {l : List Env} {sa : Addr} (x : SelfX w esc h l sa) : SelfAt w esc h sa := let ⟨a, b, c, d, e, i, _⟩ := x; ⟨a, b, c, d, e, i⟩
/-- what a call tells that raises AttributeError -/
def TellX (w : World) (f : Addr) (dn ne : Nat) (args : List Value) (Pre : Heap → List Env → Prop) : Prop :=
  ∀ (p : Program) (loose : List Str) (mean : ExcName → Option Value) (mg mb : Str → Option Value) (dp un : Nat) (gd : Option (List Code)) (cn : Str) (cs : Scope) (a : Addr) (ccd : Value) (cl : List (Str × Addr)) (outer : List Env) (A₀ : Around) (base h₀ : Heap) (L : Addr) (m : Str → Option Value) (news : Led) (s : Shared)
    (Q E : Value → Shared → Prop),
    Below A₀ base outer h₀ → Fr h₀ L s.heap m → (hd.heap_39 w.params).In h₀ → News h₀ L s.heap news → Top p loose mean mg mb h₀ → cs.kind = .function → (hd.heap_39 w.params).In base → Top p loose mean mg mb base → dp + dn < recursionLimit → un + ne < cLine → Pre s.heap (envX cn cs L a ccd cl :: outer) →
    (∀ e h' tk', RaisedSN base s.heap (envX cn cs L a ccd cl :: outer) e (.type "AttributeError") [] h' → s.heap.UpToSlots h' → E (.ref e) { s with heap := h', toks := tk' }) →
    wpAny (model PySem.Challenge.rw_ba0042_01.row.prog w) (ktrTop dp un gd cn cs L a ccd cl outer) (call (.ref f) args) Q E s
theorem TellX.use {w : World} {f : Addr} {dn ne : Nat} {args : List Value} {Pre : Heap → List Env → Prop} {p : Program} {loose : List Str} {mean : ExcName → Option Value} {mg mb : Str → Option Value} {dp un : Nat} {gd : Option (List Code)} {cn : Str} {cs : Scope} {a : Addr} {ccd : Value} {cl : List (Str × Addr)} {outer : List Env} {A₀ : Around} {base h₀ : Heap} {L : Addr} {m : Str → Option Value} {news : Led} {s : Shared}
    {Q E : Value → Shared → Prop} (C : TellX w f dn ne args Pre) (B : Below A₀ base outer h₀) (F : Fr h₀ L s.heap m) (X : (hd.heap_39 w.params).In h₀) (N : News h₀ L s.heap news) (T : Top p loose mean mg mb h₀) (hk : cs.kind = .function) (XB : (hd.heap_39 w.params).In base) (TB : Top p loose mean mg mb base) (hd : dp + dn < recursionLimit) (hu : un + ne < cLine) (pre : Pre s.heap (envX cn cs L a ccd cl :: outer))
    (ret : ∀ e h' tk', RaisedSN base s.heap (envX cn cs L a ccd cl :: outer) e (.type "AttributeError") [] h' → s.heap.UpToSlots h' → E (.ref e) { s with heap := h', toks := tk' }) :
    wpAny (model PySem.Challenge.rw_ba0042_01.row.prog w) (ktrTop dp un gd cn cs L a ccd cl outer) (call (.ref f) args) Q E s := C _ _ _ _ _ _ _ _ _ _ _ _ _ _ _ _ _ _ _ _ _ _ _ B F X N T hk XB TB hd hu pre ret
/-- the same entry as code_all, and the ground is known -/
theorem code_allX {prog : Program} {w : World} {A A₀ : Around} {s : Shared} {K : Frag} {L : Addr} {h₀ base : Heap} {m mg mb : Str → Option Value} {news : Led} {p : Program} {loose : List Str} {mean : ExcName → Option Value} {env : Env} {outer : List Env} {R : Result → Shared → Prop} {name qual : Str} {params : Arguments} {body : List Stmt} {scope : Scope} {dV kV doc pm cdv ct oc : Value} {an od : Option Addr} {osl : Array (Option Value)} {f : Addr} {args : Args} {binds : List (Str × Value)}
    (B : Below A₀ base outer h₀) (F : Fr h₀ L s.heap m) (X₀ : K.In h₀) (_N : News h₀ L s.heap news) (T : Top p loose mean mg mb h₀) (hA : A.frames = some (env :: outer)) (hf : env.frame = some L) (hke : env.scope.kind = .function)
    (ho : K.lookup f = some ⟨oc, od, .func (fnOf name qual params body scope dV kV doc pm an cdv ct), osl⟩) (hcd : codeIn K cdv qual = true) (hroom : A.depth < recursionLimit)
    (hbind : BindsTo s (fnOf name qual params body scope dV kV doc pm an cdv ct) args binds) (hloc : ∀ y ∈ binds, scope.names.lookup y.1 = some .local)
    (h : ∀ g L' h₁, Fr h₀ L g m → Fr g L' h₁ (fun y => binds.reverse.lookup y) → News g L' h₁ [] → Below A base (env :: outer) g → K.In g → Top p loose mean mg mb g → g = s.heap →
      wpAny (model prog w) (A.deeper (envOf qual scope L' f cdv)) (execs body (envOf qual scope L' f cdv))
        (fun fl s' => LeaveK h₀ L m g R (match fl with | .ret v => v | _ => .none) s')
        (fun e s' => wpAny (model prog w) (A.deeper (envOf qual scope L' f cdv)) (leaving (envOf qual scope L' f cdv) e) (fun _ s'' => R (.error e) s'') (fun e' s'' => R (.error e') s'') s')
        { s with heap := h₁, toks := s.toks + binds.length })
    (hco : scope.isCoroutine = false) (hgen : scope.isGenerator = false) (hk : scope.kind = .function)
    (hcell : ∀ x ∈ scope.names, x.2 ≠ .cell) : codeAny (model prog w) A (.call (.ref f) args) R s := by
  have N₀ : News h₀ L s.heap [] := fun _ hp => nomatch hp
  obtain ⟨FG, BG, st, lv⟩ := groundX (R := R) B F N₀ hA hf hke
  refine codeAny_call_def (fd := fnOf name qual params body scope dV kV doc pm an cdv ct) (body := body) (binds := binds) hroom ((X₀.keeps F.keep) _ _ ho) rfl (T.nolimit.keeps F.keep) (codeRec_of (X₀.keeps F.keep) hcd) rfl hbind hcell hloc (fun h₁ hns hk₁ => ?_) hco hgen hk
  exact wpAny_mono (h s.heap s.heap.objs.size h₁ FG ⟨hns, fun b o e => hk₁ b o e, Nat.le_refl _⟩ (fun _ hp => nomatch hp) BG (X₀.keeps F.keep) (T.keeps F.keep) rfl) (fun fl s' hl => lv _ _ hl) fun _ _ y => y
theorem Raise_aeK {prog : Program} {w : World} {A : Around} {E : Value → Shared → Prop} {s : Shared} {K : Frag} {g : Heap} {L a e1 : Addr} {m mg mb : Str → Option Value} {cn : Str} {cs : Scope} {ccd : Value} {p : Program} {loose : List Str} {np cpos pos : Pos} {e₀ : PySem.Expr} {rest : List PySem.Expr} {Q : Flow → Shared → Prop}
    (F : Fr g L s.heap m) (X : K.In g) (T : TopRead p loose mg mb g) (ex : nsIn K mainGlobals "AttributeError" = some none) (hv : bootBuiltins "AttributeError" = some (.type "AttributeError")) (hA : A.handled = some (.ref e1))
    (h : wpAny (model prog w) A (spliced (backTo cpos (starEach (e₀ :: rest) (envOf cn cs L a ccd)))) (fun vs s₂ => vs.length ≤ sizeLine ∧ CtxNone s₂.heap e1 ∧ ∀ h' e, NewAE s₂.heap h' e (.ref e1) → E (.ref e) { s₂ with heap := h' }) E s)
    (hk : cs.kind = .function) (hx : (envOf cn cs L a ccd).kindOf "AttributeError" = some .globalImplicit) (he : starEach (e₀ :: rest) (envOf cn cs L a ccd) = (false, eval e₀ (envOf cn cs L a ccd)) :: starEach rest (envOf cn cs L a ccd)) (hplain : (backTo cpos (starEach rest (envOf cn cs L a ccd))).any (·.1) = false) :
    wpAny (model prog w) A (exec (.Raise (some (.Call (.Name "AttributeError" np) (e₀ :: rest) [] cpos)) none pos) (envOf cn cs L a ccd)) Q E s := by
  refine Raise_ae hA (by rw [he]; show (false || (backTo cpos (starEach rest (envOf cn cs L a ccd))).any (·.1)) = false; rw [hplain]; rfl) (name_B F X T ex hv (by decide) ⟨rfl, ?_⟩ hk hx (by decide))
  have h₂ := h
  rw [he] at h₂ ⊢
  exact Calls.evalArgs_plain (wpAny_mono h₂ (fun vs s₂ h₃ => ⟨rfl, h₃⟩) fun _ _ y => y)
/-- a thing that stood before a frame is no frame -/
theorem offFr.push {h₀ h : Heap} {L a b : Addr} {m : Str → Option Value} {name : Str} {scope : Scope} {cd : Value} {l : List Env} {o : Obj} (x : offFr l b) (F : Fr h₀ L h m) (e : h₀.get? b = some o) : offFr (envOf name scope L a cd :: l) b := fun hm => by
  rcases kts_mem hm with z | z
  · rw [z, kts_self F] at e
    cases e
  · exact x z
theorem SelfX.push {w : World} {esc : Bool} {h₀ h : Heap} {L a : Addr} {m : Str → Option Value} {name : Str} {scope : Scope} {cd : Value} {l : List Env} {sa : Addr} (x : SelfX w esc h₀ l sa) (F : Fr h₀ L h m) : SelfX w esc h (envOf name scope L a cd :: l) sa := by
  obtain ⟨dx, md, k1, k2, k3, ⟨i, om, m1, m2, m3⟩, o1, o2, o3⟩ := x
  exact ⟨dx, md, k1, k2, k3, ⟨InstAt.kept i F.keep, om, F.keep _ _ m1, m2, m3⟩, o1.push F i.at_, o2.push F i.dict, o3.push F m1⟩
theorem SelfX.turn {w : World} {esc : Bool} {g g' : Heap} {l : List Env} {sa : Addr} (x : SelfX w esc g l sa) (T : KtsTurn (l.filterMap (·.frame)) g g') : SelfAt w esc g' sa := by
  obtain ⟨dx, md, k1, k2, k3, ⟨i, om, m1, m2, m3⟩, o1, o2, o3⟩ := x
  exact ⟨dx, md, k1, k2, k3, ⟨T.other _ _ i.at_ o1, i.cls, i.no, T.other _ _ i.dict o2⟩, om, T.other _ _ m1 o3, m2, m3⟩
end
section
theorem lines_NXh : True := by
  k_with_none
  k_with "kfm_field" => (refine wpAny_bind (KFm.field_auto (by kfm_num) (by rfl) ?_); refine wpAny_bind (wpAny_holding ?_); show wpAny _ _ (pyReprObj _) _ _ _; refine wpAny_pyReprObj_str ?_ (by decide +kernel); kpc_if; refine wpAny_bind (wpAny_pure ?_); refine wpAny_bind (wpAny_holding (wpAny_of_eq (KFm.formatOf_str _ _) ?_)); refine wpAny_bind (wpAny_of_eq (a := some _) rfl ?_); refine wpAny_pure ?_; refine KFm.after_field (K := 100000) (by kpc_g) (by kpc_text) (by kpc_obj) (by decide +kernel) (by kpc_obj) (by kfm_cat2) (by kfm_rest) ?_; intro _ _)
  trivial
theorem call_fmt {prog : Program} {w : World} {A : Around} {E : Value → Shared → Prop} {s : Shared} {Q : Value → Shared → Prop} {t u : Tok} (h : ∀ x t' k, Q (.str x t') { s with toks := k }) :
    wpAny (model prog w) A (call (.builtin "str.format") [.str (Str.ofString "No renderer \"{!r}\"") t, .str (Str.ofString "unheard_of") u]) Q E s := by
  refine' KFm.call_k ?kfmF ?kfmg ?kfmm ?_
  case kfmF => kfm_eq
  case kfmg => kfm_args
  case kfmm => k_dflt kfm_run
  intro _ _
  exact h _ _ _
end
section
open PySem.W.KStt (codes)
theorem lines_NUr : True := by
  k_with_none
  k_with "z1" => (((try simp only [depth_under_make, depth_under_kw, depth_in1, depth_deeper, depth_caller]); (try dsimp only [ktrTop]); omega))
  k_with "ktr_enter" => ((refine' code_def ?k1 ?k2 ?k3 ?k4 ?k5 ?kA ?kF ?kK ?k6 ?k7 ?k8 ?k9 ?kB ?_ ?c2 ?c3 ?c4 ?c5; (case kA => exact rfl); (case kF => exact rfl); (case kK => first | assumption | exact rfl); (case k1 => k_asm); (case k2 => k_asm); (case k3 => k_asm); (case k4 => k_asm); (case k5 => k_asm); (case k6 => k_is); (case k7 => k_is); (case k8 => k_extra "z1"); (case k9 => first | exact BindsTo.of_eq rfl | exact binds_K (by k_in) rfl (by k_is) rfl rfl rfl | fail "enter: no rule for these arguments"); (case c5 => decide); (case kB => exact locs rfl); (case c2 => exact rfl); (case c3 => exact rfl); (case c4 => exact rfl); k_whole); intro gpq0 Lpq0 hpq0 FGpq0 Fpq0 Npq0 Bpq0 Xpq0 Tpq0; (try dsimp only); (try k_lift Bpq0); (try k_fold))
  k_with "k_mem" => (first | with_reducible exact List.mem_cons_self | with_reducible assumption | (with_reducible refine List.mem_cons_of_mem _ ?_; k_mem) | (with_reducible refine List.mem_append_left _ ?_; k_mem) | (with_reducible refine List.mem_append_right _ ?_; k_mem))
  k_with "execs cons" => (k_here; k_dflt (refine wpAny_execs_cons ?_))
  k_with "execs cons" => (k_here; (with_reducible refine execs_cons_gen ?_); intro tk9q3)
  k_with "execs nil" => (k_here; (with_reducible refine wpAny_execs_nil ?_))
  k_with "exec If" => (k_here; k_dflt (refine wpAny_If ?_))
  k_with "ite" => (k_here; first | (with_reducible refine ite_tt ?_) | (with_reducible refine ite_ff ?_) | (k_closed; (first | (with_reducible refine iteP ?iteC ?_; (case iteC => decide)) | (with_reducible refine iteN ?iteC ?_; (case iteC => decide)))) | (with_reducible refine split_ine ?_ ?_ <;> intro _) | (with_reducible refine split_ieq ?_ ?_ <;> intro _) | with_reducible refine split_not ?_ | (with_reducible refine iteDec ?_ ?_ <;> intro _) | (with_reducible refine iteB ?_ ?_ <;> intro _))
  k_with "callWith ref" => (k_here; k_dflt ((with_reducible refine' callWith_K ?k1 ?k2 ?_ ?he ?hp); (case he => exact rfl); (case hp => exact rfl); (case k1 => k_asm); (case k2 => k_is)))
  k_with "callWith ref" => (k_here; k_dflt ((with_reducible refine' callWith_K0 ?k1 ?k2 ?_); (case k1 => exact Frag.In.keeps (by with_reducible assumption) (Fr.keep (by with_reducible assumption))); (case k2 => k_is); (try dsimp only [List.nil_append])))
  k_with "callWith" => (k_here; k_dflt ((with_reducible refine' callWith_m1 ?_ ?he ?hp); (case he => exact rfl); (case hp => exact rfl)))
  k_with "binaryOp Mod int int" => (k_here; (with_reducible refine' mod_int' ?kbe ?_); (case kbe => decide); (try dsimp only); (try k_fold))
  k_with "eval Call" => (k_here; (with_reducible show wpAny _ _ (eval (Expr.Call (Expr.Name _ _) _ [] _) _) _ _ _); k_dflt (refine Call_ ?_))
  k_with "k_all" => (first | with_reducible assumption | exact List.forall_mem_nil _ | (with_reducible refine' List.forall_mem_cons.mpr ⟨?ka, ?kb⟩; (case ka => k_ne); (case kb => k_all)) | (with_reducible refine' ltNe2 ?ka; (case ka => with_reducible assumption)) | (with_reducible refine' ltNe3 ?ka; (case ka => with_reducible assumption)) | (with_reducible refine' ltNe4 ?ka; (case ka => with_reducible assumption)) | (with_reducible refine' List.forall_mem_append.mpr ⟨?ka, ?kb⟩; (case ka => k_all); (case kb => k_all)) | (with_reducible refine' apartE ?ka ?kb; (case ka => with_reducible assumption); (case kb => k_mem)) | (with_reducible refine' ltNe ?ka; (case ka => with_reducible assumption)))
  k_with "k_ne" => (refine neN ?_; (try dsimp only); first | with_reducible assumption | (with_reducible exact Ne.symm (by assumption)) | (with_reducible exact Nat.ne_of_lt (by assumption)) | (with_reducible exact Nat.ne_of_gt (by assumption)) | omega)
  k_with "ite" => (k_here; (with_reducible show (if (Txt.item _ _ == Str.ofString "%") = true then _ else _)); (with_reducible refine' iteF (notPct ?ka ?kb) ?_; (case ka => with_reducible assumption); (case kb => with_reducible assumption)))
  k_with "getMethod str" => (k_here; (with_reducible show wpAny _ _ (getMethod (Value.str _ _) (Str.ofString "encode") _) _ _ _); k_dflt ((with_reducible refine meth_enc ?_); (try dsimp only); (try k_fold)))
  k_with "getMethod" => (k_here; (with_reducible show wpAny _ _ (getMethod (Value.str _ _) (Str.ofString "encode") _) _ _ _); k_dflt ((with_reducible refine meth_enc ?_); (try dsimp only); (try k_fold)))
  k_with "call builtin:str.encode" => (k_here; k_dflt ((with_reducible refine' enc_item ?hx ?hi ?_); (case hx => with_reducible assumption); (case hi => with_reducible assumption); intro c9q59 t9q59 k9q59 hc9q59 hg9q59; (try dsimp only); (try k_fold)))
  k_with "call builtin:list.extend" => (k_here; k_dflt ((with_reducible refine' ext_byte ?hh ?F ?N ?hz ?_); (case hh => exact rfl); (case F => k_asm); (case N => k_asm); (case hz => (with_reducible rename IntsAre _ _ => hI7q60); (have hL7q60 := hI7q60.length); (rw [List.length_take, PySem.W.KStt.codes_length] at hL7q60); omega); intro h9q60 u9q60 n9q60 k9q60 F9q60 N9q60; (try k_sweep); (try dsimp only); (try k_fold)))
  k_with "call type:bytes" => (k_here; k_dflt ((with_reducible refine' bytes_url ?hx ?F ?N ?hv ?hi ?hh ?_); (case hx => with_reducible assumption); (case F => k_asm); (case N => k_asm); (case hv => with_reducible assumption); (case hi => with_reducible assumption); (case hh => exact rfl); intro h9q61 t9q61 k9q61 F9q61 N9q61; (try k_sweep); (try dsimp only); (try k_fold)))
  k_with "call builtin:bytes.decode" => (k_here; k_dflt ((with_reducible refine' dec_url ?hx ?_); (case hx => with_reducible assumption); intro t9q62 k9q62; (try dsimp only); (try k_fold)))
  k_with "look" => (with_reducible first | exact Look1.str | exact Look1.int | (refine' Look1.name ?hx ?hd ?hm; (case hx => k_dflt (exact rfl)); (case hd => k_dflt decide); (case hm => k_dflt (exact rfl))) | exact LookN.nil | (refine' LookN.cons ?x ?y; (case x => k_extra "look"); (case y => k_extra "look")) | exact LookP.nil | (refine' LookP.cons ?x ?y ?z; (case x => k_extra "look"); (case y => k_extra "look"); (case z => k_extra "look")))
  k_with "spliced" => (k_here; (with_reducible show wpAny _ _ (spliced (backTo _ (starEach (_ :: _) _))) _ _ _); (with_reducible rename Fr _ _ _ _ => F8q16); ((with_reducible refine' args_lk F8q16 ?he ?hk ?l ?_); (case he => k_dflt (exact ⟨_, _, _, _, rfl⟩)); (case hk => k_dflt (exact rfl)); (case l => k_extra "look")); (try dsimp only); (try k_fold))
  k_with "evalPairs" => (k_here; (with_reducible show wpAny _ _ (evalPairs (pairTrees (_ :: _) _ _ _)) _ _ _); (with_reducible rename Fr _ _ _ _ => F8q17); ((with_reducible refine' pairs_lk F8q17 ?he ?hk ?l ?_); (case he => k_dflt (exact ⟨_, _, _, _, rfl⟩)); (case hk => k_dflt (exact rfl)); (case l => k_extra "look")); (try dsimp only); (try k_fold))
  k_with "eval BinOp" => (k_here; (with_reducible show wpAny _ _ (eval (Expr.BinOp (Expr.Name _ _) _ (Expr.Constant _ _ _) _) _) _ _ _); (with_reducible rename Fr _ _ _ _ => F8q18); ((with_reducible refine' bin_lk F8q18 ?he ?hk ?l ?r ?_); (case he => k_dflt (exact ⟨_, _, _, _, rfl⟩)); (case hk => k_dflt (exact rfl)); (case l => k_extra "look"); (case r => k_extra "look")); (try dsimp only); (try k_fold))
  k_with "eval BinOp" => (k_here; (with_reducible show wpAny _ _ (eval (Expr.BinOp (Expr.Name _ _) _ (Expr.Name _ _) _) _) _ _ _); (with_reducible rename Fr _ _ _ _ => F8q19); ((with_reducible refine' bin_lk F8q19 ?he ?hk ?l ?r ?_); (case he => k_dflt (exact ⟨_, _, _, _, rfl⟩)); (case hk => k_dflt (exact rfl)); (case l => k_extra "look"); (case r => k_extra "look")); (try dsimp only); (try k_fold))
  k_with "exec If" => (k_here; (with_reducible show wpAny _ _ (exec (Stmt.If (Expr.Compare (Expr.Name _ _) [CmpOp.Eq] [Expr.Constant (Const.int _) _ _] _) _ _ _) _) _ _ _); (with_reducible rename Fr _ _ _ _ => F8q20); ((with_reducible refine' if_lk F8q20 ?he ?hk ?l ?r ?h ?_); (case he => k_dflt (exact ⟨_, _, _, _, rfl⟩)); (case hk => k_dflt (exact rfl)); (case l => k_extra "look"); (case r => k_extra "look"); (case h => k_dflt (with_unfolding_all rfl))); (try dsimp only); (try k_fold))
  trivial
theorem tell_unq {w : World} {x : Str} {tk : Nat} (hx : x ∈ urlsL) : Tell0 w 53 40 400 [.str x tk] (fun _ => True) (fun r => ∃ t, r = .str x t) := by
  have hx0 := urls_len hx
  intro p loose mean mg mb dp un gd cn cs a ccd cl outer A₀ base h₀ L m news s Q E B F X N T hk hdp hun _ ret
  refine fillT w ?_
  k_fill
  intro _ _
  refine wpAny_call ?_
  k_dflt ((refine' code_all ?k1 ?k2 ?k3 ?k4 ?k5 ?kA ?kF ?kK ?k6 ?k7 ?k8 ?k9 ?kB ?_ ?c2 ?c3 ?c4 ?c5; (case kA => exact rfl); (case kF => exact rfl); (case kK => first | assumption | exact rfl); (case k1 => k_asm); (case k2 => k_asm); (case k3 => k_asm); (case k4 => k_asm); (case k5 => k_asm); (case k6 => k_is); (case k7 => k_is); (case k8 => ((try simp only [depth_under_make, depth_under_kw, depth_in1, depth_deeper, depth_caller]); (try dsimp only [ktrTop]); omega)); (case k9 => first | exact BindsTo.of_eq rfl | exact binds_K (by k_in) rfl (by k_is) rfl rfl rfl | fail "enter: no rule for these arguments"); (case c5 => decide); (case kB => exact locs rfl); (case c2 => exact rfl); (case c3 => exact rfl); (case c4 => exact rfl); k_whole); intro g0 L0 h' FG' F' N' B' X' T' hs0; (try dsimp only); (try k_fold))
  repeat' (first | ((with_reducible show Q _ _); fail) | ((with_reducible show wpAny _ _ (exec (Stmt.While _ _ _ _) _) _ _ _); fail) | (k_unfold; (try dsimp only)) | ((fail_if_success (with_reducible show Q _ _)); (fail_if_success (with_reducible show wpAny _ _ (exec (Stmt.While _ _ _ _) _) _ _ _)); walk1) | ((fail_if_success (with_reducible show Q _ _)); (fail_if_success (with_reducible show wpAny _ _ (exec (Stmt.While _ _ _ _) _) _ _ _)); dsimp only; walk1) | (leave1; try dsimp only) | fail "no step")
  all_goals (
    with_reducible rename Fr g0 _ _ _ => F9
    with_reducible rename News g0 _ _ _ => N9
    refine ksw_while (σ := Nat × Nat × List Value × Nat) (fun c => [(_, W.listOf c.2.2.1.toArray c.2.2.2)]) (fun c => [(S "place", .int (c.1 : Int) c.2.1)]) (fun c => c.1 ≤ x.length ∧ IntsAre c.2.2.1 ((codes x).take c.1)) [S "pair"] (fun _ => True) (fun c => x.length - c.1) (0, _, [], 0) F9 N9 ⟨Nat.zero_le _, by exact .nil⟩ (fun p hp => by rw [List.mem_singleton.mp hp]; rfl) True.intro ?_
    rintro ⟨i, t, vs, n⟩ u h9 tk9 ⟨hi, hvs⟩ - F8 N8
    dsimp only at hi hvs F8 N8
    clear F9 N9
    (try dsimp only); (try k_fold))
  repeat' (first | ((with_reducible show Q _ _); fail) | ((with_reducible show KswPost _ _ _ _ _ _ _ _ _ _ _ _ _ _); fail) | (k_unfold; (try dsimp only)) | ((fail_if_success (with_reducible show Q _ _)); (fail_if_success (with_reducible show KswPost _ _ _ _ _ _ _ _ _ _ _ _ _ _)); walk1) | ((fail_if_success (with_reducible show Q _ _)); (fail_if_success (with_reducible show KswPost _ _ _ _ _ _ _ _ _ _ _ _ _ _)); dsimp only; walk1) | (leave1; try dsimp only) | fail "no step")
  all_goals first
    | (with_reducible rename Fr h₀ L _ _ => kF
       with_reducible rename Fr g0 _ _ _ => F9
       exact ret _ _ _ kF (back0 N hs0 F9) ⟨_, rfl⟩)
    | (with_reducible rename Fr g0 _ _ _ => F9
       with_reducible rename News g0 _ _ _ => N9
       exact unq_end rfl (by with_reducible assumption) (by with_reducible assumption) (by with_reducible assumption) (by with_reducible assumption) F9 N9 rfl (fun z h1 h2 => by (have h3 : [S "pair"].contains z = false := by simp [h2]); simp only [h1, h2, h3, if_false, Bool.false_eq_true, kstB]))
end
section
open PySem.W.KStt (codes)
theorem lines_NUu : True := by
  k_with_none
  k_with "z1" => (((try simp only [depth_under_make, depth_under_kw, depth_in1, depth_deeper, depth_caller]); (try dsimp only [ktrTop]); omega))
  k_with "ktr_enter" => ((refine' code_def ?k1 ?k2 ?k3 ?k4 ?k5 ?kA ?kF ?kK ?k6 ?k7 ?k8 ?k9 ?kB ?_ ?c2 ?c3 ?c4 ?c5; (case kA => exact rfl); (case kF => exact rfl); (case kK => first | assumption | exact rfl); (case k1 => k_asm); (case k2 => k_asm); (case k3 => k_asm); (case k4 => k_asm); (case k5 => k_asm); (case k6 => k_is); (case k7 => k_is); (case k8 => k_extra "z1"); (case k9 => first | exact BindsTo.of_eq rfl | exact binds_K (by k_in) rfl (by k_is) rfl rfl rfl | fail "enter: no rule for these arguments"); (case c5 => decide); (case kB => exact locs rfl); (case c2 => exact rfl); (case c3 => exact rfl); (case c4 => exact rfl); k_whole); intro gpq0 Lpq0 hpq0 FGpq0 Fpq0 Npq0 Bpq0 Xpq0 Tpq0; (try dsimp only); (try k_lift Bpq0); (try k_fold))
  k_with "k_mem" => (first | with_reducible exact List.mem_cons_self | with_reducible assumption | (with_reducible refine List.mem_cons_of_mem _ ?_; k_mem) | (with_reducible refine List.mem_append_left _ ?_; k_mem) | (with_reducible refine List.mem_append_right _ ?_; k_mem))
  k_with "execs cons" => (k_here; k_dflt (refine wpAny_execs_cons ?_))
  k_with "execs cons" => (k_here; (with_reducible refine execs_cons_gen ?_); intro tk9q3)
  k_with "execs nil" => (k_here; (with_reducible refine wpAny_execs_nil ?_))
  k_with "exec If" => (k_here; k_dflt (refine wpAny_If ?_))
  k_with "ite" => (k_here; first | (with_reducible refine ite_tt ?_) | (with_reducible refine ite_ff ?_) | (k_closed; (first | (with_reducible refine iteP ?iteC ?_; (case iteC => decide)) | (with_reducible refine iteN ?iteC ?_; (case iteC => decide)))) | (with_reducible refine split_ine ?_ ?_ <;> intro _) | (with_reducible refine split_ieq ?_ ?_ <;> intro _) | with_reducible refine split_not ?_ | (with_reducible refine iteDec ?_ ?_ <;> intro _) | (with_reducible refine iteB ?_ ?_ <;> intro _))
  k_with "callWith ref" => (k_here; k_dflt ((with_reducible refine' callWith_K ?k1 ?k2 ?_ ?he ?hp); (case he => exact rfl); (case hp => exact rfl); (case k1 => k_asm); (case k2 => k_is)))
  k_with "callWith ref" => (k_here; k_dflt ((with_reducible refine' callWith_K0 ?k1 ?k2 ?_); (case k1 => exact Frag.In.keeps (by with_reducible assumption) (Fr.keep (by with_reducible assumption))); (case k2 => k_is); (try dsimp only [List.nil_append])))
  k_with "callWith" => (k_here; k_dflt ((with_reducible refine' callWith_m1 ?_ ?he ?hp); (case he => exact rfl); (case hp => exact rfl)))
  k_with "binaryOp Mod int int" => (k_here; (with_reducible refine' mod_int' ?kbe ?_); (case kbe => decide); (try dsimp only); (try k_fold))
  k_with "eval Call" => (k_here; (with_reducible show wpAny _ _ (eval (Expr.Call (Expr.Name _ _) _ [] _) _) _ _ _); k_dflt (refine Call_ ?_))
  k_with "k_all" => (first | with_reducible assumption | exact List.forall_mem_nil _ | (with_reducible refine' List.forall_mem_cons.mpr ⟨?ka, ?kb⟩; (case ka => k_ne); (case kb => k_all)) | (with_reducible refine' ltNe2 ?ka; (case ka => with_reducible assumption)) | (with_reducible refine' ltNe3 ?ka; (case ka => with_reducible assumption)) | (with_reducible refine' ltNe4 ?ka; (case ka => with_reducible assumption)) | (with_reducible refine' List.forall_mem_append.mpr ⟨?ka, ?kb⟩; (case ka => k_all); (case kb => k_all)) | (with_reducible refine' apartE ?ka ?kb; (case ka => with_reducible assumption); (case kb => k_mem)) | (with_reducible refine' ltNe ?ka; (case ka => with_reducible assumption)))
  k_with "k_ne" => (refine neN ?_; (try dsimp only); first | with_reducible assumption | (with_reducible exact Ne.symm (by assumption)) | (with_reducible exact Nat.ne_of_lt (by assumption)) | (with_reducible exact Nat.ne_of_gt (by assumption)) | omega)
  k_with "ite" => (k_here; (with_reducible refine' iteP ?kq ?_; (case kq => exact beq_self_eq_true _)))
  k_with "z2" => ((with_reducible rename _ + _ < recursionLimit => hr9; first | exact room1 hr9 (by first | decide | assumption | (refine' Nat.le_trans ?qa ?qb; (case qb => assumption); (case qa => decide))) | ((try simp only [depth_under_make, depth_under_kw, depth_in1, depth_deeper, depth_caller, units_in1, units_deeper, units_caller]); (try dsimp only [ktrTop]); omega)))
  k_with "z3" => ((with_reducible rename _ + _ < cLine => hr9; first | exact room3 hr9 (by first | decide | assumption | (refine' Nat.le_trans ?qa ?qb; (case qb => assumption); (case qa => decide))) | ((try simp only [depth_under_make, depth_under_kw, depth_in1, depth_deeper, depth_caller, units_in1, units_deeper, units_caller]); (try dsimp only [ktrTop]); omega)))
  k_with "call ref" => (k_here; (with_reducible show wpAny _ _ (call (Value.ref 53) _) _ _ _); k_dflt (refine' Tell0.use (tell_unq ?ka) ?k1 ?k2 ?k3 ?k4 ?k5 ?k6 ?k7 ?k8 ?k9 ?_; (case ka => with_reducible assumption); (case k1 => k_asm); (case k2 => k_asm); (case k3 => k_asm); (case k4 => k_asm); (case k5 => k_asm); (case k6 => exact rfl); (case k7 => k_extra "z2"); (case k8 => k_extra "z3"); (case k9 => exact True.intro); intro r9q64 h9q64 t9q64 F9q64 N9q64 o9q64; obtain ⟨tn9q64, e9q64⟩ := o9q64; subst e9q64; (try k_sweep); (try dsimp only); (try k_fold)))
  k_with "look" => (with_reducible first | exact Look1.str | exact Look1.int | (refine' Look1.name ?hx ?hd ?hm; (case hx => k_dflt (exact rfl)); (case hd => k_dflt decide); (case hm => k_dflt (exact rfl))) | exact LookN.nil | (refine' LookN.cons ?x ?y; (case x => k_extra "look"); (case y => k_extra "look")) | exact LookP.nil | (refine' LookP.cons ?x ?y ?z; (case x => k_extra "look"); (case y => k_extra "look"); (case z => k_extra "look")))
  k_with "spliced" => (k_here; (with_reducible show wpAny _ _ (spliced (backTo _ (starEach (_ :: _) _))) _ _ _); (with_reducible rename Fr _ _ _ _ => F8q16); ((with_reducible refine' args_lk F8q16 ?he ?hk ?l ?_); (case he => k_dflt (exact ⟨_, _, _, _, rfl⟩)); (case hk => k_dflt (exact rfl)); (case l => k_extra "look")); (try dsimp only); (try k_fold))
  k_with "evalPairs" => (k_here; (with_reducible show wpAny _ _ (evalPairs (pairTrees (_ :: _) _ _ _)) _ _ _); (with_reducible rename Fr _ _ _ _ => F8q17); ((with_reducible refine' pairs_lk F8q17 ?he ?hk ?l ?_); (case he => k_dflt (exact ⟨_, _, _, _, rfl⟩)); (case hk => k_dflt (exact rfl)); (case l => k_extra "look")); (try dsimp only); (try k_fold))
  k_with "eval BinOp" => (k_here; (with_reducible show wpAny _ _ (eval (Expr.BinOp (Expr.Name _ _) _ (Expr.Constant _ _ _) _) _) _ _ _); (with_reducible rename Fr _ _ _ _ => F8q18); ((with_reducible refine' bin_lk F8q18 ?he ?hk ?l ?r ?_); (case he => k_dflt (exact ⟨_, _, _, _, rfl⟩)); (case hk => k_dflt (exact rfl)); (case l => k_extra "look"); (case r => k_extra "look")); (try dsimp only); (try k_fold))
  k_with "eval BinOp" => (k_here; (with_reducible show wpAny _ _ (eval (Expr.BinOp (Expr.Name _ _) _ (Expr.Name _ _) _) _) _ _ _); (with_reducible rename Fr _ _ _ _ => F8q19); ((with_reducible refine' bin_lk F8q19 ?he ?hk ?l ?r ?_); (case he => k_dflt (exact ⟨_, _, _, _, rfl⟩)); (case hk => k_dflt (exact rfl)); (case l => k_extra "look"); (case r => k_extra "look")); (try dsimp only); (try k_fold))
  k_with "exec If" => (k_here; (with_reducible show wpAny _ _ (exec (Stmt.If (Expr.Compare (Expr.Name _ _) [CmpOp.Eq] [Expr.Constant (Const.int _) _ _] _) _ _ _) _) _ _ _); (with_reducible rename Fr _ _ _ _ => F8q20); ((with_reducible refine' if_lk F8q20 ?he ?hk ?l ?r ?h ?_); (case he => k_dflt (exact ⟨_, _, _, _, rfl⟩)); (case hk => k_dflt (exact rfl)); (case l => k_extra "look"); (case r => k_extra "look"); (case h => k_dflt (with_unfolding_all rfl))); (try dsimp only); (try k_fold))
  k_with "storeName" => (k_here; (with_reducible rename Fr _ _ _ _ => F8q21); (with_reducible rename News _ _ _ _ => N8q21); ((with_reducible refine' store_lk F8q21 N8q21 ?he ?hk ?hx ?_); (case he => k_dflt (exact ⟨_, _, _, _, rfl⟩)); (case hk => k_dflt (exact rfl)); (case hx => k_dflt (exact rfl)); intro h9q21 m9q21 F9q21 N9q21; (try clear F8q21 N8q21); (try dsimp only); (try k_fold)))
  trivial
theorem tell_unq_url {w : World} {x : Str} {tk : Nat} (hx : x ∈ urlsL) : Tell0 w 496 80 800 [.str x tk] (fun _ => True) (fun r => ∃ t, r = .str x t) := by
  have hx0 := urls_len hx
  intro p loose mean mg mb dp un gd cn cs a ccd cl outer A₀ base h₀ L m news s Q E B F X N T hk hdp hun _ ret
  refine fillT w ?_
  k_fill
  intro _ _
  refine wpAny_call ?_
  k_dflt ((refine' code_all ?k1 ?k2 ?k3 ?k4 ?k5 ?kA ?kF ?kK ?k6 ?k7 ?k8 ?k9 ?kB ?_ ?c2 ?c3 ?c4 ?c5; (case kA => exact rfl); (case kF => exact rfl); (case kK => first | assumption | exact rfl); (case k1 => k_asm); (case k2 => k_asm); (case k3 => k_asm); (case k4 => k_asm); (case k5 => k_asm); (case k6 => k_is); (case k7 => k_is); (case k8 => ((try simp only [depth_under_make, depth_under_kw, depth_in1, depth_deeper, depth_caller]); (try dsimp only [ktrTop]); omega)); (case k9 => first | exact BindsTo.of_eq rfl | exact binds_K (by k_in) rfl (by k_is) rfl rfl rfl | fail "enter: no rule for these arguments"); (case c5 => decide); (case kB => exact locs rfl); (case c2 => exact rfl); (case c3 => exact rfl); (case c4 => exact rfl); k_whole); intro g0 L0 h' FG' F' N' B' X' T' hs0; (try dsimp only); (try k_fold))
  repeat' (first | ((with_reducible show Q _ _); fail) | (k_unfold; (try dsimp only)) | ((fail_if_success (with_reducible show Q _ _)); walk1) | ((fail_if_success (with_reducible show Q _ _)); dsimp only; walk1) | (leave1; try dsimp only) | fail "no step")
  all_goals (
    with_reducible rename Fr h₀ L _ _ => kF
    with_reducible rename Fr g0 _ _ _ => F9
    exact ret _ _ _ kF (back0 N hs0 F9) ⟨_, rfl⟩)
end
section
open PySem.Builtin PySem.Builtin.Str
theorem isSub_tuple : ∀ {s : Shared} {T : Addr}, s.TypeIs (.ref T) "tuple" → s.TypeIs (.ref T) "tuple" := id
section
variable {w : World} {A : Around} {E : Value → Shared → Prop} {s : Shared} {Q : Value → Shared → Prop}
theorem starts_any {T : Addr} {o : Obj} {items : Array Value} {ys : List Str} {x : Str} {t : Tok} {n : Nat} (hT : s.heap.get? T = some o) (hcls : o.cls = .type "tuple") (hd : o.data = .seq items n) (hi : StrsAre items.toList ys)
    (h : Q (.bool (ys.any fun y => Txt.startswith x y)) s) : wpAny (mdl w) A (call (.builtin "str.startswith") [.str x t, .ref T]) Q E s := by
  refine wpAny_call (codeAny_call_builtin PySem.F.slot_str_startswith.plain PySem.F.entry_str_startswith (PySem.F.slot_str_startswith.check _ _ _ _ _ _ _ _ (typeIs_str _ _ _) (PySem.F.args_str_startswith_2 _ _) ?_))
  show wpAny _ A.in1 (asStr? (.ref T) >>= _) _ _ s
  refine wpAny_bind ?_
  unfold asStr?
  refine wpAny_bind (wpAny_load hT ?_)
  rw [hd]
  refine wpAny_pure ?_
  show wpAny _ A.in1 (isInstance (.ref T) (.type "tuple") >>= _) _ _ s
  refine wpAny_bind (wpAny_isInstance (T := "tuple") (b := true) ⟨o, hT, hcls⟩ (by rw [isSubtype_type]; kernel_rfl) ?_)
  rw [if_pos rfl]
  refine wpAny_bind (wpAny_rule ?_)
  refine wpAny_bind (wpAny_seqItems hT hd ?_)
  dsimp only
  have hmin : Min.min ((x.length : Int)).toNat x.length = x.length := by simp
  refine wpAny_bind (PySem.MeetsSeq2.wpAny_forIn_array _ (fun rest b s' => s' = s ∧ b.1 = none ∧ ∃ r, StrsAre rest r ∧ (ys.any fun y => Txt.startswith x y) = (r.any fun y => Txt.startswith x y)) _ ?_ ?_ _ _ ⟨rfl, rfl, ys, hi, rfl⟩)
  · rintro v rest b s' ⟨rfl, hb, r, hr, he⟩
    cases hr with
    | cons y u hr =>
      refine wpAny_bind (wpAny_pure ?_)
      dsimp only
      rw [hmin]
      by_cases hc : (decide (Int.toNat 0 + Str.length y ≤ x.length) && subAt x y (Int.toNat 0)) = true
      · rw [if_pos hc]
        refine wpAny_bind (wpAny_pure ?_)
        refine wpAny_pure ?_
        refine wpAny_pure ?_
        have : (ys.any fun y => Txt.startswith x y) = true := by
          rw [he, List.any_cons, show Txt.startswith x y = true from hc]; rfl
        rw [this] at h
        exact h
      · rw [if_neg hc]
        refine wpAny_pure ⟨rfl, rfl, _, hr, ?_⟩
        rw [he, List.any_cons, show Txt.startswith x y = false from Bool.eq_false_iff.mpr hc]
        rfl
  · rintro b s' ⟨rfl, hb, r, hr, he⟩
    cases hr
    rw [hb]
    refine wpAny_pure ?_
    rw [he] at h
    exact h
def protoL : List Str := [S "http:", S "https:", S "mailto:", S "tel:", S "ftp:", S "ftps:", S "irc:", S "ircs:"]
def dataL : List Str := [S "data:image/gif;", S "data:image/png;", S "data:image/jpeg;", S "data:image/webp;"]
def rootL : List Str := [S "/", S "#", S "?"]
abbrev anyOf (ys : List Str) (x : Str) : Bool := ys.any fun y => Txt.startswith x y
theorem starts_288 {h₀ : Heap} {L : Addr} {m : Str → Option Value} {x : Str} {t : Tok} (X : (hd.heap_39 w.params).In h₀) (F : Fr h₀ L s.heap m) (h : Q (.bool (anyOf protoL x)) s) : wpAny (mdl w) A (call (.builtin "str.startswith") [.str x t, .ref 288]) Q E s := by
  refine' starts_any (o := ?o) (n := ?n) (items := ?its) ((X.keeps F.keep) _ _ ?la) ?hc ?hd (ys := protoL) ?hi h
  case la => exact rfl
  case hc => exact rfl
  case hd => exact rfl
  case hi => exact .cons _ _ (.cons _ _ (.cons _ _ (.cons _ _ (.cons _ _ (.cons _ _ (.cons _ _ (.cons _ _ .nil)))))))
theorem starts_289 {h₀ : Heap} {L : Addr} {m : Str → Option Value} {x : Str} {t : Tok} (X : (hd.heap_39 w.params).In h₀) (F : Fr h₀ L s.heap m) (h : Q (.bool (anyOf dataL x)) s) : wpAny (mdl w) A (call (.builtin "str.startswith") [.str x t, .ref 289]) Q E s := by
  refine' starts_any (o := ?o) (n := ?n) (items := ?its) ((X.keeps F.keep) _ _ ?la) ?hc ?hd (ys := dataL) ?hi h
  case la => exact rfl
  case hc => exact rfl
  case hd => exact rfl
  case hi => exact .cons _ _ (.cons _ _ (.cons _ _ (.cons _ _ .nil)))
theorem starts_led {h₀ : Heap} {L T : Addr} {news : Led} {x : Str} {t t1 t2 t3 : Tok} (N : News h₀ L s.heap news) (hm : (T, ({ cls := .type "tuple", data := .seq #[.str (S "/") t1, .str (S "#") t2, .str (S "?") t3] } : Obj)) ∈ news)
    (h : Q (.bool (anyOf rootL x)) s) : wpAny (mdl w) A (call (.builtin "str.startswith") [.str x t, .ref T]) Q E s :=
  starts_any (items := #[.str (S "/") t1, .str (S "#") t2, .str (S "?") t3]) (ys := rootL) (N _ hm).1 rfl rfl (.cons _ _ (.cons _ _ (.cons _ _ .nil))) h
/-- the first part of a text that is cut at its first '/' -/
def cutF (x : Str) : Str := (if (decide (x.length < (S "/").length) || decide (strKind x < strKind (S "/"))) = true then [x] else if (occurrences x (S "/") 0 x.length 1).isEmpty = true then [x] else partsBetween x (occurrences x (S "/") 0 x.length 1) (S "/").length).headD (S "")
def noColon (x : Str) : Bool := (occurrences x (S ":") 0 x.length 1).isEmpty
def okF (z : Str) : Bool := anyOf protoL z || anyOf dataL z || anyOf rootL z || noColon (cutF z)
def sanF (u : Str) : Str := if okF (plain u) then u else S "#harmful-link"
theorem cut_tab : (urlsL.all fun u => cutAt (plain u) (S "/") (cutF (plain u)) && decide ((plain u).length ≤ 100)) = true := by decide +kernel
theorem san_tab : (urlsL.all fun u => (addrF u == shownF (sanF u)) && rawsL.contains (sanF u)) = true := by decide +kernel
theorem cut_of {u : Str} (hu : u ∈ urlsL) : CutAt (plain u) (S "/") (cutF (plain u)) := ⟨by have z := List.all_eq_true.mp cut_tab u hu; simp only [Bool.and_eq_true] at z; exact z.1⟩
theorem plain_len {u : Str} (hu : u ∈ urlsL) : (plain u).length ≤ 100 := by have z := List.all_eq_true.mp cut_tab u hu; simp only [Bool.and_eq_true, decide_eq_true_eq] at z; exact z.2
theorem san_is {u : Str} (hu : u ∈ urlsL) : addrF u = shownF (sanF u) := by have z := List.all_eq_true.mp san_tab u hu; simp only [Bool.and_eq_true, beq_iff_eq] at z; exact z.1
theorem san_raw {u : Str} (hu : u ∈ urlsL) : sanF u ∈ rawsL := by have z := List.all_eq_true.mp san_tab u hu; simp only [Bool.and_eq_true] at z; simpa using z.2
theorem ok1 {z : Str} (h : anyOf protoL z = true) : true = okF z := by unfold okF; rw [h]; rfl
theorem ok2 {z : Str} (h : anyOf dataL z = true) : true = okF z := by unfold okF; rw [h]; simp
theorem ok3 {z : Str} (h : anyOf rootL z = true) : true = okF z := by unfold okF; rw [h]; simp
theorem ok4 {z : Str} (h1 : anyOf protoL z = false) (h2 : anyOf dataL z = false) (h3 : anyOf rootL z = false) : (!!(occurrences (cutF z) (Str.ofString ":") 0 (cutF z).length 1).isEmpty) = okF z := by unfold okF; rw [h1, h2, h3]; simp [noColon]
theorem san1 {u : Str} (h : okF (plain u) = true) : sanF u = u := if_pos h
theorem san2 {u : Str} (h : okF (plain u) = false) : sanF u = S "#harmful-link" := if_neg (by rw [h]; decide)
end
end
section
open PySem.W.KStt (codes)
theorem lines_NIs : True := by
  k_with_none
  k_with "z1" => (((try simp only [depth_under_make, depth_under_kw, depth_in1, depth_deeper, depth_caller]); (try dsimp only [ktrTop]); omega))
  k_with "ktr_enter" => ((refine' code_def ?k1 ?k2 ?k3 ?k4 ?k5 ?kA ?kF ?kK ?k6 ?k7 ?k8 ?k9 ?kB ?_ ?c2 ?c3 ?c4 ?c5; (case kA => exact rfl); (case kF => exact rfl); (case kK => first | assumption | exact rfl); (case k1 => k_asm); (case k2 => k_asm); (case k3 => k_asm); (case k4 => k_asm); (case k5 => k_asm); (case k6 => k_is); (case k7 => k_is); (case k8 => k_extra "z1"); (case k9 => first | exact BindsTo.of_eq rfl | exact binds_K (by k_in) rfl (by k_is) rfl rfl rfl | fail "enter: no rule for these arguments"); (case c5 => decide); (case kB => exact locs rfl); (case c2 => exact rfl); (case c3 => exact rfl); (case c4 => exact rfl); k_whole); intro gpq0 Lpq0 hpq0 FGpq0 Fpq0 Npq0 Bpq0 Xpq0 Tpq0; (try dsimp only); (try k_lift Bpq0); (try k_fold))
  k_with "k_mem" => (first | with_reducible exact List.mem_cons_self | with_reducible assumption | (with_reducible refine List.mem_cons_of_mem _ ?_; k_mem) | (with_reducible refine List.mem_append_left _ ?_; k_mem) | (with_reducible refine List.mem_append_right _ ?_; k_mem))
  k_with "execs cons" => (k_here; k_dflt (refine wpAny_execs_cons ?_))
  k_with "execs cons" => (k_here; (with_reducible refine execs_cons_gen ?_); intro tk9q3)
  k_with "execs nil" => (k_here; (with_reducible refine wpAny_execs_nil ?_))
  k_with "exec If" => (k_here; k_dflt (refine wpAny_If ?_))
  k_with "ite" => (k_here; first | (with_reducible refine ite_tt ?_) | (with_reducible refine ite_ff ?_) | (k_closed; (first | (with_reducible refine iteP ?iteC ?_; (case iteC => decide)) | (with_reducible refine iteN ?iteC ?_; (case iteC => decide)))) | (with_reducible refine split_ine ?_ ?_ <;> intro _) | (with_reducible refine split_ieq ?_ ?_ <;> intro _) | with_reducible refine split_not ?_ | (with_reducible refine iteDec ?_ ?_ <;> intro _) | (with_reducible refine iteB ?_ ?_ <;> intro _))
  k_with "callWith ref" => (k_here; k_dflt ((with_reducible refine' callWith_K ?k1 ?k2 ?_ ?he ?hp); (case he => exact rfl); (case hp => exact rfl); (case k1 => k_asm); (case k2 => k_is)))
  k_with "callWith ref" => (k_here; k_dflt ((with_reducible refine' callWith_K0 ?k1 ?k2 ?_); (case k1 => exact Frag.In.keeps (by with_reducible assumption) (Fr.keep (by with_reducible assumption))); (case k2 => k_is); (try dsimp only [List.nil_append])))
  k_with "callWith" => (k_here; k_dflt ((with_reducible refine' callWith_m1 ?_ ?he ?hp); (case he => exact rfl); (case hp => exact rfl)))
  k_with "binaryOp Mod int int" => (k_here; (with_reducible refine' mod_int' ?kbe ?_); (case kbe => decide); (try dsimp only); (try k_fold))
  k_with "eval Call" => (k_here; (with_reducible show wpAny _ _ (eval (Expr.Call (Expr.Name _ _) _ [] _) _) _ _ _); k_dflt (refine Call_ ?_))
  k_with "k_all" => (first | with_reducible assumption | exact List.forall_mem_nil _ | (with_reducible refine' List.forall_mem_cons.mpr ⟨?ka, ?kb⟩; (case ka => k_ne); (case kb => k_all)) | (with_reducible refine' ltNe2 ?ka; (case ka => with_reducible assumption)) | (with_reducible refine' ltNe3 ?ka; (case ka => with_reducible assumption)) | (with_reducible refine' ltNe4 ?ka; (case ka => with_reducible assumption)) | (with_reducible refine' List.forall_mem_append.mpr ⟨?ka, ?kb⟩; (case ka => k_all); (case kb => k_all)) | (with_reducible refine' apartE ?ka ?kb; (case ka => with_reducible assumption); (case kb => k_mem)) | (with_reducible refine' ltNe ?ka; (case ka => with_reducible assumption)))
  k_with "k_ne" => (refine neN ?_; (try dsimp only); first | with_reducible assumption | (with_reducible exact Ne.symm (by assumption)) | (with_reducible exact Nat.ne_of_lt (by assumption)) | (with_reducible exact Nat.ne_of_gt (by assumption)) | omega)
  k_with "call builtin:str.split" => (k_here; k_dflt (first | ((with_reducible refine' split_wordsA ?w ?k1 ?k2 ?_); (case w => with_reducible assumption); (case k1 => k_asm); (case k2 => k_asm)) | ((with_reducible refine' split_cutA ?w ?k1 ?k2 ?_); (case w => with_reducible assumption); (case k1 => k_asm); (case k2 => k_asm))); intro D9q65 t9q65 r9q65 h9q65 k9q65 F9q65 N9q65 hl9q65; (try k_lt hl9q65); (try k_sweep); (try dsimp only); (try k_fold))
  k_with "subscriptTail Call" => (k_here; (with_reducible show wpAny _ _ (subscriptTail _ _ (Value.ref _) (Value.int 0 _)) _ _ _); (with_reducible rename News _ _ _ _ => N8q66); k_dflt (refine' first_of N8q66 ?ks ?_; (case ks => with_unfolding_all rfl); clear N8q66; intro N9q66; (try dsimp only); (try k_fold)))
  k_with "call builtin:str.startswith" => (k_here; k_dflt (first | ((with_reducible show wpAny _ _ (call (Value.builtin _) [Value.str _ _, Value.ref 288]) _ _ _); (with_reducible refine' starts_288 ?X ?F ?_); (case X => k_asm); (case F => k_asm)) | ((with_reducible show wpAny _ _ (call (Value.builtin _) [Value.str _ _, Value.ref 289]) _ _ _); (with_reducible refine' starts_289 ?X ?F ?_); (case X => k_asm); (case F => k_asm)) | ((with_reducible refine' starts_led ?N ?hm ?_); (case N => k_asm); (case hm => k_mem))); (try dsimp only); (try k_fold))
  k_with "look" => (with_reducible first | exact Look1.str | exact Look1.int | (refine' Look1.name ?hx ?hd ?hm; (case hx => k_dflt (exact rfl)); (case hd => k_dflt decide); (case hm => k_dflt (exact rfl))) | exact LookN.nil | (refine' LookN.cons ?x ?y; (case x => k_extra "look"); (case y => k_extra "look")) | exact LookP.nil | (refine' LookP.cons ?x ?y ?z; (case x => k_extra "look"); (case y => k_extra "look"); (case z => k_extra "look")))
  k_with "spliced" => (k_here; (with_reducible show wpAny _ _ (spliced (backTo _ (starEach (_ :: _) _))) _ _ _); (with_reducible rename Fr _ _ _ _ => F8q16); ((with_reducible refine' args_lk F8q16 ?he ?hk ?l ?_); (case he => k_dflt (exact ⟨_, _, _, _, rfl⟩)); (case hk => k_dflt (exact rfl)); (case l => k_extra "look")); (try dsimp only); (try k_fold))
  k_with "evalPairs" => (k_here; (with_reducible show wpAny _ _ (evalPairs (pairTrees (_ :: _) _ _ _)) _ _ _); (with_reducible rename Fr _ _ _ _ => F8q17); ((with_reducible refine' pairs_lk F8q17 ?he ?hk ?l ?_); (case he => k_dflt (exact ⟨_, _, _, _, rfl⟩)); (case hk => k_dflt (exact rfl)); (case l => k_extra "look")); (try dsimp only); (try k_fold))
  k_with "eval BinOp" => (k_here; (with_reducible show wpAny _ _ (eval (Expr.BinOp (Expr.Name _ _) _ (Expr.Constant _ _ _) _) _) _ _ _); (with_reducible rename Fr _ _ _ _ => F8q18); ((with_reducible refine' bin_lk F8q18 ?he ?hk ?l ?r ?_); (case he => k_dflt (exact ⟨_, _, _, _, rfl⟩)); (case hk => k_dflt (exact rfl)); (case l => k_extra "look"); (case r => k_extra "look")); (try dsimp only); (try k_fold))
  k_with "eval BinOp" => (k_here; (with_reducible show wpAny _ _ (eval (Expr.BinOp (Expr.Name _ _) _ (Expr.Name _ _) _) _) _ _ _); (with_reducible rename Fr _ _ _ _ => F8q19); ((with_reducible refine' bin_lk F8q19 ?he ?hk ?l ?r ?_); (case he => k_dflt (exact ⟨_, _, _, _, rfl⟩)); (case hk => k_dflt (exact rfl)); (case l => k_extra "look"); (case r => k_extra "look")); (try dsimp only); (try k_fold))
  k_with "exec If" => (k_here; (with_reducible show wpAny _ _ (exec (Stmt.If (Expr.Compare (Expr.Name _ _) [CmpOp.Eq] [Expr.Constant (Const.int _) _ _] _) _ _ _) _) _ _ _); (with_reducible rename Fr _ _ _ _ => F8q20); ((with_reducible refine' if_lk F8q20 ?he ?hk ?l ?r ?h ?_); (case he => k_dflt (exact ⟨_, _, _, _, rfl⟩)); (case hk => k_dflt (exact rfl)); (case l => k_extra "look"); (case r => k_extra "look"); (case h => k_dflt (with_unfolding_all rfl))); (try dsimp only); (try k_fold))
  k_with "storeName" => (k_here; (with_reducible rename Fr _ _ _ _ => F8q21); (with_reducible rename News _ _ _ _ => N8q21); ((with_reducible refine' store_lk F8q21 N8q21 ?he ?hk ?hx ?_); (case he => k_dflt (exact ⟨_, _, _, _, rfl⟩)); (case hk => k_dflt (exact rfl)); (case hx => k_dflt (exact rfl)); intro h9q21 m9q21 F9q21 N9q21; (try clear F8q21 N8q21); (try dsimp only); (try k_fold)))
  trivial
theorem tell_is_safe {w : World} {z : Str} {t1 : Nat} (hz : z.length ≤ 100) (hc : CutAt z (S "/") (cutF z)) : Tell0 w 503 40 400 [.str z t1, .ref 288, .ref 289] (fun _ => True) (fun r => r = .bool (okF z)) := by
  intro p loose mean mg mb dp un gd cn cs a ccd cl outer A₀ base h₀ L m news s Q E B F X N T hk hdp hun _ ret
  refine fillT w ?_
  k_fill
  intro _ _
  refine wpAny_call ?_
  k_dflt ((refine' code_all ?k1 ?k2 ?k3 ?k4 ?k5 ?kA ?kF ?kK ?k6 ?k7 ?k8 ?k9 ?kB ?_ ?c2 ?c3 ?c4 ?c5; (case kA => exact rfl); (case kF => exact rfl); (case kK => first | assumption | exact rfl); (case k1 => k_asm); (case k2 => k_asm); (case k3 => k_asm); (case k4 => k_asm); (case k5 => k_asm); (case k6 => k_is); (case k7 => k_is); (case k8 => ((try simp only [depth_under_make, depth_under_kw, depth_in1, depth_deeper, depth_caller]); (try dsimp only [ktrTop]); omega)); (case k9 => first | exact BindsTo.of_eq rfl | exact binds_K (by k_in) rfl (by k_is) rfl rfl rfl | fail "enter: no rule for these arguments"); (case c5 => decide); (case kB => exact locs rfl); (case c2 => exact rfl); (case c3 => exact rfl); (case c4 => exact rfl); k_whole); intro g0 L0 h' FG' F' N' B' X' T' hs0; (try dsimp only); (try k_fold))
  repeat' (first | ((with_reducible show Q _ _); fail) | (k_unfold; (try dsimp only)) | ((fail_if_success (with_reducible show Q _ _)); walk1) | ((fail_if_success (with_reducible show Q _ _)); dsimp only; walk1) | (leave1; try dsimp only) | fail "no step")
  all_goals (
    with_reducible rename Fr h₀ L _ _ => kF
    with_reducible rename Fr g0 _ _ _ => F9
    refine ret _ _ _ kF (back0 N hs0 F9) (congrArg Value.bool ?_)
    first | exact ok1 (by with_reducible assumption) | exact ok2 (by with_reducible assumption) | exact ok3 (by with_reducible assumption) | exact ok4 (by with_reducible assumption) (by with_reducible assumption) (by with_reducible assumption))
end
section
open PySem.W.KStt (codes)
theorem lines_NMr : True := by
  k_with_none
  k_with "z1" => (((try simp only [depth_under_make, depth_under_kw, depth_in1, depth_deeper, depth_caller]); (try dsimp only [ktrTop]); omega))
  k_with "ktr_enter" => ((refine' code_def ?k1 ?k2 ?k3 ?k4 ?k5 ?kA ?kF ?kK ?k6 ?k7 ?k8 ?k9 ?kB ?_ ?c2 ?c3 ?c4 ?c5; (case kA => exact rfl); (case kF => exact rfl); (case kK => first | assumption | exact rfl); (case k1 => k_asm); (case k2 => k_asm); (case k3 => k_asm); (case k4 => k_asm); (case k5 => k_asm); (case k6 => k_is); (case k7 => k_is); (case k8 => k_extra "z1"); (case k9 => first | exact BindsTo.of_eq rfl | exact binds_K (by k_in) rfl (by k_is) rfl rfl rfl | fail "enter: no rule for these arguments"); (case c5 => decide); (case kB => exact locs rfl); (case c2 => exact rfl); (case c3 => exact rfl); (case c4 => exact rfl); k_whole); intro gpq0 Lpq0 hpq0 FGpq0 Fpq0 Npq0 Bpq0 Xpq0 Tpq0; (try dsimp only); (try k_lift Bpq0); (try k_fold))
  k_with "k_mem" => (first | with_reducible exact List.mem_cons_self | with_reducible assumption | (with_reducible refine List.mem_cons_of_mem _ ?_; k_mem) | (with_reducible refine List.mem_append_left _ ?_; k_mem) | (with_reducible refine List.mem_append_right _ ?_; k_mem))
  k_with "execs cons" => (k_here; k_dflt (refine wpAny_execs_cons ?_))
  k_with "execs cons" => (k_here; (with_reducible refine execs_cons_gen ?_); intro tk9q3)
  k_with "execs nil" => (k_here; (with_reducible refine wpAny_execs_nil ?_))
  k_with "exec If" => (k_here; k_dflt (refine wpAny_If ?_))
  k_with "ite" => (k_here; first | (with_reducible refine ite_tt ?_) | (with_reducible refine ite_ff ?_) | (k_closed; (first | (with_reducible refine iteP ?iteC ?_; (case iteC => decide)) | (with_reducible refine iteN ?iteC ?_; (case iteC => decide)))) | (with_reducible refine split_ine ?_ ?_ <;> intro _) | (with_reducible refine split_ieq ?_ ?_ <;> intro _) | with_reducible refine split_not ?_ | (with_reducible refine iteDec ?_ ?_ <;> intro _) | (with_reducible refine iteB ?_ ?_ <;> intro _))
  k_with "callWith ref" => (k_here; k_dflt ((with_reducible refine' callWith_K ?k1 ?k2 ?_ ?he ?hp); (case he => exact rfl); (case hp => exact rfl); (case k1 => k_asm); (case k2 => k_is)))
  k_with "callWith ref" => (k_here; k_dflt ((with_reducible refine' callWith_K0 ?k1 ?k2 ?_); (case k1 => exact Frag.In.keeps (by with_reducible assumption) (Fr.keep (by with_reducible assumption))); (case k2 => k_is); (try dsimp only [List.nil_append])))
  k_with "callWith" => (k_here; k_dflt ((with_reducible refine' callWith_m1 ?_ ?he ?hp); (case he => exact rfl); (case hp => exact rfl)))
  k_with "binaryOp Mod int int" => (k_here; (with_reducible refine' mod_int' ?kbe ?_); (case kbe => decide); (try dsimp only); (try k_fold))
  k_with "eval Call" => (k_here; (with_reducible show wpAny _ _ (eval (Expr.Call (Expr.Name _ _) _ [] _) _) _ _ _); k_dflt (refine Call_ ?_))
  k_with "k_all" => (first | with_reducible assumption | exact List.forall_mem_nil _ | (with_reducible refine' List.forall_mem_cons.mpr ⟨?ka, ?kb⟩; (case ka => k_ne); (case kb => k_all)) | (with_reducible refine' ltNe2 ?ka; (case ka => with_reducible assumption)) | (with_reducible refine' ltNe3 ?ka; (case ka => with_reducible assumption)) | (with_reducible refine' ltNe4 ?ka; (case ka => with_reducible assumption)) | (with_reducible refine' List.forall_mem_append.mpr ⟨?ka, ?kb⟩; (case ka => k_all); (case kb => k_all)) | (with_reducible refine' apartE ?ka ?kb; (case ka => with_reducible assumption); (case kb => k_mem)) | (with_reducible refine' ltNe ?ka; (case ka => with_reducible assumption)))
  k_with "k_ne" => (refine neN ?_; (try dsimp only); first | with_reducible assumption | (with_reducible exact Ne.symm (by assumption)) | (with_reducible exact Nat.ne_of_lt (by assumption)) | (with_reducible exact Nat.ne_of_gt (by assumption)) | omega)
  k_with "k_enter" => ((refine' code_def ?k1 ?k2 ?k3 ?k4 ?k5 ?kA ?kF ?kK ?k6 ?k7 ?k8 ?k9 ?kB ?_ ?c2 ?c3 ?c4 ?c5; (case kA => exact rfl); (case kF => exact rfl); (case kK => first | assumption | exact rfl); (case k1 => k_asm); (case k2 => k_asm); (case k3 => k_asm); (case k4 => k_asm); (case k5 => k_asm); (case k6 => k_is); (case k7 => k_is); (case k8 => k_extra "z1"); (case k9 => first | exact BindsTo.of_eq rfl | exact binds_K (by k_in) rfl (by k_is) rfl rfl rfl | fail "enter: no rule for these arguments"); (case c5 => decide); (case kB => exact locs rfl); (case c2 => exact rfl); (case c3 => exact rfl); (case c4 => exact rfl); k_whole); intro gpq25 Lpq25 hpq25 FGpq25 Fpq25 Npq25 Bpq25 Xpq25 Tpq25; (try dsimp only); (try k_lift Bpq25); (try k_fold))
  k_with "call ref" => (k_here; (with_reducible show wpAny _ _ (call (Value.ref 487) _ _) _ _ _); k_dflt ((refine' call_cls ?k1 ?k2 ?k3 ?k4 ?k5 ?k6 ?_; (case k1 => k_asm); (case k2 => k_asm); (case k3 => k_asm); (case k4 => k_is); (case k5 => k_is); (case k6 => k_is); k_whole; intro xpq26 dpq26 hpq26 Fpq26 Npq26 l1q26 l2q26; (try k_lt l1q26); (try k_lt2 l2q26); (try k_sweep); (refine' code_clos ?k1 ?k2 ?k3 ?k4 ?k5 ?kA ?kF ?kK ?k6 ?k7 ?k8 ?k9 ?kB ?_ ?c2 ?c3 ?c4 ?c5; (case kA => exact rfl); (case kF => exact rfl); (case kK => first | assumption | exact rfl); (case k1 => k_asm); (case k2 => k_asm); (case k3 => k_asm); (case k4 => k_asm); (case k5 => k_asm); (case k6 => k_is); (case k7 => k_is); (case k8 => k_extra "z1"); (case k9 => first | exact binds_K (by k_in) rfl (by k_is) rfl rfl rfl | exact BindsTo.of_eq rfl); (case c5 => decide); (case kB => exact locs rfl); (case c2 => exact rfl); (case c3 => exact rfl); (case c4 => exact rfl); k_whole; intro gpq26 Lpq26 hpq26 FGpq26 Fpq26 Npq26 Bpq26 Xpq26 Tpq26; (try dsimp only); (try k_lift Bpq26); (try k_fold)))))
  k_with "call ref" => (k_here; (with_reducible show wpAny _ _ (call (Value.ref 163) _ _) _ _ _); k_dflt ((refine' call_cls ?k1 ?k2 ?k3 ?k4 ?k5 ?k6 ?_; (case k1 => k_asm); (case k2 => k_asm); (case k3 => k_asm); (case k4 => k_is); (case k5 => k_is); (case k6 => k_is); k_whole; intro xpq27 dpq27 hpq27 Fpq27 Npq27 l1q27 l2q27; (try k_lt l1q27); (try k_lt2 l2q27); (try k_sweep); ktr_enter)))
  k_with "call type:super" => (k_here; k_dflt (refine' super_two ?F ?X ?N ?I ?D ?S ?_; (case F => k_asm); (case X => k_asm); (case N => k_asm); (case I => k_inst); (case D => k_is); (case S => k_is); intro sopq28 hpq28 Fpq28 Npq28 l1q28; (try k_lt l1q28); (try k_sweep); (try dsimp only); (try k_fold)))
  k_with "eval Name" => (k_here; (with_reducible show wpAny _ _ (eval (Expr.Name _ _) (envX _ _ _ _ _ (_ :: _))) _ _ _); k_dflt (first | (refine' nameX_L ?k1 ?k2 ?_; (case k1 => k_asm); (case k2 => exact rfl)) | (refine' nameX_B ?k1 ?k2 (topRead_of ?k3) ?k4 ?k5 ?k6 ?_; (case k1 => k_asm); (case k2 => k_asm); (case k3 => k_asm); (case k4 => k_is); (case k5 => boot_by_name); (case k6 => decide)) | (refine' nameX_K ?k1 ?k2 (topRead_of ?k3) ?k4 ?_; (case k1 => k_asm); (case k2 => k_asm); (case k3 => k_asm); (case k4 => k_is))); (try dsimp only); (try k_fold))
  k_with "look" => (with_reducible first | exact Look1.str | exact Look1.int | (refine' Look1.name ?hx ?hd ?hm; (case hx => k_dflt (exact rfl)); (case hd => k_dflt decide); (case hm => k_dflt (exact rfl))) | exact LookN.nil | (refine' LookN.cons ?x ?y; (case x => k_extra "look"); (case y => k_extra "look")) | exact LookP.nil | (refine' LookP.cons ?x ?y ?z; (case x => k_extra "look"); (case y => k_extra "look"); (case z => k_extra "look")))
  k_with "spliced" => (k_here; (with_reducible show wpAny _ _ (spliced (backTo _ (starEach (_ :: _) _))) _ _ _); (with_reducible rename Fr _ _ _ _ => F8q16); ((with_reducible refine' args_lk F8q16 ?he ?hk ?l ?_); (case he => k_dflt (exact ⟨_, _, _, _, rfl⟩)); (case hk => k_dflt (exact rfl)); (case l => k_extra "look")); (try dsimp only); (try k_fold))
  k_with "evalPairs" => (k_here; (with_reducible show wpAny _ _ (evalPairs (pairTrees (_ :: _) _ _ _)) _ _ _); (with_reducible rename Fr _ _ _ _ => F8q17); ((with_reducible refine' pairs_lk F8q17 ?he ?hk ?l ?_); (case he => k_dflt (exact ⟨_, _, _, _, rfl⟩)); (case hk => k_dflt (exact rfl)); (case l => k_extra "look")); (try dsimp only); (try k_fold))
  k_with "eval BinOp" => (k_here; (with_reducible show wpAny _ _ (eval (Expr.BinOp (Expr.Name _ _) _ (Expr.Constant _ _ _) _) _) _ _ _); (with_reducible rename Fr _ _ _ _ => F8q18); ((with_reducible refine' bin_lk F8q18 ?he ?hk ?l ?r ?_); (case he => k_dflt (exact ⟨_, _, _, _, rfl⟩)); (case hk => k_dflt (exact rfl)); (case l => k_extra "look"); (case r => k_extra "look")); (try dsimp only); (try k_fold))
  k_with "eval BinOp" => (k_here; (with_reducible show wpAny _ _ (eval (Expr.BinOp (Expr.Name _ _) _ (Expr.Name _ _) _) _) _ _ _); (with_reducible rename Fr _ _ _ _ => F8q19); ((with_reducible refine' bin_lk F8q19 ?he ?hk ?l ?r ?_); (case he => k_dflt (exact ⟨_, _, _, _, rfl⟩)); (case hk => k_dflt (exact rfl)); (case l => k_extra "look"); (case r => k_extra "look")); (try dsimp only); (try k_fold))
  k_with "exec If" => (k_here; (with_reducible show wpAny _ _ (exec (Stmt.If (Expr.Compare (Expr.Name _ _) [CmpOp.Eq] [Expr.Constant (Const.int _) _ _] _) _ _ _) _) _ _ _); (with_reducible rename Fr _ _ _ _ => F8q20); ((with_reducible refine' if_lk F8q20 ?he ?hk ?l ?r ?h ?_); (case he => k_dflt (exact ⟨_, _, _, _, rfl⟩)); (case hk => k_dflt (exact rfl)); (case l => k_extra "look"); (case r => k_extra "look"); (case h => k_dflt (with_unfolding_all rfl))); (try dsimp only); (try k_fold))
  k_with "storeName" => (k_here; (with_reducible rename Fr _ _ _ _ => F8q21); (with_reducible rename News _ _ _ _ => N8q21); ((with_reducible refine' store_lk F8q21 N8q21 ?he ?hk ?hx ?_); (case he => k_dflt (exact ⟨_, _, _, _, rfl⟩)); (case hk => k_dflt (exact rfl)); (case hx => k_dflt (exact rfl)); intro h9q21 m9q21 F9q21 N9q21; (try clear F8q21 N8q21); (try dsimp only); (try k_fold)))
  trivial
theorem mk_renderer {w : World} {b : Bool} : TellC w 487 20 200 [] [(S "escape", .bool b)] (fun tl r => ∃ sa, r = .ref sa ∧ SelfLed w b tl sa) := by
  intro p loose mean mg mb dp un gd cn cs a ccd cl outer A₀ base h₀ L m news s Q E B F X N T hk hdp hun ret
  refine fillT w ?_
  k_fill
  intro _ _
  repeat' (first | ((with_reducible show Q _ _); fail) | (k_unfold; (try dsimp only)) | ((fail_if_success (with_reducible show Q _ _)); walk1) | ((fail_if_success (with_reducible show Q _ _)); dsimp only; walk1) | (leave1; try dsimp only) | fail "no step")
  all_goals (
    with_reducible rename Fr h₀ L _ _ => kF
    with_reducible rename News h₀ L _ _ => kN
    with_reducible rename Obj.IsDictOf (PySem.strKind _ _) _ _ => hD7
    with_reducible rename (_ == sysModules) = false => hlo7
    with_reducible rename _ < _ ∧ _ < _ ∧ _ < _ ∧ _ < _ ∧ AllLt _ _ => hlt7
    with_reducible rename ∀ (p : Addr × Obj), p ∈ _ → p.1 < _ => hl7
    with_reducible rename _ < _ => hl8
    obtain ⟨tl9, a9, b9, c9⟩ := self_end kN hl7 hl8 hlt7 hD7 hlo7
    exact ret _ tl9 _ _ kF a9 b9 ⟨_, rfl, c9⟩)
end
section
open PySem.W.KStt (codes)
theorem mk_state {w : World} : TellC w 163 20 200 [] [] (fun tl r => ∃ st, r = .ref st) := by
  intro p loose mean mg mb dp un gd cn cs a ccd cl outer A₀ base h₀ L m news s Q E B F X N T hk hdp hun ret
  refine fillT w ?_
  k_fill
  intro _ _
  repeat' (first | ((with_reducible show Q _ _); fail) | (k_unfold; (try dsimp only)) | ((fail_if_success (with_reducible show Q _ _)); walk1) | ((fail_if_success (with_reducible show Q _ _)); dsimp only; walk1) | (leave1; try dsimp only) | fail "no step")
  all_goals (
    with_reducible rename Fr h₀ L _ _ => kF
    with_reducible rename News h₀ L _ _ => kN
    exact ret _ [] _ _ kF (fun p hp => kN p (by rw [List.append_nil] at hp; first | exact hp | (repeat (first | exact hp | refine .tail _ ?_)))) (fun _ _ _ hp => nomatch hp) ⟨_, rfl⟩)
end
section
open PySem.W.KStt (codes)
theorem lines_NC3 : True := by
  k_with_none
  k_with "z1" => (((try simp only [depth_under_make, depth_under_kw, depth_in1, depth_deeper, depth_caller]); (try dsimp only [ktrTop]); omega))
  k_with "ktr_enter" => ((refine' code_def ?k1 ?k2 ?k3 ?k4 ?k5 ?kA ?kF ?kK ?k6 ?k7 ?k8 ?k9 ?kB ?_ ?c2 ?c3 ?c4 ?c5; (case kA => exact rfl); (case kF => exact rfl); (case kK => first | assumption | exact rfl); (case k1 => k_asm); (case k2 => k_asm); (case k3 => k_asm); (case k4 => k_asm); (case k5 => k_asm); (case k6 => k_is); (case k7 => k_is); (case k8 => k_extra "z1"); (case k9 => first | exact BindsTo.of_eq rfl | exact binds_K (by k_in) rfl (by k_is) rfl rfl rfl | fail "enter: no rule for these arguments"); (case c5 => decide); (case kB => exact locs rfl); (case c2 => exact rfl); (case c3 => exact rfl); (case c4 => exact rfl); k_whole); intro gpq0 Lpq0 hpq0 FGpq0 Fpq0 Npq0 Bpq0 Xpq0 Tpq0; (try dsimp only); (try k_lift Bpq0); (try k_fold))
  k_with "k_mem" => (first | with_reducible exact List.mem_cons_self | with_reducible assumption | (with_reducible refine List.mem_cons_of_mem _ ?_; k_mem) | (with_reducible refine List.mem_append_left _ ?_; k_mem) | (with_reducible refine List.mem_append_right _ ?_; k_mem))
  k_with "execs cons" => (k_here; k_dflt (refine wpAny_execs_cons ?_))
  k_with "execs cons" => (k_here; (with_reducible refine execs_cons_gen ?_); intro tk9q3)
  k_with "execs nil" => (k_here; (with_reducible refine wpAny_execs_nil ?_))
  k_with "exec If" => (k_here; k_dflt (refine wpAny_If ?_))
  k_with "ite" => (k_here; first | (with_reducible refine ite_tt ?_) | (with_reducible refine ite_ff ?_) | (k_closed; (first | (with_reducible refine iteP ?iteC ?_; (case iteC => decide)) | (with_reducible refine iteN ?iteC ?_; (case iteC => decide)))) | (with_reducible refine split_ine ?_ ?_ <;> intro _) | (with_reducible refine split_ieq ?_ ?_ <;> intro _) | with_reducible refine split_not ?_ | (with_reducible refine iteDec ?_ ?_ <;> intro _) | (with_reducible refine iteB ?_ ?_ <;> intro _))
  k_with "callWith ref" => (k_here; k_dflt ((with_reducible refine' callWith_K ?k1 ?k2 ?_ ?he ?hp); (case he => exact rfl); (case hp => exact rfl); (case k1 => k_asm); (case k2 => k_is)))
  k_with "callWith ref" => (k_here; k_dflt ((with_reducible refine' callWith_K0 ?k1 ?k2 ?_); (case k1 => exact Frag.In.keeps (by with_reducible assumption) (Fr.keep (by with_reducible assumption))); (case k2 => k_is); (try dsimp only [List.nil_append])))
  k_with "callWith" => (k_here; k_dflt ((with_reducible refine' callWith_m1 ?_ ?he ?hp); (case he => exact rfl); (case hp => exact rfl)))
  k_with "binaryOp Mod int int" => (k_here; (with_reducible refine' mod_int' ?kbe ?_); (case kbe => decide); (try dsimp only); (try k_fold))
  k_with "LookPost" => (k_here; (with_reducible refine look_ret ?_); (try dsimp only))
  k_with "eval Call" => (k_here; (with_reducible show wpAny _ _ (eval (Expr.Call (Expr.Name _ _) _ [] _) _) _ _ _); k_dflt (refine Call_ ?_))
  k_with "k_all" => (first | with_reducible assumption | exact List.forall_mem_nil _ | (with_reducible refine' List.forall_mem_cons.mpr ⟨?ka, ?kb⟩; (case ka => k_ne); (case kb => k_all)) | (with_reducible refine' ltNe2 ?ka; (case ka => with_reducible assumption)) | (with_reducible refine' ltNe3 ?ka; (case ka => with_reducible assumption)) | (with_reducible refine' ltNe4 ?ka; (case ka => with_reducible assumption)) | (with_reducible refine' List.forall_mem_append.mpr ⟨?ka, ?kb⟩; (case ka => k_all); (case kb => k_all)) | (with_reducible refine' apartE ?ka ?kb; (case ka => with_reducible assumption); (case kb => k_mem)) | (with_reducible refine' ltNe ?ka; (case ka => with_reducible assumption)))
  k_with "k_ne" => (refine neN ?_; (try dsimp only); first | with_reducible assumption | (with_reducible exact Ne.symm (by assumption)) | (with_reducible exact Nat.ne_of_lt (by assumption)) | (with_reducible exact Nat.ne_of_gt (by assumption)) | omega)
  k_with "call ref" => (k_here; (first | (with_reducible show wpAny _ _ (call (Value.ref 524) _) _ _ _)); k_dflt (refine wpAny_call ?_; ktr_enter))
  k_with "z2" => ((with_reducible rename _ + _ < recursionLimit => hr9; first | exact room1 hr9 (by first | decide | assumption | (refine' Nat.le_trans ?qa ?qb; (case qb => assumption); (case qa => decide))) | ((try simp only [depth_under_make, depth_under_kw, depth_in1, depth_deeper, depth_caller, units_in1, units_deeper, units_caller]); (try dsimp only [ktrTop]); omega)))
  k_with "z3" => ((with_reducible rename _ + _ < cLine => hr9; first | exact room3 hr9 (by first | decide | assumption | (refine' Nat.le_trans ?qa ?qb; (case qb => assumption); (case qa => decide))) | ((try simp only [depth_under_make, depth_under_kw, depth_in1, depth_deeper, depth_caller, units_in1, units_deeper, units_caller]); (try dsimp only [ktrTop]); omega)))
  k_with "call ref" => (k_here; (with_reducible show wpAny _ _ (call (Value.ref 538) _) _ _ _); k_dflt (refine' Tell0.use (tell_shown ?ka ?kb) ?k1 ?k2 ?k3 ?k4 ?k5 ?k6 ?k7 ?k8 ?k9 ?_; (case ka => first | with_reducible assumption | (refine Sz.app ?_ ?_ <;> first | with_reducible assumption | exact Sz.one (by decide +kernel))); (case kb => decide); (case k1 => k_asm); (case k2 => k_asm); (case k3 => k_asm); (case k4 => k_asm); (case k5 => k_asm); (case k6 => exact rfl); (case k7 => k_extra "z2"); (case k8 => k_extra "z3"); (case k9 => exact True.intro); intro r9q32 h9q32 t9q32 F9q32 N9q32 o9q32; obtain ⟨tn9q32, e9q32, hl9q32⟩ := o9q32; subst e9q32; (try k_sweep); (try dsimp only); (try k_fold)))
  k_with "exec For Name Name cons nil" => (k_here; (with_reducible rename Fr _ _ _ _ => lFpq33); (with_unfolding_all refine' For_invVF lFpq33 ?k1 ?k2 ?_; (case k1 => exact rfl); (case k2 => exact rfl)); (try dsimp only); (try k_fold))
  k_with "exec For Name Call cons nil" => (k_here; (with_reducible rename Fr _ _ _ _ => lFpq34); (with_unfolding_all refine' For_invVF lFpq34 ?k1 ?k2 ?_; (case k1 => exact rfl); (case k2 => exact rfl)); (try dsimp only); (try k_fold))
  k_with "pyIter ref" => (k_here; (with_reducible show wpAny _ _ (pyIter (Value.ref _)) (fun it s₂ => LoopAtV _ _ _ _ _ _ _ _ _ it s₂) _ _); (with_reducible rename Fr _ _ _ _ => lFpq35); (with_reducible rename News _ _ _ _ => lNpq35); (with_reducible rename _ ∈ urlsL => hu9q35); k_dflt (refine' look_list (xs := safeL) (P := headQ hu9q35) ?ha lFpq35 lNpq35 ?hb ?hc ?hd (fun pre9q35 e9q35 post9q35 t9q35 h9q35 tk9q35 own9q35 hs9q35 hp9q35 F9q35 N9q35 => ?_) (fun uu9q35 h9q35 tk9q35 hp9q35 F9q35 N9q35 => ?_); (case ha => exact rfl); (case hb => k_mem); (case hc => (with_unfolding_all exact .cons _ _ (.cons _ _ (.cons _ _ (.cons _ _ (.cons _ _ (.cons _ _ (.cons _ _ (.cons _ _ (.cons _ _ (.cons _ _ (.cons _ _ (.cons _ _ (.cons _ _ (.cons _ _ (.cons _ _ (.nil))))))))))))))))); (case hd => exact headP0 _); all_goals ((try (have hel9q35 := safe_len hs9q35)); (try dsimp only); (try k_fold))))
  k_with "pyIter str" => (k_here; (with_reducible show wpAny _ _ (pyIter (Value.str _ _)) (fun it s₂ => LoopAtV _ _ _ _ _ _ _ _ _ it s₂) _ _); (with_reducible rename Fr _ _ _ _ => lFpq36); (with_reducible rename News _ _ _ _ => lNpq36); k_dflt (refine' look_str (P := signP) ?ha lFpq36 lNpq36 ?hd (fun pre9q36 post9q36 n9q36 t9q36 h9q36 tk9q36 own9q36 hs9q36 hp9q36 F9q36 N9q36 => ?_) (fun uu9q36 h9q36 tk9q36 hp9q36 F9q36 N9q36 => ?_); (case ha => exact rfl); (case hd => exact signP0); all_goals ((try dsimp only); (try k_fold))))
  k_with "look" => (with_reducible first | exact Look1.str | exact Look1.int | (refine' Look1.name ?hx ?hd ?hm; (case hx => k_dflt (exact rfl)); (case hd => k_dflt decide); (case hm => k_dflt (exact rfl))) | exact LookN.nil | (refine' LookN.cons ?x ?y; (case x => k_extra "look"); (case y => k_extra "look")) | exact LookP.nil | (refine' LookP.cons ?x ?y ?z; (case x => k_extra "look"); (case y => k_extra "look"); (case z => k_extra "look")))
  k_with "spliced" => (k_here; (with_reducible show wpAny _ _ (spliced (backTo _ (starEach (_ :: _) _))) _ _ _); (with_reducible rename Fr _ _ _ _ => F8q16); ((with_reducible refine' args_lk F8q16 ?he ?hk ?l ?_); (case he => k_dflt (exact ⟨_, _, _, _, rfl⟩)); (case hk => k_dflt (exact rfl)); (case l => k_extra "look")); (try dsimp only); (try k_fold))
  k_with "evalPairs" => (k_here; (with_reducible show wpAny _ _ (evalPairs (pairTrees (_ :: _) _ _ _)) _ _ _); (with_reducible rename Fr _ _ _ _ => F8q17); ((with_reducible refine' pairs_lk F8q17 ?he ?hk ?l ?_); (case he => k_dflt (exact ⟨_, _, _, _, rfl⟩)); (case hk => k_dflt (exact rfl)); (case l => k_extra "look")); (try dsimp only); (try k_fold))
  k_with "eval BinOp" => (k_here; (with_reducible show wpAny _ _ (eval (Expr.BinOp (Expr.Name _ _) _ (Expr.Constant _ _ _) _) _) _ _ _); (with_reducible rename Fr _ _ _ _ => F8q18); ((with_reducible refine' bin_lk F8q18 ?he ?hk ?l ?r ?_); (case he => k_dflt (exact ⟨_, _, _, _, rfl⟩)); (case hk => k_dflt (exact rfl)); (case l => k_extra "look"); (case r => k_extra "look")); (try dsimp only); (try k_fold))
  k_with "eval BinOp" => (k_here; (with_reducible show wpAny _ _ (eval (Expr.BinOp (Expr.Name _ _) _ (Expr.Name _ _) _) _) _ _ _); (with_reducible rename Fr _ _ _ _ => F8q19); ((with_reducible refine' bin_lk F8q19 ?he ?hk ?l ?r ?_); (case he => k_dflt (exact ⟨_, _, _, _, rfl⟩)); (case hk => k_dflt (exact rfl)); (case l => k_extra "look"); (case r => k_extra "look")); (try dsimp only); (try k_fold))
  k_with "exec If" => (k_here; (with_reducible show wpAny _ _ (exec (Stmt.If (Expr.Compare (Expr.Name _ _) [CmpOp.Eq] [Expr.Constant (Const.int _) _ _] _) _ _ _) _) _ _ _); (with_reducible rename Fr _ _ _ _ => F8q20); ((with_reducible refine' if_lk F8q20 ?he ?hk ?l ?r ?h ?_); (case he => k_dflt (exact ⟨_, _, _, _, rfl⟩)); (case hk => k_dflt (exact rfl)); (case l => k_extra "look"); (case r => k_extra "look"); (case h => k_dflt (with_unfolding_all rfl))); (try dsimp only); (try k_fold))
  k_with "storeName" => (k_here; (with_reducible rename Fr _ _ _ _ => F8q21); (with_reducible rename News _ _ _ _ => N8q21); ((with_reducible refine' store_lk F8q21 N8q21 ?he ?hk ?hx ?_); (case he => k_dflt (exact ⟨_, _, _, _, rfl⟩)); (case hk => k_dflt (exact rfl)); (case hx => k_dflt (exact rfl)); intro h9q21 m9q21 F9q21 N9q21; (try clear F8q21 N8q21); (try dsimp only); (try k_fold)))
  trivial
theorem tell_addr {w : World} {u : Str} {tk : Nat} (hu : u ∈ urlsL) : Tell0 w 545 40 400 [.str u tk] (fun _ => True) (fun r => ∃ t, r = .str (addrF u) t) := by
  intro p loose mean mg mb dp un gd cn cs a ccd cl outer A₀ base h₀ L m news s Q E B F X N T hk hdp hun _ ret
  refine fillT w ?_
  k_fill
  intro _ _
  refine wpAny_call ?_
  have hu16 := urls_len hu
  have hxl9 := urls_sz hu
  k_dflt ((refine' code_all ?k1 ?k2 ?k3 ?k4 ?k5 ?kA ?kF ?kK ?k6 ?k7 ?k8 ?k9 ?kB ?_ ?c2 ?c3 ?c4 ?c5; (case kA => exact rfl); (case kF => exact rfl); (case kK => first | assumption | exact rfl); (case k1 => k_asm); (case k2 => k_asm); (case k3 => k_asm); (case k4 => k_asm); (case k5 => k_asm); (case k6 => k_is); (case k7 => k_is); (case k8 => ((try simp only [depth_under_make, depth_under_kw, depth_in1, depth_deeper, depth_caller]); (try dsimp only [ktrTop]); omega)); (case k9 => first | exact BindsTo.of_eq rfl | exact binds_K (by k_in) rfl (by k_is) rfl rfl rfl | fail "enter: no rule for these arguments"); (case c5 => decide); (case kB => exact locs rfl); (case c2 => exact rfl); (case c3 => exact rfl); (case c4 => exact rfl); k_whole); intro g0 L0 h' FG' F' N' B' X' T' hs0; (try dsimp only); (try k_fold))
  repeat' (first | ((with_reducible show Q _ _); fail) | ((with_reducible show LookPost _ _ _ _ _ _ _ _ _ Flow.next _); fail) | (k_unfold; (try dsimp only)) | ((fail_if_success (with_reducible show Q _ _)); (fail_if_success (with_reducible show LookPost _ _ _ _ _ _ _ _ _ Flow.next _)); walk1) | ((fail_if_success (with_reducible show Q _ _)); (fail_if_success (with_reducible show LookPost _ _ _ _ _ _ _ _ _ Flow.next _)); dsimp only; walk1) | (leave1; try dsimp only) | fail "no step")
  all_goals first
    | (fail_if_success (with_reducible show Q _ _)
       with_reducible rename Fr g0 _ _ _ => F9
       with_reducible rename News g0 _ _ _ => N9
       first
       | exact look_end rfl F9 N9 (fun _ hp => absurd hp List.not_mem_nil) (fun _ hp => hp) (headP1 (by with_reducible assumption) (by with_reducible assumption)) (fun z hz => if_neg hz)
       | exact look_end rfl F9 N9 (fun _ hp => absurd hp List.not_mem_nil) (fun _ hp => hp) (signP1 (by with_reducible assumption) (by with_reducible assumption) (by with_reducible assumption)) (fun z hz => if_neg hz))
    | (with_reducible rename Fr h₀ L _ _ => kF
       with_reducible rename Fr g0 _ _ _ => F9
       refine ret _ _ _ kF (back0 N hs0 F9) ⟨_, congrArg (fun x => Value.str x _) ?_⟩
       first
       | exact ad1 (by with_reducible assumption) (safe_mem (by with_reducible assumption)) (by with_reducible assumption)
       | exact ad_bad (by with_reducible assumption) (by with_reducible assumption) (by with_reducible assumption) (by with_reducible assumption) (by with_reducible assumption)
       | exact ad_ok (by with_reducible assumption) (by with_reducible assumption) (by with_reducible assumption) (by with_reducible assumption) (by with_reducible assumption)
       | exact ad_end (by with_reducible assumption) (by with_reducible assumption) (by with_reducible assumption))
end
section
open PySem.W.KStt (codes)
theorem lines_NKi : True := by
  k_with_none
  k_with "z1" => (((try simp only [depth_under_make, depth_under_kw, depth_in1, depth_deeper, depth_caller]); (try dsimp only [ktrTop]); omega))
  k_with "ktr_enter" => ((refine' code_def ?k1 ?k2 ?k3 ?k4 ?k5 ?kA ?kF ?kK ?k6 ?k7 ?k8 ?k9 ?kB ?_ ?c2 ?c3 ?c4 ?c5; (case kA => exact rfl); (case kF => exact rfl); (case kK => first | assumption | exact rfl); (case k1 => k_asm); (case k2 => k_asm); (case k3 => k_asm); (case k4 => k_asm); (case k5 => k_asm); (case k6 => k_is); (case k7 => k_is); (case k8 => k_extra "z1"); (case k9 => first | exact BindsTo.of_eq rfl | exact binds_K (by k_in) rfl (by k_is) rfl rfl rfl | fail "enter: no rule for these arguments"); (case c5 => decide); (case kB => exact locs rfl); (case c2 => exact rfl); (case c3 => exact rfl); (case c4 => exact rfl); k_whole); intro gpq0 Lpq0 hpq0 FGpq0 Fpq0 Npq0 Bpq0 Xpq0 Tpq0; (try dsimp only); (try k_lift Bpq0); (try k_fold))
  k_with "k_mem" => (first | with_reducible exact List.mem_cons_self | with_reducible assumption | (with_reducible refine List.mem_cons_of_mem _ ?_; k_mem) | (with_reducible refine List.mem_append_left _ ?_; k_mem) | (with_reducible refine List.mem_append_right _ ?_; k_mem))
  k_with "execs cons" => (k_here; k_dflt (refine wpAny_execs_cons ?_))
  k_with "execs cons" => (k_here; (with_reducible refine execs_cons_gen ?_); intro tk9q3)
  k_with "execs nil" => (k_here; (with_reducible refine wpAny_execs_nil ?_))
  k_with "exec If" => (k_here; k_dflt (refine wpAny_If ?_))
  k_with "ite" => (k_here; first | (with_reducible refine ite_tt ?_) | (with_reducible refine ite_ff ?_) | (k_closed; (first | (with_reducible refine iteP ?iteC ?_; (case iteC => decide)) | (with_reducible refine iteN ?iteC ?_; (case iteC => decide)))) | (with_reducible refine split_ine ?_ ?_ <;> intro _) | (with_reducible refine split_ieq ?_ ?_ <;> intro _) | with_reducible refine split_not ?_ | (with_reducible refine iteDec ?_ ?_ <;> intro _) | (with_reducible refine iteB ?_ ?_ <;> intro _))
  k_with "callWith ref" => (k_here; k_dflt ((with_reducible refine' callWith_K ?k1 ?k2 ?_ ?he ?hp); (case he => exact rfl); (case hp => exact rfl); (case k1 => k_asm); (case k2 => k_is)))
  k_with "callWith ref" => (k_here; k_dflt ((with_reducible refine' callWith_K0 ?k1 ?k2 ?_); (case k1 => exact Frag.In.keeps (by with_reducible assumption) (Fr.keep (by with_reducible assumption))); (case k2 => k_is); (try dsimp only [List.nil_append])))
  k_with "callWith" => (k_here; k_dflt ((with_reducible refine' callWith_m1 ?_ ?he ?hp); (case he => exact rfl); (case hp => exact rfl)))
  k_with "binaryOp Mod int int" => (k_here; (with_reducible refine' mod_int' ?kbe ?_); (case kbe => decide); (try dsimp only); (try k_fold))
  k_with "k_room" => (((try simp only [depth_under_make, depth_under_kw, depth_in1, depth_deeper, depth_caller]); (try dsimp only [ktrTop]); omega))
  k_with "ktr_enter" => ((refine' code_def ?k1 ?k2 ?k3 ?k4 ?k5 ?kA ?kF ?kK ?k6 ?k7 ?k8 ?k9 ?kB ?_ ?c2 ?c3 ?c4 ?c5; (case kA => exact rfl); (case kF => exact rfl); (case kK => first | assumption | exact rfl); (case k1 => k_asm); (case k2 => k_asm); (case k3 => k_asm); (case k4 => k_asm); (case k5 => k_asm); (case k6 => k_is); (case k7 => k_is); (case k8 => k_extra "z1"); (case k9 => first | exact BindsTo.of_eq rfl | exact binds_K (by k_in) rfl (by k_is) rfl rfl rfl | fail "enter: no rule for these arguments"); (case c5 => decide); (case kB => exact locs rfl); (case c2 => exact rfl); (case c3 => exact rfl); (case c4 => exact rfl); k_whole); intro gpq70 Lpq70 hpq70 FGpq70 Fpq70 Npq70 Bpq70 Xpq70 Tpq70; (try dsimp only); (try k_lift Bpq70); (try k_fold); (try have hIL := InstAt.kept (by with_reducible assumption) (Fr.keep FGpq70)); (try have hSL := SelfAt.kept (by with_reducible assumption) (Fr.keep FGpq70)))
  k_with "k_enter" => ((refine' code_def ?k1 ?k2 ?k3 ?k4 ?k5 ?kA ?kF ?kK ?k6 ?k7 ?k8 ?k9 ?kB ?_ ?c2 ?c3 ?c4 ?c5; (case kA => exact rfl); (case kF => exact rfl); (case kK => first | assumption | exact rfl); (case k1 => k_asm); (case k2 => k_asm); (case k3 => k_asm); (case k4 => k_asm); (case k5 => k_asm); (case k6 => k_is); (case k7 => k_is); (case k8 => k_extra "z1"); (case k9 => first | exact BindsTo.of_eq rfl | exact binds_K (by k_in) rfl (by k_is) rfl rfl rfl | fail "enter: no rule for these arguments"); (case c5 => decide); (case kB => exact locs rfl); (case c2 => exact rfl); (case c3 => exact rfl); (case c4 => exact rfl); k_whole); intro gpq71 Lpq71 hpq71 FGpq71 Fpq71 Npq71 Bpq71 Xpq71 Tpq71; (try dsimp only); (try k_lift Bpq71); (try k_fold); (try have hIL := InstAt.kept (by with_reducible assumption) (Fr.keep FGpq71)); (try have hSL := SelfAt.kept (by with_reducible assumption) (Fr.keep FGpq71)))
  k_with "eval Call" => (k_here; (with_reducible show wpAny _ _ (eval (Expr.Call (Expr.Name _ _) _ [] _) _) _ _ _); k_dflt (refine Call_ ?_))
  k_with "k_all" => (first | with_reducible assumption | exact List.forall_mem_nil _ | (with_reducible refine' List.forall_mem_cons.mpr ⟨?ka, ?kb⟩; (case ka => k_ne); (case kb => k_all)) | (with_reducible refine' ltNe2 ?ka; (case ka => with_reducible assumption)) | (with_reducible refine' ltNe3 ?ka; (case ka => with_reducible assumption)) | (with_reducible refine' ltNe4 ?ka; (case ka => with_reducible assumption)) | (with_reducible refine' List.forall_mem_append.mpr ⟨?ka, ?kb⟩; (case ka => k_all); (case kb => k_all)) | (with_reducible refine' apartE ?ka ?kb; (case ka => with_reducible assumption); (case kb => k_mem)) | (with_reducible refine' ltNe ?ka; (case ka => with_reducible assumption)))
  k_with "k_ne" => (refine neN ?_; (try dsimp only); first | with_reducible assumption | (with_reducible exact Ne.symm (by assumption)) | (with_reducible exact Nat.ne_of_lt (by assumption)) | (with_reducible exact Nat.ne_of_gt (by assumption)) | omega)
  k_with "k_inst" => ((with_reducible refine' inst_fr ?ib ?ia; (case ib => with_reducible assumption); (case ia => with_reducible assumption)))
  k_with "z2" => ((with_reducible rename _ + _ < recursionLimit => hr9; first | exact room1 hr9 (by first | decide | assumption | (refine' Nat.le_trans ?qa ?qb; (case qb => assumption); (case qa => decide))) | ((try simp only [depth_under_make, depth_under_kw, depth_in1, depth_deeper, depth_caller, units_in1, units_deeper, units_caller]); (try dsimp only [ktrTop]); omega)))
  k_with "z3" => ((with_reducible rename _ + _ < cLine => hr9; first | exact room3 hr9 (by first | decide | assumption | (refine' Nat.le_trans ?qa ?qb; (case qb => assumption); (case qa => decide))) | ((try simp only [depth_under_make, depth_under_kw, depth_in1, depth_deeper, depth_caller, units_in1, units_deeper, units_caller]); (try dsimp only [ktrTop]); omega)))
  k_with "call ref" => (k_here; (with_reducible show wpAny _ _ (call (Value.ref 341) _) _ _ _); (with_reducible rename TokC _ _ _ _ _ => hC9q111); (with_reducible rename SelfAt _ _ _ _ => hS9q111); (with_reducible rename TokIn _ _ _ _ _ _ => hR9q111); k_dflt (refine' TellG.use (tok_use hC9q111 hR9q111) ?k1 ?k2 ?k3 ?k4 ?k5 ?k6 ?k7 ?k8 ?k9 ?_; (case k1 => k_asm); (case k2 => k_asm); (case k3 => k_asm); (case k4 => k_asm); (case k5 => k_asm); (case k6 => exact rfl); (case k7 => k_extra "z2"); (case k8 => k_extra "z3"); (case k9 => exact pre_tok hR9q111 hS9q111 (by k_asm)); intro r9q111 h9q111 t9q111 g9q111 F9q111 N9q111 hg9q111 o9q111; obtain ⟨tn9q111, e9q111⟩ := o9q111; subst e9q111; (try k_sweep); (try dsimp only); (try k_fold)))
  k_with "look" => (with_reducible first | exact Look1.str | exact Look1.int | (refine' Look1.name ?hx ?hd ?hm; (case hx => k_dflt (exact rfl)); (case hd => k_dflt decide); (case hm => k_dflt (exact rfl))) | exact LookN.nil | (refine' LookN.cons ?x ?y; (case x => k_extra "look"); (case y => k_extra "look")) | exact LookP.nil | (refine' LookP.cons ?x ?y ?z; (case x => k_extra "look"); (case y => k_extra "look"); (case z => k_extra "look")))
  k_with "spliced" => (k_here; (with_reducible show wpAny _ _ (spliced (backTo _ (starEach (_ :: _) _))) _ _ _); (with_reducible rename Fr _ _ _ _ => F8q16); ((with_reducible refine' args_lk F8q16 ?he ?hk ?l ?_); (case he => k_dflt (exact ⟨_, _, _, _, rfl⟩)); (case hk => k_dflt (exact rfl)); (case l => k_extra "look")); (try dsimp only); (try k_fold))
  k_with "evalPairs" => (k_here; (with_reducible show wpAny _ _ (evalPairs (pairTrees (_ :: _) _ _ _)) _ _ _); (with_reducible rename Fr _ _ _ _ => F8q17); ((with_reducible refine' pairs_lk F8q17 ?he ?hk ?l ?_); (case he => k_dflt (exact ⟨_, _, _, _, rfl⟩)); (case hk => k_dflt (exact rfl)); (case l => k_extra "look")); (try dsimp only); (try k_fold))
  k_with "eval BinOp" => (k_here; (with_reducible show wpAny _ _ (eval (Expr.BinOp (Expr.Name _ _) _ (Expr.Constant _ _ _) _) _) _ _ _); (with_reducible rename Fr _ _ _ _ => F8q18); ((with_reducible refine' bin_lk F8q18 ?he ?hk ?l ?r ?_); (case he => k_dflt (exact ⟨_, _, _, _, rfl⟩)); (case hk => k_dflt (exact rfl)); (case l => k_extra "look"); (case r => k_extra "look")); (try dsimp only); (try k_fold))
  k_with "eval BinOp" => (k_here; (with_reducible show wpAny _ _ (eval (Expr.BinOp (Expr.Name _ _) _ (Expr.Name _ _) _) _) _ _ _); (with_reducible rename Fr _ _ _ _ => F8q19); ((with_reducible refine' bin_lk F8q19 ?he ?hk ?l ?r ?_); (case he => k_dflt (exact ⟨_, _, _, _, rfl⟩)); (case hk => k_dflt (exact rfl)); (case l => k_extra "look"); (case r => k_extra "look")); (try dsimp only); (try k_fold))
  k_with "exec If" => (k_here; (with_reducible show wpAny _ _ (exec (Stmt.If (Expr.Compare (Expr.Name _ _) [CmpOp.Eq] [Expr.Constant (Const.int _) _ _] _) _ _ _) _) _ _ _); (with_reducible rename Fr _ _ _ _ => F8q20); ((with_reducible refine' if_lk F8q20 ?he ?hk ?l ?r ?h ?_); (case he => k_dflt (exact ⟨_, _, _, _, rfl⟩)); (case hk => k_dflt (exact rfl)); (case l => k_extra "look"); (case r => k_extra "look"); (case h => k_dflt (with_unfolding_all rfl))); (try dsimp only); (try k_fold))
  k_with "storeName" => (k_here; (with_reducible rename Fr _ _ _ _ => F8q21); (with_reducible rename News _ _ _ _ => N8q21); ((with_reducible refine' store_lk F8q21 N8q21 ?he ?hk ?hx ?_); (case he => k_dflt (exact ⟨_, _, _, _, rfl⟩)); (case hk => k_dflt (exact rfl)); (case hx => k_dflt (exact rfl)); intro h9q21 m9q21 F9q21 N9q21; (try clear F8q21 N8q21); (try dsimp only); (try k_fold)))
  trivial
theorem kids_step {w : World} {esc : Bool} {n dn ne : Nat} (hC : TokC w esc n dn ne) (hq1 : 1 + dn ≤ dn + 10) (hq2 : 3 + ne ≤ ne + 100) : KidsC w esc n (dn + 10) (ne + 100) := by
  intro sa l st vs x hvs hxl
  intro p loose mean mg mb dp un gd cn cs a ccd cl outer A₀ base h₀ L m news s Q E B F X N T hk hdp hun hpre ret
  refine fillT w ?_
  k_fill
  intro _ _
  refine wpAny_call ?_
  k_dflt ((refine' code_all ?k1 ?k2 ?k3 ?k4 ?k5 ?kA ?kF ?kK ?k6 ?k7 ?k8 ?k9 ?kB ?_ ?c2 ?c3 ?c4 ?c5; (case kA => exact rfl); (case kF => exact rfl); (case kK => first | assumption | exact rfl); (case k1 => k_asm); (case k2 => k_asm); (case k3 => k_asm); (case k4 => k_asm); (case k5 => k_asm); (case k6 => k_is); (case k7 => k_is); (case k8 => ((try simp only [depth_under_make, depth_under_kw, depth_in1, depth_deeper, depth_caller]); (try dsimp only [ktrTop]); omega)); (case k9 => first | exact BindsTo.of_eq rfl | exact binds_K (by k_in) rfl (by k_is) rfl rfl rfl | fail "enter: no rule for these arguments"); (case c5 => decide); (case kB => exact locs rfl); (case c2 => exact rfl); (case c3 => exact rfl); (case c4 => exact rfl); k_whole); intro g0 L0 h' FG' F' N' B' X' T' hs0; (try dsimp only); (try k_fold))
  obtain ⟨hself, hla, hk⟩ := hpre
  replace hself := SelfAt.kept hself hs0
  obtain ⟨cl0, hla⟩ := hla
  replace hla := hs0 _ _ hla
  replace hk := hk.mono fun v o z => TokIn.mono (fun d o e => hs0 d o e) (Nat.le_refl _) z
  obtain ⟨ys, hlen, rfl, hR⟩ := kids_list hk
  obtain ⟨dx, md, k1, k2, k3, hI, hmd⟩ := id hself
  repeat' (first | ((with_reducible show Q _ _); fail) | ((with_reducible show wpAny _ _ (call (Value.ref 209) _) _ _ _); fail) | (k_unfold; (try dsimp only)) | ((fail_if_success (with_reducible show Q _ _)); (fail_if_success (with_reducible show wpAny _ _ (call (Value.ref 209) _) _ _ _)); walk1) | ((fail_if_success (with_reducible show Q _ _)); (fail_if_success (with_reducible show wpAny _ _ (call (Value.ref 209) _) _ _ _)); dsimp only; walk1) | (leave1; try dsimp only) | fail "no step")
  all_goals (
    with_reducible rename Fr g0 _ _ _ => F9
    refine' gen_call (vs := vs) (ys := ys) (l := l) ?k1 ?k2 ?k3 ?k4 ?k5 ?k6 ?ho ?hcd ?hroom ?hbind ?hloc ?hco ?hgen ?hk ?hcell ?hx ?hi ?hs ?hl hlen ?hn ?hsz ?itOk ?elt ?ret
    case k1 => k_asm
    case k2 => k_asm
    case k3 => k_asm
    case k4 => k_asm
    case k5 => k_asm
    case k6 => exact rfl
    case ho => exact rfl
    case hcd => k_is
    case hroom => ((try simp only [depth_under_make, depth_under_kw, depth_in1, depth_deeper, depth_caller]); (try dsimp only [ktrTop]); omega)
    case hbind => first | exact BindsTo.of_eq rfl | exact binds_K (by k_in) rfl (by k_is) rfl rfl rfl
    case hloc => exact locs rfl
    case hco => exact rfl
    case hgen => exact rfl
    case hk => exact rfl
    case hcell => decide
    case hx => exact fun _ => rfl
    case hi => exact fun _ => rfl
    case hs => exact fun _ _ => rfl
    case hl => exact ⟨_, F9.keep _ _ hla, rfl, cl0, rfl⟩
    case hn => rw [← hlen]; omega
    case hsz => omega
    case itOk =>
      intro L'' A'' s'' F''
      exact nameX_L (cl := []) F'' rfl ⟨rfl, rfl⟩
    case' elt =>
      intro L9 B9 X9 T9 i v y s₂ m₂ news₂ hv hy F₂ hmx hmz N₂
      obtain rfl := fn_of hmx hmz
      have hS' := SelfAt.kept hself F9.keep
      have hI' := InstAt.kept hI F9.keep
      have hR' := TokIn.mono (fun d o e => F9.keep d o e) (Nat.le_refl n) (hR i v y hv hy)
      clear F9 hI hR hself
      (try dsimp only); (try k_fold)
    case' ret =>
      intro a9 h9 tk9 g9 hJ9 F8 N8
      clear F9
      (try k_sweep); (try dsimp only); (try k_fold))
  repeat' (first | ((with_reducible show Q _ _); fail) | ((with_reducible show ∃ _, _); fail) | ((with_reducible show wpAny _ _ (call (Value.builtin "str.join") _) _ _ _); fail) | (k_unfold; (try dsimp only)) | ((fail_if_success (with_reducible show Q _ _)); (fail_if_success (with_reducible show ∃ _, _)); (fail_if_success (with_reducible show wpAny _ _ (call (Value.builtin "str.join") _) _ _ _)); walk1) | ((fail_if_success (with_reducible show Q _ _)); (fail_if_success (with_reducible show ∃ _, _)); (fail_if_success (with_reducible show wpAny _ _ (call (Value.builtin "str.join") _) _ _ _)); dsimp only; walk1) | (leave1; try dsimp only) | fail "no step")
  all_goals first
    | (with_reducible rename Fr _ _ _ _ => F9
       with_reducible rename News _ _ _ _ => N9
       exact ⟨_, _, _, _, rfl, rfl, F9, N9, by with_reducible assumption⟩)
    | (with_reducible rename GReady _ _ _ _ _ _ _ _ _ _ _ => hJ9
       refine hJ9 _ _ _ _ rfl rfl fun h8 tk8 g8 t8 F8 N8 hg8 => ?_
       (try k_sweep); (try dsimp only); (try k_fold))
  repeat' (first | ((with_reducible show Q _ _); fail) | (k_unfold; (try dsimp only)) | ((fail_if_success (with_reducible show Q _ _)); walk1) | ((fail_if_success (with_reducible show Q _ _)); dsimp only; walk1) | (leave1; try dsimp only) | fail "no step")
  all_goals (
    with_reducible rename Fr h₀ L _ _ => kF
    with_reducible rename Fr g0 _ _ _ => F9
    exact ret _ _ _ _ kF (back0 N hs0 F9) (by with_reducible assumption) ⟨_, rfl⟩)
end
section
open PySem.W.KStt (codes)
theorem lines_NMt : True := by
  k_with_none
  k_with "z1" => (((try simp only [depth_under_make, depth_under_kw, depth_in1, depth_deeper, depth_caller]); (try dsimp only [ktrTop]); omega))
  k_with "ktr_enter" => ((refine' code_def ?k1 ?k2 ?k3 ?k4 ?k5 ?kA ?kF ?kK ?k6 ?k7 ?k8 ?k9 ?kB ?_ ?c2 ?c3 ?c4 ?c5; (case kA => exact rfl); (case kF => exact rfl); (case kK => first | assumption | exact rfl); (case k1 => k_asm); (case k2 => k_asm); (case k3 => k_asm); (case k4 => k_asm); (case k5 => k_asm); (case k6 => k_is); (case k7 => k_is); (case k8 => k_extra "z1"); (case k9 => first | exact BindsTo.of_eq rfl | exact binds_K (by k_in) rfl (by k_is) rfl rfl rfl | fail "enter: no rule for these arguments"); (case c5 => decide); (case kB => exact locs rfl); (case c2 => exact rfl); (case c3 => exact rfl); (case c4 => exact rfl); k_whole); intro gpq0 Lpq0 hpq0 FGpq0 Fpq0 Npq0 Bpq0 Xpq0 Tpq0; (try dsimp only); (try k_lift Bpq0); (try k_fold))
  k_with "k_mem" => (first | with_reducible exact List.mem_cons_self | with_reducible assumption | (with_reducible refine List.mem_cons_of_mem _ ?_; k_mem) | (with_reducible refine List.mem_append_left _ ?_; k_mem) | (with_reducible refine List.mem_append_right _ ?_; k_mem))
  k_with "execs cons" => (k_here; k_dflt (refine wpAny_execs_cons ?_))
  k_with "execs cons" => (k_here; (with_reducible refine execs_cons_gen ?_); intro tk9q3)
  k_with "execs nil" => (k_here; (with_reducible refine wpAny_execs_nil ?_))
  k_with "exec If" => (k_here; k_dflt (refine wpAny_If ?_))
  k_with "ite" => (k_here; first | (with_reducible refine ite_tt ?_) | (with_reducible refine ite_ff ?_) | (k_closed; (first | (with_reducible refine iteP ?iteC ?_; (case iteC => decide)) | (with_reducible refine iteN ?iteC ?_; (case iteC => decide)))) | (with_reducible refine split_ine ?_ ?_ <;> intro _) | (with_reducible refine split_ieq ?_ ?_ <;> intro _) | with_reducible refine split_not ?_ | (with_reducible refine iteDec ?_ ?_ <;> intro _) | (with_reducible refine iteB ?_ ?_ <;> intro _))
  k_with "callWith ref" => (k_here; k_dflt ((with_reducible refine' callWith_K ?k1 ?k2 ?_ ?he ?hp); (case he => exact rfl); (case hp => exact rfl); (case k1 => k_asm); (case k2 => k_is)))
  k_with "callWith ref" => (k_here; k_dflt ((with_reducible refine' callWith_K0 ?k1 ?k2 ?_); (case k1 => exact Frag.In.keeps (by with_reducible assumption) (Fr.keep (by with_reducible assumption))); (case k2 => k_is); (try dsimp only [List.nil_append])))
  k_with "callWith" => (k_here; k_dflt ((with_reducible refine' callWith_m1 ?_ ?he ?hp); (case he => exact rfl); (case hp => exact rfl)))
  k_with "binaryOp Mod int int" => (k_here; (with_reducible refine' mod_int' ?kbe ?_); (case kbe => decide); (try dsimp only); (try k_fold))
  k_with "k_room" => (((try simp only [depth_under_make, depth_under_kw, depth_in1, depth_deeper, depth_caller]); (try dsimp only [ktrTop]); omega))
  k_with "ktr_enter" => ((refine' code_def ?k1 ?k2 ?k3 ?k4 ?k5 ?kA ?kF ?kK ?k6 ?k7 ?k8 ?k9 ?kB ?_ ?c2 ?c3 ?c4 ?c5; (case kA => exact rfl); (case kF => exact rfl); (case kK => first | assumption | exact rfl); (case k1 => k_asm); (case k2 => k_asm); (case k3 => k_asm); (case k4 => k_asm); (case k5 => k_asm); (case k6 => k_is); (case k7 => k_is); (case k8 => k_extra "z1"); (case k9 => first | exact BindsTo.of_eq rfl | exact binds_K (by k_in) rfl (by k_is) rfl rfl rfl | fail "enter: no rule for these arguments"); (case c5 => decide); (case kB => exact locs rfl); (case c2 => exact rfl); (case c3 => exact rfl); (case c4 => exact rfl); k_whole); intro gpq70 Lpq70 hpq70 FGpq70 Fpq70 Npq70 Bpq70 Xpq70 Tpq70; (try dsimp only); (try k_lift Bpq70); (try k_fold); (try have hIL := InstAt.kept (by with_reducible assumption) (Fr.keep FGpq70)); (try have hSL := SelfAt.kept (by with_reducible assumption) (Fr.keep FGpq70)))
  k_with "k_enter" => ((refine' code_def ?k1 ?k2 ?k3 ?k4 ?k5 ?kA ?kF ?kK ?k6 ?k7 ?k8 ?k9 ?kB ?_ ?c2 ?c3 ?c4 ?c5; (case kA => exact rfl); (case kF => exact rfl); (case kK => first | assumption | exact rfl); (case k1 => k_asm); (case k2 => k_asm); (case k3 => k_asm); (case k4 => k_asm); (case k5 => k_asm); (case k6 => k_is); (case k7 => k_is); (case k8 => k_extra "z1"); (case k9 => first | exact BindsTo.of_eq rfl | exact binds_K (by k_in) rfl (by k_is) rfl rfl rfl | fail "enter: no rule for these arguments"); (case c5 => decide); (case kB => exact locs rfl); (case c2 => exact rfl); (case c3 => exact rfl); (case c4 => exact rfl); k_whole); intro gpq71 Lpq71 hpq71 FGpq71 Fpq71 Npq71 Bpq71 Xpq71 Tpq71; (try dsimp only); (try k_lift Bpq71); (try k_fold); (try have hIL := InstAt.kept (by with_reducible assumption) (Fr.keep FGpq71)); (try have hSL := SelfAt.kept (by with_reducible assumption) (Fr.keep FGpq71)))
  k_with "eval Call" => (k_here; (with_reducible show wpAny _ _ (eval (Expr.Call (Expr.Name _ _) _ [] _) _) _ _ _); k_dflt (refine Call_ ?_))
  k_with "binaryOp Add str str" => (k_here; k_dflt ((with_reducible refine' add_strP (Sz.app ?sa ?sb) ?hn ?_); (case sa => first | with_reducible assumption | exact raw_sz (by with_reducible assumption) | (refine Sz.one ?_; first | decide +kernel | exact num_sz _)); (case sb => first | with_reducible assumption | exact raw_sz (by with_reducible assumption) | (refine Sz.one ?_; first | decide +kernel | exact num_sz _)); (case hn => decide); intro t9q72 k9q72 hz9q72; (try dsimp only); (try k_fold)))
  k_with "k_all" => (first | with_reducible assumption | exact List.forall_mem_nil _ | (with_reducible refine' List.forall_mem_cons.mpr ⟨?ka, ?kb⟩; (case ka => k_ne); (case kb => k_all)) | (with_reducible refine' ltNe2 ?ka; (case ka => with_reducible assumption)) | (with_reducible refine' ltNe3 ?ka; (case ka => with_reducible assumption)) | (with_reducible refine' ltNe4 ?ka; (case ka => with_reducible assumption)) | (with_reducible refine' List.forall_mem_append.mpr ⟨?ka, ?kb⟩; (case ka => k_all); (case kb => k_all)) | (with_reducible refine' apartE ?ka ?kb; (case ka => with_reducible assumption); (case kb => k_mem)) | (with_reducible refine' ltNe ?ka; (case ka => with_reducible assumption)))
  k_with "k_ne" => (refine neN ?_; (try dsimp only); first | with_reducible assumption | (with_reducible exact Ne.symm (by assumption)) | (with_reducible exact Nat.ne_of_lt (by assumption)) | (with_reducible exact Nat.ne_of_gt (by assumption)) | omega)
  k_with "ite" => (k_here; first | (with_reducible refine iteP (by with_reducible assumption) ?_) | (with_reducible refine iteF (by with_reducible assumption) ?_))
  k_with "k_inst" => ((with_reducible refine' inst_fr ?ib ?ia; (case ib => with_reducible assumption); (case ia => with_reducible assumption)))
  k_with "z2" => ((with_reducible rename _ + _ < recursionLimit => hr9; first | exact room1 hr9 (by first | decide | assumption | (refine' Nat.le_trans ?qa ?qb; (case qb => assumption); (case qa => decide))) | ((try simp only [depth_under_make, depth_under_kw, depth_in1, depth_deeper, depth_caller, units_in1, units_deeper, units_caller]); (try dsimp only [ktrTop]); omega)))
  k_with "z3" => ((with_reducible rename _ + _ < cLine => hr9; first | exact room3 hr9 (by first | decide | assumption | (refine' Nat.le_trans ?qa ?qb; (case qb => assumption); (case qa => decide))) | ((try simp only [depth_under_make, depth_under_kw, depth_in1, depth_deeper, depth_caller, units_in1, units_deeper, units_caller]); (try dsimp only [ktrTop]); omega)))
  k_with "call ref" => (k_here; (with_reducible show wpAny _ _ (call (Value.ref 238) _) _ _ _); k_dflt (refine' Tell0.use (tell_escapeL ?ka ?kb) ?k1 ?k2 ?k3 ?k4 ?k5 ?k6 ?k7 ?k8 ?k9 ?_; (case ka => first | with_reducible assumption | exact raw_lit (by decide +kernel)); (case kb => first | with_reducible assumption | exact rfl); (case k1 => k_asm); (case k2 => k_asm); (case k3 => k_asm); (case k4 => k_asm); (case k5 => k_asm); (case k6 => exact rfl); (case k7 => k_extra "z2"); (case k8 => k_extra "z3"); (case k9 => exact True.intro); intro r9q75 h9q75 t9q75 F9q75 N9q75 o9q75; obtain ⟨tn9q75, e9q75⟩ := o9q75; subst e9q75; (try have hl9q75 := raw_sz (by with_reducible assumption)); (try k_sweep); (try dsimp only); (try k_fold)))
  k_with "call ref" => (k_here; (with_reducible show wpAny _ _ (call (Value.ref 245) _) _ _ _); k_dflt (refine' Tell0.use (tell_safeL ?ka ?kb) ?k1 ?k2 ?k3 ?k4 ?k5 ?k6 ?k7 ?k8 ?k9 ?_; (case ka => first | with_reducible assumption | exact raw_lit (by decide +kernel)); (case kb => first | with_reducible assumption | exact rfl); (case k1 => k_asm); (case k2 => k_asm); (case k3 => k_asm); (case k4 => k_asm); (case k5 => k_asm); (case k6 => exact rfl); (case k7 => k_extra "z2"); (case k8 => k_extra "z3"); (case k9 => exact True.intro); intro r9q76 h9q76 t9q76 F9q76 N9q76 o9q76; obtain ⟨tn9q76, e9q76⟩ := o9q76; subst e9q76; (try have hl9q76 := raw_sz (by with_reducible assumption)); (try k_sweep); (try dsimp only); (try k_fold)))
  k_with "subscriptTail Name" => (k_here; (with_reducible show wpAny _ _ (subscriptTail _ _ (Value.ref _) (Value.str _ _)) _ _ _); k_dflt ((with_reducible refine' g_item ?x ?F ?hl ?_ ?hs ?hg); (case x => with_reducible assumption); (case F => with_reducible assumption); (case hl => exact rfl); (case hs => with_unfolding_all rfl); (case hg => (intro _; with_unfolding_all rfl)); (try dsimp only); (try k_fold)))
  k_with "compareOp In str ref" => (k_here; k_dflt (first | ((with_reducible refine' g_in ?x ?F true ?hl ?_); (case x => with_reducible assumption); (case F => with_reducible assumption); (case hl => exact rfl)) | ((with_reducible refine' g_in ?x ?F false ?hl ?_); (case x => with_reducible assumption); (case F => with_reducible assumption); (case hl => exact rfl))); (try dsimp only); (try k_fold))
  k_with "getMethod ref" => (k_here; (with_reducible show wpAny _ _ (getMethod (Value.ref _) (Str.ofString "get") _) _ _ _); k_dflt ((with_reducible refine' g_meth ?x ?F ?_); (case x => with_reducible assumption); (case F => with_reducible assumption); (try dsimp only); (try k_fold)))
  k_with "call builtin:dict.get" => (k_here; k_dflt (first | ((with_reducible refine' g_get ?x ?F (some _) ?hl ?_); (case x => with_reducible assumption); (case F => with_reducible assumption); (case hl => exact rfl)) | ((with_reducible refine' g_get ?x ?F none ?hl ?_); (case x => with_reducible assumption); (case F => with_reducible assumption); (case hl => exact rfl))); (try dsimp only [Option.getD]); (try dsimp only); (try k_fold))
  k_with "callWith ref" => (k_here; (with_reducible show wpAny _ _ (callWith _ _ _ _ (backToKw _ (keywordEach [⟨none, _, _⟩] _))) _ _ _); k_dflt (first | ((with_reducible refine' callWith_MS ?k1 ?k2 ?k3 ?k4 ?_ ?he); (case he => exact rfl); (case k1 => k_asm); (case k2 => k_asm); (case k3 => k_mem); (case k4 => k_is)) | ((with_reducible refine' callWith_MS0 ?k1 ?k2 ?k3 ?k4 ?_); (case k1 => k_asm); (case k2 => k_asm); (case k3 => k_mem); (case k4 => k_is))); (try dsimp only))
  k_with "KwStar" => (k_here; k_dflt ((with_reducible refine' kw_star' ?k1 ?k2 ?_); (case k1 => k_asm); (case k2 => k_asm); intro d9q82 h9q82 F9q82 N9q82 hap9q82; (try k_sweep); (try dsimp only); (try k_fold)))
  k_with "KwDict" => (k_here; k_dflt ((with_reducible refine' kw_dict ?x ?F ?N ?ha ?hz ?_); (case x => with_reducible assumption); (case F => k_asm); (case N => k_asm); (case ha => with_reducible assumption); (case hz => exact Nat.le_of_ble_eq_true rfl); intro h9q83 F9q83 N9q83; (try k_sweep); (try dsimp only); (try k_fold)))
  k_with "truthy ref" => (k_here; k_dflt (((with_reducible refine' g_truthy ?x ?F true ?hb ?hf ?_); (case x => with_reducible assumption); (case F => with_reducible assumption); (case hb => exact rfl); (case hf => exact Nat.le_of_ble_eq_true rfl)); (try dsimp only); (try k_fold)))
  k_with "ite" => (k_here; (with_reducible refine' ite_no ?hno ?_; (case hno => with_reducible assumption)))
  k_with "getAttrBy ref" => (k_here; (with_reducible rename MethOk _ _ _ => ok); k_dflt (refine' kbm_boundBy ?k1 ?k2 ?k3 ?k4 ok.get ok.dict ok.find ok.fn ok.spec ok.takes ok.copied (ok.own _ _ _ _ _ _ _ _ _) ?_; (case k1 => k_asm); (case k2 => k_asm); (case k3 => k_asm); (case k4 => k_inst); k_whole; intro qpq93 hpq93 Fpq93 Npq93 l1q93; (try k_lt l1q93); (try k_sweep)))
  k_with "look" => (with_reducible first | exact Look1.str | exact Look1.int | (refine' Look1.name ?hx ?hd ?hm; (case hx => k_dflt (exact rfl)); (case hd => k_dflt decide); (case hm => k_dflt (exact rfl))) | exact LookN.nil | (refine' LookN.cons ?x ?y; (case x => k_extra "look"); (case y => k_extra "look")) | exact LookP.nil | (refine' LookP.cons ?x ?y ?z; (case x => k_extra "look"); (case y => k_extra "look"); (case z => k_extra "look")))
  k_with "spliced" => (k_here; (with_reducible show wpAny _ _ (spliced (backTo _ (starEach (_ :: _) _))) _ _ _); (with_reducible rename Fr _ _ _ _ => F8q16); ((with_reducible refine' args_lk F8q16 ?he ?hk ?l ?_); (case he => k_dflt (exact ⟨_, _, _, _, rfl⟩)); (case hk => k_dflt (exact rfl)); (case l => k_extra "look")); (try dsimp only); (try k_fold))
  k_with "evalPairs" => (k_here; (with_reducible show wpAny _ _ (evalPairs (pairTrees (_ :: _) _ _ _)) _ _ _); (with_reducible rename Fr _ _ _ _ => F8q17); ((with_reducible refine' pairs_lk F8q17 ?he ?hk ?l ?_); (case he => k_dflt (exact ⟨_, _, _, _, rfl⟩)); (case hk => k_dflt (exact rfl)); (case l => k_extra "look")); (try dsimp only); (try k_fold))
  k_with "eval BinOp" => (k_here; (with_reducible show wpAny _ _ (eval (Expr.BinOp (Expr.Name _ _) _ (Expr.Constant _ _ _) _) _) _ _ _); (with_reducible rename Fr _ _ _ _ => F8q18); ((with_reducible refine' bin_lk F8q18 ?he ?hk ?l ?r ?_); (case he => k_dflt (exact ⟨_, _, _, _, rfl⟩)); (case hk => k_dflt (exact rfl)); (case l => k_extra "look"); (case r => k_extra "look")); (try dsimp only); (try k_fold))
  k_with "eval BinOp" => (k_here; (with_reducible show wpAny _ _ (eval (Expr.BinOp (Expr.Name _ _) _ (Expr.Name _ _) _) _) _ _ _); (with_reducible rename Fr _ _ _ _ => F8q19); ((with_reducible refine' bin_lk F8q19 ?he ?hk ?l ?r ?_); (case he => k_dflt (exact ⟨_, _, _, _, rfl⟩)); (case hk => k_dflt (exact rfl)); (case l => k_extra "look"); (case r => k_extra "look")); (try dsimp only); (try k_fold))
  k_with "exec If" => (k_here; (with_reducible show wpAny _ _ (exec (Stmt.If (Expr.Compare (Expr.Name _ _) [CmpOp.Eq] [Expr.Constant (Const.int _) _ _] _) _ _ _) _) _ _ _); (with_reducible rename Fr _ _ _ _ => F8q20); ((with_reducible refine' if_lk F8q20 ?he ?hk ?l ?r ?h ?_); (case he => k_dflt (exact ⟨_, _, _, _, rfl⟩)); (case hk => k_dflt (exact rfl)); (case l => k_extra "look"); (case r => k_extra "look"); (case h => k_dflt (with_unfolding_all rfl))); (try dsimp only); (try k_fold))
  k_with "storeName" => (k_here; (with_reducible rename Fr _ _ _ _ => F8q21); (with_reducible rename News _ _ _ _ => N8q21); ((with_reducible refine' store_lk F8q21 N8q21 ?he ?hk ?hx ?_); (case he => k_dflt (exact ⟨_, _, _, _, rfl⟩)); (case hk => k_dflt (exact rfl)); (case hx => k_dflt (exact rfl)); intro h9q21 m9q21 F9q21 N9q21; (try clear F8q21 N8q21); (try dsimp only); (try k_fold)))
  trivial
theorem tell_meth {w : World} {esc : Bool} {sa f : Addr} {nm : Str} {tk : Tok} (ok : MethOk w nm f) : TellT w 195 100 1000 [.ref sa, .str nm tk] (fun h => SelfAt w esc h sa) (fun tl r => ∃ q, r = .ref q ∧ tl = [(q, methodObj (.ref f) (.ref sa))]) := by
  have hnz := ok.small
  have hno := ok.plain
  intro p loose mean mg mb dp un gd cn cs a ccd cl outer A₀ base h₀ L m news s Q E B F X N T hk hdp hun hpre ret
  refine fillT w ?_
  k_fill
  intro _ _
  refine wpAny_call ?_
  k_dflt ((refine' code_all ?k1 ?k2 ?k3 ?k4 ?k5 ?kA ?kF ?kK ?k6 ?k7 ?k8 ?k9 ?kB ?_ ?c2 ?c3 ?c4 ?c5; (case kA => exact rfl); (case kF => exact rfl); (case kK => first | assumption | exact rfl); (case k1 => k_asm); (case k2 => k_asm); (case k3 => k_asm); (case k4 => k_asm); (case k5 => k_asm); (case k6 => k_is); (case k7 => k_is); (case k8 => ((try simp only [depth_under_make, depth_under_kw, depth_in1, depth_deeper, depth_caller]); (try dsimp only [ktrTop]); omega)); (case k9 => first | exact BindsTo.of_eq rfl | exact binds_K (by k_in) rfl (by k_is) rfl rfl rfl | fail "enter: no rule for these arguments"); (case c5 => decide); (case kB => exact locs rfl); (case c2 => exact rfl); (case c3 => exact rfl); (case c4 => exact rfl); k_whole); intro g0 L0 h' FG' F' N' B' X' T' hs0; (try dsimp only); (try k_fold))
  obtain ⟨dx, md, k1, k2, k3, hI, hmd⟩ := hpre.kept hs0
  repeat' (first | ((with_reducible show Q _ _); fail) | (k_unfold; (try dsimp only)) | ((fail_if_success (with_reducible show Q _ _)); walk1) | ((fail_if_success (with_reducible show Q _ _)); dsimp only; walk1) | (leave1; try dsimp only) | fail "no step")
  all_goals (
    with_reducible rename Fr h₀ L _ _ => kF
    with_reducible rename News h₀ L _ _ => kN
    with_reducible rename Fr g0 _ _ _ => F9
    with_reducible rename News g0 _ _ _ => N9
    exact ret _ _ _ _ kF (backT N hs0 F9 kN) (apart N hs0 N9) ⟨_, rfl, rfl⟩)
end
section
open PySem.W.KStt (codes)
theorem lines_NXm : True := by
  k_with_none
  k_with "z1" => (((try simp only [depth_under_make, depth_under_kw, depth_in1, depth_deeper, depth_caller]); (try dsimp only [ktrTop]); omega))
  k_with "ktr_enter" => ((refine' code_def ?k1 ?k2 ?k3 ?k4 ?k5 ?kA ?kF ?kK ?k6 ?k7 ?k8 ?k9 ?kB ?_ ?c2 ?c3 ?c4 ?c5; (case kA => exact rfl); (case kF => exact rfl); (case kK => first | assumption | exact rfl); (case k1 => k_asm); (case k2 => k_asm); (case k3 => k_asm); (case k4 => k_asm); (case k5 => k_asm); (case k6 => k_is); (case k7 => k_is); (case k8 => k_extra "z1"); (case k9 => first | exact BindsTo.of_eq rfl | exact binds_K (by k_in) rfl (by k_is) rfl rfl rfl | fail "enter: no rule for these arguments"); (case c5 => decide); (case kB => exact locs rfl); (case c2 => exact rfl); (case c3 => exact rfl); (case c4 => exact rfl); k_whole); intro gpq0 Lpq0 hpq0 FGpq0 Fpq0 Npq0 Bpq0 Xpq0 Tpq0; (try dsimp only); (try k_lift Bpq0); (try k_fold))
  k_with "k_mem" => (first | with_reducible exact List.mem_cons_self | with_reducible assumption | (with_reducible refine List.mem_cons_of_mem _ ?_; k_mem) | (with_reducible refine List.mem_append_left _ ?_; k_mem) | (with_reducible refine List.mem_append_right _ ?_; k_mem))
  k_with "execs cons" => (k_here; k_dflt (refine wpAny_execs_cons ?_))
  k_with "execs cons" => (k_here; (with_reducible refine execs_cons_gen ?_); intro tk9q3)
  k_with "execs nil" => (k_here; (with_reducible refine wpAny_execs_nil ?_))
  k_with "exec If" => (k_here; k_dflt (refine wpAny_If ?_))
  k_with "ite" => (k_here; first | (with_reducible refine ite_tt ?_) | (with_reducible refine ite_ff ?_) | (k_closed; (first | (with_reducible refine iteP ?iteC ?_; (case iteC => decide)) | (with_reducible refine iteN ?iteC ?_; (case iteC => decide)))) | (with_reducible refine split_ine ?_ ?_ <;> intro _) | (with_reducible refine split_ieq ?_ ?_ <;> intro _) | with_reducible refine split_not ?_ | (with_reducible refine iteDec ?_ ?_ <;> intro _) | (with_reducible refine iteB ?_ ?_ <;> intro _))
  k_with "callWith ref" => (k_here; k_dflt ((with_reducible refine' callWith_K ?k1 ?k2 ?_ ?he ?hp); (case he => exact rfl); (case hp => exact rfl); (case k1 => k_asm); (case k2 => k_is)))
  k_with "callWith ref" => (k_here; k_dflt ((with_reducible refine' callWith_K0 ?k1 ?k2 ?_); (case k1 => exact Frag.In.keeps (by with_reducible assumption) (Fr.keep (by with_reducible assumption))); (case k2 => k_is); (try dsimp only [List.nil_append])))
  k_with "callWith" => (k_here; k_dflt ((with_reducible refine' callWith_m1 ?_ ?he ?hp); (case he => exact rfl); (case hp => exact rfl)))
  k_with "binaryOp Mod int int" => (k_here; (with_reducible refine' mod_int' ?kbe ?_); (case kbe => decide); (try dsimp only); (try k_fold))
  k_with "k_room" => (((try simp only [depth_under_make, depth_under_kw, depth_in1, depth_deeper, depth_caller]); (try dsimp only [ktrTop]); omega))
  k_with "ktr_enter" => ((refine' code_def ?k1 ?k2 ?k3 ?k4 ?k5 ?kA ?kF ?kK ?k6 ?k7 ?k8 ?k9 ?kB ?_ ?c2 ?c3 ?c4 ?c5; (case kA => exact rfl); (case kF => exact rfl); (case kK => first | assumption | exact rfl); (case k1 => k_asm); (case k2 => k_asm); (case k3 => k_asm); (case k4 => k_asm); (case k5 => k_asm); (case k6 => k_is); (case k7 => k_is); (case k8 => k_extra "z1"); (case k9 => first | exact BindsTo.of_eq rfl | exact binds_K (by k_in) rfl (by k_is) rfl rfl rfl | fail "enter: no rule for these arguments"); (case c5 => decide); (case kB => exact locs rfl); (case c2 => exact rfl); (case c3 => exact rfl); (case c4 => exact rfl); k_whole); intro gpq70 Lpq70 hpq70 FGpq70 Fpq70 Npq70 Bpq70 Xpq70 Tpq70; (try dsimp only); (try k_lift Bpq70); (try k_fold); (try have hIL := InstAt.kept (by with_reducible assumption) (Fr.keep FGpq70)); (try have hSL := SelfAt.kept (by with_reducible assumption) (Fr.keep FGpq70)))
  k_with "k_enter" => ((refine' code_def ?k1 ?k2 ?k3 ?k4 ?k5 ?kA ?kF ?kK ?k6 ?k7 ?k8 ?k9 ?kB ?_ ?c2 ?c3 ?c4 ?c5; (case kA => exact rfl); (case kF => exact rfl); (case kK => first | assumption | exact rfl); (case k1 => k_asm); (case k2 => k_asm); (case k3 => k_asm); (case k4 => k_asm); (case k5 => k_asm); (case k6 => k_is); (case k7 => k_is); (case k8 => k_extra "z1"); (case k9 => first | exact BindsTo.of_eq rfl | exact binds_K (by k_in) rfl (by k_is) rfl rfl rfl | fail "enter: no rule for these arguments"); (case c5 => decide); (case kB => exact locs rfl); (case c2 => exact rfl); (case c3 => exact rfl); (case c4 => exact rfl); k_whole); intro gpq71 Lpq71 hpq71 FGpq71 Fpq71 Npq71 Bpq71 Xpq71 Tpq71; (try dsimp only); (try k_lift Bpq71); (try k_fold); (try have hIL := InstAt.kept (by with_reducible assumption) (Fr.keep FGpq71)); (try have hSL := SelfAt.kept (by with_reducible assumption) (Fr.keep FGpq71)))
  k_with "eval Call" => (k_here; (with_reducible show wpAny _ _ (eval (Expr.Call (Expr.Name _ _) _ [] _) _) _ _ _); k_dflt (refine Call_ ?_))
  k_with "binaryOp Add str str" => (k_here; k_dflt ((with_reducible refine' add_strP (Sz.app ?sa ?sb) ?hn ?_); (case sa => first | with_reducible assumption | exact raw_sz (by with_reducible assumption) | (refine Sz.one ?_; first | decide +kernel | exact num_sz _)); (case sb => first | with_reducible assumption | exact raw_sz (by with_reducible assumption) | (refine Sz.one ?_; first | decide +kernel | exact num_sz _)); (case hn => decide); intro t9q72 k9q72 hz9q72; (try dsimp only); (try k_fold)))
  k_with "k_all" => (first | with_reducible assumption | exact List.forall_mem_nil _ | (with_reducible refine' List.forall_mem_cons.mpr ⟨?ka, ?kb⟩; (case ka => k_ne); (case kb => k_all)) | (with_reducible refine' ltNe2 ?ka; (case ka => with_reducible assumption)) | (with_reducible refine' ltNe3 ?ka; (case ka => with_reducible assumption)) | (with_reducible refine' ltNe4 ?ka; (case ka => with_reducible assumption)) | (with_reducible refine' List.forall_mem_append.mpr ⟨?ka, ?kb⟩; (case ka => k_all); (case kb => k_all)) | (with_reducible refine' apartE ?ka ?kb; (case ka => with_reducible assumption); (case kb => k_mem)) | (with_reducible refine' ltNe ?ka; (case ka => with_reducible assumption)))
  k_with "k_ne" => (refine neN ?_; (try dsimp only); first | with_reducible assumption | (with_reducible exact Ne.symm (by assumption)) | (with_reducible exact Nat.ne_of_lt (by assumption)) | (with_reducible exact Nat.ne_of_gt (by assumption)) | omega)
  k_with "ite" => (k_here; first | (with_reducible refine iteP (by with_reducible assumption) ?_) | (with_reducible refine iteF (by with_reducible assumption) ?_))
  k_with "k_inst" => ((with_reducible refine' inst_fr ?ib ?ia; (case ib => with_reducible assumption); (case ia => with_reducible assumption)))
  k_with "z2" => ((with_reducible rename _ + _ < recursionLimit => hr9; first | exact room1 hr9 (by first | decide | assumption | (refine' Nat.le_trans ?qa ?qb; (case qb => assumption); (case qa => decide))) | ((try simp only [depth_under_make, depth_under_kw, depth_in1, depth_deeper, depth_caller, units_in1, units_deeper, units_caller]); (try dsimp only [ktrTop]); omega)))
  k_with "z3" => ((with_reducible rename _ + _ < cLine => hr9; first | exact room3 hr9 (by first | decide | assumption | (refine' Nat.le_trans ?qa ?qb; (case qb => assumption); (case qa => decide))) | ((try simp only [depth_under_make, depth_under_kw, depth_in1, depth_deeper, depth_caller, units_in1, units_deeper, units_caller]); (try dsimp only [ktrTop]); omega)))
  k_with "call ref" => (k_here; (with_reducible show wpAny _ _ (call (Value.ref 238) _) _ _ _); k_dflt (refine' Tell0.use (tell_escapeL ?ka ?kb) ?k1 ?k2 ?k3 ?k4 ?k5 ?k6 ?k7 ?k8 ?k9 ?_; (case ka => first | with_reducible assumption | exact raw_lit (by decide +kernel)); (case kb => first | with_reducible assumption | exact rfl); (case k1 => k_asm); (case k2 => k_asm); (case k3 => k_asm); (case k4 => k_asm); (case k5 => k_asm); (case k6 => exact rfl); (case k7 => k_extra "z2"); (case k8 => k_extra "z3"); (case k9 => exact True.intro); intro r9q75 h9q75 t9q75 F9q75 N9q75 o9q75; obtain ⟨tn9q75, e9q75⟩ := o9q75; subst e9q75; (try have hl9q75 := raw_sz (by with_reducible assumption)); (try k_sweep); (try dsimp only); (try k_fold)))
  k_with "call ref" => (k_here; (with_reducible show wpAny _ _ (call (Value.ref 245) _) _ _ _); k_dflt (refine' Tell0.use (tell_safeL ?ka ?kb) ?k1 ?k2 ?k3 ?k4 ?k5 ?k6 ?k7 ?k8 ?k9 ?_; (case ka => first | with_reducible assumption | exact raw_lit (by decide +kernel)); (case kb => first | with_reducible assumption | exact rfl); (case k1 => k_asm); (case k2 => k_asm); (case k3 => k_asm); (case k4 => k_asm); (case k5 => k_asm); (case k6 => exact rfl); (case k7 => k_extra "z2"); (case k8 => k_extra "z3"); (case k9 => exact True.intro); intro r9q76 h9q76 t9q76 F9q76 N9q76 o9q76; obtain ⟨tn9q76, e9q76⟩ := o9q76; subst e9q76; (try have hl9q76 := raw_sz (by with_reducible assumption)); (try k_sweep); (try dsimp only); (try k_fold)))
  k_with "subscriptTail Name" => (k_here; (with_reducible show wpAny _ _ (subscriptTail _ _ (Value.ref _) (Value.str _ _)) _ _ _); k_dflt ((with_reducible refine' g_item ?x ?F ?hl ?_ ?hs ?hg); (case x => with_reducible assumption); (case F => with_reducible assumption); (case hl => exact rfl); (case hs => with_unfolding_all rfl); (case hg => (intro _; with_unfolding_all rfl)); (try dsimp only); (try k_fold)))
  k_with "compareOp In str ref" => (k_here; k_dflt (first | ((with_reducible refine' g_in ?x ?F true ?hl ?_); (case x => with_reducible assumption); (case F => with_reducible assumption); (case hl => exact rfl)) | ((with_reducible refine' g_in ?x ?F false ?hl ?_); (case x => with_reducible assumption); (case F => with_reducible assumption); (case hl => exact rfl))); (try dsimp only); (try k_fold))
  k_with "getMethod ref" => (k_here; (with_reducible show wpAny _ _ (getMethod (Value.ref _) (Str.ofString "get") _) _ _ _); k_dflt ((with_reducible refine' g_meth ?x ?F ?_); (case x => with_reducible assumption); (case F => with_reducible assumption); (try dsimp only); (try k_fold)))
  k_with "call builtin:dict.get" => (k_here; k_dflt (first | ((with_reducible refine' g_get ?x ?F (some _) ?hl ?_); (case x => with_reducible assumption); (case F => with_reducible assumption); (case hl => exact rfl)) | ((with_reducible refine' g_get ?x ?F none ?hl ?_); (case x => with_reducible assumption); (case F => with_reducible assumption); (case hl => exact rfl))); (try dsimp only [Option.getD]); (try dsimp only); (try k_fold))
  k_with "callWith ref" => (k_here; (with_reducible show wpAny _ _ (callWith _ _ _ _ (backToKw _ (keywordEach [⟨none, _, _⟩] _))) _ _ _); k_dflt (first | ((with_reducible refine' callWith_MS ?k1 ?k2 ?k3 ?k4 ?_ ?he); (case he => exact rfl); (case k1 => k_asm); (case k2 => k_asm); (case k3 => k_mem); (case k4 => k_is)) | ((with_reducible refine' callWith_MS0 ?k1 ?k2 ?k3 ?k4 ?_); (case k1 => k_asm); (case k2 => k_asm); (case k3 => k_mem); (case k4 => k_is))); (try dsimp only))
  k_with "KwStar" => (k_here; k_dflt ((with_reducible refine' kw_star' ?k1 ?k2 ?_); (case k1 => k_asm); (case k2 => k_asm); intro d9q82 h9q82 F9q82 N9q82 hap9q82; (try k_sweep); (try dsimp only); (try k_fold)))
  k_with "KwDict" => (k_here; k_dflt ((with_reducible refine' kw_dict ?x ?F ?N ?ha ?hz ?_); (case x => with_reducible assumption); (case F => k_asm); (case N => k_asm); (case ha => with_reducible assumption); (case hz => exact Nat.le_of_ble_eq_true rfl); intro h9q83 F9q83 N9q83; (try k_sweep); (try dsimp only); (try k_fold)))
  k_with "truthy ref" => (k_here; k_dflt (((with_reducible refine' g_truthy ?x ?F true ?hb ?hf ?_); (case x => with_reducible assumption); (case F => with_reducible assumption); (case hb => exact rfl); (case hf => exact Nat.le_of_ble_eq_true rfl)); (try dsimp only); (try k_fold)))
  k_with "exec Raise some none" => (k_here; (with_reducible show wpAny _ _ (exec (Stmt.Raise (some (Expr.Call (Expr.Name _ _) (_ :: _) [] _)) none _) _) _ _ _); k_dflt (refine' Raise_aeK ?k1 ?k2 (topRead_of ?k3) ?k4 PyProof.Rows.Boot.«AttributeError» ?k5 ?_ ?k6 ?k7 ?k8 ?k9; (case k1 => k_asm); (case k2 => k_asm); (case k3 => k_asm); (case k4 => k_is); (case k5 => exact rfl); (case k6 => exact rfl); (case k7 => exact rfl); (case k8 => exact rfl); (case k9 => exact rfl)))
  k_with "call builtin:str.format" => (k_here; k_dflt (refine call_fmt ?_); intro x9q114 t9q114 k9q114; (try dsimp only); (try k_fold))
  k_with "look" => (with_reducible first | exact Look1.str | exact Look1.int | (refine' Look1.name ?hx ?hd ?hm; (case hx => k_dflt (exact rfl)); (case hd => k_dflt decide); (case hm => k_dflt (exact rfl))) | exact LookN.nil | (refine' LookN.cons ?x ?y; (case x => k_extra "look"); (case y => k_extra "look")) | exact LookP.nil | (refine' LookP.cons ?x ?y ?z; (case x => k_extra "look"); (case y => k_extra "look"); (case z => k_extra "look")))
  k_with "spliced" => (k_here; (with_reducible show wpAny _ _ (spliced (backTo _ (starEach (_ :: _) _))) _ _ _); (with_reducible rename Fr _ _ _ _ => F8q16); ((with_reducible refine' args_lk F8q16 ?he ?hk ?l ?_); (case he => k_dflt (exact ⟨_, _, _, _, rfl⟩)); (case hk => k_dflt (exact rfl)); (case l => k_extra "look")); (try dsimp only); (try k_fold))
  k_with "evalPairs" => (k_here; (with_reducible show wpAny _ _ (evalPairs (pairTrees (_ :: _) _ _ _)) _ _ _); (with_reducible rename Fr _ _ _ _ => F8q17); ((with_reducible refine' pairs_lk F8q17 ?he ?hk ?l ?_); (case he => k_dflt (exact ⟨_, _, _, _, rfl⟩)); (case hk => k_dflt (exact rfl)); (case l => k_extra "look")); (try dsimp only); (try k_fold))
  k_with "eval BinOp" => (k_here; (with_reducible show wpAny _ _ (eval (Expr.BinOp (Expr.Name _ _) _ (Expr.Constant _ _ _) _) _) _ _ _); (with_reducible rename Fr _ _ _ _ => F8q18); ((with_reducible refine' bin_lk F8q18 ?he ?hk ?l ?r ?_); (case he => k_dflt (exact ⟨_, _, _, _, rfl⟩)); (case hk => k_dflt (exact rfl)); (case l => k_extra "look"); (case r => k_extra "look")); (try dsimp only); (try k_fold))
  k_with "eval BinOp" => (k_here; (with_reducible show wpAny _ _ (eval (Expr.BinOp (Expr.Name _ _) _ (Expr.Name _ _) _) _) _ _ _); (with_reducible rename Fr _ _ _ _ => F8q19); ((with_reducible refine' bin_lk F8q19 ?he ?hk ?l ?r ?_); (case he => k_dflt (exact ⟨_, _, _, _, rfl⟩)); (case hk => k_dflt (exact rfl)); (case l => k_extra "look"); (case r => k_extra "look")); (try dsimp only); (try k_fold))
  k_with "exec If" => (k_here; (with_reducible show wpAny _ _ (exec (Stmt.If (Expr.Compare (Expr.Name _ _) [CmpOp.Eq] [Expr.Constant (Const.int _) _ _] _) _ _ _) _) _ _ _); (with_reducible rename Fr _ _ _ _ => F8q20); ((with_reducible refine' if_lk F8q20 ?he ?hk ?l ?r ?h ?_); (case he => k_dflt (exact ⟨_, _, _, _, rfl⟩)); (case hk => k_dflt (exact rfl)); (case l => k_extra "look"); (case r => k_extra "look"); (case h => k_dflt (with_unfolding_all rfl))); (try dsimp only); (try k_fold))
  k_with "storeName" => (k_here; (with_reducible rename Fr _ _ _ _ => F8q21); (with_reducible rename News _ _ _ _ => N8q21); ((with_reducible refine' store_lk F8q21 N8q21 ?he ?hk ?hx ?_); (case he => k_dflt (exact ⟨_, _, _, _, rfl⟩)); (case hk => k_dflt (exact rfl)); (case hx => k_dflt (exact rfl)); intro h9q21 m9q21 F9q21 N9q21; (try clear F8q21 N8q21); (try dsimp only); (try k_fold)))
  trivial
theorem tellx_meth {w : World} {esc : Bool} {sa : Addr} {tk : Tok} : TellX w 195 100 1000 [.ref sa, .str (S "unheard_of") tk] (fun h l => SelfX w esc h l sa) := by
  intro p loose mean mg mb dp un gd cn cs a ccd cl outer A₀ base h₀ L m news s Q E B F X N T hk XB TB hdp hun hpre ret
  refine fillT w ?_
  k_fill
  intro _ _
  refine wpAny_call ?_
  k_dflt ((refine' code_allX ?k1 ?k2 ?k3 ?k4 ?k5 ?kA ?kF ?kK ?k6 ?k7 ?k8 ?k9 ?kB ?_ ?c2 ?c3 ?c4 ?c5; (case kA => exact rfl); (case kF => exact rfl); (case kK => first | assumption | exact rfl); (case k1 => k_asm); (case k2 => k_asm); (case k3 => k_asm); (case k4 => k_asm); (case k5 => k_asm); (case k6 => k_is); (case k7 => k_is); (case k8 => ((try simp only [depth_under_make, depth_under_kw, depth_in1, depth_deeper, depth_caller]); (try dsimp only [ktrTop]); omega)); (case k9 => first | exact BindsTo.of_eq rfl | exact binds_K (by k_in) rfl (by k_is) rfl rfl rfl | fail "enter: no rule for these arguments"); (case c5 => decide); (case kB => exact locs rfl); (case c2 => exact rfl); (case c3 => exact rfl); (case c4 => exact rfl); k_whole); intro g0 L0 h' FG' F' N' B' X' T' hg0; (try dsimp only); (try k_fold))
  have hsx : SelfX w esc g0 (envX cn cs L a ccd cl :: outer) sa := by rw [hg0]; exact hpre
  obtain ⟨dx, md, k1, k2, k3, hI, hmd⟩ := id hsx.at
  repeat' (first | ((with_reducible show Q _ _); fail) | ((with_reducible show E _ _); fail) | ((with_reducible show wpAny _ _ (getAttrBy _ _ _ _) _ _ _); fail) | (k_unfold; (try dsimp only)) | ((fail_if_success (with_reducible show Q _ _)); (fail_if_success (with_reducible show E _ _)); (fail_if_success (with_reducible show wpAny _ _ (getAttrBy _ _ _ _) _ _ _)); walk1) | ((fail_if_success (with_reducible show Q _ _)); (fail_if_success (with_reducible show E _ _)); (fail_if_success (with_reducible show wpAny _ _ (getAttrBy _ _ _ _) _ _ _)); dsimp only; walk1) | (leave1; try dsimp only) | fail "no step")
  all_goals (
    with_reducible rename Fr g0 _ _ _ => F1
    with_reducible rename News g0 _ _ _ => N1
    refine' kbm_miss (K := hd.heap_39 w.params) (X'.keeps F1.keep) (InstAt.kept hI F1.keep) ?a1 (findObj_miss ?b1 ?b2 ?b3 ?b4) ?a3 ?aA ?a4 ?a5 ?a6 ?_
    case a1 => k_is
    case b1 => k_is
    case b2 => k_is
    case b3 => decide +kernel
    case b4 => exact rfl
    case a3 => k_is
    case aA => exact rfl
    case a4 => exact rfl
    case a5 => decide +kernel
    case a6 => decide +kernel
    intro h2 tk2 e1 hx1
    try dsimp only
    refine' catch_own B' hx1 F1 N1 XB TB ?ex PyProof.Rows.Boot.«AttributeError» ?_ rfl rfl ?hE
    case ex => k_is
    case hE => passes_own
    intro h3 g3 oe3 T3 F3 N3 K3 X3 P3 c3 u3
    have hs3 := hsx.turn T3
    clear hI hmd F1 N1 FG'
    obtain ⟨dx3, md3, k31, k32, k33, hI, om3, hm1, hm2, hm3⟩ := hs3
    have hdg3 : DG w g3 md3 [] := ⟨⟨om3, hm1, hm2, hm3⟩⟩
    try dsimp only
    try k_fold)
  repeat' (first | ((with_reducible show Q _ _); fail) | ((with_reducible show E _ _); fail) | ((with_reducible show wpAny _ _ (leaving _ _) _ _ _); fail) | (k_unfold; (try dsimp only)) | ((fail_if_success (with_reducible show Q _ _)); (fail_if_success (with_reducible show E _ _)); (fail_if_success (with_reducible show wpAny _ _ (leaving _ _) _ _ _)); walk1) | ((fail_if_success (with_reducible show Q _ _)); (fail_if_success (with_reducible show E _ _)); (fail_if_success (with_reducible show wpAny _ _ (leaving _ _) _ _ _)); dsimp only; walk1) | (leave1; try dsimp only) | fail "no step")
  all_goals first
  | (with_reducible show CtxNone _ _
     with_reducible rename News g3 _ _ _ => N4
     exact CtxObj.at c3 (N4 (e1, oe3) (by k_mem)).1)
  | (with_reducible rename Fr g3 _ _ _ => F4
     with_reducible rename NewAE _ _ _ _ => hx2
     refine' leave_ae K3 hx2 F4 ?_ rfl
     intro h6 R6 u6
     obtain ⟨R7, u7⟩ := raised_turn R6 T3 u6
     rw [hg0] at R7 u7
     exact ret _ _ _ R7 u7)
end
section
open PySem.W.KStt (codes)
theorem lines_NXt : True := by
  k_with_none
  k_with "z1" => (((try simp only [depth_under_make, depth_under_kw, depth_in1, depth_deeper, depth_caller]); (try dsimp only [ktrTop]); omega))
  k_with "ktr_enter" => ((refine' code_def ?k1 ?k2 ?k3 ?k4 ?k5 ?kA ?kF ?kK ?k6 ?k7 ?k8 ?k9 ?kB ?_ ?c2 ?c3 ?c4 ?c5; (case kA => exact rfl); (case kF => exact rfl); (case kK => first | assumption | exact rfl); (case k1 => k_asm); (case k2 => k_asm); (case k3 => k_asm); (case k4 => k_asm); (case k5 => k_asm); (case k6 => k_is); (case k7 => k_is); (case k8 => k_extra "z1"); (case k9 => first | exact BindsTo.of_eq rfl | exact binds_K (by k_in) rfl (by k_is) rfl rfl rfl | fail "enter: no rule for these arguments"); (case c5 => decide); (case kB => exact locs rfl); (case c2 => exact rfl); (case c3 => exact rfl); (case c4 => exact rfl); k_whole); intro gpq0 Lpq0 hpq0 FGpq0 Fpq0 Npq0 Bpq0 Xpq0 Tpq0; (try dsimp only); (try k_lift Bpq0); (try k_fold))
  k_with "k_mem" => (first | with_reducible exact List.mem_cons_self | with_reducible assumption | (with_reducible refine List.mem_cons_of_mem _ ?_; k_mem) | (with_reducible refine List.mem_append_left _ ?_; k_mem) | (with_reducible refine List.mem_append_right _ ?_; k_mem))
  k_with "execs cons" => (k_here; k_dflt (refine wpAny_execs_cons ?_))
  k_with "execs cons" => (k_here; (with_reducible refine execs_cons_gen ?_); intro tk9q3)
  k_with "execs nil" => (k_here; (with_reducible refine wpAny_execs_nil ?_))
  k_with "exec If" => (k_here; k_dflt (refine wpAny_If ?_))
  k_with "ite" => (k_here; first | (with_reducible refine ite_tt ?_) | (with_reducible refine ite_ff ?_) | (k_closed; (first | (with_reducible refine iteP ?iteC ?_; (case iteC => decide)) | (with_reducible refine iteN ?iteC ?_; (case iteC => decide)))) | (with_reducible refine split_ine ?_ ?_ <;> intro _) | (with_reducible refine split_ieq ?_ ?_ <;> intro _) | with_reducible refine split_not ?_ | (with_reducible refine iteDec ?_ ?_ <;> intro _) | (with_reducible refine iteB ?_ ?_ <;> intro _))
  k_with "callWith ref" => (k_here; k_dflt ((with_reducible refine' callWith_K ?k1 ?k2 ?_ ?he ?hp); (case he => exact rfl); (case hp => exact rfl); (case k1 => k_asm); (case k2 => k_is)))
  k_with "callWith ref" => (k_here; k_dflt ((with_reducible refine' callWith_K0 ?k1 ?k2 ?_); (case k1 => exact Frag.In.keeps (by with_reducible assumption) (Fr.keep (by with_reducible assumption))); (case k2 => k_is); (try dsimp only [List.nil_append])))
  k_with "callWith" => (k_here; k_dflt ((with_reducible refine' callWith_m1 ?_ ?he ?hp); (case he => exact rfl); (case hp => exact rfl)))
  k_with "binaryOp Mod int int" => (k_here; (with_reducible refine' mod_int' ?kbe ?_); (case kbe => decide); (try dsimp only); (try k_fold))
  k_with "k_room" => (((try simp only [depth_under_make, depth_under_kw, depth_in1, depth_deeper, depth_caller]); (try dsimp only [ktrTop]); omega))
  k_with "ktr_enter" => ((refine' code_def ?k1 ?k2 ?k3 ?k4 ?k5 ?kA ?kF ?kK ?k6 ?k7 ?k8 ?k9 ?kB ?_ ?c2 ?c3 ?c4 ?c5; (case kA => exact rfl); (case kF => exact rfl); (case kK => first | assumption | exact rfl); (case k1 => k_asm); (case k2 => k_asm); (case k3 => k_asm); (case k4 => k_asm); (case k5 => k_asm); (case k6 => k_is); (case k7 => k_is); (case k8 => k_extra "z1"); (case k9 => first | exact BindsTo.of_eq rfl | exact binds_K (by k_in) rfl (by k_is) rfl rfl rfl | fail "enter: no rule for these arguments"); (case c5 => decide); (case kB => exact locs rfl); (case c2 => exact rfl); (case c3 => exact rfl); (case c4 => exact rfl); k_whole); intro gpq70 Lpq70 hpq70 FGpq70 Fpq70 Npq70 Bpq70 Xpq70 Tpq70; (try dsimp only); (try k_lift Bpq70); (try k_fold); (try have hIL := InstAt.kept (by with_reducible assumption) (Fr.keep FGpq70)); (try have hSL := SelfAt.kept (by with_reducible assumption) (Fr.keep FGpq70)))
  k_with "k_enter" => ((refine' code_def ?k1 ?k2 ?k3 ?k4 ?k5 ?kA ?kF ?kK ?k6 ?k7 ?k8 ?k9 ?kB ?_ ?c2 ?c3 ?c4 ?c5; (case kA => exact rfl); (case kF => exact rfl); (case kK => first | assumption | exact rfl); (case k1 => k_asm); (case k2 => k_asm); (case k3 => k_asm); (case k4 => k_asm); (case k5 => k_asm); (case k6 => k_is); (case k7 => k_is); (case k8 => k_extra "z1"); (case k9 => first | exact BindsTo.of_eq rfl | exact binds_K (by k_in) rfl (by k_is) rfl rfl rfl | fail "enter: no rule for these arguments"); (case c5 => decide); (case kB => exact locs rfl); (case c2 => exact rfl); (case c3 => exact rfl); (case c4 => exact rfl); k_whole); intro gpq71 Lpq71 hpq71 FGpq71 Fpq71 Npq71 Bpq71 Xpq71 Tpq71; (try dsimp only); (try k_lift Bpq71); (try k_fold); (try have hIL := InstAt.kept (by with_reducible assumption) (Fr.keep FGpq71)); (try have hSL := SelfAt.kept (by with_reducible assumption) (Fr.keep FGpq71)))
  k_with "eval Call" => (k_here; (with_reducible show wpAny _ _ (eval (Expr.Call (Expr.Name _ _) _ [] _) _) _ _ _); k_dflt (refine Call_ ?_))
  k_with "binaryOp Add str str" => (k_here; k_dflt ((with_reducible refine' add_strP (Sz.app ?sa ?sb) ?hn ?_); (case sa => first | with_reducible assumption | exact raw_sz (by with_reducible assumption) | (refine Sz.one ?_; first | decide +kernel | exact num_sz _)); (case sb => first | with_reducible assumption | exact raw_sz (by with_reducible assumption) | (refine Sz.one ?_; first | decide +kernel | exact num_sz _)); (case hn => decide); intro t9q72 k9q72 hz9q72; (try dsimp only); (try k_fold)))
  k_with "k_all" => (first | with_reducible assumption | exact List.forall_mem_nil _ | (with_reducible refine' List.forall_mem_cons.mpr ⟨?ka, ?kb⟩; (case ka => k_ne); (case kb => k_all)) | (with_reducible refine' ltNe2 ?ka; (case ka => with_reducible assumption)) | (with_reducible refine' ltNe3 ?ka; (case ka => with_reducible assumption)) | (with_reducible refine' ltNe4 ?ka; (case ka => with_reducible assumption)) | (with_reducible refine' List.forall_mem_append.mpr ⟨?ka, ?kb⟩; (case ka => k_all); (case kb => k_all)) | (with_reducible refine' apartE ?ka ?kb; (case ka => with_reducible assumption); (case kb => k_mem)) | (with_reducible refine' ltNe ?ka; (case ka => with_reducible assumption)))
  k_with "k_ne" => (refine neN ?_; (try dsimp only); first | with_reducible assumption | (with_reducible exact Ne.symm (by assumption)) | (with_reducible exact Nat.ne_of_lt (by assumption)) | (with_reducible exact Nat.ne_of_gt (by assumption)) | omega)
  k_with "ite" => (k_here; first | (with_reducible refine iteP (by with_reducible assumption) ?_) | (with_reducible refine iteF (by with_reducible assumption) ?_))
  k_with "k_inst" => ((with_reducible refine' inst_fr ?ib ?ia; (case ib => with_reducible assumption); (case ia => with_reducible assumption)))
  k_with "z2" => ((with_reducible rename _ + _ < recursionLimit => hr9; first | exact room1 hr9 (by first | decide | assumption | (refine' Nat.le_trans ?qa ?qb; (case qb => assumption); (case qa => decide))) | ((try simp only [depth_under_make, depth_under_kw, depth_in1, depth_deeper, depth_caller, units_in1, units_deeper, units_caller]); (try dsimp only [ktrTop]); omega)))
  k_with "z3" => ((with_reducible rename _ + _ < cLine => hr9; first | exact room3 hr9 (by first | decide | assumption | (refine' Nat.le_trans ?qa ?qb; (case qb => assumption); (case qa => decide))) | ((try simp only [depth_under_make, depth_under_kw, depth_in1, depth_deeper, depth_caller, units_in1, units_deeper, units_caller]); (try dsimp only [ktrTop]); omega)))
  k_with "call ref" => (k_here; (with_reducible show wpAny _ _ (call (Value.ref 238) _) _ _ _); k_dflt (refine' Tell0.use (tell_escapeL ?ka ?kb) ?k1 ?k2 ?k3 ?k4 ?k5 ?k6 ?k7 ?k8 ?k9 ?_; (case ka => first | with_reducible assumption | exact raw_lit (by decide +kernel)); (case kb => first | with_reducible assumption | exact rfl); (case k1 => k_asm); (case k2 => k_asm); (case k3 => k_asm); (case k4 => k_asm); (case k5 => k_asm); (case k6 => exact rfl); (case k7 => k_extra "z2"); (case k8 => k_extra "z3"); (case k9 => exact True.intro); intro r9q75 h9q75 t9q75 F9q75 N9q75 o9q75; obtain ⟨tn9q75, e9q75⟩ := o9q75; subst e9q75; (try have hl9q75 := raw_sz (by with_reducible assumption)); (try k_sweep); (try dsimp only); (try k_fold)))
  k_with "call ref" => (k_here; (with_reducible show wpAny _ _ (call (Value.ref 245) _) _ _ _); k_dflt (refine' Tell0.use (tell_safeL ?ka ?kb) ?k1 ?k2 ?k3 ?k4 ?k5 ?k6 ?k7 ?k8 ?k9 ?_; (case ka => first | with_reducible assumption | exact raw_lit (by decide +kernel)); (case kb => first | with_reducible assumption | exact rfl); (case k1 => k_asm); (case k2 => k_asm); (case k3 => k_asm); (case k4 => k_asm); (case k5 => k_asm); (case k6 => exact rfl); (case k7 => k_extra "z2"); (case k8 => k_extra "z3"); (case k9 => exact True.intro); intro r9q76 h9q76 t9q76 F9q76 N9q76 o9q76; obtain ⟨tn9q76, e9q76⟩ := o9q76; subst e9q76; (try have hl9q76 := raw_sz (by with_reducible assumption)); (try k_sweep); (try dsimp only); (try k_fold)))
  k_with "subscriptTail Name" => (k_here; (with_reducible show wpAny _ _ (subscriptTail _ _ (Value.ref _) (Value.str _ _)) _ _ _); k_dflt ((with_reducible refine' g_item ?x ?F ?hl ?_ ?hs ?hg); (case x => with_reducible assumption); (case F => with_reducible assumption); (case hl => exact rfl); (case hs => with_unfolding_all rfl); (case hg => (intro _; with_unfolding_all rfl)); (try dsimp only); (try k_fold)))
  k_with "compareOp In str ref" => (k_here; k_dflt (first | ((with_reducible refine' g_in ?x ?F true ?hl ?_); (case x => with_reducible assumption); (case F => with_reducible assumption); (case hl => exact rfl)) | ((with_reducible refine' g_in ?x ?F false ?hl ?_); (case x => with_reducible assumption); (case F => with_reducible assumption); (case hl => exact rfl))); (try dsimp only); (try k_fold))
  k_with "getMethod ref" => (k_here; (with_reducible show wpAny _ _ (getMethod (Value.ref _) (Str.ofString "get") _) _ _ _); k_dflt ((with_reducible refine' g_meth ?x ?F ?_); (case x => with_reducible assumption); (case F => with_reducible assumption); (try dsimp only); (try k_fold)))
  k_with "call builtin:dict.get" => (k_here; k_dflt (first | ((with_reducible refine' g_get ?x ?F (some _) ?hl ?_); (case x => with_reducible assumption); (case F => with_reducible assumption); (case hl => exact rfl)) | ((with_reducible refine' g_get ?x ?F none ?hl ?_); (case x => with_reducible assumption); (case F => with_reducible assumption); (case hl => exact rfl))); (try dsimp only [Option.getD]); (try dsimp only); (try k_fold))
  k_with "callWith ref" => (k_here; (with_reducible show wpAny _ _ (callWith _ _ _ _ (backToKw _ (keywordEach [⟨none, _, _⟩] _))) _ _ _); k_dflt (first | ((with_reducible refine' callWith_MS ?k1 ?k2 ?k3 ?k4 ?_ ?he); (case he => exact rfl); (case k1 => k_asm); (case k2 => k_asm); (case k3 => k_mem); (case k4 => k_is)) | ((with_reducible refine' callWith_MS0 ?k1 ?k2 ?k3 ?k4 ?_); (case k1 => k_asm); (case k2 => k_asm); (case k3 => k_mem); (case k4 => k_is))); (try dsimp only))
  k_with "KwStar" => (k_here; k_dflt ((with_reducible refine' kw_star' ?k1 ?k2 ?_); (case k1 => k_asm); (case k2 => k_asm); intro d9q82 h9q82 F9q82 N9q82 hap9q82; (try k_sweep); (try dsimp only); (try k_fold)))
  k_with "KwDict" => (k_here; k_dflt ((with_reducible refine' kw_dict ?x ?F ?N ?ha ?hz ?_); (case x => with_reducible assumption); (case F => k_asm); (case N => k_asm); (case ha => with_reducible assumption); (case hz => exact Nat.le_of_ble_eq_true rfl); intro h9q83 F9q83 N9q83; (try k_sweep); (try dsimp only); (try k_fold)))
  k_with "truthy ref" => (k_here; k_dflt (((with_reducible refine' g_truthy ?x ?F true ?hb ?hf ?_); (case x => with_reducible assumption); (case F => with_reducible assumption); (case hb => exact rfl); (case hf => exact Nat.le_of_ble_eq_true rfl)); (try dsimp only); (try k_fold)))
  k_with "look" => (with_reducible first | exact Look1.str | exact Look1.int | (refine' Look1.name ?hx ?hd ?hm; (case hx => k_dflt (exact rfl)); (case hd => k_dflt decide); (case hm => k_dflt (exact rfl))) | exact LookN.nil | (refine' LookN.cons ?x ?y; (case x => k_extra "look"); (case y => k_extra "look")) | exact LookP.nil | (refine' LookP.cons ?x ?y ?z; (case x => k_extra "look"); (case y => k_extra "look"); (case z => k_extra "look")))
  k_with "spliced" => (k_here; (with_reducible show wpAny _ _ (spliced (backTo _ (starEach (_ :: _) _))) _ _ _); (with_reducible rename Fr _ _ _ _ => F8q16); ((with_reducible refine' args_lk F8q16 ?he ?hk ?l ?_); (case he => k_dflt (exact ⟨_, _, _, _, rfl⟩)); (case hk => k_dflt (exact rfl)); (case l => k_extra "look")); (try dsimp only); (try k_fold))
  k_with "evalPairs" => (k_here; (with_reducible show wpAny _ _ (evalPairs (pairTrees (_ :: _) _ _ _)) _ _ _); (with_reducible rename Fr _ _ _ _ => F8q17); ((with_reducible refine' pairs_lk F8q17 ?he ?hk ?l ?_); (case he => k_dflt (exact ⟨_, _, _, _, rfl⟩)); (case hk => k_dflt (exact rfl)); (case l => k_extra "look")); (try dsimp only); (try k_fold))
  k_with "eval BinOp" => (k_here; (with_reducible show wpAny _ _ (eval (Expr.BinOp (Expr.Name _ _) _ (Expr.Constant _ _ _) _) _) _ _ _); (with_reducible rename Fr _ _ _ _ => F8q18); ((with_reducible refine' bin_lk F8q18 ?he ?hk ?l ?r ?_); (case he => k_dflt (exact ⟨_, _, _, _, rfl⟩)); (case hk => k_dflt (exact rfl)); (case l => k_extra "look"); (case r => k_extra "look")); (try dsimp only); (try k_fold))
  k_with "eval BinOp" => (k_here; (with_reducible show wpAny _ _ (eval (Expr.BinOp (Expr.Name _ _) _ (Expr.Name _ _) _) _) _ _ _); (with_reducible rename Fr _ _ _ _ => F8q19); ((with_reducible refine' bin_lk F8q19 ?he ?hk ?l ?r ?_); (case he => k_dflt (exact ⟨_, _, _, _, rfl⟩)); (case hk => k_dflt (exact rfl)); (case l => k_extra "look"); (case r => k_extra "look")); (try dsimp only); (try k_fold))
  k_with "exec If" => (k_here; (with_reducible show wpAny _ _ (exec (Stmt.If (Expr.Compare (Expr.Name _ _) [CmpOp.Eq] [Expr.Constant (Const.int _) _ _] _) _ _ _) _) _ _ _); (with_reducible rename Fr _ _ _ _ => F8q20); ((with_reducible refine' if_lk F8q20 ?he ?hk ?l ?r ?h ?_); (case he => k_dflt (exact ⟨_, _, _, _, rfl⟩)); (case hk => k_dflt (exact rfl)); (case l => k_extra "look"); (case r => k_extra "look"); (case h => k_dflt (with_unfolding_all rfl))); (try dsimp only); (try k_fold))
  k_with "storeName" => (k_here; (with_reducible rename Fr _ _ _ _ => F8q21); (with_reducible rename News _ _ _ _ => N8q21); ((with_reducible refine' store_lk F8q21 N8q21 ?he ?hk ?hx ?_); (case he => k_dflt (exact ⟨_, _, _, _, rfl⟩)); (case hk => k_dflt (exact rfl)); (case hx => k_dflt (exact rfl)); intro h9q21 m9q21 F9q21 N9q21; (try clear F8q21 N8q21); (try dsimp only); (try k_fold)))
  trivial
theorem tellx_tok {w : World} {esc : Bool} {sa ta st : Addr} {t1 t2 : Tok} : TellX w 341 200 2000 [.ref sa, .ref ta, .ref st] (fun h l => SelfX w esc h l sa ∧ DG w h ta [(S "type", .str (S "unheard_of") t1), (S "raw", .str (S "a") t2)]) := by
  intro p loose mean mg mb dp un gd cn cs a ccd cl outer A₀ base h₀ L m news s Q E B F X N T hk XB TB hdp hun hpre ret
  refine fillT w ?_
  k_fill
  intro _ _
  refine wpAny_call ?_
  k_dflt ((refine' code_allX ?k1 ?k2 ?k3 ?k4 ?k5 ?kA ?kF ?kK ?k6 ?k7 ?k8 ?k9 ?kB ?_ ?c2 ?c3 ?c4 ?c5; (case kA => exact rfl); (case kF => exact rfl); (case kK => first | assumption | exact rfl); (case k1 => k_asm); (case k2 => k_asm); (case k3 => k_asm); (case k4 => k_asm); (case k5 => k_asm); (case k6 => k_is); (case k7 => k_is); (case k8 => ((try simp only [depth_under_make, depth_under_kw, depth_in1, depth_deeper, depth_caller]); (try dsimp only [ktrTop]); omega)); (case k9 => first | exact BindsTo.of_eq rfl | exact binds_K (by k_in) rfl (by k_is) rfl rfl rfl | fail "enter: no rule for these arguments"); (case c5 => decide); (case kB => exact locs rfl); (case c2 => exact rfl); (case c3 => exact rfl); (case c4 => exact rfl); k_whole); intro g0 L0 h' FG' F' N' B' X' T' hg0; (try dsimp only); (try k_fold))
  obtain ⟨hpre, htok⟩ := hpre
  have hsx : SelfX w esc g0 (envX cn cs L a ccd cl :: outer) sa := by rw [hg0]; exact hpre
  have htk : DG w g0 ta [(S "type", .str (S "unheard_of") t1), (S "raw", .str (S "a") t2)] := by rw [hg0]; exact htok
  clear htok
  obtain ⟨dx, md, k1, k2, k3, hI, hmd⟩ := id hsx.at
  repeat' (first | ((with_reducible show Q _ _); fail) | ((with_reducible show E _ _); fail) | ((with_reducible show wpAny _ _ (call (Value.ref 195) _) _ _ _); fail) | (k_unfold; (try dsimp only)) | ((fail_if_success (with_reducible show Q _ _)); (fail_if_success (with_reducible show E _ _)); (fail_if_success (with_reducible show wpAny _ _ (call (Value.ref 195) _) _ _ _)); walk1) | ((fail_if_success (with_reducible show Q _ _)); (fail_if_success (with_reducible show E _ _)); (fail_if_success (with_reducible show wpAny _ _ (call (Value.ref 195) _) _ _ _)); dsimp only; walk1) | (leave1; try dsimp only) | fail "no step")
  all_goals (
    with_reducible rename Fr g0 _ _ _ => F4
    refine' TellX.use tellx_meth ?k1 ?k2 ?k3 ?k4 ?k5 ?k6 ?k7 ?k8 ?k9 ?ka ?kb ?_
    case k1 => with_reducible assumption
    case k2 => exact F4
    case k3 => exact X'
    case k4 => with_reducible assumption
    case k5 => exact T'
    case k6 => exact rfl
    case k7 => exact XB
    case k8 => exact TB
    case k9 => ((try simp only [depth_under_make, depth_under_kw, depth_in1, depth_deeper, depth_caller]); (try dsimp only [ktrTop]); omega)
    case ka => ((try simp only [units_in1, units_deeper, units_caller]); (try dsimp only [ktrTop]); omega)
    case kb => exact SelfX.push hsx F4
    intro e9 h9 t9 R9 u9
    try dsimp only
    k_unfold
    try dsimp only
    refine' leave_onSN B' F4 R9 u9 ?_
    intro h6 R6 _ u6
    rw [hg0] at R6 u6
    exact ret _ _ _ R6 u6)
end
section
section
variable {w : World}
theorem pre_X {esc : Bool} {tl0 news : Led} {sa ta L a : Addr} {h₀ h : Heap} {cn : Str} {cs : Scope} {ccd : Value} {cl : List (Str × Addr)} {o : Obj} {kvs : List (Str × Value)} (H : SelfLed w esc tl0 sa) (N : News h₀ L h news) (h2 : ∀ p ∈ tl0, p ∈ news) (hm : (ta, o) ∈ news) (hD : o.IsDictOf (sk w) kvs) (hlo : (ta == sysModules) = false) :
    SelfX w esc h [envX cn cs L a ccd cl] sa ∧ DG w h ta kvs := by
  obtain ⟨dx, md, om, k1, k2, k3, x1, x2, x3, x4, x5⟩ := H
  have off : ∀ p ∈ news, offFr [envX cn cs L a ccd cl] p.1 := fun p hp hmm => by
    have hmm : p.1 ∈ [L] := hmm
    exact (N p hp).2.1 (List.mem_singleton.mp hmm)
  exact ⟨⟨dx, md, k1, k2, k3, ⟨⟨(N _ (h2 _ x1)).1, rfl, rfl, (N _ (h2 _ x2)).1⟩, om, (N _ (h2 _ x3)).1, x4, x5⟩, off _ (h2 _ x1), off _ (h2 _ x2), off _ (h2 _ x3)⟩, ⟨⟨o, (N _ hm).1, hD, hlo⟩⟩⟩
theorem ground_turn {g₀ g' h' : Heap} {L : Addr} {m : Str → Option Value} (T : KtsTurn ([] : List Addr) g₀ g') (F : Fr g' L h' m) : ∀ b o, g₀.get? b = some o → h'.get? b = some o := fun b o e => F.keep b o (T.other b o e (fun z => nomatch z))
end
end
section
open PySem.W.KStt (codes)
theorem lines_NTtext : True := by
  k_with "call ref" => (k_here; (with_reducible show wpAny _ _ (call (Value.ref 195) _) _ _ _); k_dflt (refine' TellT.use (tell_meth ⟨?m1, ?m2, ?m3, ?m4, ?m5, ?m6, ?m7, ?m8, ?m9, ?m10⟩) ?k1 ?k2 ?k3 ?k4 ?k5 ?k6 ?k7 ?k8 ?k9 ?_; (case m5 => k_is); (case m1 => decide +kernel); (case m2 => decide +kernel); (case m3 => k_is); (case m4 => k_is); (case m6 => k_is); (case m7 => k_is); (case m8 => k_is); (case m9 => decide +kernel); (case m10 => (intros; exact rfl)); (case k1 => k_asm); (case k2 => k_asm); (case k3 => k_asm); (case k4 => k_asm); (case k5 => k_asm); (case k6 => exact rfl); (case k7 => k_extra "z2"); (case k8 => k_extra "z3"); (case k9 => exact SelfAt.kept (by with_reducible assumption) (Fr.keep (by k_asm))); intro r9q94 tl9q94 h9q94 t9q94 F9q94 N9q94 hl9q94 o9q94; obtain ⟨q9q94, e9q94, e8q94⟩ := o9q94; subst e9q94; subst e8q94; (try simp only [List.nil_append, List.cons_append] at N9q94); (try k_sweep); (try dsimp only); (try k_fold)))
  trivial
theorem tok_text {w : World} {esc : Bool} {sa d e l st : Addr} {t1 t2 t3 t4 t5 D U : Nat} (hD : 1 + 200 ≤ D) (hU : 3 + 2000 ≤ U) {x : Str} (hx : x ∈ rawsL) : TellG w 341 D U [.ref sa, .ref d, .ref st] (fun h => SelfAt w esc h sa ∧ DG w h d [(S "type", .str (S "text") t1), (S "raw", .str x t2)]) (fun r => ∃ t, r = .str (shownF x) t) := by
  intro p loose mean mg mb dp un gd cn cs a ccd cl outer A₀ base h₀ L m news s Q E B F X N T hk hdp hun hpre ret
  refine fillT w ?_
  k_fill
  intro _ _
  refine wpAny_call ?_
  k_dflt ((refine' code_all ?k1 ?k2 ?k3 ?k4 ?k5 ?kA ?kF ?kK ?k6 ?k7 ?k8 ?k9 ?kB ?_ ?c2 ?c3 ?c4 ?c5; (case kA => exact rfl); (case kF => exact rfl); (case kK => first | assumption | exact rfl); (case k1 => k_asm); (case k2 => k_asm); (case k3 => k_asm); (case k4 => k_asm); (case k5 => k_asm); (case k6 => k_is); (case k7 => k_is); (case k8 => ((try simp only [depth_under_make, depth_under_kw, depth_in1, depth_deeper, depth_caller]); (try dsimp only [ktrTop]); omega)); (case k9 => first | exact BindsTo.of_eq rfl | exact binds_K (by k_in) rfl (by k_is) rfl rfl rfl | fail "enter: no rule for these arguments"); (case c5 => decide); (case kB => exact locs rfl); (case c2 => exact rfl); (case c3 => exact rfl); (case c4 => exact rfl); k_whole); intro g0 L0 h' FG' F' N' B' X' T' hs0; (try dsimp only); (try k_fold))
  obtain ⟨hpre, htok⟩ := hpre
  replace htok := htok.kept hs0
  replace hpre := SelfAt.kept hpre hs0
  obtain ⟨dx, md, k1, k2, k3, hI, hmd⟩ := id hpre
  repeat' (first | ((with_reducible show Q _ _); fail) | (k_unfold; (try dsimp only)) | ((fail_if_success (with_reducible show Q _ _)); walk1) | ((fail_if_success (with_reducible show Q _ _)); dsimp only; walk1) | (leave1; try dsimp only) | fail "no step")
  all_goals (
    with_reducible rename Fr h₀ L _ _ => kF
    with_reducible rename Fr g0 _ _ _ => F9
    exact ret _ _ _ _ kF (back0 N hs0 F9) (by first | with_reducible assumption | exact GX.refl _) ⟨_, rfl⟩)
end
section
open PySem.W.KStt (codes)
theorem tok_code {w : World} {esc : Bool} {sa d e l st : Addr} {t1 t2 t3 t4 t5 D U : Nat} (hD : 1 + 200 ≤ D) (hU : 3 + 2000 ≤ U) {x : Str} (hx : x ∈ rawsL) : TellG w 341 D U [.ref sa, .ref d, .ref st] (fun h => SelfAt w esc h sa ∧ DG w h d [(S "type", .str (S "codespan") t1), (S "raw", .str x t2)]) (fun r => ∃ t, r = .str (S "<code>" ++ shownF x ++ S "</code>") t) := by
  intro p loose mean mg mb dp un gd cn cs a ccd cl outer A₀ base h₀ L m news s Q E B F X N T hk hdp hun hpre ret
  refine fillT w ?_
  k_fill
  intro _ _
  refine wpAny_call ?_
  k_dflt ((refine' code_all ?k1 ?k2 ?k3 ?k4 ?k5 ?kA ?kF ?kK ?k6 ?k7 ?k8 ?k9 ?kB ?_ ?c2 ?c3 ?c4 ?c5; (case kA => exact rfl); (case kF => exact rfl); (case kK => first | assumption | exact rfl); (case k1 => k_asm); (case k2 => k_asm); (case k3 => k_asm); (case k4 => k_asm); (case k5 => k_asm); (case k6 => k_is); (case k7 => k_is); (case k8 => ((try simp only [depth_under_make, depth_under_kw, depth_in1, depth_deeper, depth_caller]); (try dsimp only [ktrTop]); omega)); (case k9 => first | exact BindsTo.of_eq rfl | exact binds_K (by k_in) rfl (by k_is) rfl rfl rfl | fail "enter: no rule for these arguments"); (case c5 => decide); (case kB => exact locs rfl); (case c2 => exact rfl); (case c3 => exact rfl); (case c4 => exact rfl); k_whole); intro g0 L0 h' FG' F' N' B' X' T' hs0; (try dsimp only); (try k_fold))
  obtain ⟨hpre, htok⟩ := hpre
  replace htok := htok.kept hs0
  replace hpre := SelfAt.kept hpre hs0
  obtain ⟨dx, md, k1, k2, k3, hI, hmd⟩ := id hpre
  repeat' (first | ((with_reducible show Q _ _); fail) | (k_unfold; (try dsimp only)) | ((fail_if_success (with_reducible show Q _ _)); walk1) | ((fail_if_success (with_reducible show Q _ _)); dsimp only; walk1) | (leave1; try dsimp only) | fail "no step")
  all_goals (
    with_reducible rename Fr h₀ L _ _ => kF
    with_reducible rename Fr g0 _ _ _ => F9
    exact ret _ _ _ _ kF (back0 N hs0 F9) (by first | with_reducible assumption | exact GX.refl _) ⟨_, rfl⟩)
end
section
open PySem.W.KStt (codes)
theorem tok_soft {w : World} {esc : Bool} {sa d e l st : Addr} {t1 t2 t3 t4 t5 D U : Nat} (hD : 1 + 200 ≤ D) (hU : 3 + 2000 ≤ U)  : TellG w 341 D U [.ref sa, .ref d, .ref st] (fun h => SelfAt w esc h sa ∧ DG w h d [(S "type", .str (S "softbreak") t1)]) (fun r => ∃ t, r = .str (S "\n") t) := by
  intro p loose mean mg mb dp un gd cn cs a ccd cl outer A₀ base h₀ L m news s Q E B F X N T hk hdp hun hpre ret
  refine fillT w ?_
  k_fill
  intro _ _
  refine wpAny_call ?_
  k_dflt ((refine' code_all ?k1 ?k2 ?k3 ?k4 ?k5 ?kA ?kF ?kK ?k6 ?k7 ?k8 ?k9 ?kB ?_ ?c2 ?c3 ?c4 ?c5; (case kA => exact rfl); (case kF => exact rfl); (case kK => first | assumption | exact rfl); (case k1 => k_asm); (case k2 => k_asm); (case k3 => k_asm); (case k4 => k_asm); (case k5 => k_asm); (case k6 => k_is); (case k7 => k_is); (case k8 => ((try simp only [depth_under_make, depth_under_kw, depth_in1, depth_deeper, depth_caller]); (try dsimp only [ktrTop]); omega)); (case k9 => first | exact BindsTo.of_eq rfl | exact binds_K (by k_in) rfl (by k_is) rfl rfl rfl | fail "enter: no rule for these arguments"); (case c5 => decide); (case kB => exact locs rfl); (case c2 => exact rfl); (case c3 => exact rfl); (case c4 => exact rfl); k_whole); intro g0 L0 h' FG' F' N' B' X' T' hs0; (try dsimp only); (try k_fold))
  obtain ⟨hpre, htok⟩ := hpre
  replace htok := htok.kept hs0
  replace hpre := SelfAt.kept hpre hs0
  obtain ⟨dx, md, k1, k2, k3, hI, hmd⟩ := id hpre
  repeat' (first | ((with_reducible show Q _ _); fail) | (k_unfold; (try dsimp only)) | ((fail_if_success (with_reducible show Q _ _)); walk1) | ((fail_if_success (with_reducible show Q _ _)); dsimp only; walk1) | (leave1; try dsimp only) | fail "no step")
  all_goals (
    with_reducible rename Fr h₀ L _ _ => kF
    with_reducible rename Fr g0 _ _ _ => F9
    exact ret _ _ _ _ kF (back0 N hs0 F9) (by first | with_reducible assumption | exact GX.refl _) ⟨_, rfl⟩)
end
section
open PySem.W.KStt (codes)
theorem tok_br {w : World} {esc : Bool} {sa d e l st : Addr} {t1 t2 t3 t4 t5 D U : Nat} (hD : 1 + 200 ≤ D) (hU : 3 + 2000 ≤ U)  : TellG w 341 D U [.ref sa, .ref d, .ref st] (fun h => SelfAt w esc h sa ∧ DG w h d [(S "type", .str (S "linebreak") t1)]) (fun r => ∃ t, r = .str (S "<br />\n") t) := by
  intro p loose mean mg mb dp un gd cn cs a ccd cl outer A₀ base h₀ L m news s Q E B F X N T hk hdp hun hpre ret
  refine fillT w ?_
  k_fill
  intro _ _
  refine wpAny_call ?_
  k_dflt ((refine' code_all ?k1 ?k2 ?k3 ?k4 ?k5 ?kA ?kF ?kK ?k6 ?k7 ?k8 ?k9 ?kB ?_ ?c2 ?c3 ?c4 ?c5; (case kA => exact rfl); (case kF => exact rfl); (case kK => first | assumption | exact rfl); (case k1 => k_asm); (case k2 => k_asm); (case k3 => k_asm); (case k4 => k_asm); (case k5 => k_asm); (case k6 => k_is); (case k7 => k_is); (case k8 => ((try simp only [depth_under_make, depth_under_kw, depth_in1, depth_deeper, depth_caller]); (try dsimp only [ktrTop]); omega)); (case k9 => first | exact BindsTo.of_eq rfl | exact binds_K (by k_in) rfl (by k_is) rfl rfl rfl | fail "enter: no rule for these arguments"); (case c5 => decide); (case kB => exact locs rfl); (case c2 => exact rfl); (case c3 => exact rfl); (case c4 => exact rfl); k_whole); intro g0 L0 h' FG' F' N' B' X' T' hs0; (try dsimp only); (try k_fold))
  obtain ⟨hpre, htok⟩ := hpre
  replace htok := htok.kept hs0
  replace hpre := SelfAt.kept hpre hs0
  obtain ⟨dx, md, k1, k2, k3, hI, hmd⟩ := id hpre
  repeat' (first | ((with_reducible show Q _ _); fail) | (k_unfold; (try dsimp only)) | ((fail_if_success (with_reducible show Q _ _)); walk1) | ((fail_if_success (with_reducible show Q _ _)); dsimp only; walk1) | (leave1; try dsimp only) | fail "no step")
  all_goals (
    with_reducible rename Fr h₀ L _ _ => kF
    with_reducible rename Fr g0 _ _ _ => F9
    exact ret _ _ _ _ kF (back0 N hs0 F9) (by first | with_reducible assumption | exact GX.refl _) ⟨_, rfl⟩)
end
section
open PySem.W.KStt (codes)
theorem tok_rule {w : World} {esc : Bool} {sa d e l st : Addr} {t1 t2 t3 t4 t5 D U : Nat} (hD : 1 + 200 ≤ D) (hU : 3 + 2000 ≤ U)  : TellG w 341 D U [.ref sa, .ref d, .ref st] (fun h => SelfAt w esc h sa ∧ DG w h d [(S "type", .str (S "thematic_break") t1)]) (fun r => ∃ t, r = .str (S "<hr />\n") t) := by
  intro p loose mean mg mb dp un gd cn cs a ccd cl outer A₀ base h₀ L m news s Q E B F X N T hk hdp hun hpre ret
  refine fillT w ?_
  k_fill
  intro _ _
  refine wpAny_call ?_
  k_dflt ((refine' code_all ?k1 ?k2 ?k3 ?k4 ?k5 ?kA ?kF ?kK ?k6 ?k7 ?k8 ?k9 ?kB ?_ ?c2 ?c3 ?c4 ?c5; (case kA => exact rfl); (case kF => exact rfl); (case kK => first | assumption | exact rfl); (case k1 => k_asm); (case k2 => k_asm); (case k3 => k_asm); (case k4 => k_asm); (case k5 => k_asm); (case k6 => k_is); (case k7 => k_is); (case k8 => ((try simp only [depth_under_make, depth_under_kw, depth_in1, depth_deeper, depth_caller]); (try dsimp only [ktrTop]); omega)); (case k9 => first | exact BindsTo.of_eq rfl | exact binds_K (by k_in) rfl (by k_is) rfl rfl rfl | fail "enter: no rule for these arguments"); (case c5 => decide); (case kB => exact locs rfl); (case c2 => exact rfl); (case c3 => exact rfl); (case c4 => exact rfl); k_whole); intro g0 L0 h' FG' F' N' B' X' T' hs0; (try dsimp only); (try k_fold))
  obtain ⟨hpre, htok⟩ := hpre
  replace htok := htok.kept hs0
  replace hpre := SelfAt.kept hpre hs0
  obtain ⟨dx, md, k1, k2, k3, hI, hmd⟩ := id hpre
  repeat' (first | ((with_reducible show Q _ _); fail) | (k_unfold; (try dsimp only)) | ((fail_if_success (with_reducible show Q _ _)); walk1) | ((fail_if_success (with_reducible show Q _ _)); dsimp only; walk1) | (leave1; try dsimp only) | fail "no step")
  all_goals (
    with_reducible rename Fr h₀ L _ _ => kF
    with_reducible rename Fr g0 _ _ _ => F9
    exact ret _ _ _ _ kF (back0 N hs0 F9) (by first | with_reducible assumption | exact GX.refl _) ⟨_, rfl⟩)
end
section
open PySem.W.KStt (codes)
theorem tok_blank {w : World} {esc : Bool} {sa d e l st : Addr} {t1 t2 t3 t4 t5 D U : Nat} (hD : 1 + 200 ≤ D) (hU : 3 + 2000 ≤ U)  : TellG w 341 D U [.ref sa, .ref d, .ref st] (fun h => SelfAt w esc h sa ∧ DG w h d [(S "type", .str (S "blank_line") t1)]) (fun r => ∃ t, r = .str (S "") t) := by
  intro p loose mean mg mb dp un gd cn cs a ccd cl outer A₀ base h₀ L m news s Q E B F X N T hk hdp hun hpre ret
  refine fillT w ?_
  k_fill
  intro _ _
  refine wpAny_call ?_
  k_dflt ((refine' code_all ?k1 ?k2 ?k3 ?k4 ?k5 ?kA ?kF ?kK ?k6 ?k7 ?k8 ?k9 ?kB ?_ ?c2 ?c3 ?c4 ?c5; (case kA => exact rfl); (case kF => exact rfl); (case kK => first | assumption | exact rfl); (case k1 => k_asm); (case k2 => k_asm); (case k3 => k_asm); (case k4 => k_asm); (case k5 => k_asm); (case k6 => k_is); (case k7 => k_is); (case k8 => ((try simp only [depth_under_make, depth_under_kw, depth_in1, depth_deeper, depth_caller]); (try dsimp only [ktrTop]); omega)); (case k9 => first | exact BindsTo.of_eq rfl | exact binds_K (by k_in) rfl (by k_is) rfl rfl rfl | fail "enter: no rule for these arguments"); (case c5 => decide); (case kB => exact locs rfl); (case c2 => exact rfl); (case c3 => exact rfl); (case c4 => exact rfl); k_whole); intro g0 L0 h' FG' F' N' B' X' T' hs0; (try dsimp only); (try k_fold))
  obtain ⟨hpre, htok⟩ := hpre
  replace htok := htok.kept hs0
  replace hpre := SelfAt.kept hpre hs0
  obtain ⟨dx, md, k1, k2, k3, hI, hmd⟩ := id hpre
  repeat' (first | ((with_reducible show Q _ _); fail) | (k_unfold; (try dsimp only)) | ((fail_if_success (with_reducible show Q _ _)); walk1) | ((fail_if_success (with_reducible show Q _ _)); dsimp only; walk1) | (leave1; try dsimp only) | fail "no step")
  all_goals (
    with_reducible rename Fr h₀ L _ _ => kF
    with_reducible rename Fr g0 _ _ _ => F9
    exact ret _ _ _ _ kF (back0 N hs0 F9) (by first | with_reducible assumption | exact GX.refl _) ⟨_, rfl⟩)
end
section
open PySem.W.KStt (codes)
theorem tok_html {w : World} {esc : Bool} {sa d e l st : Addr} {t1 t2 t3 t4 t5 D U : Nat} (hD : 1 + 200 ≤ D) (hU : 3 + 2000 ≤ U) {x : Str} (hx : x ∈ rawsL) (hz : Sz x 1) (hsx : Txt.strip x ∈ rawsL) (hst : shownF (Txt.strip x) = shownF x) (hxl : x.length ≤ 1000) : TellG w 341 D U [.ref sa, .ref d, .ref st] (fun h => SelfAt w esc h sa ∧ DG w h d [(S "type", .str (S "block_html") t1), (S "raw", .str x t2)]) (fun r => ∃ t, r = .str (if esc = true then S "<p>" ++ shownF x ++ S "</p>\n" else x ++ S "\n") t) := by
  intro p loose mean mg mb dp un gd cn cs a ccd cl outer A₀ base h₀ L m news s Q E B F X N T hk hdp hun hpre ret
  refine fillT w ?_
  k_fill
  intro _ _
  refine wpAny_call ?_
  k_dflt ((refine' code_all ?k1 ?k2 ?k3 ?k4 ?k5 ?kA ?kF ?kK ?k6 ?k7 ?k8 ?k9 ?kB ?_ ?c2 ?c3 ?c4 ?c5; (case kA => exact rfl); (case kF => exact rfl); (case kK => first | assumption | exact rfl); (case k1 => k_asm); (case k2 => k_asm); (case k3 => k_asm); (case k4 => k_asm); (case k5 => k_asm); (case k6 => k_is); (case k7 => k_is); (case k8 => ((try simp only [depth_under_make, depth_under_kw, depth_in1, depth_deeper, depth_caller]); (try dsimp only [ktrTop]); omega)); (case k9 => first | exact BindsTo.of_eq rfl | exact binds_K (by k_in) rfl (by k_is) rfl rfl rfl | fail "enter: no rule for these arguments"); (case c5 => decide); (case kB => exact locs rfl); (case c2 => exact rfl); (case c3 => exact rfl); (case c4 => exact rfl); k_whole); intro g0 L0 h' FG' F' N' B' X' T' hs0; (try dsimp only); (try k_fold))
  obtain ⟨hpre, htok⟩ := hpre
  replace htok := htok.kept hs0
  replace hpre := SelfAt.kept hpre hs0
  obtain ⟨dx, md, k1, k2, k3, hI, hmd⟩ := id hpre
  repeat' (first | ((with_reducible show Q _ _); fail) | (k_unfold; (try dsimp only)) | ((fail_if_success (with_reducible show Q _ _)); walk1) | ((fail_if_success (with_reducible show Q _ _)); dsimp only; walk1) | (leave1; try dsimp only) | fail "no step")
  all_goals (
    with_reducible rename Fr h₀ L _ _ => kF
    with_reducible rename Fr g0 _ _ _ => F9
    exact ret _ _ _ _ kF (back0 N hs0 F9) (by first | with_reducible assumption | exact GX.refl _) ⟨_, by first | (rw [if_pos (by with_reducible assumption)]) | (rw [if_neg (ne_true_of_eq_false (by with_reducible assumption))])⟩)
end
section
open PySem.W.KStt (codes)
theorem lines_NTem : True := by
  k_with "call ref" => (k_here; (with_reducible show wpAny _ _ (call (Value.ref 216) _) _ _ _); (with_reducible rename KidsC _ _ _ _ _ => hK9q95); (with_reducible rename Kids _ _ _ => hk9q95); (with_reducible rename LA _ _ _ => hl9q95); k_dflt (refine' TellG.use (kids_use hK9q95 ?kv ?kx hk9q95) ?k1 ?k2 ?k3 ?k4 ?k5 ?k6 ?k7 ?k8 ?k9 ?_; (case kv => with_reducible assumption); (case kx => with_reducible assumption); (case k1 => k_asm); (case k2 => k_asm); (case k3 => k_asm); (case k4 => k_asm); (case k5 => k_asm); (case k6 => exact rfl); (case k7 => k_extra "z2"); (case k8 => k_extra "z3"); (case k9 => exact pre_kids hk9q95 hl9q95 (by with_reducible assumption) (by k_asm)); intro r9q95 h9q95 t9q95 g9q95 F9q95 N9q95 hg9q95 o9q95; obtain ⟨tn9q95, e9q95⟩ := o9q95; subst e9q95; (try k_sweep); (try dsimp only); (try k_fold)))
  trivial
theorem tok_em {w : World} {esc : Bool} {sa d e l st : Addr} {t1 t2 t3 t4 t5 D U : Nat} (hD : 1 + 200 ≤ D) (hU : 3 + 2000 ≤ U)  {n dn ne : Nat} {vs : List Value} {x : Str} (hK : KidsC w esc n dn ne) (hd1 : 1 + dn ≤ D) (hd2 : 3 + ne ≤ U) (hvs : vs.length ≤ 3) (hxl : x.length ≤ 100000) : TellG w 341 D U [.ref sa, .ref d, .ref st] (fun h => SelfAt w esc h sa ∧ DG w h d [(S "type", .str (S "emphasis") t1), (S "children", .ref l)] ∧ LA (inHeap h) l vs ∧ Kids (TokIn w esc (inHeap h) n) vs x) (fun r => ∃ t, r = .str (S "<em>" ++ x ++ S "</em>") t) := by
  intro p loose mean mg mb dp un gd cn cs a ccd cl outer A₀ base h₀ L m news s Q E B F X N T hk hdp hun hpre ret
  refine fillT w ?_
  k_fill
  intro _ _
  refine wpAny_call ?_
  k_dflt ((refine' code_all ?k1 ?k2 ?k3 ?k4 ?k5 ?kA ?kF ?kK ?k6 ?k7 ?k8 ?k9 ?kB ?_ ?c2 ?c3 ?c4 ?c5; (case kA => exact rfl); (case kF => exact rfl); (case kK => first | assumption | exact rfl); (case k1 => k_asm); (case k2 => k_asm); (case k3 => k_asm); (case k4 => k_asm); (case k5 => k_asm); (case k6 => k_is); (case k7 => k_is); (case k8 => ((try simp only [depth_under_make, depth_under_kw, depth_in1, depth_deeper, depth_caller]); (try dsimp only [ktrTop]); omega)); (case k9 => first | exact BindsTo.of_eq rfl | exact binds_K (by k_in) rfl (by k_is) rfl rfl rfl | fail "enter: no rule for these arguments"); (case c5 => decide); (case kB => exact locs rfl); (case c2 => exact rfl); (case c3 => exact rfl); (case c4 => exact rfl); k_whole); intro g0 L0 h' FG' F' N' B' X' T' hs0; (try dsimp only); (try k_fold))
  obtain ⟨hpre, htok, hla, hkd⟩ := hpre
  replace htok := htok.kept hs0
  replace hla := LA.mono (fun d o e => hs0 d o e) hla
  replace hkd := Kids.mono (fun v o z => TokIn.mono (fun d o e => hs0 d o e) (Nat.le_refl _) z) hkd
  have hxz := Sz.one hxl
  replace hpre := SelfAt.kept hpre hs0
  obtain ⟨dx, md, k1, k2, k3, hI, hmd⟩ := id hpre
  repeat' (first | ((with_reducible show Q _ _); fail) | (k_unfold; (try dsimp only)) | ((fail_if_success (with_reducible show Q _ _)); walk1) | ((fail_if_success (with_reducible show Q _ _)); dsimp only; walk1) | (leave1; try dsimp only) | fail "no step")
  all_goals (
    with_reducible rename Fr h₀ L _ _ => kF
    with_reducible rename Fr g0 _ _ _ => F9
    exact ret _ _ _ _ kF (back0 N hs0 F9) (by first | with_reducible assumption | exact GX.refl _) ⟨_, rfl⟩)
end
section
open PySem.W.KStt (codes)
theorem tok_strong {w : World} {esc : Bool} {sa d e l st : Addr} {t1 t2 t3 t4 t5 D U : Nat} (hD : 1 + 200 ≤ D) (hU : 3 + 2000 ≤ U)  {n dn ne : Nat} {vs : List Value} {x : Str} (hK : KidsC w esc n dn ne) (hd1 : 1 + dn ≤ D) (hd2 : 3 + ne ≤ U) (hvs : vs.length ≤ 3) (hxl : x.length ≤ 100000) : TellG w 341 D U [.ref sa, .ref d, .ref st] (fun h => SelfAt w esc h sa ∧ DG w h d [(S "type", .str (S "strong") t1), (S "children", .ref l)] ∧ LA (inHeap h) l vs ∧ Kids (TokIn w esc (inHeap h) n) vs x) (fun r => ∃ t, r = .str (S "<strong>" ++ x ++ S "</strong>") t) := by
  intro p loose mean mg mb dp un gd cn cs a ccd cl outer A₀ base h₀ L m news s Q E B F X N T hk hdp hun hpre ret
  refine fillT w ?_
  k_fill
  intro _ _
  refine wpAny_call ?_
  k_dflt ((refine' code_all ?k1 ?k2 ?k3 ?k4 ?k5 ?kA ?kF ?kK ?k6 ?k7 ?k8 ?k9 ?kB ?_ ?c2 ?c3 ?c4 ?c5; (case kA => exact rfl); (case kF => exact rfl); (case kK => first | assumption | exact rfl); (case k1 => k_asm); (case k2 => k_asm); (case k3 => k_asm); (case k4 => k_asm); (case k5 => k_asm); (case k6 => k_is); (case k7 => k_is); (case k8 => ((try simp only [depth_under_make, depth_under_kw, depth_in1, depth_deeper, depth_caller]); (try dsimp only [ktrTop]); omega)); (case k9 => first | exact BindsTo.of_eq rfl | exact binds_K (by k_in) rfl (by k_is) rfl rfl rfl | fail "enter: no rule for these arguments"); (case c5 => decide); (case kB => exact locs rfl); (case c2 => exact rfl); (case c3 => exact rfl); (case c4 => exact rfl); k_whole); intro g0 L0 h' FG' F' N' B' X' T' hs0; (try dsimp only); (try k_fold))
  obtain ⟨hpre, htok, hla, hkd⟩ := hpre
  replace htok := htok.kept hs0
  replace hla := LA.mono (fun d o e => hs0 d o e) hla
  replace hkd := Kids.mono (fun v o z => TokIn.mono (fun d o e => hs0 d o e) (Nat.le_refl _) z) hkd
  have hxz := Sz.one hxl
  replace hpre := SelfAt.kept hpre hs0
  obtain ⟨dx, md, k1, k2, k3, hI, hmd⟩ := id hpre
  repeat' (first | ((with_reducible show Q _ _); fail) | (k_unfold; (try dsimp only)) | ((fail_if_success (with_reducible show Q _ _)); walk1) | ((fail_if_success (with_reducible show Q _ _)); dsimp only; walk1) | (leave1; try dsimp only) | fail "no step")
  all_goals (
    with_reducible rename Fr h₀ L _ _ => kF
    with_reducible rename Fr g0 _ _ _ => F9
    exact ret _ _ _ _ kF (back0 N hs0 F9) (by first | with_reducible assumption | exact GX.refl _) ⟨_, rfl⟩)
end
section
open PySem.W.KStt (codes)
theorem tok_quote {w : World} {esc : Bool} {sa d e l st : Addr} {t1 t2 t3 t4 t5 D U : Nat} (hD : 1 + 200 ≤ D) (hU : 3 + 2000 ≤ U)  {n dn ne : Nat} {vs : List Value} {x : Str} (hK : KidsC w esc n dn ne) (hd1 : 1 + dn ≤ D) (hd2 : 3 + ne ≤ U) (hvs : vs.length ≤ 3) (hxl : x.length ≤ 100000) : TellG w 341 D U [.ref sa, .ref d, .ref st] (fun h => SelfAt w esc h sa ∧ DG w h d [(S "type", .str (S "block_quote") t1), (S "children", .ref l)] ∧ LA (inHeap h) l vs ∧ Kids (TokIn w esc (inHeap h) n) vs x) (fun r => ∃ t, r = .str (S "<blockquote>\n" ++ x ++ S "</blockquote>\n") t) := by
  intro p loose mean mg mb dp un gd cn cs a ccd cl outer A₀ base h₀ L m news s Q E B F X N T hk hdp hun hpre ret
  refine fillT w ?_
  k_fill
  intro _ _
  refine wpAny_call ?_
  k_dflt ((refine' code_all ?k1 ?k2 ?k3 ?k4 ?k5 ?kA ?kF ?kK ?k6 ?k7 ?k8 ?k9 ?kB ?_ ?c2 ?c3 ?c4 ?c5; (case kA => exact rfl); (case kF => exact rfl); (case kK => first | assumption | exact rfl); (case k1 => k_asm); (case k2 => k_asm); (case k3 => k_asm); (case k4 => k_asm); (case k5 => k_asm); (case k6 => k_is); (case k7 => k_is); (case k8 => ((try simp only [depth_under_make, depth_under_kw, depth_in1, depth_deeper, depth_caller]); (try dsimp only [ktrTop]); omega)); (case k9 => first | exact BindsTo.of_eq rfl | exact binds_K (by k_in) rfl (by k_is) rfl rfl rfl | fail "enter: no rule for these arguments"); (case c5 => decide); (case kB => exact locs rfl); (case c2 => exact rfl); (case c3 => exact rfl); (case c4 => exact rfl); k_whole); intro g0 L0 h' FG' F' N' B' X' T' hs0; (try dsimp only); (try k_fold))
  obtain ⟨hpre, htok, hla, hkd⟩ := hpre
  replace htok := htok.kept hs0
  replace hla := LA.mono (fun d o e => hs0 d o e) hla
  replace hkd := Kids.mono (fun v o z => TokIn.mono (fun d o e => hs0 d o e) (Nat.le_refl _) z) hkd
  have hxz := Sz.one hxl
  replace hpre := SelfAt.kept hpre hs0
  obtain ⟨dx, md, k1, k2, k3, hI, hmd⟩ := id hpre
  repeat' (first | ((with_reducible show Q _ _); fail) | (k_unfold; (try dsimp only)) | ((fail_if_success (with_reducible show Q _ _)); walk1) | ((fail_if_success (with_reducible show Q _ _)); dsimp only; walk1) | (leave1; try dsimp only) | fail "no step")
  all_goals (
    with_reducible rename Fr h₀ L _ _ => kF
    with_reducible rename Fr g0 _ _ _ => F9
    exact ret _ _ _ _ kF (back0 N hs0 F9) (by first | with_reducible assumption | exact GX.refl _) ⟨_, rfl⟩)
end
section
open PySem.W.KStt (codes)
theorem tok_btext {w : World} {esc : Bool} {sa d e l st : Addr} {t1 t2 t3 t4 t5 D U : Nat} (hD : 1 + 200 ≤ D) (hU : 3 + 2000 ≤ U)  {n dn ne : Nat} {vs : List Value} {x : Str} (hK : KidsC w esc n dn ne) (hd1 : 1 + dn ≤ D) (hd2 : 3 + ne ≤ U) (hvs : vs.length ≤ 3) (hxl : x.length ≤ 100000) : TellG w 341 D U [.ref sa, .ref d, .ref st] (fun h => SelfAt w esc h sa ∧ DG w h d [(S "type", .str (S "block_text") t1), (S "children", .ref l)] ∧ LA (inHeap h) l vs ∧ Kids (TokIn w esc (inHeap h) n) vs x) (fun r => ∃ t, r = .str (x) t) := by
  intro p loose mean mg mb dp un gd cn cs a ccd cl outer A₀ base h₀ L m news s Q E B F X N T hk hdp hun hpre ret
  refine fillT w ?_
  k_fill
  intro _ _
  refine wpAny_call ?_
  k_dflt ((refine' code_all ?k1 ?k2 ?k3 ?k4 ?k5 ?kA ?kF ?kK ?k6 ?k7 ?k8 ?k9 ?kB ?_ ?c2 ?c3 ?c4 ?c5; (case kA => exact rfl); (case kF => exact rfl); (case kK => first | assumption | exact rfl); (case k1 => k_asm); (case k2 => k_asm); (case k3 => k_asm); (case k4 => k_asm); (case k5 => k_asm); (case k6 => k_is); (case k7 => k_is); (case k8 => ((try simp only [depth_under_make, depth_under_kw, depth_in1, depth_deeper, depth_caller]); (try dsimp only [ktrTop]); omega)); (case k9 => first | exact BindsTo.of_eq rfl | exact binds_K (by k_in) rfl (by k_is) rfl rfl rfl | fail "enter: no rule for these arguments"); (case c5 => decide); (case kB => exact locs rfl); (case c2 => exact rfl); (case c3 => exact rfl); (case c4 => exact rfl); k_whole); intro g0 L0 h' FG' F' N' B' X' T' hs0; (try dsimp only); (try k_fold))
  obtain ⟨hpre, htok, hla, hkd⟩ := hpre
  replace htok := htok.kept hs0
  replace hla := LA.mono (fun d o e => hs0 d o e) hla
  replace hkd := Kids.mono (fun v o z => TokIn.mono (fun d o e => hs0 d o e) (Nat.le_refl _) z) hkd
  have hxz := Sz.one hxl
  replace hpre := SelfAt.kept hpre hs0
  obtain ⟨dx, md, k1, k2, k3, hI, hmd⟩ := id hpre
  repeat' (first | ((with_reducible show Q _ _); fail) | (k_unfold; (try dsimp only)) | ((fail_if_success (with_reducible show Q _ _)); walk1) | ((fail_if_success (with_reducible show Q _ _)); dsimp only; walk1) | (leave1; try dsimp only) | fail "no step")
  all_goals (
    with_reducible rename Fr h₀ L _ _ => kF
    with_reducible rename Fr g0 _ _ _ => F9
    exact ret _ _ _ _ kF (back0 N hs0 F9) (by first | with_reducible assumption | exact GX.refl _) ⟨_, rfl⟩)
end
section
open PySem.W.KStt (codes)
theorem tok_para {w : World} {esc : Bool} {sa d e l st : Addr} {t1 t2 t3 t4 t5 D U : Nat} (hD : 1 + 200 ≤ D) (hU : 3 + 2000 ≤ U)  {n dn ne : Nat} {vs : List Value} {x : Str} (hK : KidsC w esc n dn ne) (hd1 : 1 + dn ≤ D) (hd2 : 3 + ne ≤ U) (hvs : vs.length ≤ 3) (hxl : x.length ≤ 100000) : TellG w 341 D U [.ref sa, .ref d, .ref st] (fun h => SelfAt w esc h sa ∧ DG w h d [(S "type", .str (S "paragraph") t1), (S "children", .ref l)] ∧ LA (inHeap h) l vs ∧ Kids (TokIn w esc (inHeap h) n) vs x) (fun r => ∃ t, r = .str (S "<p>" ++ x ++ S "</p>\n") t) := by
  intro p loose mean mg mb dp un gd cn cs a ccd cl outer A₀ base h₀ L m news s Q E B F X N T hk hdp hun hpre ret
  refine fillT w ?_
  k_fill
  intro _ _
  refine wpAny_call ?_
  k_dflt ((refine' code_all ?k1 ?k2 ?k3 ?k4 ?k5 ?kA ?kF ?kK ?k6 ?k7 ?k8 ?k9 ?kB ?_ ?c2 ?c3 ?c4 ?c5; (case kA => exact rfl); (case kF => exact rfl); (case kK => first | assumption | exact rfl); (case k1 => k_asm); (case k2 => k_asm); (case k3 => k_asm); (case k4 => k_asm); (case k5 => k_asm); (case k6 => k_is); (case k7 => k_is); (case k8 => ((try simp only [depth_under_make, depth_under_kw, depth_in1, depth_deeper, depth_caller]); (try dsimp only [ktrTop]); omega)); (case k9 => first | exact BindsTo.of_eq rfl | exact binds_K (by k_in) rfl (by k_is) rfl rfl rfl | fail "enter: no rule for these arguments"); (case c5 => decide); (case kB => exact locs rfl); (case c2 => exact rfl); (case c3 => exact rfl); (case c4 => exact rfl); k_whole); intro g0 L0 h' FG' F' N' B' X' T' hs0; (try dsimp only); (try k_fold))
  obtain ⟨hpre, htok, hla, hkd⟩ := hpre
  replace htok := htok.kept hs0
  replace hla := LA.mono (fun d o e => hs0 d o e) hla
  replace hkd := Kids.mono (fun v o z => TokIn.mono (fun d o e => hs0 d o e) (Nat.le_refl _) z) hkd
  have hxz := Sz.one hxl
  replace hpre := SelfAt.kept hpre hs0
  obtain ⟨dx, md, k1, k2, k3, hI, hmd⟩ := id hpre
  repeat' (first | ((with_reducible show Q _ _); fail) | (k_unfold; (try dsimp only)) | ((fail_if_success (with_reducible show Q _ _)); walk1) | ((fail_if_success (with_reducible show Q _ _)); dsimp only; walk1) | (leave1; try dsimp only) | fail "no step")
  all_goals (
    with_reducible rename Fr h₀ L _ _ => kF
    with_reducible rename Fr g0 _ _ _ => F9
    exact ret _ _ _ _ kF (back0 N hs0 F9) (by first | with_reducible assumption | exact GX.refl _) ⟨_, rfl⟩)
end
section
open PySem.W.KStt (codes)
theorem lines_NIn : True := by
  k_with_none
  k_with "z1" => (((try simp only [depth_under_make, depth_under_kw, depth_in1, depth_deeper, depth_caller]); (try dsimp only [ktrTop]); omega))
  k_with "ktr_enter" => ((refine' code_def ?k1 ?k2 ?k3 ?k4 ?k5 ?kA ?kF ?kK ?k6 ?k7 ?k8 ?k9 ?kB ?_ ?c2 ?c3 ?c4 ?c5; (case kA => exact rfl); (case kF => exact rfl); (case kK => first | assumption | exact rfl); (case k1 => k_asm); (case k2 => k_asm); (case k3 => k_asm); (case k4 => k_asm); (case k5 => k_asm); (case k6 => k_is); (case k7 => k_is); (case k8 => k_extra "z1"); (case k9 => first | exact BindsTo.of_eq rfl | exact binds_K (by k_in) rfl (by k_is) rfl rfl rfl | fail "enter: no rule for these arguments"); (case c5 => decide); (case kB => exact locs rfl); (case c2 => exact rfl); (case c3 => exact rfl); (case c4 => exact rfl); k_whole); intro gpq0 Lpq0 hpq0 FGpq0 Fpq0 Npq0 Bpq0 Xpq0 Tpq0; (try dsimp only); (try k_lift Bpq0); (try k_fold))
  k_with "k_mem" => (first | with_reducible exact List.mem_cons_self | with_reducible assumption | (with_reducible refine List.mem_cons_of_mem _ ?_; k_mem) | (with_reducible refine List.mem_append_left _ ?_; k_mem) | (with_reducible refine List.mem_append_right _ ?_; k_mem))
  k_with "execs cons" => (k_here; k_dflt (refine wpAny_execs_cons ?_))
  k_with "execs cons" => (k_here; (with_reducible refine execs_cons_gen ?_); intro tk9q3)
  k_with "execs nil" => (k_here; (with_reducible refine wpAny_execs_nil ?_))
  k_with "exec If" => (k_here; k_dflt (refine wpAny_If ?_))
  k_with "ite" => (k_here; first | (with_reducible refine ite_tt ?_) | (with_reducible refine ite_ff ?_) | (k_closed; (first | (with_reducible refine iteP ?iteC ?_; (case iteC => decide)) | (with_reducible refine iteN ?iteC ?_; (case iteC => decide)))) | (with_reducible refine split_ine ?_ ?_ <;> intro _) | (with_reducible refine split_ieq ?_ ?_ <;> intro _) | with_reducible refine split_not ?_ | (with_reducible refine iteDec ?_ ?_ <;> intro _) | (with_reducible refine iteB ?_ ?_ <;> intro _))
  k_with "callWith ref" => (k_here; k_dflt ((with_reducible refine' callWith_K ?k1 ?k2 ?_ ?he ?hp); (case he => exact rfl); (case hp => exact rfl); (case k1 => k_asm); (case k2 => k_is)))
  k_with "callWith ref" => (k_here; k_dflt ((with_reducible refine' callWith_K0 ?k1 ?k2 ?_); (case k1 => exact Frag.In.keeps (by with_reducible assumption) (Fr.keep (by with_reducible assumption))); (case k2 => k_is); (try dsimp only [List.nil_append])))
  k_with "callWith" => (k_here; k_dflt ((with_reducible refine' callWith_m1 ?_ ?he ?hp); (case he => exact rfl); (case hp => exact rfl)))
  k_with "binaryOp Mod int int" => (k_here; (with_reducible refine' mod_int' ?kbe ?_); (case kbe => decide); (try dsimp only); (try k_fold))
  k_with "setItem ref str" => (k_here; (with_reducible show wpAny _ _ (setItem (Value.ref _) (Value.str _ _) (Value.str _ _)) _ _ _); k_dflt ((with_reducible refine' kda_set (knd := PySem.strKind _ _) ?F ?N ?U ?d (strKind_is _ _ _ _) ?z ?_); (case F => k_asm); (case N => k_asm); (case U => exact UpdF.head (by k_all)); (case d => with_reducible assumption); (case z => rw [sizeLine_eq]; exact Nat.le_of_ble_eq_true (by with_unfolding_all rfl)); intro h9q37 o9q37 F9q37 N9q37 hd9q37; (try dsimp only at N9q37); (try dsimp only); (try k_fold)))
  k_with "eval Call" => (k_here; (with_reducible show wpAny _ _ (eval (Expr.Call (Expr.Name _ _) _ [] _) _) _ _ _); k_dflt (refine Call_ ?_))
  k_with "binaryOp Add str str" => (k_here; k_dflt ((with_reducible refine' add_strP (Sz.app ?sa ?sb) ?hn ?_); (case sa => first | with_reducible assumption | (refine Sz.one ?_; first | decide +kernel | exact num_sz _)); (case sb => first | with_reducible assumption | (refine Sz.one ?_; first | decide +kernel | exact num_sz _)); (case hn => decide); intro t9q38 k9q38 hz9q38; (try dsimp only); (try k_fold)))
  k_with "k_all" => (first | with_reducible assumption | exact List.forall_mem_nil _ | (with_reducible refine' List.forall_mem_cons.mpr ⟨?ka, ?kb⟩; (case ka => k_ne); (case kb => k_all)) | (with_reducible refine' ltNe2 ?ka; (case ka => with_reducible assumption)) | (with_reducible refine' ltNe3 ?ka; (case ka => with_reducible assumption)) | (with_reducible refine' ltNe4 ?ka; (case ka => with_reducible assumption)) | (with_reducible refine' List.forall_mem_append.mpr ⟨?ka, ?kb⟩; (case ka => k_all); (case kb => k_all)) | (with_reducible refine' apartE ?ka ?kb; (case ka => with_reducible assumption); (case kb => k_mem)) | (with_reducible refine' ltNe ?ka; (case ka => with_reducible assumption)))
  k_with "k_ne" => (refine neN ?_; (try dsimp only); first | with_reducible assumption | (with_reducible exact Ne.symm (by assumption)) | (with_reducible exact Nat.ne_of_lt (by assumption)) | (with_reducible exact Nat.ne_of_gt (by assumption)) | omega)
  k_with "call builtin:list.append" => (k_here; (with_reducible show wpAny _ _ (call (Value.builtin _) [Value.ref _, _]) _ _ _); k_dflt ((with_reducible refine' append_tok ?k1 ?k2 ?k3 ?k4 ?_); (case k1 => k_asm); (case k2 => k_asm); (case k3 => k_upd); (case k4 => first | with_reducible assumption | decide | omega); intro h9q39 F9q39 N9q39; (try dsimp only); (try k_fold)))
  k_with "call type:range" => (k_here; (with_reducible rename Fr _ _ _ _ => Fpq40); (with_reducible rename News _ _ _ _ => Npq40); (with_unfolding_all refine range1_rows Fpq40 Npq40 ?_); clear Fpq40 Npq40; intro h9q40 tk9q40 t9q40 u9q40 v9q40 hR9q40 F9q40 N9q40 hK9q40; (try dsimp only); (try k_fold))
  k_with "call ref" => (k_here; (first | (with_reducible show wpAny _ _ (call (Value.ref 510) _) _ _ _) | (with_reducible show wpAny _ _ (call (Value.ref 517) _) _ _ _)); k_dflt (refine wpAny_call ?_; ktr_enter))
  k_with "z2" => ((with_reducible rename _ + _ < recursionLimit => hr9; first | exact room1 hr9 (by first | decide | assumption | (refine' Nat.le_trans ?qa ?qb; (case qb => assumption); (case qa => decide))) | ((try simp only [depth_under_make, depth_under_kw, depth_in1, depth_deeper, depth_caller, units_in1, units_deeper, units_caller]); (try dsimp only [ktrTop]); omega)))
  k_with "z3" => ((with_reducible rename _ + _ < cLine => hr9; first | exact room3 hr9 (by first | decide | assumption | (refine' Nat.le_trans ?qa ?qb; (case qb => assumption); (case qa => decide))) | ((try simp only [depth_under_make, depth_under_kw, depth_in1, depth_deeper, depth_caller, units_in1, units_deeper, units_caller]); (try dsimp only [ktrTop]); omega)))
  k_with "call ref" => (k_here; (with_reducible show wpAny _ _ (call (Value.ref 531) _) _ _ _); k_dflt (refine' Tell0.use (tell_at (by assumption) (by assumption) ?ka ?kb) ?k1 ?k2 ?k3 ?k4 ?k5 ?k6 ?k7 ?k8 ?k9 ?_; (case ka => omega); (case kb => omega); (case k1 => k_asm); (case k2 => k_asm); (case k3 => k_asm); (case k4 => k_asm); (case k5 => k_asm); (case k6 => exact rfl); (case k7 => k_extra "z2"); (case k8 => k_extra "z3"); (case k9 => exact listAt (by assumption) (Fr.keep (by k_asm))); intro r9q42 h9q42 t9q42 F9q42 N9q42 o9q42; obtain ⟨n9q42, tn9q42, e9q42⟩ := o9q42; subst e9q42; (try k_sweep); (try dsimp only); (try k_fold)))
  k_with "call ref" => (k_here; (with_reducible show wpAny _ _ (call (Value.ref 538) _) _ _ _); k_dflt (refine' Tell0.use (tell_shown ?ka ?kb) ?k1 ?k2 ?k3 ?k4 ?k5 ?k6 ?k7 ?k8 ?k9 ?_; (case ka => first | with_reducible assumption | (refine Sz.app ?_ ?_ <;> first | with_reducible assumption | exact Sz.one (by decide +kernel))); (case kb => decide); (case k1 => k_asm); (case k2 => k_asm); (case k3 => k_asm); (case k4 => k_asm); (case k5 => k_asm); (case k6 => exact rfl); (case k7 => k_extra "z2"); (case k8 => k_extra "z3"); (case k9 => exact True.intro); intro r9q32 h9q32 t9q32 F9q32 N9q32 o9q32; obtain ⟨tn9q32, e9q32, hl9q32⟩ := o9q32; subst e9q32; (try k_sweep); (try dsimp only); (try k_fold)))
  k_with "subscriptTail Call" => (k_here; (with_reducible show wpAny _ _ (subscriptTail _ _ (Value.ref _) (Value.int (Int.fmod _ 5) _)) _ _ _); (with_reducible rename News _ _ _ _ => N8q43); k_dflt (refine' menu_item (xs := textsL) N8q43 ?ka ?kb ?kc ?kd ?ke ?_; (case ka => (with_unfolding_all exact .cons _ _ (.cons _ _ (.cons _ _ (.cons _ _ (.cons _ _ .nil)))))); (case kb => exact Int.fmod_nonneg_of_pos _ (by decide)); (case kc => exact Int.fmod_lt_of_pos _ (by decide)); (case kd => decide); (case ke => with_unfolding_all rfl); clear N8q43; intro x9q43 t9q43 hx9q43 N9q43; (have hxl9q43 := texts_sz hx9q43); (try dsimp only); (try k_fold)))
  k_with "subscriptTail Call" => (k_here; (with_reducible show wpAny _ _ (subscriptTail _ _ (Value.ref _) (Value.int (Int.fmod _ 15) _)) _ _ _); (with_reducible rename News _ _ _ _ => N8q44); k_dflt (refine' menu_item (xs := urlsL) N8q44 ?ka ?kb ?kc ?kd ?ke ?_; (case ka => (with_unfolding_all exact .cons _ _ (.cons _ _ (.cons _ _ (.cons _ _ (.cons _ _ (.cons _ _ (.cons _ _ (.cons _ _ (.cons _ _ (.cons _ _ (.cons _ _ (.cons _ _ (.cons _ _ (.cons _ _ (.cons _ _ (.nil))))))))))))))))); (case kb => exact Int.fmod_nonneg_of_pos _ (by decide)); (case kc => exact Int.fmod_lt_of_pos _ (by decide)); (case kd => decide); (case ke => with_unfolding_all rfl); clear N8q44; intro x9q44 t9q44 hx9q44 N9q44; (have hxl9q44 := urls_sz hx9q44); (try dsimp only); (try k_fold)))
  k_with "call ref" => (k_here; (with_reducible show wpAny _ _ (call (Value.ref 545) _) _ _ _); k_dflt (refine' Tell0.use (tell_addr (by with_reducible assumption)) ?k1 ?k2 ?k3 ?k4 ?k5 ?k6 ?k7 ?k8 ?k9 ?_; (case k1 => k_asm); (case k2 => k_asm); (case k3 => k_asm); (case k4 => k_asm); (case k5 => k_asm); (case k6 => exact rfl); (case k7 => k_extra "z2"); (case k8 => k_extra "z3"); (case k9 => exact True.intro); intro r9q45 h9q45 t9q45 F9q45 N9q45 o9q45; obtain ⟨tn9q45, e9q45⟩ := o9q45; subst e9q45; (have hl9q45 := addr_sz (by with_reducible assumption)); (try k_sweep); (try dsimp only); (try k_fold)))
  k_with "call ref" => (k_here; (with_reducible show wpAny _ _ (call (Value.ref 552) _) _ _ _); (with_reducible rename (0 < _ → ∀ (_ : Int) (_ _ : Nat), _) => ih9q46); k_dflt (refine' TellT.use (ih9q46 ?kz _ _ _ ?ka ?kb) ?k1 ?k2 ?k3 ?k4 ?k5 ?k6 ?k7 ?k8 ?k9q46 ?_; (case kz => assumption); (case ka => omega); (case kb => omega); (case k1 => k_asm); (case k2 => k_asm); (case k3 => k_asm); (case k4 => exact news_tail (by k_asm)); (case k5 => k_asm); (case k6 => exact rfl); (case k7 => k_extra "z2"); (case k8 => k_extra "z3"); (case k9q46 => exact listAt (by assumption) (Fr.keep (by k_asm))); intro r9q46 tl9q46 h9q46 t9q46 F9q46 N9q46 hl9q46 o9q46; obtain ⟨a9q46, l9q46, vs9q46, x9q46, u9q46, v9q46, k9q46, e9q46, m9q46, ml9q46, hv9q46, hk9q46, hka9q46, hkb9q46⟩ := o9q46; subst e9q46; (have hxz9q46 := kids_sz (by assumption) hv9q46 (hk9q46 true)); (try simp only [List.nil_append, List.cons_append] at N9q46); replace N9q46 := news_dup (p := (a9q46, _)) N9q46 (by k_mem); (try (have hne9q46 := hl9q46 _ (List.Mem.head _) _ m9q46; dsimp only at hne9q46)); (try k_sweep); (try dsimp only); (try k_fold)))
  k_with "pyIter ref" => (k_here; (with_reducible show wpAny _ _ (pyIter (Value.ref _)) (fun it s₂ => LoopAtV _ _ _ _ _ _ _ _ _ it s₂) _ _); (with_reducible rename Fr _ _ _ _ => lFpq47); (with_reducible rename News _ _ _ _ => lNpq47); (with_reducible rename IsRange _ _ _ _ _ _ _ _ => rgXq47);  k_dflt (refine' loop_toks (M1 := 2) (on := Str.ofString "out") (st := [Str.ofString "number", Str.ofString "kind", Str.ofString "words", Str.ofString "inner", Str.ofString "shown", Str.ofString "url", Str.ofString "values"]) (Es := fun _ => True) ?hmb ?hnM ?hb0 ?ha ?hb ?hc ?hd rgXq47 (rng ?he ?hf).1 (rng ?he ?hf).2.1 lFpq47 lNpq47 ?hg ?hi ?hj ?hk ?hl ?hm (fun vs9q47 c9q47 y9q47 t9q47 k9q47 u9q47 uu9q47 Z9q47 h9q47 tk9q47 j9q47 tj9q47 hv9q47 hy9q47 hZ9q47 hka9q47 hkb9q47 F9q47 N9q47 => ?_) (fun vs9q47 c9q47 y9q47 t9q47 k9q47 u9q47 uu9q47 Z9q47 h9q47 tk9q47 hv9q47 hK9q47 hy9q47 hka9q47 hkb9q47 hZ9q47 F9q47 N9q47 => ?_); (case hmb => assumption); (case hnM => exact rngM (by decide) (by decide)); (case hb0 => first | decide | omega); (case ha => first | assumption | decide); (case hb => exact (rng (by decide) (by decide)).2.2); (case hc => first | exact ⟨true, trivial⟩ | exact ⟨_, rfl⟩); (case hd => exact rfl); (case he => decide); (case hf => decide); (case hg => k_mem); (case hi => exact rfl); (case hj => exact rfl); (case hk => decide +kernel); (case hl => decide +kernel); (case hm => decide +kernel); all_goals ((try dsimp only); (try k_fold))))
  k_with "ite" => (k_here; first | (with_reducible refine' ite_eqno (a := Int.fmod _ 7) ?h1 ?h2 ?_; (case h1 => with_reducible assumption); (case h2 => decide)) | ((with_reducible refine' ite_sp (a := Int.fmod _ 7) ?_ ?_) <;> intro hq9q48))
  k_with "look" => (with_reducible first | exact Look1.str | exact Look1.int | (refine' Look1.name ?hx ?hd ?hm; (case hx => k_dflt (exact rfl)); (case hd => k_dflt decide); (case hm => k_dflt (exact rfl))) | exact LookN.nil | (refine' LookN.cons ?x ?y; (case x => k_extra "look"); (case y => k_extra "look")) | exact LookP.nil | (refine' LookP.cons ?x ?y ?z; (case x => k_extra "look"); (case y => k_extra "look"); (case z => k_extra "look")))
  k_with "spliced" => (k_here; (with_reducible show wpAny _ _ (spliced (backTo _ (starEach (_ :: _) _))) _ _ _); (with_reducible rename Fr _ _ _ _ => F8q16); ((with_reducible refine' args_lk F8q16 ?he ?hk ?l ?_); (case he => k_dflt (exact ⟨_, _, _, _, rfl⟩)); (case hk => k_dflt (exact rfl)); (case l => k_extra "look")); (try dsimp only); (try k_fold))
  k_with "evalPairs" => (k_here; (with_reducible show wpAny _ _ (evalPairs (pairTrees (_ :: _) _ _ _)) _ _ _); (with_reducible rename Fr _ _ _ _ => F8q17); ((with_reducible refine' pairs_lk F8q17 ?he ?hk ?l ?_); (case he => k_dflt (exact ⟨_, _, _, _, rfl⟩)); (case hk => k_dflt (exact rfl)); (case l => k_extra "look")); (try dsimp only); (try k_fold))
  k_with "eval BinOp" => (k_here; (with_reducible show wpAny _ _ (eval (Expr.BinOp (Expr.Name _ _) _ (Expr.Constant _ _ _) _) _) _ _ _); (with_reducible rename Fr _ _ _ _ => F8q18); ((with_reducible refine' bin_lk F8q18 ?he ?hk ?l ?r ?_); (case he => k_dflt (exact ⟨_, _, _, _, rfl⟩)); (case hk => k_dflt (exact rfl)); (case l => k_extra "look"); (case r => k_extra "look")); (try dsimp only); (try k_fold))
  k_with "eval BinOp" => (k_here; (with_reducible show wpAny _ _ (eval (Expr.BinOp (Expr.Name _ _) _ (Expr.Name _ _) _) _) _ _ _); (with_reducible rename Fr _ _ _ _ => F8q19); ((with_reducible refine' bin_lk F8q19 ?he ?hk ?l ?r ?_); (case he => k_dflt (exact ⟨_, _, _, _, rfl⟩)); (case hk => k_dflt (exact rfl)); (case l => k_extra "look"); (case r => k_extra "look")); (try dsimp only); (try k_fold))
  k_with "exec If" => (k_here; (with_reducible show wpAny _ _ (exec (Stmt.If (Expr.Compare (Expr.Name _ _) [CmpOp.Eq] [Expr.Constant (Const.int _) _ _] _) _ _ _) _) _ _ _); (with_reducible rename Fr _ _ _ _ => F8q20); ((with_reducible refine' if_lk F8q20 ?he ?hk ?l ?r ?h ?_); (case he => k_dflt (exact ⟨_, _, _, _, rfl⟩)); (case hk => k_dflt (exact rfl)); (case l => k_extra "look"); (case r => k_extra "look"); (case h => k_dflt (with_unfolding_all rfl))); (try dsimp only); (try k_fold))
  k_with "ite" => (k_here; (with_reducible refine' ite_anyno (a := Int.fmod _ 7) ?h1 ?h2 ?_; (case h1 => with_reducible assumption); (case h2 => decide)))
  k_with "storeName" => (k_here; (with_reducible rename Fr _ _ _ _ => F8q21); (with_reducible rename News _ _ _ _ => N8q21); ((with_reducible refine' store_lk F8q21 N8q21 ?he ?hk ?hx ?_); (case he => k_dflt (exact ⟨_, _, _, _, rfl⟩)); (case hk => k_dflt (exact rfl)); (case hx => k_dflt (exact rfl)); intro h9q21 m9q21 F9q21 N9q21; (try clear F8q21 N8q21); (try dsimp only); (try k_fold)))
  trivial
theorem tell_inl_step {w : World} {sa : Addr} {vs : List Value} {ns : List Int} {k : Int} {tk : Nat} (hi : IntsAre vs ns) (hlen : ns.length ≤ 63) {td : Nat} {d : Int} {l dn ne : Nat} {b : Int} (hmb : Marked (1 + b)) (hl4 : l ≤ 5) (hl5 : l + 1 ≤ 5) (hb : 0 ≤ b) (hb0 : 0 ≤ 1 + b) (hq1 : 1 + dn ≤ dn + 45) (hq2 : 45 ≤ dn + 45) (hq3 : 3 + ne ≤ ne + 450) (hq4 : 450 ≤ ne + 450) (hk0 : 0 ≤ k) (hk1 : k + 3 * b + 4 ≤ 9000)
    (ih : 0 < d → ∀ (k : Int) (tk td : Nat), 0 ≤ k → k + b ≤ 9000 → TellT w 552 dn ne [.ref sa, .int k tk, .int (d - 1) td] (fun h => h.IsList sa vs.toArray) (InlOut w l b k)) :
    TellT w 552 (dn + 45) (ne + 450) [.ref sa, .int k tk, .int d td] (fun h => h.IsList sa vs.toArray) (InlOut w (l + 1) (1 + (1 + b) * ((2 + 1 : Nat) : Int)) k) := by
  intro p loose mean mg mb dp un gd cn cs a ccd cl outer A₀ base h₀ L m news s Q E B F X N T hk hdp hun hpre ret
  refine fillT w ?_
  k_fill
  intro _ _
  refine wpAny_call ?_
  k_dflt ((refine' code_all ?k1 ?k2 ?k3 ?k4 ?k5 ?kA ?kF ?kK ?k6 ?k7 ?k8 ?k9 ?kB ?_ ?c2 ?c3 ?c4 ?c5; (case kA => exact rfl); (case kF => exact rfl); (case kK => first | assumption | exact rfl); (case k1 => k_asm); (case k2 => k_asm); (case k3 => k_asm); (case k4 => k_asm); (case k5 => k_asm); (case k6 => k_is); (case k7 => k_is); (case k8 => ((try simp only [depth_under_make, depth_under_kw, depth_in1, depth_deeper, depth_caller]); (try dsimp only [ktrTop]); omega)); (case k9 => first | exact BindsTo.of_eq rfl | exact binds_K (by k_in) rfl (by k_is) rfl rfl rfl | fail "enter: no rule for these arguments"); (case c5 => decide); (case kB => exact locs rfl); (case c2 => exact rfl); (case c3 => exact rfl); (case c4 => exact rfl); k_whole); intro g0 L0 h' FG' F' N' B' X' T' hs0; (try dsimp only); (try k_fold))
  replace hpre := listAt hpre hs0
  repeat' (first | ((with_reducible show Q _ _); fail) | ((with_reducible show TurnPost _ _ _ _ _ _ _ _ _ _ _ _ _ _ _ _ _ _ _); fail) | (k_unfold; (try dsimp only)) | ((fail_if_success (with_reducible show Q _ _)); (fail_if_success (with_reducible show TurnPost _ _ _ _ _ _ _ _ _ _ _ _ _ _ _ _ _ _ _)); walk1) | ((fail_if_success (with_reducible show Q _ _)); (fail_if_success (with_reducible show TurnPost _ _ _ _ _ _ _ _ _ _ _ _ _ _ _ _ _ _ _)); dsimp only; walk1) | (leave1; try dsimp only) | fail "no step")
  all_goals first
    | (fail_if_success (with_reducible show Q _ _)
       with_reducible rename Fr g0 _ _ _ => F9
       with_reducible rename News g0 _ _ _ => N9
       first
       | refine' turn_A (c := 0) rfl F9 N9 ?x1 (fun e _ => tokS ?sh) ?x3 ?x4 ?x5 ?ba ?bb ?x6
       | refine' turn_B rfl F9 N9 ?y1 ?x1 (fun e _ => tokS ?sh) ?x3 ?x4 ?x5 ?ba ?bb ?x6
       | refine' turn_C rfl F9 N9 ?y1 ?x1 ?y2 (fun e _ => tokS ?sh) ?x3 ?x4 ?x5 ?ba ?bb ?x6
       case x1 => with_reducible assumption
       (try (case y1 => with_reducible assumption))
       (try (case y2 => with_reducible assumption))
       case x3 => exact rfl
       case x4 => first | (with_reducible exact as1 _ _) | (with_reducible exact as3 _ _ _ _) | (with_reducible exact as6 _ _ _ _ _ _ _) | (with_reducible exact as9 _ _ _ _ _ _ _ _ _ _)
       case x5 => exact rfl
       case ba => first | exact (bndI hb).1 | exact (bndJ (by with_reducible assumption) (by with_reducible assumption)).1
       case bb => first | exact (bndI hb).2 | exact (bndJ (by with_reducible assumption) (by with_reducible assumption)).2
       case x6 => exact (fun z z1 z2 z3 z4 => by
           have z10 := st_ne z4 (a := Str.ofString "number") (by simp)
           have z11 := st_ne z4 (a := Str.ofString "kind") (by simp)
           have z12 := st_ne z4 (a := Str.ofString "words") (by simp)
           have z13 := st_ne z4 (a := Str.ofString "inner") (by simp)
           have z14 := st_ne z4 (a := Str.ofString "shown") (by simp)
           have z15 := st_ne z4 (a := Str.ofString "url") (by simp)
           have z16 := st_ne z4 (a := Str.ofString "values") (by simp)
           repeat (first | (with_reducible exact rfl) | (refine Eq.trans (if_neg ?_) ?_; · first | (with_reducible first | assumption | exact ne_true_of_eq_false (by assumption)) | exact z3)))
       case sh => (first
         | ((with_reducible refine' Shape.text ?da ?ha); (case da => exact ⟨_, by k_mem, isd (by with_reducible assumption) (by exact rfl), by with_reducible assumption⟩); (case ha => with_reducible assumption))
         | ((with_reducible refine' Shape.code ?da ?ha); (case da => exact ⟨_, by k_mem, isd (by with_reducible assumption) (by exact rfl), by with_reducible assumption⟩); (case ha => with_reducible assumption))
         | ((with_reducible refine' Shape.soft ?da); (case da => exact ⟨_, by k_mem, isd (by with_reducible assumption) (by exact rfl), by with_reducible assumption⟩))
         | ((with_reducible refine' Shape.br ?da); (case da => exact ⟨_, by k_mem, isd (by with_reducible assumption) (by exact rfl), by with_reducible assumption⟩))
         | (with_reducible rename ∀ esc, Kids _ _ _ => hk9
            first
            | ((with_reducible refine' Shape.em ?da ?la ?hv ?hk); (case da => exact ⟨_, by k_mem, isd (by with_reducible assumption) (by exact rfl), by with_reducible assumption⟩); (case la => exact LA.in (by with_reducible assumption) (fun d9 o9 hm9 => by k_mem)); (case hv => with_reducible assumption); (case hk => exact Kids.in (hk9 _) (Nat.le_refl _) (fun d9 o9 hm9 => by k_mem)))
            | ((with_reducible refine' Shape.strong ?da ?la ?hv ?hk); (case da => exact ⟨_, by k_mem, isd (by with_reducible assumption) (by exact rfl), by with_reducible assumption⟩); (case la => exact LA.in (by with_reducible assumption) (fun d9 o9 hm9 => by k_mem)); (case hv => with_reducible assumption); (case hk => exact Kids.in (hk9 _) (Nat.le_refl _) (fun d9 o9 hm9 => by k_mem)))
            | ((with_reducible refine' Shape.link ?da ?la ?hv ?hk ?db ?hu); (case da => exact ⟨_, by k_mem, isd (by with_reducible assumption) (by exact rfl), by with_reducible assumption⟩); (case la => exact LA.in (by with_reducible assumption) (fun d9 o9 hm9 => by k_mem)); (case hv => with_reducible assumption); (case hk => exact Kids.in (hk9 _) (Nat.le_refl _) (fun d9 o9 hm9 => by k_mem)); (case db => exact ⟨_, by k_mem, isd (by with_reducible assumption) (by exact rfl), by with_reducible assumption⟩); (case hu => with_reducible assumption))
            | ((with_reducible refine' Shape.linkT ?da ?la ?hv ?hk ?db ?hu ?hy); (case da => exact ⟨_, by k_mem, isd (by with_reducible assumption) (by exact rfl), by with_reducible assumption⟩); (case la => exact LA.in (by with_reducible assumption) (fun d9 o9 hm9 => by k_mem)); (case hv => with_reducible assumption); (case hk => exact Kids.in (hk9 _) (Nat.le_refl _) (fun d9 o9 hm9 => by k_mem)); (case db => exact ⟨_, by k_mem, isd (by with_reducible assumption) (by exact rfl), by with_reducible assumption⟩); (case hu => with_reducible assumption); (case hy => with_reducible assumption)))))
    | (with_reducible rename Fr h₀ L _ _ => kF
       with_reducible rename News h₀ L _ _ => kN
       with_reducible rename Fr g0 _ _ _ => F9
       with_reducible rename News g0 _ _ _ => N9
       with_reducible rename ∀ e, True → Kids _ _ _ => hk9
       refine ret _ _ _ _ kF (backT N hs0 F9 kN) (apart N hs0 N9) ?_
       refine ⟨_, _, _, _, _, _, _, rfl, by k_mem, ⟨_, by k_mem⟩, by with_reducible assumption, fun e => Kids.in (hk9 e trivial) (Nat.le_refl _) (fun d9 o9 hm9 => by k_mem), ?ba, ?bb⟩
       case ba => exact (bndL (by with_reducible assumption) (by with_reducible assumption)).1
       case bb => exact (bndL (by with_reducible assumption) (by with_reducible assumption)).2)
end
section
theorem tell_inl0 {w : World} {sa : Addr} {vs : List Value} {ns : List Int} {k : Int} {t1 t2 : Nat} (hi : IntsAre vs ns) (hlen : ns.length ≤ 63) (hk0 : 0 ≤ k) (hk1 : k + 4 ≤ 9000) :
    TellT w 552 45 450 [.ref sa, .int k t1, .int 0 t2] (fun h => h.IsList sa vs.toArray) (InlOut w 1 4 k) :=
  tell_inl_step (d := 0) (l := 0) (dn := 0) (ne := 0) (b := 0) hi hlen (.mk _) (by decide) (by decide) (by decide) (by decide) (by decide) (by decide) (by decide) (by decide) hk0 (by omega) (fun h => absurd h (by decide))
theorem tell_inl1 {w : World} {sa : Addr} {vs : List Value} {ns : List Int} {k : Int} {t1 t2 : Nat} (hi : IntsAre vs ns) (hlen : ns.length ≤ 63) (hk0 : 0 ≤ k) (hk1 : k < 8900) :
    TellT w 552 90 900 [.ref sa, .int k t1, .int 1 t2] (fun h => h.IsList sa vs.toArray) (InlOut w 2 16 k) :=
  tell_inl_step (d := 1) (l := 1) (dn := 45) (ne := 450) (b := 4) hi hlen (.mk _) (by decide) (by decide) (by decide) (by decide) (by decide) (by decide) (by decide) (by decide) hk0 (by omega) (fun _ _ _ _ h0 h1 => tell_inl0 hi hlen h0 h1)
end
section
open PySem.W.KStt (codes)
theorem lines_NBk : True := by
  k_with_none
  k_with "z1" => (((try simp only [depth_under_make, depth_under_kw, depth_in1, depth_deeper, depth_caller]); (try dsimp only [ktrTop]); omega))
  k_with "ktr_enter" => ((refine' code_def ?k1 ?k2 ?k3 ?k4 ?k5 ?kA ?kF ?kK ?k6 ?k7 ?k8 ?k9 ?kB ?_ ?c2 ?c3 ?c4 ?c5; (case kA => exact rfl); (case kF => exact rfl); (case kK => first | assumption | exact rfl); (case k1 => k_asm); (case k2 => k_asm); (case k3 => k_asm); (case k4 => k_asm); (case k5 => k_asm); (case k6 => k_is); (case k7 => k_is); (case k8 => k_extra "z1"); (case k9 => first | exact BindsTo.of_eq rfl | exact binds_K (by k_in) rfl (by k_is) rfl rfl rfl | fail "enter: no rule for these arguments"); (case c5 => decide); (case kB => exact locs rfl); (case c2 => exact rfl); (case c3 => exact rfl); (case c4 => exact rfl); k_whole); intro gpq0 Lpq0 hpq0 FGpq0 Fpq0 Npq0 Bpq0 Xpq0 Tpq0; (try dsimp only); (try k_lift Bpq0); (try k_fold))
  k_with "k_mem" => (first | with_reducible exact List.mem_cons_self | with_reducible assumption | (with_reducible refine List.mem_cons_of_mem _ ?_; k_mem) | (with_reducible refine List.mem_append_left _ ?_; k_mem) | (with_reducible refine List.mem_append_right _ ?_; k_mem))
  k_with "execs cons" => (k_here; k_dflt (refine wpAny_execs_cons ?_))
  k_with "execs cons" => (k_here; (with_reducible refine execs_cons_gen ?_); intro tk9q3)
  k_with "execs nil" => (k_here; (with_reducible refine wpAny_execs_nil ?_))
  k_with "exec If" => (k_here; k_dflt (refine wpAny_If ?_))
  k_with "ite" => (k_here; first | (with_reducible refine ite_tt ?_) | (with_reducible refine ite_ff ?_) | (k_closed; (first | (with_reducible refine iteP ?iteC ?_; (case iteC => decide)) | (with_reducible refine iteN ?iteC ?_; (case iteC => decide)))) | (with_reducible refine split_ine ?_ ?_ <;> intro _) | (with_reducible refine split_ieq ?_ ?_ <;> intro _) | with_reducible refine split_not ?_ | (with_reducible refine iteDec ?_ ?_ <;> intro _) | (with_reducible refine iteB ?_ ?_ <;> intro _))
  k_with "callWith ref" => (k_here; k_dflt ((with_reducible refine' callWith_K ?k1 ?k2 ?_ ?he ?hp); (case he => exact rfl); (case hp => exact rfl); (case k1 => k_asm); (case k2 => k_is)))
  k_with "callWith ref" => (k_here; k_dflt ((with_reducible refine' callWith_K0 ?k1 ?k2 ?_); (case k1 => exact Frag.In.keeps (by with_reducible assumption) (Fr.keep (by with_reducible assumption))); (case k2 => k_is); (try dsimp only [List.nil_append])))
  k_with "callWith" => (k_here; k_dflt ((with_reducible refine' callWith_m1 ?_ ?he ?hp); (case he => exact rfl); (case hp => exact rfl)))
  k_with "binaryOp Mod int int" => (k_here; (with_reducible refine' mod_int' ?kbe ?_); (case kbe => decide); (try dsimp only); (try k_fold))
  k_with "eval Call" => (k_here; (with_reducible show wpAny _ _ (eval (Expr.Call (Expr.Name _ _) _ [] _) _) _ _ _); k_dflt (refine Call_ ?_))
  k_with "binaryOp Add str str" => (k_here; k_dflt ((with_reducible refine' add_strP (Sz.app ?sa ?sb) ?hn ?_); (case sa => first | with_reducible assumption | (refine Sz.one ?_; first | decide +kernel | exact num_sz _)); (case sb => first | with_reducible assumption | (refine Sz.one ?_; first | decide +kernel | exact num_sz _)); (case hn => decide); intro t9q38 k9q38 hz9q38; (try dsimp only); (try k_fold)))
  k_with "k_all" => (first | with_reducible assumption | exact List.forall_mem_nil _ | (with_reducible refine' List.forall_mem_cons.mpr ⟨?ka, ?kb⟩; (case ka => k_ne); (case kb => k_all)) | (with_reducible refine' ltNe2 ?ka; (case ka => with_reducible assumption)) | (with_reducible refine' ltNe3 ?ka; (case ka => with_reducible assumption)) | (with_reducible refine' ltNe4 ?ka; (case ka => with_reducible assumption)) | (with_reducible refine' List.forall_mem_append.mpr ⟨?ka, ?kb⟩; (case ka => k_all); (case kb => k_all)) | (with_reducible refine' apartE ?ka ?kb; (case ka => with_reducible assumption); (case kb => k_mem)) | (with_reducible refine' ltNe ?ka; (case ka => with_reducible assumption)))
  k_with "k_ne" => (refine neN ?_; (try dsimp only); first | with_reducible assumption | (with_reducible exact Ne.symm (by assumption)) | (with_reducible exact Nat.ne_of_lt (by assumption)) | (with_reducible exact Nat.ne_of_gt (by assumption)) | omega)
  k_with "call builtin:list.append" => (k_here; (with_reducible show wpAny _ _ (call (Value.builtin _) [Value.ref _, _]) _ _ _); k_dflt ((with_reducible refine' append_tok ?k1 ?k2 ?k3 ?k4 ?_); (case k1 => k_asm); (case k2 => k_asm); (case k3 => k_upd); (case k4 => first | with_reducible assumption | decide | omega); intro h9q39 F9q39 N9q39; (try dsimp only); (try k_fold)))
  k_with "call type:range" => (k_here; (with_reducible rename Fr _ _ _ _ => Fpq40); (with_reducible rename News _ _ _ _ => Npq40); (with_unfolding_all refine range1_rows Fpq40 Npq40 ?_); clear Fpq40 Npq40; intro h9q40 tk9q40 t9q40 u9q40 v9q40 hR9q40 F9q40 N9q40 hK9q40; (try dsimp only); (try k_fold))
  k_with "call ref" => (k_here; (first | (with_reducible show wpAny _ _ (call (Value.ref 510) _) _ _ _)); k_dflt (refine wpAny_call ?_; ktr_enter))
  k_with "z2" => ((with_reducible rename _ + _ < recursionLimit => hr9; first | exact room1 hr9 (by first | decide | assumption | (refine' Nat.le_trans ?qa ?qb; (case qb => assumption); (case qa => decide))) | ((try simp only [depth_under_make, depth_under_kw, depth_in1, depth_deeper, depth_caller, units_in1, units_deeper, units_caller]); (try dsimp only [ktrTop]); omega)))
  k_with "z3" => ((with_reducible rename _ + _ < cLine => hr9; first | exact room3 hr9 (by first | decide | assumption | (refine' Nat.le_trans ?qa ?qb; (case qb => assumption); (case qa => decide))) | ((try simp only [depth_under_make, depth_under_kw, depth_in1, depth_deeper, depth_caller, units_in1, units_deeper, units_caller]); (try dsimp only [ktrTop]); omega)))
  k_with "call ref" => (k_here; (with_reducible show wpAny _ _ (call (Value.ref 531) _) _ _ _); k_dflt (refine' Tell0.use (tell_at (by assumption) (by assumption) ?ka ?kb) ?k1 ?k2 ?k3 ?k4 ?k5 ?k6 ?k7 ?k8 ?k9 ?_; (case ka => omega); (case kb => omega); (case k1 => k_asm); (case k2 => k_asm); (case k3 => k_asm); (case k4 => k_asm); (case k5 => k_asm); (case k6 => exact rfl); (case k7 => k_extra "z2"); (case k8 => k_extra "z3"); (case k9 => exact listAt (by assumption) (Fr.keep (by k_asm))); intro r9q42 h9q42 t9q42 F9q42 N9q42 o9q42; obtain ⟨n9q42, tn9q42, e9q42⟩ := o9q42; subst e9q42; (try k_sweep); (try dsimp only); (try k_fold)))
  k_with "call ref" => (k_here; (with_reducible show wpAny _ _ (call (Value.ref 538) _) _ _ _); k_dflt (refine' Tell0.use (tell_shown ?ka ?kb) ?k1 ?k2 ?k3 ?k4 ?k5 ?k6 ?k7 ?k8 ?k9 ?_; (case ka => first | with_reducible assumption | (refine Sz.app ?_ ?_ <;> first | with_reducible assumption | exact Sz.one (by decide +kernel))); (case kb => decide); (case k1 => k_asm); (case k2 => k_asm); (case k3 => k_asm); (case k4 => k_asm); (case k5 => k_asm); (case k6 => exact rfl); (case k7 => k_extra "z2"); (case k8 => k_extra "z3"); (case k9 => exact True.intro); intro r9q32 h9q32 t9q32 F9q32 N9q32 o9q32; obtain ⟨tn9q32, e9q32, hl9q32⟩ := o9q32; subst e9q32; (try k_sweep); (try dsimp only); (try k_fold)))
  k_with "subscriptTail Call" => (k_here; (with_reducible show wpAny _ _ (subscriptTail _ _ (Value.ref _) (Value.int (Int.fmod _ 5) _)) _ _ _); (with_reducible rename News _ _ _ _ => N8q43); k_dflt (refine' menu_item (xs := textsL) N8q43 ?ka ?kb ?kc ?kd ?ke ?_; (case ka => (with_unfolding_all exact .cons _ _ (.cons _ _ (.cons _ _ (.cons _ _ (.cons _ _ .nil)))))); (case kb => exact Int.fmod_nonneg_of_pos _ (by decide)); (case kc => exact Int.fmod_lt_of_pos _ (by decide)); (case kd => decide); (case ke => with_unfolding_all rfl); clear N8q43; intro x9q43 t9q43 hx9q43 N9q43; (have hxl9q43 := texts_sz hx9q43); (try dsimp only); (try k_fold)))
  k_with "call ref" => (k_here; (with_reducible show wpAny _ _ (call (Value.ref 552) _) _ _ _); k_dflt (refine' TellT.use (tell_inl1 (by assumption) (by assumption) ?ka ?kb) ?k1 ?k2 ?k3 ?k4 ?k5 ?k6 ?k7 ?k8 ?k9q51 ?_; (case ka => omega); (case kb => omega); (case k1 => k_asm); (case k2 => k_asm); (case k3 => k_asm); (case k4 => k_asm); (case k5 => k_asm); (case k6 => exact rfl); (case k7 => k_extra "z2"); (case k8 => k_extra "z3"); (case k9q51 => exact listAt (by assumption) (Fr.keep (by k_asm))); intro r9q51 tl9q51 h9q51 t9q51 F9q51 N9q51 hl9q51 o9q51; obtain ⟨a9q51, l9q51, vs9q51, x9q51, u9q51, v9q51, k9q51, e9q51, m9q51, ml9q51, hv9q51, hk9q51, hka9q51, hkb9q51⟩ := o9q51; subst e9q51; (have hxz9q51 := kids_sz (by decide) hv9q51 (hk9q51 true)); (try simp only [List.nil_append, List.cons_append] at N9q51); (try k_sweep); (try dsimp only); (try k_fold)))
  k_with "subscriptTail List" => (k_here; (with_reducible show wpAny _ _ (subscriptTail _ _ (Value.ref _) (Value.int (Int.fmod _ 4) _)) _ _ _); (with_reducible rename News _ _ _ _ => N8q52); k_dflt (refine' menu_at N8q52 ?ka ?kb ?kc ?kd ?ke ?_; (case ka => (with_unfolding_all exact .cons _ _ (.cons _ _ (.cons _ _ (.cons _ _ .nil))))); (case kb => exact Int.fmod_nonneg_of_pos _ (by decide)); (case kc => exact Int.fmod_lt_of_pos _ (by decide)); (case kd => decide); (case ke => with_unfolding_all rfl); clear N8q52; intro x9q52 t9q52 hx9q52 N9q52; (have hxl9q52 := Sz.one (at_len (n := 100000) hx9q52 (by decide +kernel))); (try dsimp only); (try k_fold)))
  k_with "call ref" => (k_here; (with_reducible show wpAny _ _ (call (Value.ref 559) _) _ _ _); (with_reducible rename (0 < _ → ∀ (_ : Int) (_ _ : Nat), _) => ih9q53); k_dflt (refine' TellT.use (ih9q53 ?kz _ _ _ ?ka ?kb) ?k1 ?k2 ?k3 ?k4 ?k5 ?k6 ?k7 ?k8 ?k9q53 ?_; (case kz => assumption); (case ka => omega); (case kb => omega); (case k1 => k_asm); (case k2 => k_asm); (case k3 => k_asm); (case k4 => k_asm); (case k5 => k_asm); (case k6 => exact rfl); (case k7 => k_extra "z2"); (case k8 => k_extra "z3"); (case k9q53 => exact listAt (by assumption) (Fr.keep (by k_asm))); intro r9q53 tl9q53 h9q53 t9q53 F9q53 N9q53 hl9q53 o9q53; obtain ⟨a9q53, v9q53, x9q53, u9q53, w9q53, k9q53, e9q53, m9q53, hT9q53, hka9q53, hkb9q53⟩ := o9q53; subst e9q53; (have hxz9q53 := tok_sz (by assumption) hT9q53); (try simp only [List.nil_append, List.cons_append] at N9q53); (try (have hne9q53 := hl9q53 _ (List.Mem.head _) _ m9q53; dsimp only at hne9q53)); replace N9q53 := news_dup (p := (a9q53, _)) N9q53 (by k_mem); (try k_sweep); (try dsimp only); (try k_fold)))
  k_with "pyIter ref" => (k_here; (with_reducible show wpAny _ _ (pyIter (Value.ref _)) (fun it s₂ => LoopAtV _ _ _ _ _ _ _ _ _ it s₂) _ _); (with_reducible rename Fr _ _ _ _ => lFpq54); (with_reducible rename News _ _ _ _ => lNpq54); (with_reducible rename IsRange _ _ _ _ _ _ _ _ => rgXq54); (with_reducible rename Bool => esc9q54); k_dflt (refine' loop_toks (M1 := 1) (on := Str.ofString "shown") (st := [Str.ofString "token", Str.ofString "out"]) (Es := fun e => e = esc9q54) ?hmb ?hnM ?hb0 ?ha ?hb ?hc ?hd rgXq54 (rng ?he ?hf).1 (rng ?he ?hf).2.1 lFpq54 lNpq54 ?hg ?hi ?hj ?hk ?hl ?hm (fun vs9q54 c9q54 y9q54 t9q54 k9q54 u9q54 uu9q54 Z9q54 h9q54 tk9q54 j9q54 tj9q54 hv9q54 hy9q54 hZ9q54 hka9q54 hkb9q54 F9q54 N9q54 => ?_) (fun vs9q54 c9q54 y9q54 t9q54 k9q54 u9q54 uu9q54 Z9q54 h9q54 tk9q54 hv9q54 hK9q54 hy9q54 hka9q54 hkb9q54 hZ9q54 F9q54 N9q54 => ?_); (case hmb => assumption); (case hnM => exact rngM (by decide) (by decide)); (case hb0 => first | decide | omega); (case ha => first | assumption | decide); (case hb => exact (rng (by decide) (by decide)).2.2); (case hc => first | exact ⟨true, trivial⟩ | exact ⟨_, rfl⟩); (case hd => exact rfl); (case he => decide); (case hf => decide); (case hg => k_mem); (case hi => exact rfl); (case hj => exact rfl); (case hk => decide +kernel); (case hl => decide +kernel); (case hm => decide +kernel); all_goals ((try dsimp only); (try k_fold))))
  k_with "ite" => (k_here; first | (with_reducible refine' ite_eqno (a := Int.fmod _ 9) ?h1 ?h2 ?_; (case h1 => with_reducible assumption); (case h2 => decide)) | ((with_reducible refine' ite_sp (a := Int.fmod _ 9) ?_ ?_) <;> intro hq9q55))
  k_with "look" => (with_reducible first | exact Look1.str | exact Look1.int | (refine' Look1.name ?hx ?hd ?hm; (case hx => k_dflt (exact rfl)); (case hd => k_dflt decide); (case hm => k_dflt (exact rfl))) | exact LookN.nil | (refine' LookN.cons ?x ?y; (case x => k_extra "look"); (case y => k_extra "look")) | exact LookP.nil | (refine' LookP.cons ?x ?y ?z; (case x => k_extra "look"); (case y => k_extra "look"); (case z => k_extra "look")))
  k_with "spliced" => (k_here; (with_reducible show wpAny _ _ (spliced (backTo _ (starEach (_ :: _) _))) _ _ _); (with_reducible rename Fr _ _ _ _ => F8q16); ((with_reducible refine' args_lk F8q16 ?he ?hk ?l ?_); (case he => k_dflt (exact ⟨_, _, _, _, rfl⟩)); (case hk => k_dflt (exact rfl)); (case l => k_extra "look")); (try dsimp only); (try k_fold))
  k_with "evalPairs" => (k_here; (with_reducible show wpAny _ _ (evalPairs (pairTrees (_ :: _) _ _ _)) _ _ _); (with_reducible rename Fr _ _ _ _ => F8q17); ((with_reducible refine' pairs_lk F8q17 ?he ?hk ?l ?_); (case he => k_dflt (exact ⟨_, _, _, _, rfl⟩)); (case hk => k_dflt (exact rfl)); (case l => k_extra "look")); (try dsimp only); (try k_fold))
  k_with "eval BinOp" => (k_here; (with_reducible show wpAny _ _ (eval (Expr.BinOp (Expr.Name _ _) _ (Expr.Constant _ _ _) _) _) _ _ _); (with_reducible rename Fr _ _ _ _ => F8q18); ((with_reducible refine' bin_lk F8q18 ?he ?hk ?l ?r ?_); (case he => k_dflt (exact ⟨_, _, _, _, rfl⟩)); (case hk => k_dflt (exact rfl)); (case l => k_extra "look"); (case r => k_extra "look")); (try dsimp only); (try k_fold))
  k_with "eval BinOp" => (k_here; (with_reducible show wpAny _ _ (eval (Expr.BinOp (Expr.Name _ _) _ (Expr.Name _ _) _) _) _ _ _); (with_reducible rename Fr _ _ _ _ => F8q19); ((with_reducible refine' bin_lk F8q19 ?he ?hk ?l ?r ?_); (case he => k_dflt (exact ⟨_, _, _, _, rfl⟩)); (case hk => k_dflt (exact rfl)); (case l => k_extra "look"); (case r => k_extra "look")); (try dsimp only); (try k_fold))
  k_with "exec If" => (k_here; (with_reducible show wpAny _ _ (exec (Stmt.If (Expr.Compare (Expr.Name _ _) [CmpOp.Eq] [Expr.Constant (Const.int _) _ _] _) _ _ _) _) _ _ _); (with_reducible rename Fr _ _ _ _ => F8q20); ((with_reducible refine' if_lk F8q20 ?he ?hk ?l ?r ?h ?_); (case he => k_dflt (exact ⟨_, _, _, _, rfl⟩)); (case hk => k_dflt (exact rfl)); (case l => k_extra "look"); (case r => k_extra "look"); (case h => k_dflt (with_unfolding_all rfl))); (try dsimp only); (try k_fold))
  k_with "storeName" => (k_here; (with_reducible rename Fr _ _ _ _ => F8q21); (with_reducible rename News _ _ _ _ => N8q21); ((with_reducible refine' store_lk F8q21 N8q21 ?he ?hk ?hx ?_); (case he => k_dflt (exact ⟨_, _, _, _, rfl⟩)); (case hk => k_dflt (exact rfl)); (case hx => k_dflt (exact rfl)); intro h9q21 m9q21 F9q21 N9q21; (try clear F8q21 N8q21); (try dsimp only); (try k_fold)))
  trivial
theorem tell_block_step {w : World} {sa : Addr} {vs : List Value} {ns : List Int} {k : Int} {tk : Nat} (hi : IntsAre vs ns) (hlen : ns.length ≤ 63) {td : Nat} {esc : Bool} {d : Int} {l dn ne : Nat} {b : Int} (hmb : Marked b) (hl2 : 2 ≤ l) (hq5 : l ≤ 5) (hb : 8 ≤ b) (hq1 : 1 + dn ≤ dn + 10) (hq2 : 110 ≤ dn + 10) (hq3 : 3 + ne ≤ ne + 100) (hq4 : 1100 ≤ ne + 100) (hk0 : 0 ≤ k) (hk1 : k + 2 * b + 1 ≤ 900)
    (ih : 0 < d → ∀ (k : Int) (tk td : Nat), 0 ≤ k → k + b ≤ 900 → TellT w 559 dn ne [.ref sa, .int k tk, .int (d - 1) td, .bool esc] (fun h => h.IsList sa vs.toArray) (BlkOut w esc l b k)) :
    TellT w 559 (dn + 10) (ne + 100) [.ref sa, .int k tk, .int d td, .bool esc] (fun h => h.IsList sa vs.toArray) (BlkOut w esc (l + 1) (2 * b + 1) k) := by
  intro p loose mean mg mb dp un gd cn cs a ccd cl outer A₀ base h₀ L m news s Q E B F X N T hk hdp hun hpre ret
  refine fillT w ?_
  k_fill
  intro _ _
  refine wpAny_call ?_
  k_dflt ((refine' code_all ?k1 ?k2 ?k3 ?k4 ?k5 ?kA ?kF ?kK ?k6 ?k7 ?k8 ?k9 ?kB ?_ ?c2 ?c3 ?c4 ?c5; (case kA => exact rfl); (case kF => exact rfl); (case kK => first | assumption | exact rfl); (case k1 => k_asm); (case k2 => k_asm); (case k3 => k_asm); (case k4 => k_asm); (case k5 => k_asm); (case k6 => k_is); (case k7 => k_is); (case k8 => ((try simp only [depth_under_make, depth_under_kw, depth_in1, depth_deeper, depth_caller]); (try dsimp only [ktrTop]); omega)); (case k9 => first | exact BindsTo.of_eq rfl | exact binds_K (by k_in) rfl (by k_is) rfl rfl rfl | fail "enter: no rule for these arguments"); (case c5 => decide); (case kB => exact locs rfl); (case c2 => exact rfl); (case c3 => exact rfl); (case c4 => exact rfl); k_whole); intro g0 L0 h' FG' F' N' B' X' T' hs0; (try dsimp only); (try k_fold))
  replace hpre := listAt hpre hs0
  repeat' (first | ((with_reducible show Q _ _); fail) | ((with_reducible show TurnPost _ _ _ _ _ _ _ _ _ _ _ _ _ _ _ _ _ _ _); fail) | (k_unfold; (try dsimp only)) | ((fail_if_success (with_reducible show Q _ _)); (fail_if_success (with_reducible show TurnPost _ _ _ _ _ _ _ _ _ _ _ _ _ _ _ _ _ _ _)); walk1) | ((fail_if_success (with_reducible show Q _ _)); (fail_if_success (with_reducible show TurnPost _ _ _ _ _ _ _ _ _ _ _ _ _ _ _ _ _ _ _)); dsimp only; walk1) | (leave1; try dsimp only) | fail "no step")
  all_goals first
    | (fail_if_success (with_reducible show Q _ _)
       with_reducible rename Fr g0 _ _ _ => F9
       with_reducible rename News g0 _ _ _ => N9
       refine turn_blk rfl F9 N9 (by with_reducible assumption) (fun e he => by cases he; with_reducible assumption) rfl rfl (by with_reducible assumption) (by with_reducible assumption) (fun z z1 z2 z3 z4 => ?_)
       have z5 := st_ne z4 (a := Str.ofString "token") (by simp)
       have z6 := st_ne z4 (a := Str.ofString "out") (by simp)
       repeat (first | (with_reducible exact rfl) | (refine Eq.trans (if_neg ?_) ?_; · first | (with_reducible first | assumption | exact ne_true_of_eq_false (by assumption)) | exact z3)))
    | (with_reducible rename Fr h₀ L _ _ => kF
       with_reducible rename News h₀ L _ _ => kN
       with_reducible rename Fr g0 _ _ _ => F9
       with_reducible rename News g0 _ _ _ => N9
       refine ret _ _ _ _ kF (backT N hs0 F9 kN) (apart N hs0 N9) ?_
       first
       | (refine ⟨_, _, _, _, _, _, rfl, by k_mem, tokS ?sh, (bnd1 hb).1, (bnd1 hb).2⟩)
       | (refine ⟨_, _, _, _, _, _, rfl, by k_mem, tokS ?sh, (bnd2 hb (by with_reducible assumption) (by with_reducible assumption)).1, (bnd2 hb (by with_reducible assumption) (by with_reducible assumption)).2⟩)
       | (refine ⟨_, _, _, _, _, _, rfl, by k_mem, tokS ?sh, (bnd3 hb (by with_reducible assumption) (by with_reducible assumption)).1, (bnd3 hb (by with_reducible assumption) (by with_reducible assumption)).2⟩)
       case sh => first
         | ((with_reducible refine' Shape.rule ?da); (case da => exact ⟨_, by k_mem, isd (by with_reducible assumption) (by exact rfl), by with_reducible assumption⟩))
         | ((with_reducible refine' Shape.blank ?da); (case da => exact ⟨_, by k_mem, isd (by with_reducible assumption) (by exact rfl), by with_reducible assumption⟩))
         | ((with_reducible refine' Shape.codeI ?da ?ha); (case da => exact ⟨_, by k_mem, isd (by with_reducible assumption) (by exact rfl), by with_reducible assumption⟩); (case ha => with_reducible assumption))
         | ((with_reducible refine' Shape.codeF ?da ?ha ?db ?hb); (case da => exact ⟨_, by k_mem, isd (by with_reducible assumption) (by exact rfl), by with_reducible assumption⟩); (case ha => with_reducible assumption); (case db => exact ⟨_, by k_mem, isd (by with_reducible assumption) (by exact rfl), by with_reducible assumption⟩); (case hb => first | exact info_n (by with_reducible assumption) (by with_reducible assumption) (by with_reducible assumption) | exact info_s (by with_reducible assumption) (by with_reducible assumption) (by with_reducible assumption) | exact info_f (by with_reducible assumption) (by with_reducible assumption) (by with_reducible assumption) | exact info_g (by with_reducible assumption) (by with_reducible assumption) (by with_reducible assumption) | exact info_h (by with_reducible assumption) (by with_reducible assumption) (by with_reducible assumption)))
         | ((with_reducible refine' html_t ?he ?da ?ha); (case he => with_reducible assumption); (case da => exact ⟨_, by k_mem, isd (by with_reducible assumption) (by exact rfl), by with_reducible assumption⟩); (case ha => with_reducible assumption))
         | ((with_reducible refine' html_f ?he ?da ?ha); (case he => with_reducible assumption); (case da => exact ⟨_, by k_mem, isd (by with_reducible assumption) (by exact rfl), by with_reducible assumption⟩); (case ha => with_reducible assumption))
         | (first | with_reducible rename ∀ esc, Kids _ _ _ => hkids | rename ∀ e, e = _ → Kids _ _ _ => hkids
            first
            | ((with_reducible refine' Shape.para ?da ?la ?hv ?hk); (case da => exact ⟨_, by k_mem, isd (by with_reducible assumption) (by exact rfl), by with_reducible assumption⟩); (case la => first | exact LA.in (by with_reducible assumption) (fun d9 o9 hm9 => by k_mem) | exact ⟨_, by k_mem⟩); (case hv => first | with_reducible assumption | exact Nat.le_trans (by with_reducible assumption) (by decide : 1 + 1 ≤ 3) | omega); (case hk => exact Kids.in (by first | exact hkids _ | exact hkids _ rfl) (by first | assumption | exact Nat.le_refl _) (fun d9 o9 hm9 => by k_mem)))
            | ((with_reducible refine' Shape.quote ?da ?la ?hv ?hk); (case da => exact ⟨_, by k_mem, isd (by with_reducible assumption) (by exact rfl), by with_reducible assumption⟩); (case la => first | exact LA.in (by with_reducible assumption) (fun d9 o9 hm9 => by k_mem) | exact ⟨_, by k_mem⟩); (case hv => first | with_reducible assumption | exact Nat.le_trans (by with_reducible assumption) (by decide : 1 + 1 ≤ 3) | omega); (case hk => exact Kids.in (by first | exact hkids _ | exact hkids _ rfl) (by first | assumption | exact Nat.le_refl _) (fun d9 o9 hm9 => by k_mem)))
            | ((with_reducible refine' Shape.head ?da ?la ?hv ?hk ?db ?h1 ?h2); (case da => exact ⟨_, by k_mem, isd (by with_reducible assumption) (by exact rfl), by with_reducible assumption⟩); (case la => first | exact LA.in (by with_reducible assumption) (fun d9 o9 hm9 => by k_mem) | exact ⟨_, by k_mem⟩); (case hv => first | with_reducible assumption | exact Nat.le_trans (by with_reducible assumption) (by decide : 1 + 1 ≤ 3) | omega); (case hk => exact Kids.in (by first | exact hkids _ | exact hkids _ rfl) (by first | assumption | exact Nat.le_refl _) (fun d9 o9 hm9 => by k_mem)); (case db => exact ⟨_, by k_mem, isd (by with_reducible assumption) (by exact rfl), by with_reducible assumption⟩); (case h1 => exact (lt6 (Int.fmod_nonneg_of_pos _ (by decide)) (Int.fmod_lt_of_pos _ (by decide))).1); (case h2 => exact (lt6 (Int.fmod_nonneg_of_pos _ (by decide)) (Int.fmod_lt_of_pos _ (by decide))).2))
            | ((with_reducible refine' Shape.headI ?da ?la ?hv ?hk ?db ?h1 ?h2 ?ha); (case da => exact ⟨_, by k_mem, isd (by with_reducible assumption) (by exact rfl), by with_reducible assumption⟩); (case la => first | exact LA.in (by with_reducible assumption) (fun d9 o9 hm9 => by k_mem) | exact ⟨_, by k_mem⟩); (case hv => first | with_reducible assumption | exact Nat.le_trans (by with_reducible assumption) (by decide : 1 + 1 ≤ 3) | omega); (case hk => exact Kids.in (by first | exact hkids _ | exact hkids _ rfl) (by first | assumption | exact Nat.le_refl _) (fun d9 o9 hm9 => by k_mem)); (case db => exact ⟨_, by k_mem, isd (by with_reducible assumption) (by exact rfl), by with_reducible assumption⟩); (case h1 => exact (lt6 (Int.fmod_nonneg_of_pos _ (by decide)) (Int.fmod_lt_of_pos _ (by decide))).1); (case h2 => exact (lt6 (Int.fmod_nonneg_of_pos _ (by decide)) (Int.fmod_lt_of_pos _ (by decide))).2); (case ha => with_reducible assumption))
            | ((with_reducible refine' Shape.blockText ?da ?la ?hv ?hk); (case da => exact ⟨_, by k_mem, isd (by with_reducible assumption) (by exact rfl), by with_reducible assumption⟩); (case la => first | exact LA.in (by with_reducible assumption) (fun d9 o9 hm9 => by k_mem) | exact ⟨_, by k_mem⟩); (case hv => first | with_reducible assumption | exact Nat.le_trans (by with_reducible assumption) (by decide : 1 + 1 ≤ 3) | omega); (case hk => exact Kids.in (by first | exact hkids _ | exact hkids _ rfl) (by first | assumption | exact Nat.le_refl _) (fun d9 o9 hm9 => by k_mem)))))
end
section
section
variable {w : World} {sa : Addr} {vs : List Value} {ns : List Int} {k : Int} {t1 t2 : Nat} {esc : Bool} (hi : IntsAre vs ns) (hlen : ns.length ≤ 63) (hk0 : 0 ≤ k)
include hi hlen hk0
theorem tell_block0 (hk1 : k + 17 ≤ 900) : TellT w 559 110 1100 [.ref sa, .int k t1, .int 0 t2, .bool esc] (fun h => h.IsList sa vs.toArray) (BlkOut w esc 3 17 k) :=
  tell_block_step (d := 0) (l := 2) (dn := 100) (ne := 1000) (b := 8) hi hlen (.mk _) (by decide) (by decide) (by decide) (by decide) (by decide) (by decide) (by decide) hk0 (by omega) (fun h => absurd h (by decide))
theorem tell_block1 (hk1 : k + 35 ≤ 900) : TellT w 559 120 1200 [.ref sa, .int k t1, .int 1 t2, .bool esc] (fun h => h.IsList sa vs.toArray) (BlkOut w esc 4 35 k) :=
  tell_block_step (d := 1) (l := 3) (dn := 110) (ne := 1100) (b := 17) hi hlen (.mk _) (by decide) (by decide) (by decide) (by decide) (by decide) (by decide) (by decide) hk0 (by omega) (fun _ _ _ _ h0 h1 => tell_block0 hi hlen h0 h1)
theorem tell_block2 (hk1 : k + 71 ≤ 900) : TellT w 559 130 1300 [.ref sa, .int k t1, .int 2 t2, .bool esc] (fun h => h.IsList sa vs.toArray) (BlkOut w esc 5 71 k) :=
  tell_block_step (d := 2) (l := 4) (dn := 120) (ne := 1200) (b := 35) hi hlen (.mk _) (by decide) (by decide) (by decide) (by decide) (by decide) (by decide) (by decide) hk0 (by omega) (fun _ _ _ _ h0 h1 => tell_block1 hi hlen h0 h1)
end
end
section
open PySem.W.KStt (codes)
theorem lines_NA2 : True := by
  k_with_none
  k_with "z1" => (((try simp only [depth_under_make, depth_under_kw, depth_in1, depth_deeper, depth_caller]); (try dsimp only [ktrTop]); omega))
  k_with "ktr_enter" => ((refine' code_def ?k1 ?k2 ?k3 ?k4 ?k5 ?kA ?kF ?kK ?k6 ?k7 ?k8 ?k9 ?kB ?_ ?c2 ?c3 ?c4 ?c5; (case kA => exact rfl); (case kF => exact rfl); (case kK => first | assumption | exact rfl); (case k1 => k_asm); (case k2 => k_asm); (case k3 => k_asm); (case k4 => k_asm); (case k5 => k_asm); (case k6 => k_is); (case k7 => k_is); (case k8 => k_extra "z1"); (case k9 => first | exact BindsTo.of_eq rfl | exact binds_K (by k_in) rfl (by k_is) rfl rfl rfl | fail "enter: no rule for these arguments"); (case c5 => decide); (case kB => exact locs rfl); (case c2 => exact rfl); (case c3 => exact rfl); (case c4 => exact rfl); k_whole); intro gpq0 Lpq0 hpq0 FGpq0 Fpq0 Npq0 Bpq0 Xpq0 Tpq0; (try dsimp only); (try k_lift Bpq0); (try k_fold))
  k_with "k_mem" => (first | with_reducible exact List.mem_cons_self | with_reducible assumption | (with_reducible refine List.mem_cons_of_mem _ ?_; k_mem) | (with_reducible refine List.mem_append_left _ ?_; k_mem) | (with_reducible refine List.mem_append_right _ ?_; k_mem))
  k_with "execs cons" => (k_here; k_dflt (refine wpAny_execs_cons ?_))
  k_with "execs cons" => (k_here; (with_reducible refine execs_cons_gen ?_); intro tk9q3)
  k_with "execs nil" => (k_here; (with_reducible refine wpAny_execs_nil ?_))
  k_with "exec If" => (k_here; k_dflt (refine wpAny_If ?_))
  k_with "ite" => (k_here; first | (with_reducible refine ite_tt ?_) | (with_reducible refine ite_ff ?_) | (k_closed; (first | (with_reducible refine iteP ?iteC ?_; (case iteC => decide)) | (with_reducible refine iteN ?iteC ?_; (case iteC => decide)))) | (with_reducible refine split_ine ?_ ?_ <;> intro _) | (with_reducible refine split_ieq ?_ ?_ <;> intro _) | with_reducible refine split_not ?_ | (with_reducible refine iteDec ?_ ?_ <;> intro _) | (with_reducible refine iteB ?_ ?_ <;> intro _))
  k_with "callWith ref" => (k_here; k_dflt ((with_reducible refine' callWith_K ?k1 ?k2 ?_ ?he ?hp); (case he => exact rfl); (case hp => exact rfl); (case k1 => k_asm); (case k2 => k_is)))
  k_with "callWith ref" => (k_here; k_dflt ((with_reducible refine' callWith_K0 ?k1 ?k2 ?_); (case k1 => exact Frag.In.keeps (by with_reducible assumption) (Fr.keep (by with_reducible assumption))); (case k2 => k_is); (try dsimp only [List.nil_append])))
  k_with "callWith" => (k_here; k_dflt ((with_reducible refine' callWith_m1 ?_ ?he ?hp); (case he => exact rfl); (case hp => exact rfl)))
  k_with "binaryOp Mod int int" => (k_here; (with_reducible refine' mod_int' ?kbe ?_); (case kbe => decide); (try dsimp only); (try k_fold))
  k_with "call builtin:str.join" => (k_here; (with_reducible show wpAny _ _ (call (Value.builtin _) [Value.str _ _, Value.ref _]) _ _ _); k_dflt (first | ((with_reducible refine' join_0 ?k1 ?k2 ?_); (case k1 => k_asm); (case k2 => k_mem)) | ((with_reducible refine' join_1 ?k1 ?k2 ?ka ?kn ?_); (case k1 => k_asm); (case k2 => k_mem); (case ka => with_reducible assumption); (case kn => decide)) | ((with_reducible refine' join_2 ?k1 ?k2 ?ka ?kb ?kn ?_); (case k1 => k_asm); (case k2 => k_mem); (case ka => with_reducible assumption); (case kb => with_reducible assumption); (case kn => decide))); intro t9q68 k9q68; (try dsimp only); (try k_fold))
  k_with "k_room" => (((try simp only [depth_under_make, depth_under_kw, depth_in1, depth_deeper, depth_caller]); (try dsimp only [ktrTop]); omega))
  k_with "ktr_enter" => ((refine' code_def ?k1 ?k2 ?k3 ?k4 ?k5 ?kA ?kF ?kK ?k6 ?k7 ?k8 ?k9 ?kB ?_ ?c2 ?c3 ?c4 ?c5; (case kA => exact rfl); (case kF => exact rfl); (case kK => first | assumption | exact rfl); (case k1 => k_asm); (case k2 => k_asm); (case k3 => k_asm); (case k4 => k_asm); (case k5 => k_asm); (case k6 => k_is); (case k7 => k_is); (case k8 => k_extra "z1"); (case k9 => first | exact BindsTo.of_eq rfl | exact binds_K (by k_in) rfl (by k_is) rfl rfl rfl | fail "enter: no rule for these arguments"); (case c5 => decide); (case kB => exact locs rfl); (case c2 => exact rfl); (case c3 => exact rfl); (case c4 => exact rfl); k_whole); intro gpq70 Lpq70 hpq70 FGpq70 Fpq70 Npq70 Bpq70 Xpq70 Tpq70; (try dsimp only); (try k_lift Bpq70); (try k_fold); (try have hIL := InstAt.kept (by with_reducible assumption) (Fr.keep FGpq70)); (try have hSL := SelfAt.kept (by with_reducible assumption) (Fr.keep FGpq70)))
  k_with "k_enter" => ((refine' code_def ?k1 ?k2 ?k3 ?k4 ?k5 ?kA ?kF ?kK ?k6 ?k7 ?k8 ?k9 ?kB ?_ ?c2 ?c3 ?c4 ?c5; (case kA => exact rfl); (case kF => exact rfl); (case kK => first | assumption | exact rfl); (case k1 => k_asm); (case k2 => k_asm); (case k3 => k_asm); (case k4 => k_asm); (case k5 => k_asm); (case k6 => k_is); (case k7 => k_is); (case k8 => k_extra "z1"); (case k9 => first | exact BindsTo.of_eq rfl | exact binds_K (by k_in) rfl (by k_is) rfl rfl rfl | fail "enter: no rule for these arguments"); (case c5 => decide); (case kB => exact locs rfl); (case c2 => exact rfl); (case c3 => exact rfl); (case c4 => exact rfl); k_whole); intro gpq71 Lpq71 hpq71 FGpq71 Fpq71 Npq71 Bpq71 Xpq71 Tpq71; (try dsimp only); (try k_lift Bpq71); (try k_fold); (try have hIL := InstAt.kept (by with_reducible assumption) (Fr.keep FGpq71)); (try have hSL := SelfAt.kept (by with_reducible assumption) (Fr.keep FGpq71)))
  k_with "eval Call" => (k_here; (with_reducible show wpAny _ _ (eval (Expr.Call (Expr.Name _ _) _ [] _) _) _ _ _); k_dflt (refine Call_ ?_))
  k_with "binaryOp Add str str" => (k_here; k_dflt ((with_reducible refine' add_strP (Sz.app ?sa ?sb) ?hn ?_); (case sa => first | with_reducible assumption | exact raw_sz (by with_reducible assumption) | (refine Sz.one ?_; first | decide +kernel | exact num_sz _)); (case sb => first | with_reducible assumption | exact raw_sz (by with_reducible assumption) | (refine Sz.one ?_; first | decide +kernel | exact num_sz _)); (case hn => decide); intro t9q72 k9q72 hz9q72; (try dsimp only); (try k_fold)))
  k_with "k_all" => (first | with_reducible assumption | exact List.forall_mem_nil _ | (with_reducible refine' List.forall_mem_cons.mpr ⟨?ka, ?kb⟩; (case ka => k_ne); (case kb => k_all)) | (with_reducible refine' ltNe2 ?ka; (case ka => with_reducible assumption)) | (with_reducible refine' ltNe3 ?ka; (case ka => with_reducible assumption)) | (with_reducible refine' ltNe4 ?ka; (case ka => with_reducible assumption)) | (with_reducible refine' List.forall_mem_append.mpr ⟨?ka, ?kb⟩; (case ka => k_all); (case kb => k_all)) | (with_reducible refine' apartE ?ka ?kb; (case ka => with_reducible assumption); (case kb => k_mem)) | (with_reducible refine' ltNe ?ka; (case ka => with_reducible assumption)))
  k_with "k_ne" => (refine neN ?_; (try dsimp only); first | with_reducible assumption | (with_reducible exact Ne.symm (by assumption)) | (with_reducible exact Nat.ne_of_lt (by assumption)) | (with_reducible exact Nat.ne_of_gt (by assumption)) | omega)
  k_with "ite" => (k_here; first | (with_reducible refine iteP (by with_reducible assumption) ?_) | (with_reducible refine iteF (by with_reducible assumption) ?_))
  k_with "k_inst" => ((with_reducible refine' inst_fr ?ib ?ia; (case ib => with_reducible assumption); (case ia => with_reducible assumption)))
  k_with "call ref" => (k_here; (first | (with_reducible show wpAny _ _ (call (Value.ref 320) _) _ _ _)); k_dflt (refine wpAny_call ?_; ktr_enter))
  k_with "z2" => ((with_reducible rename _ + _ < recursionLimit => hr9; first | exact room1 hr9 (by first | decide | assumption | (refine' Nat.le_trans ?qa ?qb; (case qb => assumption); (case qa => decide))) | ((try simp only [depth_under_make, depth_under_kw, depth_in1, depth_deeper, depth_caller, units_in1, units_deeper, units_caller]); (try dsimp only [ktrTop]); omega)))
  k_with "z3" => ((with_reducible rename _ + _ < cLine => hr9; first | exact room3 hr9 (by first | decide | assumption | (refine' Nat.le_trans ?qa ?qb; (case qb => assumption); (case qa => decide))) | ((try simp only [depth_under_make, depth_under_kw, depth_in1, depth_deeper, depth_caller, units_in1, units_deeper, units_caller]); (try dsimp only [ktrTop]); omega)))
  k_with "call ref" => (k_here; (with_reducible show wpAny _ _ (call (Value.ref 238) _) _ _ _); k_dflt (refine' Tell0.use (tell_escapeL ?ka ?kb) ?k1 ?k2 ?k3 ?k4 ?k5 ?k6 ?k7 ?k8 ?k9 ?_; (case ka => first | with_reducible assumption | exact raw_lit (by decide +kernel)); (case kb => first | with_reducible assumption | exact rfl); (case k1 => k_asm); (case k2 => k_asm); (case k3 => k_asm); (case k4 => k_asm); (case k5 => k_asm); (case k6 => exact rfl); (case k7 => k_extra "z2"); (case k8 => k_extra "z3"); (case k9 => exact True.intro); intro r9q75 h9q75 t9q75 F9q75 N9q75 o9q75; obtain ⟨tn9q75, e9q75⟩ := o9q75; subst e9q75; (try have hl9q75 := raw_sz (by with_reducible assumption)); (try k_sweep); (try dsimp only); (try k_fold)))
  k_with "call ref" => (k_here; (with_reducible show wpAny _ _ (call (Value.ref 245) _) _ _ _); k_dflt (refine' Tell0.use (tell_safeL ?ka ?kb) ?k1 ?k2 ?k3 ?k4 ?k5 ?k6 ?k7 ?k8 ?k9 ?_; (case ka => first | with_reducible assumption | exact raw_lit (by decide +kernel)); (case kb => first | with_reducible assumption | exact rfl); (case k1 => k_asm); (case k2 => k_asm); (case k3 => k_asm); (case k4 => k_asm); (case k5 => k_asm); (case k6 => exact rfl); (case k7 => k_extra "z2"); (case k8 => k_extra "z3"); (case k9 => exact True.intro); intro r9q76 h9q76 t9q76 F9q76 N9q76 o9q76; obtain ⟨tn9q76, e9q76⟩ := o9q76; subst e9q76; (try have hl9q76 := raw_sz (by with_reducible assumption)); (try k_sweep); (try dsimp only); (try k_fold)))
  k_with "subscriptTail Name" => (k_here; (with_reducible show wpAny _ _ (subscriptTail _ _ (Value.ref _) (Value.str _ _)) _ _ _); k_dflt ((with_reducible refine' g_item ?x ?F ?hl ?_ ?hs ?hg); (case x => with_reducible assumption); (case F => with_reducible assumption); (case hl => exact rfl); (case hs => with_unfolding_all rfl); (case hg => (intro _; with_unfolding_all rfl)); (try dsimp only); (try k_fold)))
  k_with "compareOp In str ref" => (k_here; k_dflt (first | ((with_reducible refine' g_in ?x ?F true ?hl ?_); (case x => with_reducible assumption); (case F => with_reducible assumption); (case hl => exact rfl)) | ((with_reducible refine' g_in ?x ?F false ?hl ?_); (case x => with_reducible assumption); (case F => with_reducible assumption); (case hl => exact rfl))); (try dsimp only); (try k_fold))
  k_with "getMethod ref" => (k_here; (with_reducible show wpAny _ _ (getMethod (Value.ref _) (Str.ofString "get") _) _ _ _); k_dflt ((with_reducible refine' g_meth ?x ?F ?_); (case x => with_reducible assumption); (case F => with_reducible assumption); (try dsimp only); (try k_fold)))
  k_with "call builtin:dict.get" => (k_here; k_dflt (first | ((with_reducible refine' g_get ?x ?F (some _) ?hl ?_); (case x => with_reducible assumption); (case F => with_reducible assumption); (case hl => exact rfl)) | ((with_reducible refine' g_get ?x ?F none ?hl ?_); (case x => with_reducible assumption); (case F => with_reducible assumption); (case hl => exact rfl))); (try dsimp only [Option.getD]); (try dsimp only); (try k_fold))
  k_with "callWith ref" => (k_here; (with_reducible show wpAny _ _ (callWith _ _ _ _ (backToKw _ (keywordEach [⟨none, _, _⟩] _))) _ _ _); k_dflt (first | ((with_reducible refine' callWith_MS ?k1 ?k2 ?k3 ?k4 ?_ ?he); (case he => exact rfl); (case k1 => k_asm); (case k2 => k_asm); (case k3 => k_mem); (case k4 => k_is)) | ((with_reducible refine' callWith_MS0 ?k1 ?k2 ?k3 ?k4 ?_); (case k1 => k_asm); (case k2 => k_asm); (case k3 => k_mem); (case k4 => k_is))); (try dsimp only))
  k_with "KwStar" => (k_here; k_dflt ((with_reducible refine' kw_star' ?k1 ?k2 ?_); (case k1 => k_asm); (case k2 => k_asm); intro d9q82 h9q82 F9q82 N9q82 hap9q82; (try k_sweep); (try dsimp only); (try k_fold)))
  k_with "KwDict" => (k_here; k_dflt ((with_reducible refine' kw_dict ?x ?F ?N ?ha ?hz ?_); (case x => with_reducible assumption); (case F => k_asm); (case N => k_asm); (case ha => with_reducible assumption); (case hz => exact Nat.le_of_ble_eq_true rfl); intro h9q83 F9q83 N9q83; (try k_sweep); (try dsimp only); (try k_fold)))
  k_with "truthy ref" => (k_here; k_dflt (((with_reducible refine' g_truthy ?x ?F true ?hb ?hf ?_); (case x => with_reducible assumption); (case F => with_reducible assumption); (case hb => exact rfl); (case hf => exact Nat.le_of_ble_eq_true rfl)); (try dsimp only); (try k_fold)))
  k_with "getMethod ref" => (k_here; (with_reducible show wpAny _ _ (getMethod (Value.ref 279) _ _) _ _ _); k_dflt ((with_reducible refine' meth_279 ?x ?F ?_); (case F => k_asm); (case x => k_asm); (try dsimp only); (try k_fold)))
  k_with "call builtin:re.Pattern.fullmatch" => (k_here; k_dflt ((with_reducible refine' full_279 ?hx ?X ?F ?N ?_); (case F => k_asm); (case N => k_asm); (case X => k_asm); (case hx => first | with_reducible assumption | with_reducible exact ⟨full_class, by decide +kernel⟩ | with_reducible exact ⟨full_href, by decide +kernel⟩ | with_reducible exact ⟨full_title, by decide +kernel⟩ | with_reducible exact ⟨full_id, by decide +kernel⟩); intro mt9q86 o9q86 h9q86 hm9q86 F9q86 N9q86 hl9q86; (try k_lt hl9q86); (try k_sweep); (try dsimp only); (try k_fold)))
  k_with "truthy ref" => (k_here; k_dflt ((with_reducible refine' match_true ?N ?hm ?hc ?_); (case N => k_asm); (case hm => k_mem); (case hc => with_reducible assumption); (try dsimp only); (try k_fold)))
  k_with "call type:str" => (k_here; (with_reducible show wpAny _ _ (call (Value.type "str") [Value.str _ _]) _ _ _); k_dflt (refine P.str_of_str ?_))
  k_with "call builtin:list.append" => (k_here; (with_reducible show wpAny _ _ (call (Value.builtin _) [Value.ref _, _]) _ _ _); k_dflt ((with_reducible refine' append_tok ?k1 ?k2 ?k3 ?k4 ?_); (case k1 => k_asm); (case k2 => k_asm); (case k3 => k_upd); (case k4 => decide); intro h9q89 F9q89 N9q89; (try dsimp only); (try k_sweep); (try k_fold)))
  k_with "look" => (with_reducible first | exact Look1.str | exact Look1.int | (refine' Look1.name ?hx ?hd ?hm; (case hx => k_dflt (exact rfl)); (case hd => k_dflt decide); (case hm => k_dflt (exact rfl))) | exact LookN.nil | (refine' LookN.cons ?x ?y; (case x => k_extra "look"); (case y => k_extra "look")) | exact LookP.nil | (refine' LookP.cons ?x ?y ?z; (case x => k_extra "look"); (case y => k_extra "look"); (case z => k_extra "look")))
  k_with "spliced" => (k_here; (with_reducible show wpAny _ _ (spliced (backTo _ (starEach (_ :: _) _))) _ _ _); (with_reducible rename Fr _ _ _ _ => F8q16); ((with_reducible refine' args_lk F8q16 ?he ?hk ?l ?_); (case he => k_dflt (exact ⟨_, _, _, _, rfl⟩)); (case hk => k_dflt (exact rfl)); (case l => k_extra "look")); (try dsimp only); (try k_fold))
  k_with "evalPairs" => (k_here; (with_reducible show wpAny _ _ (evalPairs (pairTrees (_ :: _) _ _ _)) _ _ _); (with_reducible rename Fr _ _ _ _ => F8q17); ((with_reducible refine' pairs_lk F8q17 ?he ?hk ?l ?_); (case he => k_dflt (exact ⟨_, _, _, _, rfl⟩)); (case hk => k_dflt (exact rfl)); (case l => k_extra "look")); (try dsimp only); (try k_fold))
  k_with "eval BinOp" => (k_here; (with_reducible show wpAny _ _ (eval (Expr.BinOp (Expr.Name _ _) _ (Expr.Constant _ _ _) _) _) _ _ _); (with_reducible rename Fr _ _ _ _ => F8q18); ((with_reducible refine' bin_lk F8q18 ?he ?hk ?l ?r ?_); (case he => k_dflt (exact ⟨_, _, _, _, rfl⟩)); (case hk => k_dflt (exact rfl)); (case l => k_extra "look"); (case r => k_extra "look")); (try dsimp only); (try k_fold))
  k_with "eval BinOp" => (k_here; (with_reducible show wpAny _ _ (eval (Expr.BinOp (Expr.Name _ _) _ (Expr.Name _ _) _) _) _ _ _); (with_reducible rename Fr _ _ _ _ => F8q19); ((with_reducible refine' bin_lk F8q19 ?he ?hk ?l ?r ?_); (case he => k_dflt (exact ⟨_, _, _, _, rfl⟩)); (case hk => k_dflt (exact rfl)); (case l => k_extra "look"); (case r => k_extra "look")); (try dsimp only); (try k_fold))
  k_with "exec If" => (k_here; (with_reducible show wpAny _ _ (exec (Stmt.If (Expr.Compare (Expr.Name _ _) [CmpOp.Eq] [Expr.Constant (Const.int _) _ _] _) _ _ _) _) _ _ _); (with_reducible rename Fr _ _ _ _ => F8q20); ((with_reducible refine' if_lk F8q20 ?he ?hk ?l ?r ?h ?_); (case he => k_dflt (exact ⟨_, _, _, _, rfl⟩)); (case hk => k_dflt (exact rfl)); (case l => k_extra "look"); (case r => k_extra "look"); (case h => k_dflt (with_unfolding_all rfl))); (try dsimp only); (try k_fold))
  k_with "storeName" => (k_here; (with_reducible rename Fr _ _ _ _ => F8q21); (with_reducible rename News _ _ _ _ => N8q21); ((with_reducible refine' store_lk F8q21 N8q21 ?he ?hk ?hx ?_); (case he => k_dflt (exact ⟨_, _, _, _, rfl⟩)); (case hk => k_dflt (exact rfl)); (case hx => k_dflt (exact rfl)); intro h9q21 m9q21 F9q21 N9q21; (try clear F8q21 N8q21); (try dsimp only); (try k_fold)))
  trivial
theorem tell_attrs2 {w : World} {esc : Bool} {sa : Addr} {d : Addr} {od : Obj} {n1 x1 n2 x2 : Str} {t1 t2 : Nat} (hnm1 : full n1 = true ∧ n1.cps.size < 1000) (hz1 : Sz n1 1) (hx1 : x1 ∈ rawsL) (hnm2 : full n2 = true ∧ n2.cps.size < 1000) (hz2 : Sz n2 1) (hx2 : x2 ∈ rawsL) (hlo : (d == sysModules) = false) (hd : Obj.IsDictOf (PySem.strKind PySem.Challenge.rw_ba0042_01.row.prog w) od [(n1, .str x1 t1), (n2, .str x2 t2)]) (hf : PyProof.V.FlatPairs PyData.str [(n1, .str x1 t1), (n2, .str x2 t2)] [(.str n1, .str x1), (.str n2, .str x2)]) : TellO w 327 60 600 [.ref sa, .ref d] [] [(d, od)] (fun h => SelfAt w esc h sa) (fun r => ∃ t, r = .str (attrF n1 x1 ++ attrF n2 x2) t ∧ Sz (attrF n1 x1 ++ attrF n2 x2) 10) := by
  intro p loose mean mg mb dp un gd cn cs a ccd cl outer A₀ base h₀ L m news s Q E B F X N T hk hdp hun hpre hown ret
  refine fillT w ?_
  k_fill
  intro _ _
  k_dflt ((refine' (code_own hown) ?k1 ?k2 ?k3 ?k4 ?k5 ?kA ?kF ?kK ?k6 ?k7 ?k8 ?k9 ?kB ?_ ?c2 ?c3 ?c4 ?c5; (case kA => exact rfl); (case kF => exact rfl); (case kK => first | assumption | exact rfl); (case k1 => k_asm); (case k2 => k_asm); (case k3 => k_asm); (case k4 => k_asm); (case k5 => k_asm); (case k6 => k_is); (case k7 => k_is); (case k8 => ((try simp only [depth_under_make, depth_under_kw, depth_in1, depth_deeper, depth_caller]); (try dsimp only [ktrTop]); omega)); (case k9 => first | exact BindsTo.of_eq rfl | exact binds_K (by k_in) rfl (by k_is) rfl rfl rfl | fail "enter: no rule for these arguments"); (case c5 => decide); (case kB => exact locs rfl); (case c2 => exact rfl); (case c3 => exact rfl); (case c4 => exact rfl); k_whole); intro g0 L0 h' FG' F' N' B' X' T' hs0 hst0 hlo0; (try dsimp only); (try k_fold))
  replace hpre := SelfAt.kept hpre hst0
  obtain ⟨dx, md, k1, k2, k3, hI, hmd⟩ := id hpre
  repeat' (first | ((with_reducible show Q _ _); fail) | (k_unfold; (try dsimp only)) | ((fail_if_success (with_reducible show Q _ _)); walk1) | ((fail_if_success (with_reducible show Q _ _)); dsimp only; walk1) | (leave1; try dsimp only) | fail "no step")
  all_goals (
    with_reducible rename Fr h₀ L _ _ => kF
    with_reducible rename News h₀ L _ _ => kN
    with_reducible rename Fr g0 _ _ _ => F9
    refine ret _ _ _ kF (backO N hown hs0 F9 kN (by first | with_reducible exact own_nil | (with_reducible refine own_one ?_; k_mem))) ⟨_, rfl, Sz.app (a := 5) (b := 5) (attr_sz hz1 hx1) (attr_sz hz2 hx2)⟩)
end
section
open PySem.W.KStt (codes)
theorem tell_attrs1 {w : World} {esc : Bool} {sa : Addr} {d : Addr} {od : Obj} {n1 x1 : Str} {t1 : Nat} (hnm1 : full n1 = true ∧ n1.cps.size < 1000) (hz1 : Sz n1 1) (hx1 : x1 ∈ rawsL) (hlo : (d == sysModules) = false) (hd : Obj.IsDictOf (PySem.strKind PySem.Challenge.rw_ba0042_01.row.prog w) od [(n1, .str x1 t1)]) (hf : PyProof.V.FlatPairs PyData.str [(n1, .str x1 t1)] [(.str n1, .str x1)]) : TellO w 327 60 600 [.ref sa, .ref d] [] [(d, od)] (fun h => SelfAt w esc h sa) (fun r => ∃ t, r = .str (attrF n1 x1) t ∧ Sz (attrF n1 x1) 5) := by
  intro p loose mean mg mb dp un gd cn cs a ccd cl outer A₀ base h₀ L m news s Q E B F X N T hk hdp hun hpre hown ret
  refine fillT w ?_
  k_fill
  intro _ _
  k_dflt ((refine' (code_own hown) ?k1 ?k2 ?k3 ?k4 ?k5 ?kA ?kF ?kK ?k6 ?k7 ?k8 ?k9 ?kB ?_ ?c2 ?c3 ?c4 ?c5; (case kA => exact rfl); (case kF => exact rfl); (case kK => first | assumption | exact rfl); (case k1 => k_asm); (case k2 => k_asm); (case k3 => k_asm); (case k4 => k_asm); (case k5 => k_asm); (case k6 => k_is); (case k7 => k_is); (case k8 => ((try simp only [depth_under_make, depth_under_kw, depth_in1, depth_deeper, depth_caller]); (try dsimp only [ktrTop]); omega)); (case k9 => first | exact BindsTo.of_eq rfl | exact binds_K (by k_in) rfl (by k_is) rfl rfl rfl | fail "enter: no rule for these arguments"); (case c5 => decide); (case kB => exact locs rfl); (case c2 => exact rfl); (case c3 => exact rfl); (case c4 => exact rfl); k_whole); intro g0 L0 h' FG' F' N' B' X' T' hs0 hst0 hlo0; (try dsimp only); (try k_fold))
  replace hpre := SelfAt.kept hpre hst0
  obtain ⟨dx, md, k1, k2, k3, hI, hmd⟩ := id hpre
  repeat' (first | ((with_reducible show Q _ _); fail) | (k_unfold; (try dsimp only)) | ((fail_if_success (with_reducible show Q _ _)); walk1) | ((fail_if_success (with_reducible show Q _ _)); dsimp only; walk1) | (leave1; try dsimp only) | fail "no step")
  all_goals (
    with_reducible rename Fr h₀ L _ _ => kF
    with_reducible rename News h₀ L _ _ => kN
    with_reducible rename Fr g0 _ _ _ => F9
    refine ret _ _ _ kF (backO N hown hs0 F9 kN (by first | with_reducible exact own_nil | (with_reducible refine own_one ?_; k_mem))) ⟨_, rfl, attr_sz hz1 hx1⟩)
end
section
open PySem.W.KStt (codes)
theorem tell_attrs0 {w : World} {esc : Bool} {sa : Addr} {d : Addr} {od : Obj} (hlo : (d == sysModules) = false) (hd : Obj.IsDictOf (PySem.strKind PySem.Challenge.rw_ba0042_01.row.prog w) od []) (hf : PyProof.V.FlatPairs PyData.str [] []) : TellO w 327 60 600 [.ref sa, .ref d] [] [(d, od)] (fun h => SelfAt w esc h sa) (fun r => ∃ t, r = .str (S "") t) := by
  intro p loose mean mg mb dp un gd cn cs a ccd cl outer A₀ base h₀ L m news s Q E B F X N T hk hdp hun hpre hown ret
  refine fillT w ?_
  k_fill
  intro _ _
  k_dflt ((refine' (code_own hown) ?k1 ?k2 ?k3 ?k4 ?k5 ?kA ?kF ?kK ?k6 ?k7 ?k8 ?k9 ?kB ?_ ?c2 ?c3 ?c4 ?c5; (case kA => exact rfl); (case kF => exact rfl); (case kK => first | assumption | exact rfl); (case k1 => k_asm); (case k2 => k_asm); (case k3 => k_asm); (case k4 => k_asm); (case k5 => k_asm); (case k6 => k_is); (case k7 => k_is); (case k8 => ((try simp only [depth_under_make, depth_under_kw, depth_in1, depth_deeper, depth_caller]); (try dsimp only [ktrTop]); omega)); (case k9 => first | exact BindsTo.of_eq rfl | exact binds_K (by k_in) rfl (by k_is) rfl rfl rfl | fail "enter: no rule for these arguments"); (case c5 => decide); (case kB => exact locs rfl); (case c2 => exact rfl); (case c3 => exact rfl); (case c4 => exact rfl); k_whole); intro g0 L0 h' FG' F' N' B' X' T' hs0 hst0 hlo0; (try dsimp only); (try k_fold))
  replace hpre := SelfAt.kept hpre hst0
  obtain ⟨dx, md, k1, k2, k3, hI, hmd⟩ := id hpre
  repeat' (first | ((with_reducible show Q _ _); fail) | (k_unfold; (try dsimp only)) | ((fail_if_success (with_reducible show Q _ _)); walk1) | ((fail_if_success (with_reducible show Q _ _)); dsimp only; walk1) | (leave1; try dsimp only) | fail "no step")
  all_goals (
    with_reducible rename Fr h₀ L _ _ => kF
    with_reducible rename News h₀ L _ _ => kN
    with_reducible rename Fr g0 _ _ _ => F9
    refine ret _ _ _ kF (backO N hown hs0 F9 kN (by first | with_reducible exact own_nil | (with_reducible refine own_one ?_; k_mem))) ⟨_, rfl⟩)
end
section
open PySem.W.KStt (codes)
theorem lines_NSa : True := by
  k_with_none
  k_with "z1" => (((try simp only [depth_under_make, depth_under_kw, depth_in1, depth_deeper, depth_caller]); (try dsimp only [ktrTop]); omega))
  k_with "ktr_enter" => ((refine' code_def ?k1 ?k2 ?k3 ?k4 ?k5 ?kA ?kF ?kK ?k6 ?k7 ?k8 ?k9 ?kB ?_ ?c2 ?c3 ?c4 ?c5; (case kA => exact rfl); (case kF => exact rfl); (case kK => first | assumption | exact rfl); (case k1 => k_asm); (case k2 => k_asm); (case k3 => k_asm); (case k4 => k_asm); (case k5 => k_asm); (case k6 => k_is); (case k7 => k_is); (case k8 => k_extra "z1"); (case k9 => first | exact BindsTo.of_eq rfl | exact binds_K (by k_in) rfl (by k_is) rfl rfl rfl | fail "enter: no rule for these arguments"); (case c5 => decide); (case kB => exact locs rfl); (case c2 => exact rfl); (case c3 => exact rfl); (case c4 => exact rfl); k_whole); intro gpq0 Lpq0 hpq0 FGpq0 Fpq0 Npq0 Bpq0 Xpq0 Tpq0; (try dsimp only); (try k_lift Bpq0); (try k_fold))
  k_with "k_mem" => (first | with_reducible exact List.mem_cons_self | with_reducible assumption | (with_reducible refine List.mem_cons_of_mem _ ?_; k_mem) | (with_reducible refine List.mem_append_left _ ?_; k_mem) | (with_reducible refine List.mem_append_right _ ?_; k_mem))
  k_with "execs cons" => (k_here; k_dflt (refine wpAny_execs_cons ?_))
  k_with "execs cons" => (k_here; (with_reducible refine execs_cons_gen ?_); intro tk9q3)
  k_with "execs nil" => (k_here; (with_reducible refine wpAny_execs_nil ?_))
  k_with "exec If" => (k_here; k_dflt (refine wpAny_If ?_))
  k_with "ite" => (k_here; first | (with_reducible refine ite_tt ?_) | (with_reducible refine ite_ff ?_) | (k_closed; (first | (with_reducible refine iteP ?iteC ?_; (case iteC => decide)) | (with_reducible refine iteN ?iteC ?_; (case iteC => decide)))) | (with_reducible refine split_ine ?_ ?_ <;> intro _) | (with_reducible refine split_ieq ?_ ?_ <;> intro _) | with_reducible refine split_not ?_ | (with_reducible refine iteDec ?_ ?_ <;> intro _) | (with_reducible refine iteB ?_ ?_ <;> intro _))
  k_with "callWith ref" => (k_here; k_dflt ((with_reducible refine' callWith_K ?k1 ?k2 ?_ ?he ?hp); (case he => exact rfl); (case hp => exact rfl); (case k1 => k_asm); (case k2 => k_is)))
  k_with "callWith ref" => (k_here; k_dflt ((with_reducible refine' callWith_K0 ?k1 ?k2 ?_); (case k1 => exact Frag.In.keeps (by with_reducible assumption) (Fr.keep (by with_reducible assumption))); (case k2 => k_is); (try dsimp only [List.nil_append])))
  k_with "callWith" => (k_here; k_dflt ((with_reducible refine' callWith_m1 ?_ ?he ?hp); (case he => exact rfl); (case hp => exact rfl)))
  k_with "binaryOp Mod int int" => (k_here; (with_reducible refine' mod_int' ?kbe ?_); (case kbe => decide); (try dsimp only); (try k_fold))
  k_with "k_room" => (((try simp only [depth_under_make, depth_under_kw, depth_in1, depth_deeper, depth_caller]); (try dsimp only [ktrTop]); omega))
  k_with "ktr_enter" => ((refine' code_def ?k1 ?k2 ?k3 ?k4 ?k5 ?kA ?kF ?kK ?k6 ?k7 ?k8 ?k9 ?kB ?_ ?c2 ?c3 ?c4 ?c5; (case kA => exact rfl); (case kF => exact rfl); (case kK => first | assumption | exact rfl); (case k1 => k_asm); (case k2 => k_asm); (case k3 => k_asm); (case k4 => k_asm); (case k5 => k_asm); (case k6 => k_is); (case k7 => k_is); (case k8 => k_extra "z1"); (case k9 => first | exact BindsTo.of_eq rfl | exact binds_K (by k_in) rfl (by k_is) rfl rfl rfl | fail "enter: no rule for these arguments"); (case c5 => decide); (case kB => exact locs rfl); (case c2 => exact rfl); (case c3 => exact rfl); (case c4 => exact rfl); k_whole); intro gpq70 Lpq70 hpq70 FGpq70 Fpq70 Npq70 Bpq70 Xpq70 Tpq70; (try dsimp only); (try k_lift Bpq70); (try k_fold); (try have hIL := InstAt.kept (by with_reducible assumption) (Fr.keep FGpq70)); (try have hSL := SelfAt.kept (by with_reducible assumption) (Fr.keep FGpq70)))
  k_with "k_enter" => ((refine' code_def ?k1 ?k2 ?k3 ?k4 ?k5 ?kA ?kF ?kK ?k6 ?k7 ?k8 ?k9 ?kB ?_ ?c2 ?c3 ?c4 ?c5; (case kA => exact rfl); (case kF => exact rfl); (case kK => first | assumption | exact rfl); (case k1 => k_asm); (case k2 => k_asm); (case k3 => k_asm); (case k4 => k_asm); (case k5 => k_asm); (case k6 => k_is); (case k7 => k_is); (case k8 => k_extra "z1"); (case k9 => first | exact BindsTo.of_eq rfl | exact binds_K (by k_in) rfl (by k_is) rfl rfl rfl | fail "enter: no rule for these arguments"); (case c5 => decide); (case kB => exact locs rfl); (case c2 => exact rfl); (case c3 => exact rfl); (case c4 => exact rfl); k_whole); intro gpq71 Lpq71 hpq71 FGpq71 Fpq71 Npq71 Bpq71 Xpq71 Tpq71; (try dsimp only); (try k_lift Bpq71); (try k_fold); (try have hIL := InstAt.kept (by with_reducible assumption) (Fr.keep FGpq71)); (try have hSL := SelfAt.kept (by with_reducible assumption) (Fr.keep FGpq71)))
  k_with "eval Call" => (k_here; (with_reducible show wpAny _ _ (eval (Expr.Call (Expr.Name _ _) _ [] _) _) _ _ _); k_dflt (refine Call_ ?_))
  k_with "k_all" => (first | with_reducible assumption | exact List.forall_mem_nil _ | (with_reducible refine' List.forall_mem_cons.mpr ⟨?ka, ?kb⟩; (case ka => k_ne); (case kb => k_all)) | (with_reducible refine' ltNe2 ?ka; (case ka => with_reducible assumption)) | (with_reducible refine' ltNe3 ?ka; (case ka => with_reducible assumption)) | (with_reducible refine' ltNe4 ?ka; (case ka => with_reducible assumption)) | (with_reducible refine' List.forall_mem_append.mpr ⟨?ka, ?kb⟩; (case ka => k_all); (case kb => k_all)) | (with_reducible refine' apartE ?ka ?kb; (case ka => with_reducible assumption); (case kb => k_mem)) | (with_reducible refine' ltNe ?ka; (case ka => with_reducible assumption)))
  k_with "k_ne" => (refine neN ?_; (try dsimp only); first | with_reducible assumption | (with_reducible exact Ne.symm (by assumption)) | (with_reducible exact Nat.ne_of_lt (by assumption)) | (with_reducible exact Nat.ne_of_gt (by assumption)) | omega)
  k_with "k_inst" => ((with_reducible refine' inst_fr ?ib ?ia; (case ib => with_reducible assumption); (case ia => with_reducible assumption)))
  k_with "z2" => ((with_reducible rename _ + _ < recursionLimit => hr9; first | exact room1 hr9 (by first | decide | assumption | (refine' Nat.le_trans ?qa ?qb; (case qb => assumption); (case qa => decide))) | ((try simp only [depth_under_make, depth_under_kw, depth_in1, depth_deeper, depth_caller, units_in1, units_deeper, units_caller]); (try dsimp only [ktrTop]); omega)))
  k_with "z3" => ((with_reducible rename _ + _ < cLine => hr9; first | exact room3 hr9 (by first | decide | assumption | (refine' Nat.le_trans ?qa ?qb; (case qb => assumption); (case qa => decide))) | ((try simp only [depth_under_make, depth_under_kw, depth_in1, depth_deeper, depth_caller, units_in1, units_deeper, units_caller]); (try dsimp only [ktrTop]); omega)))
  k_with "call ref" => (k_here; (with_reducible show wpAny _ _ (call (Value.ref 496) _) _ _ _); k_dflt (refine' Tell0.use (tell_unq_url ?ka) ?k1 ?k2 ?k3 ?k4 ?k5 ?k6 ?k7 ?k8 ?k9 ?_; (case ka => with_reducible assumption); (case k1 => k_asm); (case k2 => k_asm); (case k3 => k_asm); (case k4 => k_asm); (case k5 => k_asm); (case k6 => exact rfl); (case k7 => k_extra "z2"); (case k8 => k_extra "z3"); (case k9 => exact True.intro); intro r9q90 h9q90 t9q90 F9q90 N9q90 o9q90; obtain ⟨tn9q90, e9q90⟩ := o9q90; subst e9q90; (try k_sweep); (try dsimp only); (try k_fold)))
  k_with "call ref" => (k_here; (with_reducible show wpAny _ _ (call (Value.ref 503) _) _ _ _); k_dflt (refine' Tell0.use (tell_is_safe (plain_len ?ka) (cut_of ?ka)) ?k1 ?k2 ?k3 ?k4 ?k5 ?k6 ?k7 ?k8 ?k9 ?_; (case ka => with_reducible assumption); (case k1 => k_asm); (case k2 => k_asm); (case k3 => k_asm); (case k4 => k_asm); (case k5 => k_asm); (case k6 => exact rfl); (case k7 => k_extra "z2"); (case k8 => k_extra "z3"); (case k9 => exact True.intro); intro r9q91 h9q91 t9q91 F9q91 N9q91 o9q91; subst o9q91; (try k_sweep); (try dsimp only); (try k_fold)))
  k_with "look" => (with_reducible first | exact Look1.str | exact Look1.int | (refine' Look1.name ?hx ?hd ?hm; (case hx => k_dflt (exact rfl)); (case hd => k_dflt decide); (case hm => k_dflt (exact rfl))) | exact LookN.nil | (refine' LookN.cons ?x ?y; (case x => k_extra "look"); (case y => k_extra "look")) | exact LookP.nil | (refine' LookP.cons ?x ?y ?z; (case x => k_extra "look"); (case y => k_extra "look"); (case z => k_extra "look")))
  k_with "spliced" => (k_here; (with_reducible show wpAny _ _ (spliced (backTo _ (starEach (_ :: _) _))) _ _ _); (with_reducible rename Fr _ _ _ _ => F8q16); ((with_reducible refine' args_lk F8q16 ?he ?hk ?l ?_); (case he => k_dflt (exact ⟨_, _, _, _, rfl⟩)); (case hk => k_dflt (exact rfl)); (case l => k_extra "look")); (try dsimp only); (try k_fold))
  k_with "evalPairs" => (k_here; (with_reducible show wpAny _ _ (evalPairs (pairTrees (_ :: _) _ _ _)) _ _ _); (with_reducible rename Fr _ _ _ _ => F8q17); ((with_reducible refine' pairs_lk F8q17 ?he ?hk ?l ?_); (case he => k_dflt (exact ⟨_, _, _, _, rfl⟩)); (case hk => k_dflt (exact rfl)); (case l => k_extra "look")); (try dsimp only); (try k_fold))
  k_with "eval BinOp" => (k_here; (with_reducible show wpAny _ _ (eval (Expr.BinOp (Expr.Name _ _) _ (Expr.Constant _ _ _) _) _) _ _ _); (with_reducible rename Fr _ _ _ _ => F8q18); ((with_reducible refine' bin_lk F8q18 ?he ?hk ?l ?r ?_); (case he => k_dflt (exact ⟨_, _, _, _, rfl⟩)); (case hk => k_dflt (exact rfl)); (case l => k_extra "look"); (case r => k_extra "look")); (try dsimp only); (try k_fold))
  k_with "eval BinOp" => (k_here; (with_reducible show wpAny _ _ (eval (Expr.BinOp (Expr.Name _ _) _ (Expr.Name _ _) _) _) _ _ _); (with_reducible rename Fr _ _ _ _ => F8q19); ((with_reducible refine' bin_lk F8q19 ?he ?hk ?l ?r ?_); (case he => k_dflt (exact ⟨_, _, _, _, rfl⟩)); (case hk => k_dflt (exact rfl)); (case l => k_extra "look"); (case r => k_extra "look")); (try dsimp only); (try k_fold))
  k_with "exec If" => (k_here; (with_reducible show wpAny _ _ (exec (Stmt.If (Expr.Compare (Expr.Name _ _) [CmpOp.Eq] [Expr.Constant (Const.int _) _ _] _) _ _ _) _) _ _ _); (with_reducible rename Fr _ _ _ _ => F8q20); ((with_reducible refine' if_lk F8q20 ?he ?hk ?l ?r ?h ?_); (case he => k_dflt (exact ⟨_, _, _, _, rfl⟩)); (case hk => k_dflt (exact rfl)); (case l => k_extra "look"); (case r => k_extra "look"); (case h => k_dflt (with_unfolding_all rfl))); (try dsimp only); (try k_fold))
  k_with "storeName" => (k_here; (with_reducible rename Fr _ _ _ _ => F8q21); (with_reducible rename News _ _ _ _ => N8q21); ((with_reducible refine' store_lk F8q21 N8q21 ?he ?hk ?hx ?_); (case he => k_dflt (exact ⟨_, _, _, _, rfl⟩)); (case hk => k_dflt (exact rfl)); (case hx => k_dflt (exact rfl)); intro h9q21 m9q21 F9q21 N9q21; (try clear F8q21 N8q21); (try dsimp only); (try k_fold)))
  trivial
theorem tell_san {w : World} {esc : Bool} {sa : Addr} {u : Str} {t1 : Nat} (hu : u ∈ urlsL) : TellO w 334 100 1000 [.ref sa, .str u t1] [] [] (fun h => SelfAt w esc h sa) (fun r => ∃ t, r = .str (sanF u) t) := by
  intro p loose mean mg mb dp un gd cn cs a ccd cl outer A₀ base h₀ L m news s Q E B F X N T hk hdp hun hpre hown ret
  refine fillT w ?_
  k_fill
  intro _ _
  k_dflt ((refine' (code_own hown) ?k1 ?k2 ?k3 ?k4 ?k5 ?kA ?kF ?kK ?k6 ?k7 ?k8 ?k9 ?kB ?_ ?c2 ?c3 ?c4 ?c5; (case kA => exact rfl); (case kF => exact rfl); (case kK => first | assumption | exact rfl); (case k1 => k_asm); (case k2 => k_asm); (case k3 => k_asm); (case k4 => k_asm); (case k5 => k_asm); (case k6 => k_is); (case k7 => k_is); (case k8 => ((try simp only [depth_under_make, depth_under_kw, depth_in1, depth_deeper, depth_caller]); (try dsimp only [ktrTop]); omega)); (case k9 => first | exact BindsTo.of_eq rfl | exact binds_K (by k_in) rfl (by k_is) rfl rfl rfl | fail "enter: no rule for these arguments"); (case c5 => decide); (case kB => exact locs rfl); (case c2 => exact rfl); (case c3 => exact rfl); (case c4 => exact rfl); k_whole); intro g0 L0 h' FG' F' N' B' X' T' hs0 hst0 hlo0; (try dsimp only); (try k_fold))
  replace hpre := SelfAt.kept hpre hst0
  obtain ⟨dx, md, k1, k2, k3, hI, hmd⟩ := id hpre
  have hxl := urls_len hu
  repeat' (first | ((with_reducible show Q _ _); fail) | (k_unfold; (try dsimp only)) | ((fail_if_success (with_reducible show Q _ _)); walk1) | ((fail_if_success (with_reducible show Q _ _)); dsimp only; walk1) | (leave1; try dsimp only) | fail "no step")
  all_goals (
    with_reducible rename Fr h₀ L _ _ => kF
    with_reducible rename News h₀ L _ _ => kN
    with_reducible rename Fr g0 _ _ _ => F9
    refine ret _ _ _ kF (backO N hown hs0 F9 kN (by first | with_reducible exact own_nil | (with_reducible refine own_one ?_; k_mem))) ⟨_, by first | (rw [san1 (by with_reducible assumption)]) | (rw [san2 (by with_reducible assumption)])⟩)
end
section
theorem text_tab : (textsL.all fun x => rawsL.contains (x ++ S "\n") && rawsL.contains (S "<p>\n" ++ x) && rawsL.contains (S "t<" ++ x) && rawsL.contains (S "k>" ++ x) && (Txt.strip (S "<p>\n" ++ x) == S "<p>\n" ++ x)
    && (shownF (S "t<" ++ x) == S "t&lt;" ++ shownF x) && (shownF (S "k>" ++ x) == S "k&gt;" ++ shownF x) && decide ((S "t<" ++ x).length ≤ 100) && decide (1 ≤ (S "t<" ++ x).length) && decide ((S "k>" ++ x).length ≤ 100) && decide (1 ≤ (S "k>" ++ x).length) && decide ((S "<p>\n" ++ x).length ≤ 100)
    && (S "<pre><code" ++ S "" ++ S ">" ++ shownF (x ++ S "\n") ++ S "</code></pre>\n" == S "<pre><code>" ++ shownF x ++ S "\n</code></pre>\n")) = true := by decide +kernel
structure TextFacts (x : Str) : Prop where
  a1 : x ++ S "\n" ∈ rawsL
  a2 : S "<p>\n" ++ x ∈ rawsL
  a3 : S "t<" ++ x ∈ rawsL
  a4 : S "k>" ++ x ∈ rawsL
  a5 : Txt.strip (S "<p>\n" ++ x) = S "<p>\n" ++ x
  a6 : shownF (S "t<" ++ x) = S "t&lt;" ++ shownF x
  a7 : shownF (S "k>" ++ x) = S "k&gt;" ++ shownF x
  a8 : (S "t<" ++ x).length ≤ 100
  a9 : 1 ≤ (S "t<" ++ x).length
  b1 : (S "k>" ++ x).length ≤ 100
  b2 : 1 ≤ (S "k>" ++ x).length
  b3 : (S "<p>\n" ++ x).length ≤ 100
  b4 : S "<pre><code" ++ S "" ++ S ">" ++ shownF (x ++ S "\n") ++ S "</code></pre>\n" = S "<pre><code>" ++ shownF x ++ S "\n</code></pre>\n"
theorem text_facts {x : Str} (h : x ∈ textsL) : TextFacts x := by
  have z := List.all_eq_true.mp text_tab x h
  simp only [Bool.and_eq_true, decide_eq_true_eq, beq_iff_eq, List.contains_iff_mem] at z
  obtain ⟨⟨⟨⟨⟨⟨⟨⟨⟨⟨⟨⟨c1, c2⟩, c3⟩, c4⟩, c5⟩, c6⟩, c7⟩, c8⟩, c9⟩, d1⟩, d2⟩, d3⟩, d4⟩ := z
  exact ⟨c1, c2, c3, c4, c5, c6, c7, c8, c9, d1, d2, d3, d4⟩
theorem app_lit {a b c : Str} (e : a ++ b = c) (x : Str) : a ++ (b ++ x) = c ++ x := by rw [← Str.append_assoc, e]
theorem link_txt1 (k x : Str) : S "<a" ++ (S " " ++ S "href" ++ S "=\"" ++ k ++ S "\"") ++ S ">" ++ x ++ S "</a>" = S "<a href=\"" ++ k ++ S "\"" ++ S ">" ++ x ++ S "</a>" := by
  have e : S "<a" ++ (S " " ++ S "href" ++ S "=\"" ++ k ++ S "\"") = S "<a href=\"" ++ k ++ S "\"" := by
    rw [Str.append_assoc (S " " ++ S "href" ++ S "=\""), app_lit (c := S "<a href=\"") (by decide +kernel), Str.append_assoc]
  rw [e]
theorem link_txt2 (k y x : Str) : S "<a" ++ ((S " " ++ S "href" ++ S "=\"" ++ k ++ S "\"") ++ (S " " ++ S "title" ++ S "=\"" ++ (S "t&lt;" ++ y) ++ S "\"")) ++ S ">" ++ x ++ S "</a>" = S "<a href=\"" ++ k ++ S "\"" ++ S " title=\"t&lt;" ++ y ++ S "\"" ++ S ">" ++ x ++ S "</a>" := by
  have e2 : S " " ++ S "title" ++ S "=\"" ++ (S "t&lt;" ++ y) ++ S "\"" = S " title=\"t&lt;" ++ y ++ S "\"" := by
    rw [app_lit (c := S " title=\"t&lt;") (by decide +kernel)]
  have e : S "<a" ++ ((S " " ++ S "href" ++ S "=\"" ++ k ++ S "\"") ++ (S " " ++ S "title" ++ S "=\"" ++ (S "t&lt;" ++ y) ++ S "\"")) = S "<a href=\"" ++ k ++ S "\"" ++ S " title=\"t&lt;" ++ y ++ S "\"" := by
    rw [e2, Str.append_assoc (S " " ++ S "href" ++ S "=\""), Str.append_assoc, app_lit (c := S "<a href=\"") (by decide +kernel)]
    simp only [Str.append_assoc]
  rw [e]
theorem head_txt2 (k y x : Str) : S "<h" ++ k ++ (S " " ++ S "id" ++ S "=\"" ++ (S "k&gt;" ++ y) ++ S "\"") ++ S ">" ++ x ++ S "</h" ++ k ++ S ">\n" = S "<h" ++ k ++ (S " id=\"k&gt;" ++ y ++ S "\"") ++ S ">" ++ x ++ S "</h" ++ k ++ S ">\n" := by
  have e : S " " ++ S "id" ++ S "=\"" ++ (S "k&gt;" ++ y) = S " id=\"k&gt;" ++ y := app_lit (by decide +kernel) y
  rw [e]
end
section
theorem head_txt (k a x : Str) : S "<" ++ (S "h" ++ k) ++ a ++ S ">" ++ x ++ S "</" ++ (S "h" ++ k) ++ S ">\n" = S "<h" ++ k ++ a ++ S ">" ++ x ++ S "</h" ++ k ++ S ">\n" := by
  have e0 : S "<" ++ S "h" = S "<h" := by decide +kernel
  have e3 : S "</" ++ S "h" = S "</h" := by decide +kernel
  have e1 : S "<" ++ (S "h" ++ k) = S "<h" ++ k := by rw [← Str.append_assoc, e0]
  have e2 : ∀ p : Str, p ++ S "</" ++ (S "h" ++ k) = p ++ S "</h" ++ k := fun p => by rw [Str.append_assoc, ← Str.append_assoc (S "</"), e3, ← Str.append_assoc]
  rw [e1, e2]
end
section
open PySem.W.KStt (codes)
theorem lines_NHd : True := by
  k_with_none
  k_with "z1" => (((try simp only [depth_under_make, depth_under_kw, depth_in1, depth_deeper, depth_caller]); (try dsimp only [ktrTop]); omega))
  k_with "ktr_enter" => ((refine' code_def ?k1 ?k2 ?k3 ?k4 ?k5 ?kA ?kF ?kK ?k6 ?k7 ?k8 ?k9 ?kB ?_ ?c2 ?c3 ?c4 ?c5; (case kA => exact rfl); (case kF => exact rfl); (case kK => first | assumption | exact rfl); (case k1 => k_asm); (case k2 => k_asm); (case k3 => k_asm); (case k4 => k_asm); (case k5 => k_asm); (case k6 => k_is); (case k7 => k_is); (case k8 => k_extra "z1"); (case k9 => first | exact BindsTo.of_eq rfl | exact binds_K (by k_in) rfl (by k_is) rfl rfl rfl | fail "enter: no rule for these arguments"); (case c5 => decide); (case kB => exact locs rfl); (case c2 => exact rfl); (case c3 => exact rfl); (case c4 => exact rfl); k_whole); intro gpq0 Lpq0 hpq0 FGpq0 Fpq0 Npq0 Bpq0 Xpq0 Tpq0; (try dsimp only); (try k_lift Bpq0); (try k_fold))
  k_with "k_mem" => (first | with_reducible exact List.mem_cons_self | with_reducible assumption | (with_reducible refine List.mem_cons_of_mem _ ?_; k_mem) | (with_reducible refine List.mem_append_left _ ?_; k_mem) | (with_reducible refine List.mem_append_right _ ?_; k_mem))
  k_with "execs cons" => (k_here; k_dflt (refine wpAny_execs_cons ?_))
  k_with "execs cons" => (k_here; (with_reducible refine execs_cons_gen ?_); intro tk9q3)
  k_with "execs nil" => (k_here; (with_reducible refine wpAny_execs_nil ?_))
  k_with "exec If" => (k_here; k_dflt (refine wpAny_If ?_))
  k_with "ite" => (k_here; first | (with_reducible refine ite_tt ?_) | (with_reducible refine ite_ff ?_) | (k_closed; (first | (with_reducible refine iteP ?iteC ?_; (case iteC => decide)) | (with_reducible refine iteN ?iteC ?_; (case iteC => decide)))) | (with_reducible refine split_ine ?_ ?_ <;> intro _) | (with_reducible refine split_ieq ?_ ?_ <;> intro _) | with_reducible refine split_not ?_ | (with_reducible refine iteDec ?_ ?_ <;> intro _) | (with_reducible refine iteB ?_ ?_ <;> intro _))
  k_with "callWith ref" => (k_here; k_dflt ((with_reducible refine' callWith_K ?k1 ?k2 ?_ ?he ?hp); (case he => exact rfl); (case hp => exact rfl); (case k1 => k_asm); (case k2 => k_is)))
  k_with "callWith ref" => (k_here; k_dflt ((with_reducible refine' callWith_K0 ?k1 ?k2 ?_); (case k1 => exact Frag.In.keeps (by with_reducible assumption) (Fr.keep (by with_reducible assumption))); (case k2 => k_is); (try dsimp only [List.nil_append])))
  k_with "callWith" => (k_here; k_dflt ((with_reducible refine' callWith_m1 ?_ ?he ?hp); (case he => exact rfl); (case hp => exact rfl)))
  k_with "binaryOp Mod int int" => (k_here; (with_reducible refine' mod_int' ?kbe ?_); (case kbe => decide); (try dsimp only); (try k_fold))
  k_with "call builtin:str.join" => (k_here; (with_reducible show wpAny _ _ (call (Value.builtin _) [Value.str _ _, Value.ref _]) _ _ _); k_dflt (first | ((with_reducible refine' join_0 ?k1 ?k2 ?_); (case k1 => k_asm); (case k2 => k_mem)) | ((with_reducible refine' join_1 ?k1 ?k2 ?ka ?kn ?_); (case k1 => k_asm); (case k2 => k_mem); (case ka => with_reducible assumption); (case kn => decide)) | ((with_reducible refine' join_2 ?k1 ?k2 ?ka ?kb ?kn ?_); (case k1 => k_asm); (case k2 => k_mem); (case ka => with_reducible assumption); (case kb => with_reducible assumption); (case kn => decide))); intro t9q68 k9q68; (try dsimp only); (try k_fold))
  k_with "k_room" => (((try simp only [depth_under_make, depth_under_kw, depth_in1, depth_deeper, depth_caller]); (try dsimp only [ktrTop]); omega))
  k_with "ktr_enter" => ((refine' code_def ?k1 ?k2 ?k3 ?k4 ?k5 ?kA ?kF ?kK ?k6 ?k7 ?k8 ?k9 ?kB ?_ ?c2 ?c3 ?c4 ?c5; (case kA => exact rfl); (case kF => exact rfl); (case kK => first | assumption | exact rfl); (case k1 => k_asm); (case k2 => k_asm); (case k3 => k_asm); (case k4 => k_asm); (case k5 => k_asm); (case k6 => k_is); (case k7 => k_is); (case k8 => k_extra "z1"); (case k9 => first | exact BindsTo.of_eq rfl | exact binds_K (by k_in) rfl (by k_is) rfl rfl rfl | fail "enter: no rule for these arguments"); (case c5 => decide); (case kB => exact locs rfl); (case c2 => exact rfl); (case c3 => exact rfl); (case c4 => exact rfl); k_whole); intro gpq70 Lpq70 hpq70 FGpq70 Fpq70 Npq70 Bpq70 Xpq70 Tpq70; (try dsimp only); (try k_lift Bpq70); (try k_fold); (try have hIL := InstAt.kept (by with_reducible assumption) (Fr.keep FGpq70)); (try have hSL := SelfAt.kept (by with_reducible assumption) (Fr.keep FGpq70)))
  k_with "k_enter" => ((refine' code_def ?k1 ?k2 ?k3 ?k4 ?k5 ?kA ?kF ?kK ?k6 ?k7 ?k8 ?k9 ?kB ?_ ?c2 ?c3 ?c4 ?c5; (case kA => exact rfl); (case kF => exact rfl); (case kK => first | assumption | exact rfl); (case k1 => k_asm); (case k2 => k_asm); (case k3 => k_asm); (case k4 => k_asm); (case k5 => k_asm); (case k6 => k_is); (case k7 => k_is); (case k8 => k_extra "z1"); (case k9 => first | exact BindsTo.of_eq rfl | exact binds_K (by k_in) rfl (by k_is) rfl rfl rfl | fail "enter: no rule for these arguments"); (case c5 => decide); (case kB => exact locs rfl); (case c2 => exact rfl); (case c3 => exact rfl); (case c4 => exact rfl); k_whole); intro gpq71 Lpq71 hpq71 FGpq71 Fpq71 Npq71 Bpq71 Xpq71 Tpq71; (try dsimp only); (try k_lift Bpq71); (try k_fold); (try have hIL := InstAt.kept (by with_reducible assumption) (Fr.keep FGpq71)); (try have hSL := SelfAt.kept (by with_reducible assumption) (Fr.keep FGpq71)))
  k_with "eval Call" => (k_here; (with_reducible show wpAny _ _ (eval (Expr.Call (Expr.Name _ _) _ [] _) _) _ _ _); k_dflt (refine Call_ ?_))
  k_with "binaryOp Add str str" => (k_here; k_dflt ((with_reducible refine' add_strP (Sz.app ?sa ?sb) ?hn ?_); (case sa => first | with_reducible assumption | exact raw_sz (by with_reducible assumption) | (refine Sz.one ?_; first | decide +kernel | exact num_sz _)); (case sb => first | with_reducible assumption | exact raw_sz (by with_reducible assumption) | (refine Sz.one ?_; first | decide +kernel | exact num_sz _)); (case hn => decide); intro t9q72 k9q72 hz9q72; (try dsimp only); (try k_fold)))
  k_with "k_all" => (first | with_reducible assumption | exact List.forall_mem_nil _ | (with_reducible refine' List.forall_mem_cons.mpr ⟨?ka, ?kb⟩; (case ka => k_ne); (case kb => k_all)) | (with_reducible refine' ltNe2 ?ka; (case ka => with_reducible assumption)) | (with_reducible refine' ltNe3 ?ka; (case ka => with_reducible assumption)) | (with_reducible refine' ltNe4 ?ka; (case ka => with_reducible assumption)) | (with_reducible refine' List.forall_mem_append.mpr ⟨?ka, ?kb⟩; (case ka => k_all); (case kb => k_all)) | (with_reducible refine' apartE ?ka ?kb; (case ka => with_reducible assumption); (case kb => k_mem)) | (with_reducible refine' ltNe ?ka; (case ka => with_reducible assumption)))
  k_with "k_ne" => (refine neN ?_; (try dsimp only); first | with_reducible assumption | (with_reducible exact Ne.symm (by assumption)) | (with_reducible exact Nat.ne_of_lt (by assumption)) | (with_reducible exact Nat.ne_of_gt (by assumption)) | omega)
  k_with "ite" => (k_here; first | (with_reducible refine iteP (by with_reducible assumption) ?_) | (with_reducible refine iteF (by with_reducible assumption) ?_))
  k_with "k_inst" => ((with_reducible refine' inst_fr ?ib ?ia; (case ib => with_reducible assumption); (case ia => with_reducible assumption)))
  k_with "z2" => ((with_reducible rename _ + _ < recursionLimit => hr9; first | exact room1 hr9 (by first | decide | assumption | (refine' Nat.le_trans ?qa ?qb; (case qb => assumption); (case qa => decide))) | ((try simp only [depth_under_make, depth_under_kw, depth_in1, depth_deeper, depth_caller, units_in1, units_deeper, units_caller]); (try dsimp only [ktrTop]); omega)))
  k_with "z3" => ((with_reducible rename _ + _ < cLine => hr9; first | exact room3 hr9 (by first | decide | assumption | (refine' Nat.le_trans ?qa ?qb; (case qb => assumption); (case qa => decide))) | ((try simp only [depth_under_make, depth_under_kw, depth_in1, depth_deeper, depth_caller, units_in1, units_deeper, units_caller]); (try dsimp only [ktrTop]); omega)))
  k_with "call ref" => (k_here; (with_reducible show wpAny _ _ (call (Value.ref 327) _ _) _ _ _); k_dflt (refine' TellO.use (tell_attrs1 ?hnm ?hz ?hx ?hlo ?hd ?hf) ?k1 ?k2 ?k3 ?k4 ?k5 ?k6 ?k7 ?k8 ?k9 ?k0 ?_; (case hd => with_reducible rename Obj.IsDictOf (PySem.strKind _ _) _ _ => hD7q97; first | with_reducible exact hD7q97 | (dsimp only [strPairs, strData] at hD7q97; with_reducible exact hD7q97) | with_unfolding_all exact hD7q97); (case hf => with_reducible rename PyProof.V.FlatPairs PyData.str _ _ => hF7q97; first | with_reducible exact hF7q97 | (dsimp only [strPairs, strData] at hF7q97; with_reducible exact hF7q97) | with_unfolding_all exact hF7q97); (case hlo => with_reducible assumption); (case hnm => first | with_reducible exact ⟨full_class, by decide +kernel⟩ | with_reducible exact ⟨full_href, by decide +kernel⟩ | with_reducible exact ⟨full_id, by decide +kernel⟩ | with_reducible exact ⟨full_title, by decide +kernel⟩); (case hz => exact Sz.one (by decide +kernel)); (case hx => first | with_reducible assumption | exact san_raw (by with_reducible assumption) | exact raw_lit (by decide +kernel)); (case k1 => k_asm); (case k2 => k_asm); (case k3 => k_asm); (case k4 => k_asm); (case k5 => k_asm); (case k6 => exact rfl); (case k7 => k_extra "z2"); (case k8 => k_extra "z3"); (case k9 => with_reducible assumption); (case k0 => first | with_reducible exact own_nil | (with_reducible refine own_one ?_; k_mem)); intro r9q97 h9q97 t9q97 F9q97 N9q97 o9q97; obtain ⟨tn9q97, e9q97, hz9q97⟩ := o9q97; subst e9q97; (try k_sweep); (try dsimp only); (try k_fold)))
  k_with "truthy str" => (k_here; k_dflt ((with_reducible refine' KXt.truthy_pos ?hy ?hl ?hk ?_); (case hy => with_reducible assumption); (case hl => with_reducible assumption); (case hk => decide); intro k9q100; (try dsimp only); (try k_fold)))
  k_with "look" => (with_reducible first | exact Look1.str | exact Look1.int | (refine' Look1.name ?hx ?hd ?hm; (case hx => k_dflt (exact rfl)); (case hd => k_dflt decide); (case hm => k_dflt (exact rfl))) | exact LookN.nil | (refine' LookN.cons ?x ?y; (case x => k_extra "look"); (case y => k_extra "look")) | exact LookP.nil | (refine' LookP.cons ?x ?y ?z; (case x => k_extra "look"); (case y => k_extra "look"); (case z => k_extra "look")))
  k_with "spliced" => (k_here; (with_reducible show wpAny _ _ (spliced (backTo _ (starEach (_ :: _) _))) _ _ _); (with_reducible rename Fr _ _ _ _ => F8q16); ((with_reducible refine' args_lk F8q16 ?he ?hk ?l ?_); (case he => k_dflt (exact ⟨_, _, _, _, rfl⟩)); (case hk => k_dflt (exact rfl)); (case l => k_extra "look")); (try dsimp only); (try k_fold))
  k_with "evalPairs" => (k_here; (with_reducible show wpAny _ _ (evalPairs (pairTrees (_ :: _) _ _ _)) _ _ _); (with_reducible rename Fr _ _ _ _ => F8q17); ((with_reducible refine' pairs_lk F8q17 ?he ?hk ?l ?_); (case he => k_dflt (exact ⟨_, _, _, _, rfl⟩)); (case hk => k_dflt (exact rfl)); (case l => k_extra "look")); (try dsimp only); (try k_fold))
  k_with "eval BinOp" => (k_here; (with_reducible show wpAny _ _ (eval (Expr.BinOp (Expr.Name _ _) _ (Expr.Constant _ _ _) _) _) _ _ _); (with_reducible rename Fr _ _ _ _ => F8q18); ((with_reducible refine' bin_lk F8q18 ?he ?hk ?l ?r ?_); (case he => k_dflt (exact ⟨_, _, _, _, rfl⟩)); (case hk => k_dflt (exact rfl)); (case l => k_extra "look"); (case r => k_extra "look")); (try dsimp only); (try k_fold))
  k_with "eval BinOp" => (k_here; (with_reducible show wpAny _ _ (eval (Expr.BinOp (Expr.Name _ _) _ (Expr.Name _ _) _) _) _ _ _); (with_reducible rename Fr _ _ _ _ => F8q19); ((with_reducible refine' bin_lk F8q19 ?he ?hk ?l ?r ?_); (case he => k_dflt (exact ⟨_, _, _, _, rfl⟩)); (case hk => k_dflt (exact rfl)); (case l => k_extra "look"); (case r => k_extra "look")); (try dsimp only); (try k_fold))
  k_with "exec If" => (k_here; (with_reducible show wpAny _ _ (exec (Stmt.If (Expr.Compare (Expr.Name _ _) [CmpOp.Eq] [Expr.Constant (Const.int _) _ _] _) _ _ _) _) _ _ _); (with_reducible rename Fr _ _ _ _ => F8q20); ((with_reducible refine' if_lk F8q20 ?he ?hk ?l ?r ?h ?_); (case he => k_dflt (exact ⟨_, _, _, _, rfl⟩)); (case hk => k_dflt (exact rfl)); (case l => k_extra "look"); (case r => k_extra "look"); (case h => k_dflt (with_unfolding_all rfl))); (try dsimp only); (try k_fold))
  k_with "storeName" => (k_here; (with_reducible rename Fr _ _ _ _ => F8q21); (with_reducible rename News _ _ _ _ => N8q21); ((with_reducible refine' store_lk F8q21 N8q21 ?he ?hk ?hx ?_); (case he => k_dflt (exact ⟨_, _, _, _, rfl⟩)); (case hk => k_dflt (exact rfl)); (case hx => k_dflt (exact rfl)); intro h9q21 m9q21 F9q21 N9q21; (try clear F8q21 N8q21); (try dsimp only); (try k_fold)))
  trivial
theorem tell_head1 {w : World} {esc : Bool} {sa : Addr} {x : Str} {n : Int} {t1 t2 : Nat} (hz : Sz x 1) (hn1 : 1 ≤ n) (hn6 : n ≤ 6) : TellO w 427 200 2000 [.ref sa, .str x t1] [(S "level", .int n t2)] [] (fun h => SelfAt w esc h sa) (fun r => ∃ t, r = .str (S "<h" ++ numF n ++ S "" ++ S ">" ++ x ++ S "</h" ++ numF n ++ S ">\n") t) := by
  have hnz : Sz (Str.ofString (toString n)) 1 := Sz.one (Nat.le_trans (num_len hn1 hn6) (by decide))
  intro p loose mean mg mb dp un gd cn cs a ccd cl outer A₀ base h₀ L m news s Q E B F X N T hk hdp hun hpre hown ret
  refine fillT w ?_
  k_fill
  intro _ _
  k_dflt (refine' kpc_more ?k1 ?k2 ?k3 ?k4 ?k5 ?kA ?kF ?kK ?k6 ?k7 ?k8 ?kX ?kM ?kN ?kD ?kR ?kP ?kT ?kB ?_ ?c2 ?c3 ?c4 ?c5; (case kA => exact rfl); (case kF => exact rfl); (case kK => first | assumption | exact rfl); (case k1 => k_asm); (case k2 => k_asm); (case k3 => k_asm); (case k4 => k_asm); (case k5 => k_asm); (case k6 => k_is); (case k7 => k_is); (case k8 => ((try simp only [depth_under_make, depth_under_kw, depth_in1, depth_deeper, depth_caller]); (try dsimp only [ktrTop]); omega)); (case kX => kp_lit); (case kM => exact rfl); (case kN => exact rfl); (case kD => kp_flats); (case kR => exact rfl); (case kP => exact rfl); (case kT => exact fun _ => rfl); (case kB => exact fun _ => locs rfl); (case c5 => decide); (case c2 => exact rfl); (case c3 => exact rfl); (case c4 => exact rfl); k_whole; intro D0 o0 g0 L0 h' tk' l1 lo' hs' fs' FG' F' N' B' X' T'; (try dsimp only); (try k_fold))
  replace hpre := SelfAt.kept hpre FG'.keep
  obtain ⟨dx, md, k1, k2, k3, hI, hmd⟩ := id hpre
  repeat' (first | ((with_reducible show Q _ _); fail) | (k_unfold; (try dsimp only)) | ((fail_if_success (with_reducible show Q _ _)); walk1) | ((fail_if_success (with_reducible show Q _ _)); dsimp only; walk1) | (leave1; try dsimp only) | fail "no step")
  all_goals (
    with_reducible rename Fr h₀ L _ _ => kF
    with_reducible rename News h₀ L _ _ => kN
    exact ret _ _ _ kF (fun p hp => kN p (by first | exact .tail _ hp | exact .tail _ (.tail _ hp) | exact .tail _ (.tail _ (.tail _ hp)) | exact .tail _ (.tail _ (.tail _ (.tail _ hp))))) ⟨_, congrArg (fun z => Value.str z _) (head_txt _ _ _)⟩)
end
section
open PySem.W.KStt (codes)
theorem tell_head2 {w : World} {esc : Bool} {sa : Addr} {x y : Str} {n : Int} {t1 t2 t3 : Nat} (hz : Sz x 1) (hn1 : 1 ≤ n) (hn6 : n ≤ 6) (hy : y ∈ rawsL) (hy0 : 1 ≤ y.length) (hy1 : y.length ≤ 100000) : TellO w 427 200 2000 [.ref sa, .str x t1] [(S "level", .int n t2), (S "id", .str y t3)] [] (fun h => SelfAt w esc h sa) (fun r => ∃ t, r = .str (S "<h" ++ numF n ++ attrF (S "id") y ++ S ">" ++ x ++ S "</h" ++ numF n ++ S ">\n") t) := by
  have hnz : Sz (Str.ofString (toString n)) 1 := Sz.one (Nat.le_trans (num_len hn1 hn6) (by decide))
  intro p loose mean mg mb dp un gd cn cs a ccd cl outer A₀ base h₀ L m news s Q E B F X N T hk hdp hun hpre hown ret
  refine fillT w ?_
  k_fill
  intro _ _
  k_dflt (refine' kpc_more ?k1 ?k2 ?k3 ?k4 ?k5 ?kA ?kF ?kK ?k6 ?k7 ?k8 ?kX ?kM ?kN ?kD ?kR ?kP ?kT ?kB ?_ ?c2 ?c3 ?c4 ?c5; (case kA => exact rfl); (case kF => exact rfl); (case kK => first | assumption | exact rfl); (case k1 => k_asm); (case k2 => k_asm); (case k3 => k_asm); (case k4 => k_asm); (case k5 => k_asm); (case k6 => k_is); (case k7 => k_is); (case k8 => ((try simp only [depth_under_make, depth_under_kw, depth_in1, depth_deeper, depth_caller]); (try dsimp only [ktrTop]); omega)); (case kX => kp_lit); (case kM => exact rfl); (case kN => exact rfl); (case kD => kp_flats); (case kR => exact rfl); (case kP => exact rfl); (case kT => exact fun _ => rfl); (case kB => exact fun _ => locs rfl); (case c5 => decide); (case c2 => exact rfl); (case c3 => exact rfl); (case c4 => exact rfl); k_whole; intro D0 o0 g0 L0 h' tk' l1 lo' hs' fs' FG' F' N' B' X' T'; (try dsimp only); (try k_fold))
  replace hpre := SelfAt.kept hpre FG'.keep
  obtain ⟨dx, md, k1, k2, k3, hI, hmd⟩ := id hpre
  repeat' (first | ((with_reducible show Q _ _); fail) | (k_unfold; (try dsimp only)) | ((fail_if_success (with_reducible show Q _ _)); walk1) | ((fail_if_success (with_reducible show Q _ _)); dsimp only; walk1) | (leave1; try dsimp only) | fail "no step")
  all_goals (
    with_reducible rename Fr h₀ L _ _ => kF
    with_reducible rename News h₀ L _ _ => kN
    exact ret _ _ _ kF (fun p hp => kN p (by first | exact .tail _ hp | exact .tail _ (.tail _ hp) | exact .tail _ (.tail _ (.tail _ hp)) | exact .tail _ (.tail _ (.tail _ (.tail _ hp))))) ⟨_, congrArg (fun z => Value.str z _) (head_txt _ _ _)⟩)
end
section
open PySem.W.KStt (codes)
theorem lines_NLk : True := by
  k_with_none
  k_with "z1" => (((try simp only [depth_under_make, depth_under_kw, depth_in1, depth_deeper, depth_caller]); (try dsimp only [ktrTop]); omega))
  k_with "ktr_enter" => ((refine' code_def ?k1 ?k2 ?k3 ?k4 ?k5 ?kA ?kF ?kK ?k6 ?k7 ?k8 ?k9 ?kB ?_ ?c2 ?c3 ?c4 ?c5; (case kA => exact rfl); (case kF => exact rfl); (case kK => first | assumption | exact rfl); (case k1 => k_asm); (case k2 => k_asm); (case k3 => k_asm); (case k4 => k_asm); (case k5 => k_asm); (case k6 => k_is); (case k7 => k_is); (case k8 => k_extra "z1"); (case k9 => first | exact BindsTo.of_eq rfl | exact binds_K (by k_in) rfl (by k_is) rfl rfl rfl | fail "enter: no rule for these arguments"); (case c5 => decide); (case kB => exact locs rfl); (case c2 => exact rfl); (case c3 => exact rfl); (case c4 => exact rfl); k_whole); intro gpq0 Lpq0 hpq0 FGpq0 Fpq0 Npq0 Bpq0 Xpq0 Tpq0; (try dsimp only); (try k_lift Bpq0); (try k_fold))
  k_with "k_mem" => (first | with_reducible exact List.mem_cons_self | with_reducible assumption | (with_reducible refine List.mem_cons_of_mem _ ?_; k_mem) | (with_reducible refine List.mem_append_left _ ?_; k_mem) | (with_reducible refine List.mem_append_right _ ?_; k_mem))
  k_with "execs cons" => (k_here; k_dflt (refine wpAny_execs_cons ?_))
  k_with "execs cons" => (k_here; (with_reducible refine execs_cons_gen ?_); intro tk9q3)
  k_with "execs nil" => (k_here; (with_reducible refine wpAny_execs_nil ?_))
  k_with "exec If" => (k_here; k_dflt (refine wpAny_If ?_))
  k_with "ite" => (k_here; first | (with_reducible refine ite_tt ?_) | (with_reducible refine ite_ff ?_) | (k_closed; (first | (with_reducible refine iteP ?iteC ?_; (case iteC => decide)) | (with_reducible refine iteN ?iteC ?_; (case iteC => decide)))) | (with_reducible refine split_ine ?_ ?_ <;> intro _) | (with_reducible refine split_ieq ?_ ?_ <;> intro _) | with_reducible refine split_not ?_ | (with_reducible refine iteDec ?_ ?_ <;> intro _) | (with_reducible refine iteB ?_ ?_ <;> intro _))
  k_with "callWith ref" => (k_here; k_dflt ((with_reducible refine' callWith_K ?k1 ?k2 ?_ ?he ?hp); (case he => exact rfl); (case hp => exact rfl); (case k1 => k_asm); (case k2 => k_is)))
  k_with "callWith ref" => (k_here; k_dflt ((with_reducible refine' callWith_K0 ?k1 ?k2 ?_); (case k1 => exact Frag.In.keeps (by with_reducible assumption) (Fr.keep (by with_reducible assumption))); (case k2 => k_is); (try dsimp only [List.nil_append])))
  k_with "callWith" => (k_here; k_dflt ((with_reducible refine' callWith_m1 ?_ ?he ?hp); (case he => exact rfl); (case hp => exact rfl)))
  k_with "binaryOp Mod int int" => (k_here; (with_reducible refine' mod_int' ?kbe ?_); (case kbe => decide); (try dsimp only); (try k_fold))
  k_with "call builtin:str.join" => (k_here; (with_reducible show wpAny _ _ (call (Value.builtin _) [Value.str _ _, Value.ref _]) _ _ _); k_dflt (first | ((with_reducible refine' join_0 ?k1 ?k2 ?_); (case k1 => k_asm); (case k2 => k_mem)) | ((with_reducible refine' join_1 ?k1 ?k2 ?ka ?kn ?_); (case k1 => k_asm); (case k2 => k_mem); (case ka => with_reducible assumption); (case kn => decide)) | ((with_reducible refine' join_2 ?k1 ?k2 ?ka ?kb ?kn ?_); (case k1 => k_asm); (case k2 => k_mem); (case ka => with_reducible assumption); (case kb => with_reducible assumption); (case kn => decide))); intro t9q68 k9q68; (try dsimp only); (try k_fold))
  k_with "k_room" => (((try simp only [depth_under_make, depth_under_kw, depth_in1, depth_deeper, depth_caller]); (try dsimp only [ktrTop]); omega))
  k_with "ktr_enter" => ((refine' code_def ?k1 ?k2 ?k3 ?k4 ?k5 ?kA ?kF ?kK ?k6 ?k7 ?k8 ?k9 ?kB ?_ ?c2 ?c3 ?c4 ?c5; (case kA => exact rfl); (case kF => exact rfl); (case kK => first | assumption | exact rfl); (case k1 => k_asm); (case k2 => k_asm); (case k3 => k_asm); (case k4 => k_asm); (case k5 => k_asm); (case k6 => k_is); (case k7 => k_is); (case k8 => k_extra "z1"); (case k9 => first | exact BindsTo.of_eq rfl | exact binds_K (by k_in) rfl (by k_is) rfl rfl rfl | fail "enter: no rule for these arguments"); (case c5 => decide); (case kB => exact locs rfl); (case c2 => exact rfl); (case c3 => exact rfl); (case c4 => exact rfl); k_whole); intro gpq70 Lpq70 hpq70 FGpq70 Fpq70 Npq70 Bpq70 Xpq70 Tpq70; (try dsimp only); (try k_lift Bpq70); (try k_fold); (try have hIL := InstAt.kept (by with_reducible assumption) (Fr.keep FGpq70)); (try have hSL := SelfAt.kept (by with_reducible assumption) (Fr.keep FGpq70)))
  k_with "k_enter" => ((refine' code_def ?k1 ?k2 ?k3 ?k4 ?k5 ?kA ?kF ?kK ?k6 ?k7 ?k8 ?k9 ?kB ?_ ?c2 ?c3 ?c4 ?c5; (case kA => exact rfl); (case kF => exact rfl); (case kK => first | assumption | exact rfl); (case k1 => k_asm); (case k2 => k_asm); (case k3 => k_asm); (case k4 => k_asm); (case k5 => k_asm); (case k6 => k_is); (case k7 => k_is); (case k8 => k_extra "z1"); (case k9 => first | exact BindsTo.of_eq rfl | exact binds_K (by k_in) rfl (by k_is) rfl rfl rfl | fail "enter: no rule for these arguments"); (case c5 => decide); (case kB => exact locs rfl); (case c2 => exact rfl); (case c3 => exact rfl); (case c4 => exact rfl); k_whole); intro gpq71 Lpq71 hpq71 FGpq71 Fpq71 Npq71 Bpq71 Xpq71 Tpq71; (try dsimp only); (try k_lift Bpq71); (try k_fold); (try have hIL := InstAt.kept (by with_reducible assumption) (Fr.keep FGpq71)); (try have hSL := SelfAt.kept (by with_reducible assumption) (Fr.keep FGpq71)))
  k_with "eval Call" => (k_here; (with_reducible show wpAny _ _ (eval (Expr.Call (Expr.Name _ _) _ [] _) _) _ _ _); k_dflt (refine Call_ ?_))
  k_with "binaryOp Add str str" => (k_here; k_dflt ((with_reducible refine' add_strP (Sz.app ?sa ?sb) ?hn ?_); (case sa => first | with_reducible assumption | exact raw_sz (by with_reducible assumption) | (refine Sz.one ?_; first | decide +kernel | exact num_sz _)); (case sb => first | with_reducible assumption | exact raw_sz (by with_reducible assumption) | (refine Sz.one ?_; first | decide +kernel | exact num_sz _)); (case hn => decide); intro t9q72 k9q72 hz9q72; (try dsimp only); (try k_fold)))
  k_with "k_all" => (first | with_reducible assumption | exact List.forall_mem_nil _ | (with_reducible refine' List.forall_mem_cons.mpr ⟨?ka, ?kb⟩; (case ka => k_ne); (case kb => k_all)) | (with_reducible refine' ltNe2 ?ka; (case ka => with_reducible assumption)) | (with_reducible refine' ltNe3 ?ka; (case ka => with_reducible assumption)) | (with_reducible refine' ltNe4 ?ka; (case ka => with_reducible assumption)) | (with_reducible refine' List.forall_mem_append.mpr ⟨?ka, ?kb⟩; (case ka => k_all); (case kb => k_all)) | (with_reducible refine' apartE ?ka ?kb; (case ka => with_reducible assumption); (case kb => k_mem)) | (with_reducible refine' ltNe ?ka; (case ka => with_reducible assumption)))
  k_with "k_ne" => (refine neN ?_; (try dsimp only); first | with_reducible assumption | (with_reducible exact Ne.symm (by assumption)) | (with_reducible exact Nat.ne_of_lt (by assumption)) | (with_reducible exact Nat.ne_of_gt (by assumption)) | omega)
  k_with "ite" => (k_here; first | (with_reducible refine iteP (by with_reducible assumption) ?_) | (with_reducible refine iteF (by with_reducible assumption) ?_))
  k_with "k_inst" => ((with_reducible refine' inst_fr ?ib ?ia; (case ib => with_reducible assumption); (case ia => with_reducible assumption)))
  k_with "z2" => ((with_reducible rename _ + _ < recursionLimit => hr9; first | exact room1 hr9 (by first | decide | assumption | (refine' Nat.le_trans ?qa ?qb; (case qb => assumption); (case qa => decide))) | ((try simp only [depth_under_make, depth_under_kw, depth_in1, depth_deeper, depth_caller, units_in1, units_deeper, units_caller]); (try dsimp only [ktrTop]); omega)))
  k_with "z3" => ((with_reducible rename _ + _ < cLine => hr9; first | exact room3 hr9 (by first | decide | assumption | (refine' Nat.le_trans ?qa ?qb; (case qb => assumption); (case qa => decide))) | ((try simp only [depth_under_make, depth_under_kw, depth_in1, depth_deeper, depth_caller, units_in1, units_deeper, units_caller]); (try dsimp only [ktrTop]); omega)))
  k_with "call ref" => (k_here; (with_reducible show wpAny _ _ (call (Value.ref 334) _ _) _ _ _); k_dflt (refine' TellO.use (tell_san ?hu) ?k1 ?k2 ?k3 ?k4 ?k5 ?k6 ?k7 ?k8 ?k9 ?k0 ?_; (case hu => with_reducible assumption); (case k1 => k_asm); (case k2 => k_asm); (case k3 => k_asm); (case k4 => k_asm); (case k5 => k_asm); (case k6 => exact rfl); (case k7 => k_extra "z2"); (case k8 => k_extra "z3"); (case k9 => with_reducible assumption); (case k0 => first | with_reducible exact own_nil | (with_reducible refine own_one ?_; k_mem)); intro r9q96 h9q96 t9q96 F9q96 N9q96 o9q96; obtain ⟨tn9q96, e9q96⟩ := o9q96; subst e9q96; (try have hlS9q96 := san_sz (by with_reducible assumption)); (try k_sweep); (try dsimp only); (try k_fold)))
  k_with "call ref" => (k_here; (with_reducible show wpAny _ _ (call (Value.ref 327) _ _) _ _ _); k_dflt (refine' TellO.use (tell_attrs1 ?hnm ?hz ?hx ?hlo ?hd ?hf) ?k1 ?k2 ?k3 ?k4 ?k5 ?k6 ?k7 ?k8 ?k9 ?k0 ?_; (case hd => with_reducible rename Obj.IsDictOf (PySem.strKind _ _) _ _ => hD7q97; first | with_reducible exact hD7q97 | (dsimp only [strPairs, strData] at hD7q97; with_reducible exact hD7q97) | with_unfolding_all exact hD7q97); (case hf => with_reducible rename PyProof.V.FlatPairs PyData.str _ _ => hF7q97; first | with_reducible exact hF7q97 | (dsimp only [strPairs, strData] at hF7q97; with_reducible exact hF7q97) | with_unfolding_all exact hF7q97); (case hlo => with_reducible assumption); (case hnm => first | with_reducible exact ⟨full_class, by decide +kernel⟩ | with_reducible exact ⟨full_href, by decide +kernel⟩ | with_reducible exact ⟨full_id, by decide +kernel⟩ | with_reducible exact ⟨full_title, by decide +kernel⟩); (case hz => exact Sz.one (by decide +kernel)); (case hx => first | with_reducible assumption | exact san_raw (by with_reducible assumption) | exact raw_lit (by decide +kernel)); (case k1 => k_asm); (case k2 => k_asm); (case k3 => k_asm); (case k4 => k_asm); (case k5 => k_asm); (case k6 => exact rfl); (case k7 => k_extra "z2"); (case k8 => k_extra "z3"); (case k9 => with_reducible assumption); (case k0 => first | with_reducible exact own_nil | (with_reducible refine own_one ?_; k_mem)); intro r9q97 h9q97 t9q97 F9q97 N9q97 o9q97; obtain ⟨tn9q97, e9q97, hz9q97⟩ := o9q97; subst e9q97; (try k_sweep); (try dsimp only); (try k_fold)))
  k_with "look" => (with_reducible first | exact Look1.str | exact Look1.int | (refine' Look1.name ?hx ?hd ?hm; (case hx => k_dflt (exact rfl)); (case hd => k_dflt decide); (case hm => k_dflt (exact rfl))) | exact LookN.nil | (refine' LookN.cons ?x ?y; (case x => k_extra "look"); (case y => k_extra "look")) | exact LookP.nil | (refine' LookP.cons ?x ?y ?z; (case x => k_extra "look"); (case y => k_extra "look"); (case z => k_extra "look")))
  k_with "spliced" => (k_here; (with_reducible show wpAny _ _ (spliced (backTo _ (starEach (_ :: _) _))) _ _ _); (with_reducible rename Fr _ _ _ _ => F8q16); ((with_reducible refine' args_lk F8q16 ?he ?hk ?l ?_); (case he => k_dflt (exact ⟨_, _, _, _, rfl⟩)); (case hk => k_dflt (exact rfl)); (case l => k_extra "look")); (try dsimp only); (try k_fold))
  k_with "evalPairs" => (k_here; (with_reducible show wpAny _ _ (evalPairs (pairTrees (_ :: _) _ _ _)) _ _ _); (with_reducible rename Fr _ _ _ _ => F8q17); ((with_reducible refine' pairs_lk F8q17 ?he ?hk ?l ?_); (case he => k_dflt (exact ⟨_, _, _, _, rfl⟩)); (case hk => k_dflt (exact rfl)); (case l => k_extra "look")); (try dsimp only); (try k_fold))
  k_with "eval BinOp" => (k_here; (with_reducible show wpAny _ _ (eval (Expr.BinOp (Expr.Name _ _) _ (Expr.Constant _ _ _) _) _) _ _ _); (with_reducible rename Fr _ _ _ _ => F8q18); ((with_reducible refine' bin_lk F8q18 ?he ?hk ?l ?r ?_); (case he => k_dflt (exact ⟨_, _, _, _, rfl⟩)); (case hk => k_dflt (exact rfl)); (case l => k_extra "look"); (case r => k_extra "look")); (try dsimp only); (try k_fold))
  k_with "eval BinOp" => (k_here; (with_reducible show wpAny _ _ (eval (Expr.BinOp (Expr.Name _ _) _ (Expr.Name _ _) _) _) _ _ _); (with_reducible rename Fr _ _ _ _ => F8q19); ((with_reducible refine' bin_lk F8q19 ?he ?hk ?l ?r ?_); (case he => k_dflt (exact ⟨_, _, _, _, rfl⟩)); (case hk => k_dflt (exact rfl)); (case l => k_extra "look"); (case r => k_extra "look")); (try dsimp only); (try k_fold))
  k_with "exec If" => (k_here; (with_reducible show wpAny _ _ (exec (Stmt.If (Expr.Compare (Expr.Name _ _) [CmpOp.Eq] [Expr.Constant (Const.int _) _ _] _) _ _ _) _) _ _ _); (with_reducible rename Fr _ _ _ _ => F8q20); ((with_reducible refine' if_lk F8q20 ?he ?hk ?l ?r ?h ?_); (case he => k_dflt (exact ⟨_, _, _, _, rfl⟩)); (case hk => k_dflt (exact rfl)); (case l => k_extra "look"); (case r => k_extra "look"); (case h => k_dflt (with_unfolding_all rfl))); (try dsimp only); (try k_fold))
  k_with "storeName" => (k_here; (with_reducible rename Fr _ _ _ _ => F8q21); (with_reducible rename News _ _ _ _ => N8q21); ((with_reducible refine' store_lk F8q21 N8q21 ?he ?hk ?hx ?_); (case he => k_dflt (exact ⟨_, _, _, _, rfl⟩)); (case hk => k_dflt (exact rfl)); (case hx => k_dflt (exact rfl)); intro h9q21 m9q21 F9q21 N9q21; (try clear F8q21 N8q21); (try dsimp only); (try k_fold)))
  trivial
theorem tell_link1 {w : World} {esc : Bool} {sa : Addr} {x u : Str} {t1 t2 : Nat} (hz : Sz x 1) (hu : u ∈ urlsL) : TellO w 377 200 2000 [.ref sa, .str x t1] [(S "url", .str u t2)] [] (fun h => SelfAt w esc h sa) (fun r => ∃ t, r = .str (S "<a" ++ attrF (S "href") (sanF u) ++ S ">" ++ x ++ S "</a>") t) := by
  intro p loose mean mg mb dp un gd cn cs a ccd cl outer A₀ base h₀ L m news s Q E B F X N T hk hdp hun hpre hown ret
  refine fillT w ?_
  k_fill
  intro _ _
  k_dflt ((refine' (code_own hown) ?k1 ?k2 ?k3 ?k4 ?k5 ?kA ?kF ?kK ?k6 ?k7 ?k8 ?k9 ?kB ?_ ?c2 ?c3 ?c4 ?c5; (case kA => exact rfl); (case kF => exact rfl); (case kK => first | assumption | exact rfl); (case k1 => k_asm); (case k2 => k_asm); (case k3 => k_asm); (case k4 => k_asm); (case k5 => k_asm); (case k6 => k_is); (case k7 => k_is); (case k8 => ((try simp only [depth_under_make, depth_under_kw, depth_in1, depth_deeper, depth_caller]); (try dsimp only [ktrTop]); omega)); (case k9 => first | exact BindsTo.of_eq rfl | exact binds_K (by k_in) rfl (by k_is) rfl rfl rfl | fail "enter: no rule for these arguments"); (case c5 => decide); (case kB => exact locs rfl); (case c2 => exact rfl); (case c3 => exact rfl); (case c4 => exact rfl); k_whole); intro g0 L0 h' FG' F' N' B' X' T' hs0 hst0 hlo0; (try dsimp only); (try k_fold))
  replace hpre := SelfAt.kept hpre hst0
  obtain ⟨dx, md, k1, k2, k3, hI, hmd⟩ := id hpre
  repeat' (first | ((with_reducible show Q _ _); fail) | (k_unfold; (try dsimp only)) | ((fail_if_success (with_reducible show Q _ _)); walk1) | ((fail_if_success (with_reducible show Q _ _)); dsimp only; walk1) | (leave1; try dsimp only) | fail "no step")
  all_goals (
    with_reducible rename Fr h₀ L _ _ => kF
    with_reducible rename News h₀ L _ _ => kN
    with_reducible rename Fr g0 _ _ _ => F9
    refine ret _ _ _ kF (backO N hown hs0 F9 kN (by first | with_reducible exact own_nil | (with_reducible refine own_one ?_; k_mem))) ⟨_, rfl⟩)
end
section
open PySem.W.KStt (codes)
theorem lines_NLt : True := by
  k_with_none
  k_with "z1" => (((try simp only [depth_under_make, depth_under_kw, depth_in1, depth_deeper, depth_caller]); (try dsimp only [ktrTop]); omega))
  k_with "ktr_enter" => ((refine' code_def ?k1 ?k2 ?k3 ?k4 ?k5 ?kA ?kF ?kK ?k6 ?k7 ?k8 ?k9 ?kB ?_ ?c2 ?c3 ?c4 ?c5; (case kA => exact rfl); (case kF => exact rfl); (case kK => first | assumption | exact rfl); (case k1 => k_asm); (case k2 => k_asm); (case k3 => k_asm); (case k4 => k_asm); (case k5 => k_asm); (case k6 => k_is); (case k7 => k_is); (case k8 => k_extra "z1"); (case k9 => first | exact BindsTo.of_eq rfl | exact binds_K (by k_in) rfl (by k_is) rfl rfl rfl | fail "enter: no rule for these arguments"); (case c5 => decide); (case kB => exact locs rfl); (case c2 => exact rfl); (case c3 => exact rfl); (case c4 => exact rfl); k_whole); intro gpq0 Lpq0 hpq0 FGpq0 Fpq0 Npq0 Bpq0 Xpq0 Tpq0; (try dsimp only); (try k_lift Bpq0); (try k_fold))
  k_with "k_mem" => (first | with_reducible exact List.mem_cons_self | with_reducible assumption | (with_reducible refine List.mem_cons_of_mem _ ?_; k_mem) | (with_reducible refine List.mem_append_left _ ?_; k_mem) | (with_reducible refine List.mem_append_right _ ?_; k_mem))
  k_with "execs cons" => (k_here; k_dflt (refine wpAny_execs_cons ?_))
  k_with "execs cons" => (k_here; (with_reducible refine execs_cons_gen ?_); intro tk9q3)
  k_with "execs nil" => (k_here; (with_reducible refine wpAny_execs_nil ?_))
  k_with "exec If" => (k_here; k_dflt (refine wpAny_If ?_))
  k_with "ite" => (k_here; first | (with_reducible refine ite_tt ?_) | (with_reducible refine ite_ff ?_) | (k_closed; (first | (with_reducible refine iteP ?iteC ?_; (case iteC => decide)) | (with_reducible refine iteN ?iteC ?_; (case iteC => decide)))) | (with_reducible refine split_ine ?_ ?_ <;> intro _) | (with_reducible refine split_ieq ?_ ?_ <;> intro _) | with_reducible refine split_not ?_ | (with_reducible refine iteDec ?_ ?_ <;> intro _) | (with_reducible refine iteB ?_ ?_ <;> intro _))
  k_with "callWith ref" => (k_here; k_dflt ((with_reducible refine' callWith_K ?k1 ?k2 ?_ ?he ?hp); (case he => exact rfl); (case hp => exact rfl); (case k1 => k_asm); (case k2 => k_is)))
  k_with "callWith ref" => (k_here; k_dflt ((with_reducible refine' callWith_K0 ?k1 ?k2 ?_); (case k1 => exact Frag.In.keeps (by with_reducible assumption) (Fr.keep (by with_reducible assumption))); (case k2 => k_is); (try dsimp only [List.nil_append])))
  k_with "callWith" => (k_here; k_dflt ((with_reducible refine' callWith_m1 ?_ ?he ?hp); (case he => exact rfl); (case hp => exact rfl)))
  k_with "binaryOp Mod int int" => (k_here; (with_reducible refine' mod_int' ?kbe ?_); (case kbe => decide); (try dsimp only); (try k_fold))
  k_with "call builtin:str.join" => (k_here; (with_reducible show wpAny _ _ (call (Value.builtin _) [Value.str _ _, Value.ref _]) _ _ _); k_dflt (first | ((with_reducible refine' join_0 ?k1 ?k2 ?_); (case k1 => k_asm); (case k2 => k_mem)) | ((with_reducible refine' join_1 ?k1 ?k2 ?ka ?kn ?_); (case k1 => k_asm); (case k2 => k_mem); (case ka => with_reducible assumption); (case kn => decide)) | ((with_reducible refine' join_2 ?k1 ?k2 ?ka ?kb ?kn ?_); (case k1 => k_asm); (case k2 => k_mem); (case ka => with_reducible assumption); (case kb => with_reducible assumption); (case kn => decide))); intro t9q68 k9q68; (try dsimp only); (try k_fold))
  k_with "k_room" => (((try simp only [depth_under_make, depth_under_kw, depth_in1, depth_deeper, depth_caller]); (try dsimp only [ktrTop]); omega))
  k_with "ktr_enter" => ((refine' code_def ?k1 ?k2 ?k3 ?k4 ?k5 ?kA ?kF ?kK ?k6 ?k7 ?k8 ?k9 ?kB ?_ ?c2 ?c3 ?c4 ?c5; (case kA => exact rfl); (case kF => exact rfl); (case kK => first | assumption | exact rfl); (case k1 => k_asm); (case k2 => k_asm); (case k3 => k_asm); (case k4 => k_asm); (case k5 => k_asm); (case k6 => k_is); (case k7 => k_is); (case k8 => k_extra "z1"); (case k9 => first | exact BindsTo.of_eq rfl | exact binds_K (by k_in) rfl (by k_is) rfl rfl rfl | fail "enter: no rule for these arguments"); (case c5 => decide); (case kB => exact locs rfl); (case c2 => exact rfl); (case c3 => exact rfl); (case c4 => exact rfl); k_whole); intro gpq70 Lpq70 hpq70 FGpq70 Fpq70 Npq70 Bpq70 Xpq70 Tpq70; (try dsimp only); (try k_lift Bpq70); (try k_fold); (try have hIL := InstAt.kept (by with_reducible assumption) (Fr.keep FGpq70)); (try have hSL := SelfAt.kept (by with_reducible assumption) (Fr.keep FGpq70)))
  k_with "k_enter" => ((refine' code_def ?k1 ?k2 ?k3 ?k4 ?k5 ?kA ?kF ?kK ?k6 ?k7 ?k8 ?k9 ?kB ?_ ?c2 ?c3 ?c4 ?c5; (case kA => exact rfl); (case kF => exact rfl); (case kK => first | assumption | exact rfl); (case k1 => k_asm); (case k2 => k_asm); (case k3 => k_asm); (case k4 => k_asm); (case k5 => k_asm); (case k6 => k_is); (case k7 => k_is); (case k8 => k_extra "z1"); (case k9 => first | exact BindsTo.of_eq rfl | exact binds_K (by k_in) rfl (by k_is) rfl rfl rfl | fail "enter: no rule for these arguments"); (case c5 => decide); (case kB => exact locs rfl); (case c2 => exact rfl); (case c3 => exact rfl); (case c4 => exact rfl); k_whole); intro gpq71 Lpq71 hpq71 FGpq71 Fpq71 Npq71 Bpq71 Xpq71 Tpq71; (try dsimp only); (try k_lift Bpq71); (try k_fold); (try have hIL := InstAt.kept (by with_reducible assumption) (Fr.keep FGpq71)); (try have hSL := SelfAt.kept (by with_reducible assumption) (Fr.keep FGpq71)))
  k_with "eval Call" => (k_here; (with_reducible show wpAny _ _ (eval (Expr.Call (Expr.Name _ _) _ [] _) _) _ _ _); k_dflt (refine Call_ ?_))
  k_with "binaryOp Add str str" => (k_here; k_dflt ((with_reducible refine' add_strP (Sz.app ?sa ?sb) ?hn ?_); (case sa => first | with_reducible assumption | exact raw_sz (by with_reducible assumption) | (refine Sz.one ?_; first | decide +kernel | exact num_sz _)); (case sb => first | with_reducible assumption | exact raw_sz (by with_reducible assumption) | (refine Sz.one ?_; first | decide +kernel | exact num_sz _)); (case hn => decide); intro t9q72 k9q72 hz9q72; (try dsimp only); (try k_fold)))
  k_with "k_all" => (first | with_reducible assumption | exact List.forall_mem_nil _ | (with_reducible refine' List.forall_mem_cons.mpr ⟨?ka, ?kb⟩; (case ka => k_ne); (case kb => k_all)) | (with_reducible refine' ltNe2 ?ka; (case ka => with_reducible assumption)) | (with_reducible refine' ltNe3 ?ka; (case ka => with_reducible assumption)) | (with_reducible refine' ltNe4 ?ka; (case ka => with_reducible assumption)) | (with_reducible refine' List.forall_mem_append.mpr ⟨?ka, ?kb⟩; (case ka => k_all); (case kb => k_all)) | (with_reducible refine' apartE ?ka ?kb; (case ka => with_reducible assumption); (case kb => k_mem)) | (with_reducible refine' ltNe ?ka; (case ka => with_reducible assumption)))
  k_with "k_ne" => (refine neN ?_; (try dsimp only); first | with_reducible assumption | (with_reducible exact Ne.symm (by assumption)) | (with_reducible exact Nat.ne_of_lt (by assumption)) | (with_reducible exact Nat.ne_of_gt (by assumption)) | omega)
  k_with "ite" => (k_here; first | (with_reducible refine iteP (by with_reducible assumption) ?_) | (with_reducible refine iteF (by with_reducible assumption) ?_))
  k_with "k_inst" => ((with_reducible refine' inst_fr ?ib ?ia; (case ib => with_reducible assumption); (case ia => with_reducible assumption)))
  k_with "z2" => ((with_reducible rename _ + _ < recursionLimit => hr9; first | exact room1 hr9 (by first | decide | assumption | (refine' Nat.le_trans ?qa ?qb; (case qb => assumption); (case qa => decide))) | ((try simp only [depth_under_make, depth_under_kw, depth_in1, depth_deeper, depth_caller, units_in1, units_deeper, units_caller]); (try dsimp only [ktrTop]); omega)))
  k_with "z3" => ((with_reducible rename _ + _ < cLine => hr9; first | exact room3 hr9 (by first | decide | assumption | (refine' Nat.le_trans ?qa ?qb; (case qb => assumption); (case qa => decide))) | ((try simp only [depth_under_make, depth_under_kw, depth_in1, depth_deeper, depth_caller, units_in1, units_deeper, units_caller]); (try dsimp only [ktrTop]); omega)))
  k_with "call ref" => (k_here; (with_reducible show wpAny _ _ (call (Value.ref 334) _ _) _ _ _); k_dflt (refine' TellO.use (tell_san ?hu) ?k1 ?k2 ?k3 ?k4 ?k5 ?k6 ?k7 ?k8 ?k9 ?k0 ?_; (case hu => with_reducible assumption); (case k1 => k_asm); (case k2 => k_asm); (case k3 => k_asm); (case k4 => k_asm); (case k5 => k_asm); (case k6 => exact rfl); (case k7 => k_extra "z2"); (case k8 => k_extra "z3"); (case k9 => with_reducible assumption); (case k0 => first | with_reducible exact own_nil | (with_reducible refine own_one ?_; k_mem)); intro r9q96 h9q96 t9q96 F9q96 N9q96 o9q96; obtain ⟨tn9q96, e9q96⟩ := o9q96; subst e9q96; (try have hlS9q96 := san_sz (by with_reducible assumption)); (try k_sweep); (try dsimp only); (try k_fold)))
  k_with "call ref" => (k_here; (with_reducible show wpAny _ _ (call (Value.ref 327) _ _) _ _ _); k_dflt (refine' TellO.use (tell_attrs2 ?hnm ?hz ?hx ?hnm2 ?hz2 ?hx2 ?hlo ?hd ?hf) ?k1 ?k2 ?k3 ?k4 ?k5 ?k6 ?k7 ?k8 ?k9 ?k0 ?_; (case hd => with_reducible rename Obj.IsDictOf (PySem.strKind _ _) _ _ => hD7q99; first | with_reducible exact hD7q99 | (dsimp only [strPairs, strData] at hD7q99; with_reducible exact hD7q99) | with_unfolding_all exact hD7q99); (case hf => with_reducible rename PyProof.V.FlatPairs PyData.str _ _ => hF7q99; first | with_reducible exact hF7q99 | (dsimp only [strPairs, strData] at hF7q99; with_reducible exact hF7q99) | with_unfolding_all exact hF7q99); (case hlo => with_reducible assumption); (case hnm => first | with_reducible exact ⟨full_class, by decide +kernel⟩ | with_reducible exact ⟨full_href, by decide +kernel⟩ | with_reducible exact ⟨full_id, by decide +kernel⟩ | with_reducible exact ⟨full_title, by decide +kernel⟩); (case hz => exact Sz.one (by decide +kernel)); (case hx => first | with_reducible assumption | exact san_raw (by with_reducible assumption) | exact raw_lit (by decide +kernel)); (case hnm2 => first | with_reducible exact ⟨full_class, by decide +kernel⟩ | with_reducible exact ⟨full_href, by decide +kernel⟩ | with_reducible exact ⟨full_id, by decide +kernel⟩ | with_reducible exact ⟨full_title, by decide +kernel⟩); (case hz2 => exact Sz.one (by decide +kernel)); (case hx2 => first | with_reducible assumption | exact san_raw (by with_reducible assumption) | exact raw_lit (by decide +kernel)); (case k1 => k_asm); (case k2 => k_asm); (case k3 => k_asm); (case k4 => k_asm); (case k5 => k_asm); (case k6 => exact rfl); (case k7 => k_extra "z2"); (case k8 => k_extra "z3"); (case k9 => with_reducible assumption); (case k0 => first | with_reducible exact own_nil | (with_reducible refine own_one ?_; k_mem)); intro r9q99 h9q99 t9q99 F9q99 N9q99 o9q99; obtain ⟨tn9q99, e9q99, hz9q99⟩ := o9q99; subst e9q99; (try k_sweep); (try dsimp only); (try k_fold)))
  k_with "truthy str" => (k_here; k_dflt ((with_reducible refine' KXt.truthy_pos ?hy ?hl ?hk ?_); (case hy => with_reducible assumption); (case hl => with_reducible assumption); (case hk => decide); intro k9q100; (try dsimp only); (try k_fold)))
  k_with "look" => (with_reducible first | exact Look1.str | exact Look1.int | (refine' Look1.name ?hx ?hd ?hm; (case hx => k_dflt (exact rfl)); (case hd => k_dflt decide); (case hm => k_dflt (exact rfl))) | exact LookN.nil | (refine' LookN.cons ?x ?y; (case x => k_extra "look"); (case y => k_extra "look")) | exact LookP.nil | (refine' LookP.cons ?x ?y ?z; (case x => k_extra "look"); (case y => k_extra "look"); (case z => k_extra "look")))
  k_with "spliced" => (k_here; (with_reducible show wpAny _ _ (spliced (backTo _ (starEach (_ :: _) _))) _ _ _); (with_reducible rename Fr _ _ _ _ => F8q16); ((with_reducible refine' args_lk F8q16 ?he ?hk ?l ?_); (case he => k_dflt (exact ⟨_, _, _, _, rfl⟩)); (case hk => k_dflt (exact rfl)); (case l => k_extra "look")); (try dsimp only); (try k_fold))
  k_with "evalPairs" => (k_here; (with_reducible show wpAny _ _ (evalPairs (pairTrees (_ :: _) _ _ _)) _ _ _); (with_reducible rename Fr _ _ _ _ => F8q17); ((with_reducible refine' pairs_lk F8q17 ?he ?hk ?l ?_); (case he => k_dflt (exact ⟨_, _, _, _, rfl⟩)); (case hk => k_dflt (exact rfl)); (case l => k_extra "look")); (try dsimp only); (try k_fold))
  k_with "eval BinOp" => (k_here; (with_reducible show wpAny _ _ (eval (Expr.BinOp (Expr.Name _ _) _ (Expr.Constant _ _ _) _) _) _ _ _); (with_reducible rename Fr _ _ _ _ => F8q18); ((with_reducible refine' bin_lk F8q18 ?he ?hk ?l ?r ?_); (case he => k_dflt (exact ⟨_, _, _, _, rfl⟩)); (case hk => k_dflt (exact rfl)); (case l => k_extra "look"); (case r => k_extra "look")); (try dsimp only); (try k_fold))
  k_with "eval BinOp" => (k_here; (with_reducible show wpAny _ _ (eval (Expr.BinOp (Expr.Name _ _) _ (Expr.Name _ _) _) _) _ _ _); (with_reducible rename Fr _ _ _ _ => F8q19); ((with_reducible refine' bin_lk F8q19 ?he ?hk ?l ?r ?_); (case he => k_dflt (exact ⟨_, _, _, _, rfl⟩)); (case hk => k_dflt (exact rfl)); (case l => k_extra "look"); (case r => k_extra "look")); (try dsimp only); (try k_fold))
  k_with "exec If" => (k_here; (with_reducible show wpAny _ _ (exec (Stmt.If (Expr.Compare (Expr.Name _ _) [CmpOp.Eq] [Expr.Constant (Const.int _) _ _] _) _ _ _) _) _ _ _); (with_reducible rename Fr _ _ _ _ => F8q20); ((with_reducible refine' if_lk F8q20 ?he ?hk ?l ?r ?h ?_); (case he => k_dflt (exact ⟨_, _, _, _, rfl⟩)); (case hk => k_dflt (exact rfl)); (case l => k_extra "look"); (case r => k_extra "look"); (case h => k_dflt (with_unfolding_all rfl))); (try dsimp only); (try k_fold))
  k_with "storeName" => (k_here; (with_reducible rename Fr _ _ _ _ => F8q21); (with_reducible rename News _ _ _ _ => N8q21); ((with_reducible refine' store_lk F8q21 N8q21 ?he ?hk ?hx ?_); (case he => k_dflt (exact ⟨_, _, _, _, rfl⟩)); (case hk => k_dflt (exact rfl)); (case hx => k_dflt (exact rfl)); intro h9q21 m9q21 F9q21 N9q21; (try clear F8q21 N8q21); (try dsimp only); (try k_fold)))
  trivial
theorem tell_link2 {w : World} {esc : Bool} {sa : Addr} {x u y : Str} {t1 t2 t3 : Nat} (hz : Sz x 1) (hu : u ∈ urlsL) (hy : y ∈ rawsL) (hy0 : 1 ≤ y.length) (hy1 : y.length ≤ 100000) : TellO w 377 200 2000 [.ref sa, .str x t1] [(S "url", .str u t2), (S "title", .str y t3)] [] (fun h => SelfAt w esc h sa) (fun r => ∃ t, r = .str (S "<a" ++ (attrF (S "href") (sanF u) ++ attrF (S "title") y) ++ S ">" ++ x ++ S "</a>") t) := by
  intro p loose mean mg mb dp un gd cn cs a ccd cl outer A₀ base h₀ L m news s Q E B F X N T hk hdp hun hpre hown ret
  refine fillT w ?_
  k_fill
  intro _ _
  k_dflt ((refine' (code_own hown) ?k1 ?k2 ?k3 ?k4 ?k5 ?kA ?kF ?kK ?k6 ?k7 ?k8 ?k9 ?kB ?_ ?c2 ?c3 ?c4 ?c5; (case kA => exact rfl); (case kF => exact rfl); (case kK => first | assumption | exact rfl); (case k1 => k_asm); (case k2 => k_asm); (case k3 => k_asm); (case k4 => k_asm); (case k5 => k_asm); (case k6 => k_is); (case k7 => k_is); (case k8 => ((try simp only [depth_under_make, depth_under_kw, depth_in1, depth_deeper, depth_caller]); (try dsimp only [ktrTop]); omega)); (case k9 => first | exact BindsTo.of_eq rfl | exact binds_K (by k_in) rfl (by k_is) rfl rfl rfl | fail "enter: no rule for these arguments"); (case c5 => decide); (case kB => exact locs rfl); (case c2 => exact rfl); (case c3 => exact rfl); (case c4 => exact rfl); k_whole); intro g0 L0 h' FG' F' N' B' X' T' hs0 hst0 hlo0; (try dsimp only); (try k_fold))
  replace hpre := SelfAt.kept hpre hst0
  obtain ⟨dx, md, k1, k2, k3, hI, hmd⟩ := id hpre
  repeat' (first | ((with_reducible show Q _ _); fail) | (k_unfold; (try dsimp only)) | ((fail_if_success (with_reducible show Q _ _)); walk1) | ((fail_if_success (with_reducible show Q _ _)); dsimp only; walk1) | (leave1; try dsimp only) | fail "no step")
  all_goals (
    with_reducible rename Fr h₀ L _ _ => kF
    with_reducible rename News h₀ L _ _ => kN
    with_reducible rename Fr g0 _ _ _ => F9
    refine ret _ _ _ kF (backO N hown hs0 F9 kN (by first | with_reducible exact own_nil | (with_reducible refine own_one ?_; k_mem))) ⟨_, rfl⟩)
end
section
open PySem.W.KStt (codes)
theorem lines_NTlink : True := by
  k_with_none
  k_with "z1" => (((try simp only [depth_under_make, depth_under_kw, depth_in1, depth_deeper, depth_caller]); (try dsimp only [ktrTop]); omega))
  k_with "ktr_enter" => ((refine' code_def ?k1 ?k2 ?k3 ?k4 ?k5 ?kA ?kF ?kK ?k6 ?k7 ?k8 ?k9 ?kB ?_ ?c2 ?c3 ?c4 ?c5; (case kA => exact rfl); (case kF => exact rfl); (case kK => first | assumption | exact rfl); (case k1 => k_asm); (case k2 => k_asm); (case k3 => k_asm); (case k4 => k_asm); (case k5 => k_asm); (case k6 => k_is); (case k7 => k_is); (case k8 => k_extra "z1"); (case k9 => first | exact BindsTo.of_eq rfl | exact binds_K (by k_in) rfl (by k_is) rfl rfl rfl | fail "enter: no rule for these arguments"); (case c5 => decide); (case kB => exact locs rfl); (case c2 => exact rfl); (case c3 => exact rfl); (case c4 => exact rfl); k_whole); intro gpq0 Lpq0 hpq0 FGpq0 Fpq0 Npq0 Bpq0 Xpq0 Tpq0; (try dsimp only); (try k_lift Bpq0); (try k_fold))
  k_with "k_mem" => (first | with_reducible exact List.mem_cons_self | with_reducible assumption | (with_reducible refine List.mem_cons_of_mem _ ?_; k_mem) | (with_reducible refine List.mem_append_left _ ?_; k_mem) | (with_reducible refine List.mem_append_right _ ?_; k_mem))
  k_with "execs cons" => (k_here; k_dflt (refine wpAny_execs_cons ?_))
  k_with "execs cons" => (k_here; (with_reducible refine execs_cons_gen ?_); intro tk9q3)
  k_with "execs nil" => (k_here; (with_reducible refine wpAny_execs_nil ?_))
  k_with "exec If" => (k_here; k_dflt (refine wpAny_If ?_))
  k_with "ite" => (k_here; first | (with_reducible refine ite_tt ?_) | (with_reducible refine ite_ff ?_) | (k_closed; (first | (with_reducible refine iteP ?iteC ?_; (case iteC => decide)) | (with_reducible refine iteN ?iteC ?_; (case iteC => decide)))) | (with_reducible refine split_ine ?_ ?_ <;> intro _) | (with_reducible refine split_ieq ?_ ?_ <;> intro _) | with_reducible refine split_not ?_ | (with_reducible refine iteDec ?_ ?_ <;> intro _) | (with_reducible refine iteB ?_ ?_ <;> intro _))
  k_with "callWith ref" => (k_here; k_dflt ((with_reducible refine' callWith_K ?k1 ?k2 ?_ ?he ?hp); (case he => exact rfl); (case hp => exact rfl); (case k1 => k_asm); (case k2 => k_is)))
  k_with "callWith ref" => (k_here; k_dflt ((with_reducible refine' callWith_K0 ?k1 ?k2 ?_); (case k1 => exact Frag.In.keeps (by with_reducible assumption) (Fr.keep (by with_reducible assumption))); (case k2 => k_is); (try dsimp only [List.nil_append])))
  k_with "callWith" => (k_here; k_dflt ((with_reducible refine' callWith_m1 ?_ ?he ?hp); (case he => exact rfl); (case hp => exact rfl)))
  k_with "binaryOp Mod int int" => (k_here; (with_reducible refine' mod_int' ?kbe ?_); (case kbe => decide); (try dsimp only); (try k_fold))
  k_with "k_room" => (((try simp only [depth_under_make, depth_under_kw, depth_in1, depth_deeper, depth_caller]); (try dsimp only [ktrTop]); omega))
  k_with "ktr_enter" => ((refine' code_def ?k1 ?k2 ?k3 ?k4 ?k5 ?kA ?kF ?kK ?k6 ?k7 ?k8 ?k9 ?kB ?_ ?c2 ?c3 ?c4 ?c5; (case kA => exact rfl); (case kF => exact rfl); (case kK => first | assumption | exact rfl); (case k1 => k_asm); (case k2 => k_asm); (case k3 => k_asm); (case k4 => k_asm); (case k5 => k_asm); (case k6 => k_is); (case k7 => k_is); (case k8 => k_extra "z1"); (case k9 => first | exact BindsTo.of_eq rfl | exact binds_K (by k_in) rfl (by k_is) rfl rfl rfl | fail "enter: no rule for these arguments"); (case c5 => decide); (case kB => exact locs rfl); (case c2 => exact rfl); (case c3 => exact rfl); (case c4 => exact rfl); k_whole); intro gpq70 Lpq70 hpq70 FGpq70 Fpq70 Npq70 Bpq70 Xpq70 Tpq70; (try dsimp only); (try k_lift Bpq70); (try k_fold); (try have hIL := InstAt.kept (by with_reducible assumption) (Fr.keep FGpq70)); (try have hSL := SelfAt.kept (by with_reducible assumption) (Fr.keep FGpq70)))
  k_with "k_enter" => ((refine' code_def ?k1 ?k2 ?k3 ?k4 ?k5 ?kA ?kF ?kK ?k6 ?k7 ?k8 ?k9 ?kB ?_ ?c2 ?c3 ?c4 ?c5; (case kA => exact rfl); (case kF => exact rfl); (case kK => first | assumption | exact rfl); (case k1 => k_asm); (case k2 => k_asm); (case k3 => k_asm); (case k4 => k_asm); (case k5 => k_asm); (case k6 => k_is); (case k7 => k_is); (case k8 => k_extra "z1"); (case k9 => first | exact BindsTo.of_eq rfl | exact binds_K (by k_in) rfl (by k_is) rfl rfl rfl | fail "enter: no rule for these arguments"); (case c5 => decide); (case kB => exact locs rfl); (case c2 => exact rfl); (case c3 => exact rfl); (case c4 => exact rfl); k_whole); intro gpq71 Lpq71 hpq71 FGpq71 Fpq71 Npq71 Bpq71 Xpq71 Tpq71; (try dsimp only); (try k_lift Bpq71); (try k_fold); (try have hIL := InstAt.kept (by with_reducible assumption) (Fr.keep FGpq71)); (try have hSL := SelfAt.kept (by with_reducible assumption) (Fr.keep FGpq71)))
  k_with "eval Call" => (k_here; (with_reducible show wpAny _ _ (eval (Expr.Call (Expr.Name _ _) _ [] _) _) _ _ _); k_dflt (refine Call_ ?_))
  k_with "binaryOp Add str str" => (k_here; k_dflt ((with_reducible refine' add_strP (Sz.app ?sa ?sb) ?hn ?_); (case sa => first | with_reducible assumption | exact raw_sz (by with_reducible assumption) | (refine Sz.one ?_; first | decide +kernel | exact num_sz _)); (case sb => first | with_reducible assumption | exact raw_sz (by with_reducible assumption) | (refine Sz.one ?_; first | decide +kernel | exact num_sz _)); (case hn => decide); intro t9q72 k9q72 hz9q72; (try dsimp only); (try k_fold)))
  k_with "k_all" => (first | with_reducible assumption | exact List.forall_mem_nil _ | (with_reducible refine' List.forall_mem_cons.mpr ⟨?ka, ?kb⟩; (case ka => k_ne); (case kb => k_all)) | (with_reducible refine' ltNe2 ?ka; (case ka => with_reducible assumption)) | (with_reducible refine' ltNe3 ?ka; (case ka => with_reducible assumption)) | (with_reducible refine' ltNe4 ?ka; (case ka => with_reducible assumption)) | (with_reducible refine' List.forall_mem_append.mpr ⟨?ka, ?kb⟩; (case ka => k_all); (case kb => k_all)) | (with_reducible refine' apartE ?ka ?kb; (case ka => with_reducible assumption); (case kb => k_mem)) | (with_reducible refine' ltNe ?ka; (case ka => with_reducible assumption)))
  k_with "k_ne" => (refine neN ?_; (try dsimp only); first | with_reducible assumption | (with_reducible exact Ne.symm (by assumption)) | (with_reducible exact Nat.ne_of_lt (by assumption)) | (with_reducible exact Nat.ne_of_gt (by assumption)) | omega)
  k_with "ite" => (k_here; first | (with_reducible refine iteP (by with_reducible assumption) ?_) | (with_reducible refine iteF (by with_reducible assumption) ?_))
  k_with "k_inst" => ((with_reducible refine' inst_fr ?ib ?ia; (case ib => with_reducible assumption); (case ia => with_reducible assumption)))
  k_with "z2" => ((with_reducible rename _ + _ < recursionLimit => hr9; first | exact room1 hr9 (by first | decide | assumption | (refine' Nat.le_trans ?qa ?qb; (case qb => assumption); (case qa => decide))) | ((try simp only [depth_under_make, depth_under_kw, depth_in1, depth_deeper, depth_caller, units_in1, units_deeper, units_caller]); (try dsimp only [ktrTop]); omega)))
  k_with "z3" => ((with_reducible rename _ + _ < cLine => hr9; first | exact room3 hr9 (by first | decide | assumption | (refine' Nat.le_trans ?qa ?qb; (case qb => assumption); (case qa => decide))) | ((try simp only [depth_under_make, depth_under_kw, depth_in1, depth_deeper, depth_caller, units_in1, units_deeper, units_caller]); (try dsimp only [ktrTop]); omega)))
  k_with "call ref" => (k_here; (with_reducible show wpAny _ _ (call (Value.ref 238) _) _ _ _); k_dflt (refine' Tell0.use (tell_escapeL ?ka ?kb) ?k1 ?k2 ?k3 ?k4 ?k5 ?k6 ?k7 ?k8 ?k9 ?_; (case ka => first | with_reducible assumption | exact raw_lit (by decide +kernel)); (case kb => first | with_reducible assumption | exact rfl); (case k1 => k_asm); (case k2 => k_asm); (case k3 => k_asm); (case k4 => k_asm); (case k5 => k_asm); (case k6 => exact rfl); (case k7 => k_extra "z2"); (case k8 => k_extra "z3"); (case k9 => exact True.intro); intro r9q75 h9q75 t9q75 F9q75 N9q75 o9q75; obtain ⟨tn9q75, e9q75⟩ := o9q75; subst e9q75; (try have hl9q75 := raw_sz (by with_reducible assumption)); (try k_sweep); (try dsimp only); (try k_fold)))
  k_with "call ref" => (k_here; (with_reducible show wpAny _ _ (call (Value.ref 245) _) _ _ _); k_dflt (refine' Tell0.use (tell_safeL ?ka ?kb) ?k1 ?k2 ?k3 ?k4 ?k5 ?k6 ?k7 ?k8 ?k9 ?_; (case ka => first | with_reducible assumption | exact raw_lit (by decide +kernel)); (case kb => first | with_reducible assumption | exact rfl); (case k1 => k_asm); (case k2 => k_asm); (case k3 => k_asm); (case k4 => k_asm); (case k5 => k_asm); (case k6 => exact rfl); (case k7 => k_extra "z2"); (case k8 => k_extra "z3"); (case k9 => exact True.intro); intro r9q76 h9q76 t9q76 F9q76 N9q76 o9q76; obtain ⟨tn9q76, e9q76⟩ := o9q76; subst e9q76; (try have hl9q76 := raw_sz (by with_reducible assumption)); (try k_sweep); (try dsimp only); (try k_fold)))
  k_with "subscriptTail Name" => (k_here; (with_reducible show wpAny _ _ (subscriptTail _ _ (Value.ref _) (Value.str _ _)) _ _ _); k_dflt ((with_reducible refine' g_item ?x ?F ?hl ?_ ?hs ?hg); (case x => with_reducible assumption); (case F => with_reducible assumption); (case hl => exact rfl); (case hs => with_unfolding_all rfl); (case hg => (intro _; with_unfolding_all rfl)); (try dsimp only); (try k_fold)))
  k_with "compareOp In str ref" => (k_here; k_dflt (first | ((with_reducible refine' g_in ?x ?F true ?hl ?_); (case x => with_reducible assumption); (case F => with_reducible assumption); (case hl => exact rfl)) | ((with_reducible refine' g_in ?x ?F false ?hl ?_); (case x => with_reducible assumption); (case F => with_reducible assumption); (case hl => exact rfl))); (try dsimp only); (try k_fold))
  k_with "getMethod ref" => (k_here; (with_reducible show wpAny _ _ (getMethod (Value.ref _) (Str.ofString "get") _) _ _ _); k_dflt ((with_reducible refine' g_meth ?x ?F ?_); (case x => with_reducible assumption); (case F => with_reducible assumption); (try dsimp only); (try k_fold)))
  k_with "call builtin:dict.get" => (k_here; k_dflt (first | ((with_reducible refine' g_get ?x ?F (some _) ?hl ?_); (case x => with_reducible assumption); (case F => with_reducible assumption); (case hl => exact rfl)) | ((with_reducible refine' g_get ?x ?F none ?hl ?_); (case x => with_reducible assumption); (case F => with_reducible assumption); (case hl => exact rfl))); (try dsimp only [Option.getD]); (try dsimp only); (try k_fold))
  k_with "callWith ref" => (k_here; (with_reducible show wpAny _ _ (callWith _ _ _ _ (backToKw _ (keywordEach [⟨none, _, _⟩] _))) _ _ _); k_dflt (first | ((with_reducible refine' callWith_MS ?k1 ?k2 ?k3 ?k4 ?_ ?he); (case he => exact rfl); (case k1 => k_asm); (case k2 => k_asm); (case k3 => k_mem); (case k4 => k_is)) | ((with_reducible refine' callWith_MS0 ?k1 ?k2 ?k3 ?k4 ?_); (case k1 => k_asm); (case k2 => k_asm); (case k3 => k_mem); (case k4 => k_is))); (try dsimp only))
  k_with "KwStar" => (k_here; k_dflt ((with_reducible refine' kw_star' ?k1 ?k2 ?_); (case k1 => k_asm); (case k2 => k_asm); intro d9q82 h9q82 F9q82 N9q82 hap9q82; (try k_sweep); (try dsimp only); (try k_fold)))
  k_with "KwDict" => (k_here; k_dflt ((with_reducible refine' kw_dict ?x ?F ?N ?ha ?hz ?_); (case x => with_reducible assumption); (case F => k_asm); (case N => k_asm); (case ha => with_reducible assumption); (case hz => exact Nat.le_of_ble_eq_true rfl); intro h9q83 F9q83 N9q83; (try k_sweep); (try dsimp only); (try k_fold)))
  k_with "truthy ref" => (k_here; k_dflt (((with_reducible refine' g_truthy ?x ?F true ?hb ?hf ?_); (case x => with_reducible assumption); (case F => with_reducible assumption); (case hb => exact rfl); (case hf => exact Nat.le_of_ble_eq_true rfl)); (try dsimp only); (try k_fold)))
  k_with "call ref" => (k_here; (with_reducible show wpAny _ _ (call (Value.ref 195) _) _ _ _); k_dflt (refine' TellT.use (tell_meth ⟨?m1, ?m2, ?m3, ?m4, ?m5, ?m6, ?m7, ?m8, ?m9, ?m10⟩) ?k1 ?k2 ?k3 ?k4 ?k5 ?k6 ?k7 ?k8 ?k9 ?_; (case m5 => k_is); (case m1 => decide +kernel); (case m2 => decide +kernel); (case m3 => k_is); (case m4 => k_is); (case m6 => k_is); (case m7 => k_is); (case m8 => k_is); (case m9 => decide +kernel); (case m10 => (intros; exact rfl)); (case k1 => k_asm); (case k2 => k_asm); (case k3 => k_asm); (case k4 => k_asm); (case k5 => k_asm); (case k6 => exact rfl); (case k7 => k_extra "z2"); (case k8 => k_extra "z3"); (case k9 => exact SelfAt.kept (by with_reducible assumption) (Fr.keep (by k_asm))); intro r9q94 tl9q94 h9q94 t9q94 F9q94 N9q94 hl9q94 o9q94; obtain ⟨q9q94, e9q94, e8q94⟩ := o9q94; subst e9q94; subst e8q94; (try simp only [List.nil_append, List.cons_append] at N9q94); (try k_sweep); (try dsimp only); (try k_fold)))
  k_with "call ref" => (k_here; (with_reducible show wpAny _ _ (call (Value.ref 216) _) _ _ _); (with_reducible rename KidsC _ _ _ _ _ => hK9q95); (with_reducible rename Kids _ _ _ => hk9q95); (with_reducible rename LA _ _ _ => hl9q95); k_dflt (refine' TellG.use (kids_use hK9q95 ?kv ?kx hk9q95) ?k1 ?k2 ?k3 ?k4 ?k5 ?k6 ?k7 ?k8 ?k9 ?_; (case kv => with_reducible assumption); (case kx => with_reducible assumption); (case k1 => k_asm); (case k2 => k_asm); (case k3 => k_asm); (case k4 => k_asm); (case k5 => k_asm); (case k6 => exact rfl); (case k7 => k_extra "z2"); (case k8 => k_extra "z3"); (case k9 => exact pre_kids hk9q95 hl9q95 (by with_reducible assumption) (by k_asm)); intro r9q95 h9q95 t9q95 g9q95 F9q95 N9q95 hg9q95 o9q95; obtain ⟨tn9q95, e9q95⟩ := o9q95; subst e9q95; (try k_sweep); (try dsimp only); (try k_fold)))
  k_with "call ref" => (k_here; (with_reducible show wpAny _ _ (call (Value.ref _) _ _) _ _ _); k_dflt ((refine' TellO.meth (tell_link1 ?hz ?hu) ?hq ?k1 ?k2 ?k3 ?k4 ?k5 ?k6 ?k7 ?k8 ?k9 ?k0 ?_); (case k1 => k_asm); (case k2 => k_asm); (case k3 => k_asm); (case k4 => k_asm); (case k5 => k_asm); (case hq => k_mem); (case hz => with_reducible assumption); (case hu => with_reducible assumption); (case k6 => exact rfl); (case k7 => k_extra "z2"); (case k8 => k_extra "z3"); (case k9 => with_reducible assumption); (case k0 => with_reducible exact own_nil); intro r9q98 h9q98 t9q98 F9q98 N9q98 o9q98; obtain ⟨tn9q98, e9q98⟩ := o9q98; subst e9q98; (try k_sweep); (try dsimp only); (try k_fold)))
  k_with "look" => (with_reducible first | exact Look1.str | exact Look1.int | (refine' Look1.name ?hx ?hd ?hm; (case hx => k_dflt (exact rfl)); (case hd => k_dflt decide); (case hm => k_dflt (exact rfl))) | exact LookN.nil | (refine' LookN.cons ?x ?y; (case x => k_extra "look"); (case y => k_extra "look")) | exact LookP.nil | (refine' LookP.cons ?x ?y ?z; (case x => k_extra "look"); (case y => k_extra "look"); (case z => k_extra "look")))
  k_with "spliced" => (k_here; (with_reducible show wpAny _ _ (spliced (backTo _ (starEach (_ :: _) _))) _ _ _); (with_reducible rename Fr _ _ _ _ => F8q16); ((with_reducible refine' args_lk F8q16 ?he ?hk ?l ?_); (case he => k_dflt (exact ⟨_, _, _, _, rfl⟩)); (case hk => k_dflt (exact rfl)); (case l => k_extra "look")); (try dsimp only); (try k_fold))
  k_with "evalPairs" => (k_here; (with_reducible show wpAny _ _ (evalPairs (pairTrees (_ :: _) _ _ _)) _ _ _); (with_reducible rename Fr _ _ _ _ => F8q17); ((with_reducible refine' pairs_lk F8q17 ?he ?hk ?l ?_); (case he => k_dflt (exact ⟨_, _, _, _, rfl⟩)); (case hk => k_dflt (exact rfl)); (case l => k_extra "look")); (try dsimp only); (try k_fold))
  k_with "eval BinOp" => (k_here; (with_reducible show wpAny _ _ (eval (Expr.BinOp (Expr.Name _ _) _ (Expr.Constant _ _ _) _) _) _ _ _); (with_reducible rename Fr _ _ _ _ => F8q18); ((with_reducible refine' bin_lk F8q18 ?he ?hk ?l ?r ?_); (case he => k_dflt (exact ⟨_, _, _, _, rfl⟩)); (case hk => k_dflt (exact rfl)); (case l => k_extra "look"); (case r => k_extra "look")); (try dsimp only); (try k_fold))
  k_with "eval BinOp" => (k_here; (with_reducible show wpAny _ _ (eval (Expr.BinOp (Expr.Name _ _) _ (Expr.Name _ _) _) _) _ _ _); (with_reducible rename Fr _ _ _ _ => F8q19); ((with_reducible refine' bin_lk F8q19 ?he ?hk ?l ?r ?_); (case he => k_dflt (exact ⟨_, _, _, _, rfl⟩)); (case hk => k_dflt (exact rfl)); (case l => k_extra "look"); (case r => k_extra "look")); (try dsimp only); (try k_fold))
  k_with "exec If" => (k_here; (with_reducible show wpAny _ _ (exec (Stmt.If (Expr.Compare (Expr.Name _ _) [CmpOp.Eq] [Expr.Constant (Const.int _) _ _] _) _ _ _) _) _ _ _); (with_reducible rename Fr _ _ _ _ => F8q20); ((with_reducible refine' if_lk F8q20 ?he ?hk ?l ?r ?h ?_); (case he => k_dflt (exact ⟨_, _, _, _, rfl⟩)); (case hk => k_dflt (exact rfl)); (case l => k_extra "look"); (case r => k_extra "look"); (case h => k_dflt (with_unfolding_all rfl))); (try dsimp only); (try k_fold))
  k_with "storeName" => (k_here; (with_reducible rename Fr _ _ _ _ => F8q21); (with_reducible rename News _ _ _ _ => N8q21); ((with_reducible refine' store_lk F8q21 N8q21 ?he ?hk ?hx ?_); (case he => k_dflt (exact ⟨_, _, _, _, rfl⟩)); (case hk => k_dflt (exact rfl)); (case hx => k_dflt (exact rfl)); intro h9q21 m9q21 F9q21 N9q21; (try clear F8q21 N8q21); (try dsimp only); (try k_fold)))
  trivial
theorem tok_link {w : World} {esc : Bool} {sa d e l st : Addr} {t1 t2 t3 t4 t5 D U : Nat} (hD : 1 + 200 ≤ D) (hU : 3 + 2000 ≤ U) {u : Str} (hu : u ∈ urlsL) {n dn ne : Nat} {vs : List Value} {x : Str} (hK : KidsC w esc n dn ne) (hd1 : 1 + dn ≤ D) (hd2 : 3 + ne ≤ U) (hvs : vs.length ≤ 3) (hxl : x.length ≤ 100000) : TellG w 341 D U [.ref sa, .ref d, .ref st] (fun h => SelfAt w esc h sa ∧ DG w h d [(S "type", .str (S "link") t1), (S "children", .ref l), (S "attrs", .ref e)] ∧ DG w h e [(S "url", .str u t2)] ∧ LA (inHeap h) l vs ∧ Kids (TokIn w esc (inHeap h) n) vs x) (fun r => ∃ t, r = .str (S "<a" ++ attrF (S "href") (sanF u) ++ S ">" ++ x ++ S "</a>") t) := by
  intro p loose mean mg mb dp un gd cn cs a ccd cl outer A₀ base h₀ L m news s Q E B F X N T hk hdp hun hpre ret
  refine fillT w ?_
  k_fill
  intro _ _
  refine wpAny_call ?_
  k_dflt ((refine' code_all ?k1 ?k2 ?k3 ?k4 ?k5 ?kA ?kF ?kK ?k6 ?k7 ?k8 ?k9 ?kB ?_ ?c2 ?c3 ?c4 ?c5; (case kA => exact rfl); (case kF => exact rfl); (case kK => first | assumption | exact rfl); (case k1 => k_asm); (case k2 => k_asm); (case k3 => k_asm); (case k4 => k_asm); (case k5 => k_asm); (case k6 => k_is); (case k7 => k_is); (case k8 => ((try simp only [depth_under_make, depth_under_kw, depth_in1, depth_deeper, depth_caller]); (try dsimp only [ktrTop]); omega)); (case k9 => first | exact BindsTo.of_eq rfl | exact binds_K (by k_in) rfl (by k_is) rfl rfl rfl | fail "enter: no rule for these arguments"); (case c5 => decide); (case kB => exact locs rfl); (case c2 => exact rfl); (case c3 => exact rfl); (case c4 => exact rfl); k_whole); intro g0 L0 h' FG' F' N' B' X' T' hs0; (try dsimp only); (try k_fold))
  obtain ⟨hpre, htok, hatt, hla, hkd⟩ := hpre
  replace htok := htok.kept hs0
  replace hatt := hatt.kept hs0
  replace hla := LA.mono (fun d o e => hs0 d o e) hla
  replace hkd := Kids.mono (fun v o z => TokIn.mono (fun d o e => hs0 d o e) (Nat.le_refl _) z) hkd
  have hxz := Sz.one hxl
  replace hpre := SelfAt.kept hpre hs0
  obtain ⟨dx, md, k1, k2, k3, hI, hmd⟩ := id hpre
  repeat' (first | ((with_reducible show Q _ _); fail) | (k_unfold; (try dsimp only)) | ((fail_if_success (with_reducible show Q _ _)); walk1) | ((fail_if_success (with_reducible show Q _ _)); dsimp only; walk1) | (leave1; try dsimp only) | fail "no step")
  all_goals (
    with_reducible rename Fr h₀ L _ _ => kF
    with_reducible rename Fr g0 _ _ _ => F9
    exact ret _ _ _ _ kF (back0 N hs0 F9) (by first | with_reducible assumption | exact GX.refl _) ⟨_, rfl⟩)
end
section
open PySem.W.KStt (codes)
theorem lines_NTlinkT : True := by
  k_with "call ref" => (k_here; (with_reducible show wpAny _ _ (call (Value.ref _) _ _) _ _ _); k_dflt ((refine' TellO.meth (tell_link2 ?hz ?hu ?hy ?h0 ?h1) ?hq ?k1 ?k2 ?k3 ?k4 ?k5 ?k6 ?k7 ?k8 ?k9 ?k0 ?_); (case k1 => k_asm); (case k2 => k_asm); (case k3 => k_asm); (case k4 => k_asm); (case k5 => k_asm); (case hq => k_mem); (case hz => with_reducible assumption); (case hu => with_reducible assumption); (case hy => with_reducible assumption); (case h0 => with_reducible assumption); (case h1 => with_reducible assumption); (case k6 => exact rfl); (case k7 => k_extra "z2"); (case k8 => k_extra "z3"); (case k9 => with_reducible assumption); (case k0 => with_reducible exact own_nil); intro r9q101 h9q101 t9q101 F9q101 N9q101 o9q101; obtain ⟨tn9q101, e9q101⟩ := o9q101; subst e9q101; (try k_sweep); (try dsimp only); (try k_fold)))
  trivial
theorem tok_linkT {w : World} {esc : Bool} {sa d e l st : Addr} {t1 t2 t3 t4 t5 D U : Nat} (hD : 1 + 200 ≤ D) (hU : 3 + 2000 ≤ U) {u y : Str} (hu : u ∈ urlsL) (hy : y ∈ rawsL) (hy0 : 1 ≤ y.length) (hy1 : y.length ≤ 100000) {n dn ne : Nat} {vs : List Value} {x : Str} (hK : KidsC w esc n dn ne) (hd1 : 1 + dn ≤ D) (hd2 : 3 + ne ≤ U) (hvs : vs.length ≤ 3) (hxl : x.length ≤ 100000) : TellG w 341 D U [.ref sa, .ref d, .ref st] (fun h => SelfAt w esc h sa ∧ DG w h d [(S "type", .str (S "link") t1), (S "children", .ref l), (S "attrs", .ref e)] ∧ DG w h e [(S "url", .str u t2), (S "title", .str y t3)] ∧ LA (inHeap h) l vs ∧ Kids (TokIn w esc (inHeap h) n) vs x) (fun r => ∃ t, r = .str (S "<a" ++ (attrF (S "href") (sanF u) ++ attrF (S "title") y) ++ S ">" ++ x ++ S "</a>") t) := by
  intro p loose mean mg mb dp un gd cn cs a ccd cl outer A₀ base h₀ L m news s Q E B F X N T hk hdp hun hpre ret
  refine fillT w ?_
  k_fill
  intro _ _
  refine wpAny_call ?_
  k_dflt ((refine' code_all ?k1 ?k2 ?k3 ?k4 ?k5 ?kA ?kF ?kK ?k6 ?k7 ?k8 ?k9 ?kB ?_ ?c2 ?c3 ?c4 ?c5; (case kA => exact rfl); (case kF => exact rfl); (case kK => first | assumption | exact rfl); (case k1 => k_asm); (case k2 => k_asm); (case k3 => k_asm); (case k4 => k_asm); (case k5 => k_asm); (case k6 => k_is); (case k7 => k_is); (case k8 => ((try simp only [depth_under_make, depth_under_kw, depth_in1, depth_deeper, depth_caller]); (try dsimp only [ktrTop]); omega)); (case k9 => first | exact BindsTo.of_eq rfl | exact binds_K (by k_in) rfl (by k_is) rfl rfl rfl | fail "enter: no rule for these arguments"); (case c5 => decide); (case kB => exact locs rfl); (case c2 => exact rfl); (case c3 => exact rfl); (case c4 => exact rfl); k_whole); intro g0 L0 h' FG' F' N' B' X' T' hs0; (try dsimp only); (try k_fold))
  obtain ⟨hpre, htok, hatt, hla, hkd⟩ := hpre
  replace htok := htok.kept hs0
  replace hatt := hatt.kept hs0
  replace hla := LA.mono (fun d o e => hs0 d o e) hla
  replace hkd := Kids.mono (fun v o z => TokIn.mono (fun d o e => hs0 d o e) (Nat.le_refl _) z) hkd
  have hxz := Sz.one hxl
  replace hpre := SelfAt.kept hpre hs0
  obtain ⟨dx, md, k1, k2, k3, hI, hmd⟩ := id hpre
  repeat' (first | ((with_reducible show Q _ _); fail) | (k_unfold; (try dsimp only)) | ((fail_if_success (with_reducible show Q _ _)); walk1) | ((fail_if_success (with_reducible show Q _ _)); dsimp only; walk1) | (leave1; try dsimp only) | fail "no step")
  all_goals (
    with_reducible rename Fr h₀ L _ _ => kF
    with_reducible rename Fr g0 _ _ _ => F9
    exact ret _ _ _ _ kF (back0 N hs0 F9) (by first | with_reducible assumption | exact GX.refl _) ⟨_, rfl⟩)
end
section
open PySem.W.KStt (codes)
theorem lines_NThead : True := by
  k_with_none
  k_with "z1" => (((try simp only [depth_under_make, depth_under_kw, depth_in1, depth_deeper, depth_caller]); (try dsimp only [ktrTop]); omega))
  k_with "ktr_enter" => ((refine' code_def ?k1 ?k2 ?k3 ?k4 ?k5 ?kA ?kF ?kK ?k6 ?k7 ?k8 ?k9 ?kB ?_ ?c2 ?c3 ?c4 ?c5; (case kA => exact rfl); (case kF => exact rfl); (case kK => first | assumption | exact rfl); (case k1 => k_asm); (case k2 => k_asm); (case k3 => k_asm); (case k4 => k_asm); (case k5 => k_asm); (case k6 => k_is); (case k7 => k_is); (case k8 => k_extra "z1"); (case k9 => first | exact BindsTo.of_eq rfl | exact binds_K (by k_in) rfl (by k_is) rfl rfl rfl | fail "enter: no rule for these arguments"); (case c5 => decide); (case kB => exact locs rfl); (case c2 => exact rfl); (case c3 => exact rfl); (case c4 => exact rfl); k_whole); intro gpq0 Lpq0 hpq0 FGpq0 Fpq0 Npq0 Bpq0 Xpq0 Tpq0; (try dsimp only); (try k_lift Bpq0); (try k_fold))
  k_with "k_mem" => (first | with_reducible exact List.mem_cons_self | with_reducible assumption | (with_reducible refine List.mem_cons_of_mem _ ?_; k_mem) | (with_reducible refine List.mem_append_left _ ?_; k_mem) | (with_reducible refine List.mem_append_right _ ?_; k_mem))
  k_with "execs cons" => (k_here; k_dflt (refine wpAny_execs_cons ?_))
  k_with "execs cons" => (k_here; (with_reducible refine execs_cons_gen ?_); intro tk9q3)
  k_with "execs nil" => (k_here; (with_reducible refine wpAny_execs_nil ?_))
  k_with "exec If" => (k_here; k_dflt (refine wpAny_If ?_))
  k_with "ite" => (k_here; first | (with_reducible refine ite_tt ?_) | (with_reducible refine ite_ff ?_) | (k_closed; (first | (with_reducible refine iteP ?iteC ?_; (case iteC => decide)) | (with_reducible refine iteN ?iteC ?_; (case iteC => decide)))) | (with_reducible refine split_ine ?_ ?_ <;> intro _) | (with_reducible refine split_ieq ?_ ?_ <;> intro _) | with_reducible refine split_not ?_ | (with_reducible refine iteDec ?_ ?_ <;> intro _) | (with_reducible refine iteB ?_ ?_ <;> intro _))
  k_with "callWith ref" => (k_here; k_dflt ((with_reducible refine' callWith_K ?k1 ?k2 ?_ ?he ?hp); (case he => exact rfl); (case hp => exact rfl); (case k1 => k_asm); (case k2 => k_is)))
  k_with "callWith ref" => (k_here; k_dflt ((with_reducible refine' callWith_K0 ?k1 ?k2 ?_); (case k1 => exact Frag.In.keeps (by with_reducible assumption) (Fr.keep (by with_reducible assumption))); (case k2 => k_is); (try dsimp only [List.nil_append])))
  k_with "callWith" => (k_here; k_dflt ((with_reducible refine' callWith_m1 ?_ ?he ?hp); (case he => exact rfl); (case hp => exact rfl)))
  k_with "binaryOp Mod int int" => (k_here; (with_reducible refine' mod_int' ?kbe ?_); (case kbe => decide); (try dsimp only); (try k_fold))
  k_with "k_room" => (((try simp only [depth_under_make, depth_under_kw, depth_in1, depth_deeper, depth_caller]); (try dsimp only [ktrTop]); omega))
  k_with "ktr_enter" => ((refine' code_def ?k1 ?k2 ?k3 ?k4 ?k5 ?kA ?kF ?kK ?k6 ?k7 ?k8 ?k9 ?kB ?_ ?c2 ?c3 ?c4 ?c5; (case kA => exact rfl); (case kF => exact rfl); (case kK => first | assumption | exact rfl); (case k1 => k_asm); (case k2 => k_asm); (case k3 => k_asm); (case k4 => k_asm); (case k5 => k_asm); (case k6 => k_is); (case k7 => k_is); (case k8 => k_extra "z1"); (case k9 => first | exact BindsTo.of_eq rfl | exact binds_K (by k_in) rfl (by k_is) rfl rfl rfl | fail "enter: no rule for these arguments"); (case c5 => decide); (case kB => exact locs rfl); (case c2 => exact rfl); (case c3 => exact rfl); (case c4 => exact rfl); k_whole); intro gpq70 Lpq70 hpq70 FGpq70 Fpq70 Npq70 Bpq70 Xpq70 Tpq70; (try dsimp only); (try k_lift Bpq70); (try k_fold); (try have hIL := InstAt.kept (by with_reducible assumption) (Fr.keep FGpq70)); (try have hSL := SelfAt.kept (by with_reducible assumption) (Fr.keep FGpq70)))
  k_with "k_enter" => ((refine' code_def ?k1 ?k2 ?k3 ?k4 ?k5 ?kA ?kF ?kK ?k6 ?k7 ?k8 ?k9 ?kB ?_ ?c2 ?c3 ?c4 ?c5; (case kA => exact rfl); (case kF => exact rfl); (case kK => first | assumption | exact rfl); (case k1 => k_asm); (case k2 => k_asm); (case k3 => k_asm); (case k4 => k_asm); (case k5 => k_asm); (case k6 => k_is); (case k7 => k_is); (case k8 => k_extra "z1"); (case k9 => first | exact BindsTo.of_eq rfl | exact binds_K (by k_in) rfl (by k_is) rfl rfl rfl | fail "enter: no rule for these arguments"); (case c5 => decide); (case kB => exact locs rfl); (case c2 => exact rfl); (case c3 => exact rfl); (case c4 => exact rfl); k_whole); intro gpq71 Lpq71 hpq71 FGpq71 Fpq71 Npq71 Bpq71 Xpq71 Tpq71; (try dsimp only); (try k_lift Bpq71); (try k_fold); (try have hIL := InstAt.kept (by with_reducible assumption) (Fr.keep FGpq71)); (try have hSL := SelfAt.kept (by with_reducible assumption) (Fr.keep FGpq71)))
  k_with "eval Call" => (k_here; (with_reducible show wpAny _ _ (eval (Expr.Call (Expr.Name _ _) _ [] _) _) _ _ _); k_dflt (refine Call_ ?_))
  k_with "binaryOp Add str str" => (k_here; k_dflt ((with_reducible refine' add_strP (Sz.app ?sa ?sb) ?hn ?_); (case sa => first | with_reducible assumption | exact raw_sz (by with_reducible assumption) | (refine Sz.one ?_; first | decide +kernel | exact num_sz _)); (case sb => first | with_reducible assumption | exact raw_sz (by with_reducible assumption) | (refine Sz.one ?_; first | decide +kernel | exact num_sz _)); (case hn => decide); intro t9q72 k9q72 hz9q72; (try dsimp only); (try k_fold)))
  k_with "k_all" => (first | with_reducible assumption | exact List.forall_mem_nil _ | (with_reducible refine' List.forall_mem_cons.mpr ⟨?ka, ?kb⟩; (case ka => k_ne); (case kb => k_all)) | (with_reducible refine' ltNe2 ?ka; (case ka => with_reducible assumption)) | (with_reducible refine' ltNe3 ?ka; (case ka => with_reducible assumption)) | (with_reducible refine' ltNe4 ?ka; (case ka => with_reducible assumption)) | (with_reducible refine' List.forall_mem_append.mpr ⟨?ka, ?kb⟩; (case ka => k_all); (case kb => k_all)) | (with_reducible refine' apartE ?ka ?kb; (case ka => with_reducible assumption); (case kb => k_mem)) | (with_reducible refine' ltNe ?ka; (case ka => with_reducible assumption)))
  k_with "k_ne" => (refine neN ?_; (try dsimp only); first | with_reducible assumption | (with_reducible exact Ne.symm (by assumption)) | (with_reducible exact Nat.ne_of_lt (by assumption)) | (with_reducible exact Nat.ne_of_gt (by assumption)) | omega)
  k_with "ite" => (k_here; first | (with_reducible refine iteP (by with_reducible assumption) ?_) | (with_reducible refine iteF (by with_reducible assumption) ?_))
  k_with "k_inst" => ((with_reducible refine' inst_fr ?ib ?ia; (case ib => with_reducible assumption); (case ia => with_reducible assumption)))
  k_with "z2" => ((with_reducible rename _ + _ < recursionLimit => hr9; first | exact room1 hr9 (by first | decide | assumption | (refine' Nat.le_trans ?qa ?qb; (case qb => assumption); (case qa => decide))) | ((try simp only [depth_under_make, depth_under_kw, depth_in1, depth_deeper, depth_caller, units_in1, units_deeper, units_caller]); (try dsimp only [ktrTop]); omega)))
  k_with "z3" => ((with_reducible rename _ + _ < cLine => hr9; first | exact room3 hr9 (by first | decide | assumption | (refine' Nat.le_trans ?qa ?qb; (case qb => assumption); (case qa => decide))) | ((try simp only [depth_under_make, depth_under_kw, depth_in1, depth_deeper, depth_caller, units_in1, units_deeper, units_caller]); (try dsimp only [ktrTop]); omega)))
  k_with "call ref" => (k_here; (with_reducible show wpAny _ _ (call (Value.ref 238) _) _ _ _); k_dflt (refine' Tell0.use (tell_escapeL ?ka ?kb) ?k1 ?k2 ?k3 ?k4 ?k5 ?k6 ?k7 ?k8 ?k9 ?_; (case ka => first | with_reducible assumption | exact raw_lit (by decide +kernel)); (case kb => first | with_reducible assumption | exact rfl); (case k1 => k_asm); (case k2 => k_asm); (case k3 => k_asm); (case k4 => k_asm); (case k5 => k_asm); (case k6 => exact rfl); (case k7 => k_extra "z2"); (case k8 => k_extra "z3"); (case k9 => exact True.intro); intro r9q75 h9q75 t9q75 F9q75 N9q75 o9q75; obtain ⟨tn9q75, e9q75⟩ := o9q75; subst e9q75; (try have hl9q75 := raw_sz (by with_reducible assumption)); (try k_sweep); (try dsimp only); (try k_fold)))
  k_with "call ref" => (k_here; (with_reducible show wpAny _ _ (call (Value.ref 245) _) _ _ _); k_dflt (refine' Tell0.use (tell_safeL ?ka ?kb) ?k1 ?k2 ?k3 ?k4 ?k5 ?k6 ?k7 ?k8 ?k9 ?_; (case ka => first | with_reducible assumption | exact raw_lit (by decide +kernel)); (case kb => first | with_reducible assumption | exact rfl); (case k1 => k_asm); (case k2 => k_asm); (case k3 => k_asm); (case k4 => k_asm); (case k5 => k_asm); (case k6 => exact rfl); (case k7 => k_extra "z2"); (case k8 => k_extra "z3"); (case k9 => exact True.intro); intro r9q76 h9q76 t9q76 F9q76 N9q76 o9q76; obtain ⟨tn9q76, e9q76⟩ := o9q76; subst e9q76; (try have hl9q76 := raw_sz (by with_reducible assumption)); (try k_sweep); (try dsimp only); (try k_fold)))
  k_with "subscriptTail Name" => (k_here; (with_reducible show wpAny _ _ (subscriptTail _ _ (Value.ref _) (Value.str _ _)) _ _ _); k_dflt ((with_reducible refine' g_item ?x ?F ?hl ?_ ?hs ?hg); (case x => with_reducible assumption); (case F => with_reducible assumption); (case hl => exact rfl); (case hs => with_unfolding_all rfl); (case hg => (intro _; with_unfolding_all rfl)); (try dsimp only); (try k_fold)))
  k_with "compareOp In str ref" => (k_here; k_dflt (first | ((with_reducible refine' g_in ?x ?F true ?hl ?_); (case x => with_reducible assumption); (case F => with_reducible assumption); (case hl => exact rfl)) | ((with_reducible refine' g_in ?x ?F false ?hl ?_); (case x => with_reducible assumption); (case F => with_reducible assumption); (case hl => exact rfl))); (try dsimp only); (try k_fold))
  k_with "getMethod ref" => (k_here; (with_reducible show wpAny _ _ (getMethod (Value.ref _) (Str.ofString "get") _) _ _ _); k_dflt ((with_reducible refine' g_meth ?x ?F ?_); (case x => with_reducible assumption); (case F => with_reducible assumption); (try dsimp only); (try k_fold)))
  k_with "call builtin:dict.get" => (k_here; k_dflt (first | ((with_reducible refine' g_get ?x ?F (some _) ?hl ?_); (case x => with_reducible assumption); (case F => with_reducible assumption); (case hl => exact rfl)) | ((with_reducible refine' g_get ?x ?F none ?hl ?_); (case x => with_reducible assumption); (case F => with_reducible assumption); (case hl => exact rfl))); (try dsimp only [Option.getD]); (try dsimp only); (try k_fold))
  k_with "callWith ref" => (k_here; (with_reducible show wpAny _ _ (callWith _ _ _ _ (backToKw _ (keywordEach [⟨none, _, _⟩] _))) _ _ _); k_dflt (first | ((with_reducible refine' callWith_MS ?k1 ?k2 ?k3 ?k4 ?_ ?he); (case he => exact rfl); (case k1 => k_asm); (case k2 => k_asm); (case k3 => k_mem); (case k4 => k_is)) | ((with_reducible refine' callWith_MS0 ?k1 ?k2 ?k3 ?k4 ?_); (case k1 => k_asm); (case k2 => k_asm); (case k3 => k_mem); (case k4 => k_is))); (try dsimp only))
  k_with "KwStar" => (k_here; k_dflt ((with_reducible refine' kw_star' ?k1 ?k2 ?_); (case k1 => k_asm); (case k2 => k_asm); intro d9q82 h9q82 F9q82 N9q82 hap9q82; (try k_sweep); (try dsimp only); (try k_fold)))
  k_with "KwDict" => (k_here; k_dflt ((with_reducible refine' kw_dict ?x ?F ?N ?ha ?hz ?_); (case x => with_reducible assumption); (case F => k_asm); (case N => k_asm); (case ha => with_reducible assumption); (case hz => exact Nat.le_of_ble_eq_true rfl); intro h9q83 F9q83 N9q83; (try k_sweep); (try dsimp only); (try k_fold)))
  k_with "truthy ref" => (k_here; k_dflt (((with_reducible refine' g_truthy ?x ?F true ?hb ?hf ?_); (case x => with_reducible assumption); (case F => with_reducible assumption); (case hb => exact rfl); (case hf => exact Nat.le_of_ble_eq_true rfl)); (try dsimp only); (try k_fold)))
  k_with "call ref" => (k_here; (with_reducible show wpAny _ _ (call (Value.ref 195) _) _ _ _); k_dflt (refine' TellT.use (tell_meth ⟨?m1, ?m2, ?m3, ?m4, ?m5, ?m6, ?m7, ?m8, ?m9, ?m10⟩) ?k1 ?k2 ?k3 ?k4 ?k5 ?k6 ?k7 ?k8 ?k9 ?_; (case m5 => k_is); (case m1 => decide +kernel); (case m2 => decide +kernel); (case m3 => k_is); (case m4 => k_is); (case m6 => k_is); (case m7 => k_is); (case m8 => k_is); (case m9 => decide +kernel); (case m10 => (intros; exact rfl)); (case k1 => k_asm); (case k2 => k_asm); (case k3 => k_asm); (case k4 => k_asm); (case k5 => k_asm); (case k6 => exact rfl); (case k7 => k_extra "z2"); (case k8 => k_extra "z3"); (case k9 => exact SelfAt.kept (by with_reducible assumption) (Fr.keep (by k_asm))); intro r9q94 tl9q94 h9q94 t9q94 F9q94 N9q94 hl9q94 o9q94; obtain ⟨q9q94, e9q94, e8q94⟩ := o9q94; subst e9q94; subst e8q94; (try simp only [List.nil_append, List.cons_append] at N9q94); (try k_sweep); (try dsimp only); (try k_fold)))
  k_with "call ref" => (k_here; (with_reducible show wpAny _ _ (call (Value.ref 216) _) _ _ _); (with_reducible rename KidsC _ _ _ _ _ => hK9q95); (with_reducible rename Kids _ _ _ => hk9q95); (with_reducible rename LA _ _ _ => hl9q95); k_dflt (refine' TellG.use (kids_use hK9q95 ?kv ?kx hk9q95) ?k1 ?k2 ?k3 ?k4 ?k5 ?k6 ?k7 ?k8 ?k9 ?_; (case kv => with_reducible assumption); (case kx => with_reducible assumption); (case k1 => k_asm); (case k2 => k_asm); (case k3 => k_asm); (case k4 => k_asm); (case k5 => k_asm); (case k6 => exact rfl); (case k7 => k_extra "z2"); (case k8 => k_extra "z3"); (case k9 => exact pre_kids hk9q95 hl9q95 (by with_reducible assumption) (by k_asm)); intro r9q95 h9q95 t9q95 g9q95 F9q95 N9q95 hg9q95 o9q95; obtain ⟨tn9q95, e9q95⟩ := o9q95; subst e9q95; (try k_sweep); (try dsimp only); (try k_fold)))
  k_with "call ref" => (k_here; (with_reducible show wpAny _ _ (call (Value.ref _) _ _) _ _ _); k_dflt ((refine' TellO.meth (tell_head1 ?hz ?h1 ?h2) ?hq ?k1 ?k2 ?k3 ?k4 ?k5 ?k6 ?k7 ?k8 ?k9 ?k0 ?_); (case k1 => k_asm); (case k2 => k_asm); (case k3 => k_asm); (case k4 => k_asm); (case k5 => k_asm); (case hq => k_mem); (case hz => with_reducible assumption); (case h1 => with_reducible assumption); (case h2 => with_reducible assumption); (case k6 => exact rfl); (case k7 => k_extra "z2"); (case k8 => k_extra "z3"); (case k9 => with_reducible assumption); (case k0 => with_reducible exact own_nil); intro r9q102 h9q102 t9q102 F9q102 N9q102 o9q102; obtain ⟨tn9q102, e9q102⟩ := o9q102; subst e9q102; (try k_sweep); (try dsimp only); (try k_fold)))
  k_with "look" => (with_reducible first | exact Look1.str | exact Look1.int | (refine' Look1.name ?hx ?hd ?hm; (case hx => k_dflt (exact rfl)); (case hd => k_dflt decide); (case hm => k_dflt (exact rfl))) | exact LookN.nil | (refine' LookN.cons ?x ?y; (case x => k_extra "look"); (case y => k_extra "look")) | exact LookP.nil | (refine' LookP.cons ?x ?y ?z; (case x => k_extra "look"); (case y => k_extra "look"); (case z => k_extra "look")))
  k_with "spliced" => (k_here; (with_reducible show wpAny _ _ (spliced (backTo _ (starEach (_ :: _) _))) _ _ _); (with_reducible rename Fr _ _ _ _ => F8q16); ((with_reducible refine' args_lk F8q16 ?he ?hk ?l ?_); (case he => k_dflt (exact ⟨_, _, _, _, rfl⟩)); (case hk => k_dflt (exact rfl)); (case l => k_extra "look")); (try dsimp only); (try k_fold))
  k_with "evalPairs" => (k_here; (with_reducible show wpAny _ _ (evalPairs (pairTrees (_ :: _) _ _ _)) _ _ _); (with_reducible rename Fr _ _ _ _ => F8q17); ((with_reducible refine' pairs_lk F8q17 ?he ?hk ?l ?_); (case he => k_dflt (exact ⟨_, _, _, _, rfl⟩)); (case hk => k_dflt (exact rfl)); (case l => k_extra "look")); (try dsimp only); (try k_fold))
  k_with "eval BinOp" => (k_here; (with_reducible show wpAny _ _ (eval (Expr.BinOp (Expr.Name _ _) _ (Expr.Constant _ _ _) _) _) _ _ _); (with_reducible rename Fr _ _ _ _ => F8q18); ((with_reducible refine' bin_lk F8q18 ?he ?hk ?l ?r ?_); (case he => k_dflt (exact ⟨_, _, _, _, rfl⟩)); (case hk => k_dflt (exact rfl)); (case l => k_extra "look"); (case r => k_extra "look")); (try dsimp only); (try k_fold))
  k_with "eval BinOp" => (k_here; (with_reducible show wpAny _ _ (eval (Expr.BinOp (Expr.Name _ _) _ (Expr.Name _ _) _) _) _ _ _); (with_reducible rename Fr _ _ _ _ => F8q19); ((with_reducible refine' bin_lk F8q19 ?he ?hk ?l ?r ?_); (case he => k_dflt (exact ⟨_, _, _, _, rfl⟩)); (case hk => k_dflt (exact rfl)); (case l => k_extra "look"); (case r => k_extra "look")); (try dsimp only); (try k_fold))
  k_with "exec If" => (k_here; (with_reducible show wpAny _ _ (exec (Stmt.If (Expr.Compare (Expr.Name _ _) [CmpOp.Eq] [Expr.Constant (Const.int _) _ _] _) _ _ _) _) _ _ _); (with_reducible rename Fr _ _ _ _ => F8q20); ((with_reducible refine' if_lk F8q20 ?he ?hk ?l ?r ?h ?_); (case he => k_dflt (exact ⟨_, _, _, _, rfl⟩)); (case hk => k_dflt (exact rfl)); (case l => k_extra "look"); (case r => k_extra "look"); (case h => k_dflt (with_unfolding_all rfl))); (try dsimp only); (try k_fold))
  k_with "storeName" => (k_here; (with_reducible rename Fr _ _ _ _ => F8q21); (with_reducible rename News _ _ _ _ => N8q21); ((with_reducible refine' store_lk F8q21 N8q21 ?he ?hk ?hx ?_); (case he => k_dflt (exact ⟨_, _, _, _, rfl⟩)); (case hk => k_dflt (exact rfl)); (case hx => k_dflt (exact rfl)); intro h9q21 m9q21 F9q21 N9q21; (try clear F8q21 N8q21); (try dsimp only); (try k_fold)))
  trivial
theorem tok_head {w : World} {esc : Bool} {sa d e l st : Addr} {t1 t2 t3 t4 t5 D U : Nat} (hD : 1 + 200 ≤ D) (hU : 3 + 2000 ≤ U) {k : Int} (hn1 : 1 ≤ k) (hn6 : k ≤ 6) {n dn ne : Nat} {vs : List Value} {x : Str} (hK : KidsC w esc n dn ne) (hd1 : 1 + dn ≤ D) (hd2 : 3 + ne ≤ U) (hvs : vs.length ≤ 3) (hxl : x.length ≤ 100000) : TellG w 341 D U [.ref sa, .ref d, .ref st] (fun h => SelfAt w esc h sa ∧ DG w h d [(S "type", .str (S "heading") t1), (S "children", .ref l), (S "attrs", .ref e), (S "style", .str (S "atx") t2)] ∧ DG w h e [(S "level", .int k t3)] ∧ LA (inHeap h) l vs ∧ Kids (TokIn w esc (inHeap h) n) vs x) (fun r => ∃ t, r = .str (S "<h" ++ numF k ++ S "" ++ S ">" ++ x ++ S "</h" ++ numF k ++ S ">\n") t) := by
  intro p loose mean mg mb dp un gd cn cs a ccd cl outer A₀ base h₀ L m news s Q E B F X N T hk hdp hun hpre ret
  refine fillT w ?_
  k_fill
  intro _ _
  refine wpAny_call ?_
  k_dflt ((refine' code_all ?k1 ?k2 ?k3 ?k4 ?k5 ?kA ?kF ?kK ?k6 ?k7 ?k8 ?k9 ?kB ?_ ?c2 ?c3 ?c4 ?c5; (case kA => exact rfl); (case kF => exact rfl); (case kK => first | assumption | exact rfl); (case k1 => k_asm); (case k2 => k_asm); (case k3 => k_asm); (case k4 => k_asm); (case k5 => k_asm); (case k6 => k_is); (case k7 => k_is); (case k8 => ((try simp only [depth_under_make, depth_under_kw, depth_in1, depth_deeper, depth_caller]); (try dsimp only [ktrTop]); omega)); (case k9 => first | exact BindsTo.of_eq rfl | exact binds_K (by k_in) rfl (by k_is) rfl rfl rfl | fail "enter: no rule for these arguments"); (case c5 => decide); (case kB => exact locs rfl); (case c2 => exact rfl); (case c3 => exact rfl); (case c4 => exact rfl); k_whole); intro g0 L0 h' FG' F' N' B' X' T' hs0; (try dsimp only); (try k_fold))
  obtain ⟨hpre, htok, hatt, hla, hkd⟩ := hpre
  replace htok := htok.kept hs0
  replace hatt := hatt.kept hs0
  replace hla := LA.mono (fun d o e => hs0 d o e) hla
  replace hkd := Kids.mono (fun v o z => TokIn.mono (fun d o e => hs0 d o e) (Nat.le_refl _) z) hkd
  have hxz := Sz.one hxl
  replace hpre := SelfAt.kept hpre hs0
  obtain ⟨dx, md, k1, k2, k3, hI, hmd⟩ := id hpre
  repeat' (first | ((with_reducible show Q _ _); fail) | (k_unfold; (try dsimp only)) | ((fail_if_success (with_reducible show Q _ _)); walk1) | ((fail_if_success (with_reducible show Q _ _)); dsimp only; walk1) | (leave1; try dsimp only) | fail "no step")
  all_goals (
    with_reducible rename Fr h₀ L _ _ => kF
    with_reducible rename Fr g0 _ _ _ => F9
    exact ret _ _ _ _ kF (back0 N hs0 F9) (by first | with_reducible assumption | exact GX.refl _) ⟨_, rfl⟩)
end
section
open PySem.W.KStt (codes)
theorem lines_NTheadI : True := by
  k_with "call ref" => (k_here; (with_reducible show wpAny _ _ (call (Value.ref _) _ _) _ _ _); k_dflt ((refine' TellO.meth (tell_head2 ?hz ?h1 ?h2 ?hy ?h3 ?h4) ?hq ?k1 ?k2 ?k3 ?k4 ?k5 ?k6 ?k7 ?k8 ?k9 ?k0 ?_); (case k1 => k_asm); (case k2 => k_asm); (case k3 => k_asm); (case k4 => k_asm); (case k5 => k_asm); (case hq => k_mem); (case hz => with_reducible assumption); (case h1 => with_reducible assumption); (case h2 => with_reducible assumption); (case hy => with_reducible assumption); (case h3 => with_reducible assumption); (case h4 => with_reducible assumption); (case k6 => exact rfl); (case k7 => k_extra "z2"); (case k8 => k_extra "z3"); (case k9 => with_reducible assumption); (case k0 => with_reducible exact own_nil); intro r9q103 h9q103 t9q103 F9q103 N9q103 o9q103; obtain ⟨tn9q103, e9q103⟩ := o9q103; subst e9q103; (try k_sweep); (try dsimp only); (try k_fold)))
  trivial
theorem tok_headI {w : World} {esc : Bool} {sa d e l st : Addr} {t1 t2 t3 t4 t5 D U : Nat} (hD : 1 + 200 ≤ D) (hU : 3 + 2000 ≤ U) {k : Int} {y : Str} (hn1 : 1 ≤ k) (hn6 : k ≤ 6) (hy : y ∈ rawsL) (hy0 : 1 ≤ y.length) (hy1 : y.length ≤ 100000) {n dn ne : Nat} {vs : List Value} {x : Str} (hK : KidsC w esc n dn ne) (hd1 : 1 + dn ≤ D) (hd2 : 3 + ne ≤ U) (hvs : vs.length ≤ 3) (hxl : x.length ≤ 100000) : TellG w 341 D U [.ref sa, .ref d, .ref st] (fun h => SelfAt w esc h sa ∧ DG w h d [(S "type", .str (S "heading") t1), (S "children", .ref l), (S "attrs", .ref e), (S "style", .str (S "atx") t2)] ∧ DG w h e [(S "level", .int k t3), (S "id", .str y t4)] ∧ LA (inHeap h) l vs ∧ Kids (TokIn w esc (inHeap h) n) vs x) (fun r => ∃ t, r = .str (S "<h" ++ numF k ++ attrF (S "id") y ++ S ">" ++ x ++ S "</h" ++ numF k ++ S ">\n") t) := by
  intro p loose mean mg mb dp un gd cn cs a ccd cl outer A₀ base h₀ L m news s Q E B F X N T hk hdp hun hpre ret
  refine fillT w ?_
  k_fill
  intro _ _
  refine wpAny_call ?_
  k_dflt ((refine' code_all ?k1 ?k2 ?k3 ?k4 ?k5 ?kA ?kF ?kK ?k6 ?k7 ?k8 ?k9 ?kB ?_ ?c2 ?c3 ?c4 ?c5; (case kA => exact rfl); (case kF => exact rfl); (case kK => first | assumption | exact rfl); (case k1 => k_asm); (case k2 => k_asm); (case k3 => k_asm); (case k4 => k_asm); (case k5 => k_asm); (case k6 => k_is); (case k7 => k_is); (case k8 => ((try simp only [depth_under_make, depth_under_kw, depth_in1, depth_deeper, depth_caller]); (try dsimp only [ktrTop]); omega)); (case k9 => first | exact BindsTo.of_eq rfl | exact binds_K (by k_in) rfl (by k_is) rfl rfl rfl | fail "enter: no rule for these arguments"); (case c5 => decide); (case kB => exact locs rfl); (case c2 => exact rfl); (case c3 => exact rfl); (case c4 => exact rfl); k_whole); intro g0 L0 h' FG' F' N' B' X' T' hs0; (try dsimp only); (try k_fold))
  obtain ⟨hpre, htok, hatt, hla, hkd⟩ := hpre
  replace htok := htok.kept hs0
  replace hatt := hatt.kept hs0
  replace hla := LA.mono (fun d o e => hs0 d o e) hla
  replace hkd := Kids.mono (fun v o z => TokIn.mono (fun d o e => hs0 d o e) (Nat.le_refl _) z) hkd
  have hxz := Sz.one hxl
  replace hpre := SelfAt.kept hpre hs0
  obtain ⟨dx, md, k1, k2, k3, hI, hmd⟩ := id hpre
  repeat' (first | ((with_reducible show Q _ _); fail) | (k_unfold; (try dsimp only)) | ((fail_if_success (with_reducible show Q _ _)); walk1) | ((fail_if_success (with_reducible show Q _ _)); dsimp only; walk1) | (leave1; try dsimp only) | fail "no step")
  all_goals (
    with_reducible rename Fr h₀ L _ _ => kF
    with_reducible rename Fr g0 _ _ _ => F9
    exact ret _ _ _ _ kF (back0 N hs0 F9) (by first | with_reducible assumption | exact GX.refl _) ⟨_, rfl⟩)
end
section
open PySem.W.KStt (codes)
theorem lines_NB0 : True := by
  k_with_none
  k_with "z1" => (((try simp only [depth_under_make, depth_under_kw, depth_in1, depth_deeper, depth_caller]); (try dsimp only [ktrTop]); omega))
  k_with "ktr_enter" => ((refine' code_def ?k1 ?k2 ?k3 ?k4 ?k5 ?kA ?kF ?kK ?k6 ?k7 ?k8 ?k9 ?kB ?_ ?c2 ?c3 ?c4 ?c5; (case kA => exact rfl); (case kF => exact rfl); (case kK => first | assumption | exact rfl); (case k1 => k_asm); (case k2 => k_asm); (case k3 => k_asm); (case k4 => k_asm); (case k5 => k_asm); (case k6 => k_is); (case k7 => k_is); (case k8 => k_extra "z1"); (case k9 => first | exact BindsTo.of_eq rfl | exact binds_K (by k_in) rfl (by k_is) rfl rfl rfl | fail "enter: no rule for these arguments"); (case c5 => decide); (case kB => exact locs rfl); (case c2 => exact rfl); (case c3 => exact rfl); (case c4 => exact rfl); k_whole); intro gpq0 Lpq0 hpq0 FGpq0 Fpq0 Npq0 Bpq0 Xpq0 Tpq0; (try dsimp only); (try k_lift Bpq0); (try k_fold))
  k_with "k_mem" => (first | with_reducible exact List.mem_cons_self | with_reducible assumption | (with_reducible refine List.mem_cons_of_mem _ ?_; k_mem) | (with_reducible refine List.mem_append_left _ ?_; k_mem) | (with_reducible refine List.mem_append_right _ ?_; k_mem))
  k_with "execs cons" => (k_here; k_dflt (refine wpAny_execs_cons ?_))
  k_with "execs cons" => (k_here; (with_reducible refine execs_cons_gen ?_); intro tk9q3)
  k_with "execs nil" => (k_here; (with_reducible refine wpAny_execs_nil ?_))
  k_with "exec If" => (k_here; k_dflt (refine wpAny_If ?_))
  k_with "ite" => (k_here; first | (with_reducible refine ite_tt ?_) | (with_reducible refine ite_ff ?_) | (k_closed; (first | (with_reducible refine iteP ?iteC ?_; (case iteC => decide)) | (with_reducible refine iteN ?iteC ?_; (case iteC => decide)))) | (with_reducible refine split_ine ?_ ?_ <;> intro _) | (with_reducible refine split_ieq ?_ ?_ <;> intro _) | with_reducible refine split_not ?_ | (with_reducible refine iteDec ?_ ?_ <;> intro _) | (with_reducible refine iteB ?_ ?_ <;> intro _))
  k_with "callWith ref" => (k_here; k_dflt ((with_reducible refine' callWith_K ?k1 ?k2 ?_ ?he ?hp); (case he => exact rfl); (case hp => exact rfl); (case k1 => k_asm); (case k2 => k_is)))
  k_with "callWith ref" => (k_here; k_dflt ((with_reducible refine' callWith_K0 ?k1 ?k2 ?_); (case k1 => exact Frag.In.keeps (by with_reducible assumption) (Fr.keep (by with_reducible assumption))); (case k2 => k_is); (try dsimp only [List.nil_append])))
  k_with "callWith" => (k_here; k_dflt ((with_reducible refine' callWith_m1 ?_ ?he ?hp); (case he => exact rfl); (case hp => exact rfl)))
  k_with "binaryOp Mod int int" => (k_here; (with_reducible refine' mod_int' ?kbe ?_); (case kbe => decide); (try dsimp only); (try k_fold))
  k_with "call builtin:str.join" => (k_here; (with_reducible show wpAny _ _ (call (Value.builtin _) [Value.str _ _, Value.ref _]) _ _ _); k_dflt (first | ((with_reducible refine' join_0 ?k1 ?k2 ?_); (case k1 => k_asm); (case k2 => k_mem)) | ((with_reducible refine' join_1 ?k1 ?k2 ?ka ?kn ?_); (case k1 => k_asm); (case k2 => k_mem); (case ka => with_reducible assumption); (case kn => decide)) | ((with_reducible refine' join_2 ?k1 ?k2 ?ka ?kb ?kn ?_); (case k1 => k_asm); (case k2 => k_mem); (case ka => with_reducible assumption); (case kb => with_reducible assumption); (case kn => decide))); intro t9q68 k9q68; (try dsimp only); (try k_fold))
  k_with "k_room" => (((try simp only [depth_under_make, depth_under_kw, depth_in1, depth_deeper, depth_caller]); (try dsimp only [ktrTop]); omega))
  k_with "ktr_enter" => ((refine' code_def ?k1 ?k2 ?k3 ?k4 ?k5 ?kA ?kF ?kK ?k6 ?k7 ?k8 ?k9 ?kB ?_ ?c2 ?c3 ?c4 ?c5; (case kA => exact rfl); (case kF => exact rfl); (case kK => first | assumption | exact rfl); (case k1 => k_asm); (case k2 => k_asm); (case k3 => k_asm); (case k4 => k_asm); (case k5 => k_asm); (case k6 => k_is); (case k7 => k_is); (case k8 => k_extra "z1"); (case k9 => first | exact BindsTo.of_eq rfl | exact binds_K (by k_in) rfl (by k_is) rfl rfl rfl | fail "enter: no rule for these arguments"); (case c5 => decide); (case kB => exact locs rfl); (case c2 => exact rfl); (case c3 => exact rfl); (case c4 => exact rfl); k_whole); intro gpq70 Lpq70 hpq70 FGpq70 Fpq70 Npq70 Bpq70 Xpq70 Tpq70; (try dsimp only); (try k_lift Bpq70); (try k_fold); (try have hIL := InstAt.kept (by with_reducible assumption) (Fr.keep FGpq70)); (try have hSL := SelfAt.kept (by with_reducible assumption) (Fr.keep FGpq70)))
  k_with "k_enter" => ((refine' code_def ?k1 ?k2 ?k3 ?k4 ?k5 ?kA ?kF ?kK ?k6 ?k7 ?k8 ?k9 ?kB ?_ ?c2 ?c3 ?c4 ?c5; (case kA => exact rfl); (case kF => exact rfl); (case kK => first | assumption | exact rfl); (case k1 => k_asm); (case k2 => k_asm); (case k3 => k_asm); (case k4 => k_asm); (case k5 => k_asm); (case k6 => k_is); (case k7 => k_is); (case k8 => k_extra "z1"); (case k9 => first | exact BindsTo.of_eq rfl | exact binds_K (by k_in) rfl (by k_is) rfl rfl rfl | fail "enter: no rule for these arguments"); (case c5 => decide); (case kB => exact locs rfl); (case c2 => exact rfl); (case c3 => exact rfl); (case c4 => exact rfl); k_whole); intro gpq71 Lpq71 hpq71 FGpq71 Fpq71 Npq71 Bpq71 Xpq71 Tpq71; (try dsimp only); (try k_lift Bpq71); (try k_fold); (try have hIL := InstAt.kept (by with_reducible assumption) (Fr.keep FGpq71)); (try have hSL := SelfAt.kept (by with_reducible assumption) (Fr.keep FGpq71)))
  k_with "eval Call" => (k_here; (with_reducible show wpAny _ _ (eval (Expr.Call (Expr.Name _ _) _ [] _) _) _ _ _); k_dflt (refine Call_ ?_))
  k_with "binaryOp Add str str" => (k_here; k_dflt ((with_reducible refine' add_strP (Sz.app ?sa ?sb) ?hn ?_); (case sa => first | with_reducible assumption | exact raw_sz (by with_reducible assumption) | (refine Sz.one ?_; first | decide +kernel | exact num_sz _)); (case sb => first | with_reducible assumption | exact raw_sz (by with_reducible assumption) | (refine Sz.one ?_; first | decide +kernel | exact num_sz _)); (case hn => decide); intro t9q72 k9q72 hz9q72; (try dsimp only); (try k_fold)))
  k_with "k_all" => (first | with_reducible assumption | exact List.forall_mem_nil _ | (with_reducible refine' List.forall_mem_cons.mpr ⟨?ka, ?kb⟩; (case ka => k_ne); (case kb => k_all)) | (with_reducible refine' ltNe2 ?ka; (case ka => with_reducible assumption)) | (with_reducible refine' ltNe3 ?ka; (case ka => with_reducible assumption)) | (with_reducible refine' ltNe4 ?ka; (case ka => with_reducible assumption)) | (with_reducible refine' List.forall_mem_append.mpr ⟨?ka, ?kb⟩; (case ka => k_all); (case kb => k_all)) | (with_reducible refine' apartE ?ka ?kb; (case ka => with_reducible assumption); (case kb => k_mem)) | (with_reducible refine' ltNe ?ka; (case ka => with_reducible assumption)))
  k_with "k_ne" => (refine neN ?_; (try dsimp only); first | with_reducible assumption | (with_reducible exact Ne.symm (by assumption)) | (with_reducible exact Nat.ne_of_lt (by assumption)) | (with_reducible exact Nat.ne_of_gt (by assumption)) | omega)
  k_with "ite" => (k_here; first | (with_reducible refine iteP (by with_reducible assumption) ?_) | (with_reducible refine iteF (by with_reducible assumption) ?_))
  k_with "k_inst" => ((with_reducible refine' inst_fr ?ib ?ia; (case ib => with_reducible assumption); (case ia => with_reducible assumption)))
  k_with "call ref" => (k_here; (first | (with_reducible show wpAny _ _ (call (Value.ref 320) _) _ _ _)); k_dflt (refine wpAny_call ?_; ktr_enter))
  k_with "z2" => ((with_reducible rename _ + _ < recursionLimit => hr9; first | exact room1 hr9 (by first | decide | assumption | (refine' Nat.le_trans ?qa ?qb; (case qb => assumption); (case qa => decide))) | ((try simp only [depth_under_make, depth_under_kw, depth_in1, depth_deeper, depth_caller, units_in1, units_deeper, units_caller]); (try dsimp only [ktrTop]); omega)))
  k_with "z3" => ((with_reducible rename _ + _ < cLine => hr9; first | exact room3 hr9 (by first | decide | assumption | (refine' Nat.le_trans ?qa ?qb; (case qb => assumption); (case qa => decide))) | ((try simp only [depth_under_make, depth_under_kw, depth_in1, depth_deeper, depth_caller, units_in1, units_deeper, units_caller]); (try dsimp only [ktrTop]); omega)))
  k_with "call ref" => (k_here; (with_reducible show wpAny _ _ (call (Value.ref 238) _) _ _ _); k_dflt (refine' Tell0.use (tell_escapeL ?ka ?kb) ?k1 ?k2 ?k3 ?k4 ?k5 ?k6 ?k7 ?k8 ?k9 ?_; (case ka => first | with_reducible assumption | exact raw_lit (by decide +kernel)); (case kb => first | with_reducible assumption | exact rfl); (case k1 => k_asm); (case k2 => k_asm); (case k3 => k_asm); (case k4 => k_asm); (case k5 => k_asm); (case k6 => exact rfl); (case k7 => k_extra "z2"); (case k8 => k_extra "z3"); (case k9 => exact True.intro); intro r9q75 h9q75 t9q75 F9q75 N9q75 o9q75; obtain ⟨tn9q75, e9q75⟩ := o9q75; subst e9q75; (try have hl9q75 := raw_sz (by with_reducible assumption)); (try k_sweep); (try dsimp only); (try k_fold)))
  k_with "call ref" => (k_here; (with_reducible show wpAny _ _ (call (Value.ref 245) _) _ _ _); k_dflt (refine' Tell0.use (tell_safeL ?ka ?kb) ?k1 ?k2 ?k3 ?k4 ?k5 ?k6 ?k7 ?k8 ?k9 ?_; (case ka => first | with_reducible assumption | exact raw_lit (by decide +kernel)); (case kb => first | with_reducible assumption | exact rfl); (case k1 => k_asm); (case k2 => k_asm); (case k3 => k_asm); (case k4 => k_asm); (case k5 => k_asm); (case k6 => exact rfl); (case k7 => k_extra "z2"); (case k8 => k_extra "z3"); (case k9 => exact True.intro); intro r9q76 h9q76 t9q76 F9q76 N9q76 o9q76; obtain ⟨tn9q76, e9q76⟩ := o9q76; subst e9q76; (try have hl9q76 := raw_sz (by with_reducible assumption)); (try k_sweep); (try dsimp only); (try k_fold)))
  k_with "subscriptTail Name" => (k_here; (with_reducible show wpAny _ _ (subscriptTail _ _ (Value.ref _) (Value.str _ _)) _ _ _); k_dflt ((with_reducible refine' g_item ?x ?F ?hl ?_ ?hs ?hg); (case x => with_reducible assumption); (case F => with_reducible assumption); (case hl => exact rfl); (case hs => with_unfolding_all rfl); (case hg => (intro _; with_unfolding_all rfl)); (try dsimp only); (try k_fold)))
  k_with "compareOp In str ref" => (k_here; k_dflt (first | ((with_reducible refine' g_in ?x ?F true ?hl ?_); (case x => with_reducible assumption); (case F => with_reducible assumption); (case hl => exact rfl)) | ((with_reducible refine' g_in ?x ?F false ?hl ?_); (case x => with_reducible assumption); (case F => with_reducible assumption); (case hl => exact rfl))); (try dsimp only); (try k_fold))
  k_with "getMethod ref" => (k_here; (with_reducible show wpAny _ _ (getMethod (Value.ref _) (Str.ofString "get") _) _ _ _); k_dflt ((with_reducible refine' g_meth ?x ?F ?_); (case x => with_reducible assumption); (case F => with_reducible assumption); (try dsimp only); (try k_fold)))
  k_with "call builtin:dict.get" => (k_here; k_dflt (first | ((with_reducible refine' g_get ?x ?F (some _) ?hl ?_); (case x => with_reducible assumption); (case F => with_reducible assumption); (case hl => exact rfl)) | ((with_reducible refine' g_get ?x ?F none ?hl ?_); (case x => with_reducible assumption); (case F => with_reducible assumption); (case hl => exact rfl))); (try dsimp only [Option.getD]); (try dsimp only); (try k_fold))
  k_with "callWith ref" => (k_here; (with_reducible show wpAny _ _ (callWith _ _ _ _ (backToKw _ (keywordEach [⟨none, _, _⟩] _))) _ _ _); k_dflt (first | ((with_reducible refine' callWith_MS ?k1 ?k2 ?k3 ?k4 ?_ ?he); (case he => exact rfl); (case k1 => k_asm); (case k2 => k_asm); (case k3 => k_mem); (case k4 => k_is)) | ((with_reducible refine' callWith_MS0 ?k1 ?k2 ?k3 ?k4 ?_); (case k1 => k_asm); (case k2 => k_asm); (case k3 => k_mem); (case k4 => k_is))); (try dsimp only))
  k_with "KwStar" => (k_here; k_dflt ((with_reducible refine' kw_star' ?k1 ?k2 ?_); (case k1 => k_asm); (case k2 => k_asm); intro d9q82 h9q82 F9q82 N9q82 hap9q82; (try k_sweep); (try dsimp only); (try k_fold)))
  k_with "KwDict" => (k_here; k_dflt ((with_reducible refine' kw_dict ?x ?F ?N ?ha ?hz ?_); (case x => with_reducible assumption); (case F => k_asm); (case N => k_asm); (case ha => with_reducible assumption); (case hz => exact Nat.le_of_ble_eq_true rfl); intro h9q83 F9q83 N9q83; (try k_sweep); (try dsimp only); (try k_fold)))
  k_with "truthy ref" => (k_here; k_dflt (((with_reducible refine' g_truthy ?x ?F true ?hb ?hf ?_); (case x => with_reducible assumption); (case F => with_reducible assumption); (case hb => exact rfl); (case hf => exact Nat.le_of_ble_eq_true rfl)); (try dsimp only); (try k_fold)))
  k_with "getMethod ref" => (k_here; (with_reducible show wpAny _ _ (getMethod (Value.ref 279) _ _) _ _ _); k_dflt ((with_reducible refine' meth_279 ?x ?F ?_); (case F => k_asm); (case x => k_asm); (try dsimp only); (try k_fold)))
  k_with "call builtin:re.Pattern.fullmatch" => (k_here; k_dflt ((with_reducible refine' full_279 ?hx ?X ?F ?N ?_); (case F => k_asm); (case N => k_asm); (case X => k_asm); (case hx => first | with_reducible assumption | with_reducible exact ⟨full_class, by decide +kernel⟩ | with_reducible exact ⟨full_href, by decide +kernel⟩ | with_reducible exact ⟨full_title, by decide +kernel⟩ | with_reducible exact ⟨full_id, by decide +kernel⟩); intro mt9q86 o9q86 h9q86 hm9q86 F9q86 N9q86 hl9q86; (try k_lt hl9q86); (try k_sweep); (try dsimp only); (try k_fold)))
  k_with "truthy ref" => (k_here; k_dflt ((with_reducible refine' match_true ?N ?hm ?hc ?_); (case N => k_asm); (case hm => k_mem); (case hc => with_reducible assumption); (try dsimp only); (try k_fold)))
  k_with "call type:str" => (k_here; (with_reducible show wpAny _ _ (call (Value.type "str") [Value.str _ _]) _ _ _); k_dflt (refine P.str_of_str ?_))
  k_with "call builtin:list.append" => (k_here; (with_reducible show wpAny _ _ (call (Value.builtin _) [Value.ref _, _]) _ _ _); k_dflt ((with_reducible refine' append_tok ?k1 ?k2 ?k3 ?k4 ?_); (case k1 => k_asm); (case k2 => k_asm); (case k3 => k_upd); (case k4 => decide); intro h9q89 F9q89 N9q89; (try dsimp only); (try k_sweep); (try k_fold)))
  k_with "call builtin:str.split" => (k_here; k_dflt (first | ((with_reducible refine' split_wordsA ?w ?k1 ?k2 ?_); (case w => with_reducible assumption); (case k1 => k_asm); (case k2 => k_asm)) | ((with_reducible refine' split_cutA ?w ?k1 ?k2 ?_); (case w => with_reducible assumption); (case k1 => k_asm); (case k2 => k_asm))); intro D9q65 t9q65 r9q65 h9q65 k9q65 F9q65 N9q65 hl9q65; (try k_lt hl9q65); (try k_sweep); (try dsimp only); (try k_fold))
  k_with "subscriptTail Call" => (k_here; (with_reducible show wpAny _ _ (subscriptTail _ _ (Value.ref _) (Value.int 0 _)) _ _ _); (with_reducible rename News _ _ _ _ => N8q66); k_dflt (refine' first_of N8q66 ?ks ?_; (case ks => with_unfolding_all rfl); clear N8q66; intro N9q66; (try dsimp only); (try k_fold)))
  k_with "call ref" => (k_here; (with_reducible show wpAny _ _ (call (Value.ref 327) _ _) _ _ _); k_dflt (refine' TellO.use (tell_attrs0 ?hlo ?hd ?hf) ?k1 ?k2 ?k3 ?k4 ?k5 ?k6 ?k7 ?k8 ?k9 ?k0 ?_; (case hd => with_reducible rename Obj.IsDictOf (PySem.strKind _ _) _ _ => hD7q104; first | with_reducible exact hD7q104 | (dsimp only [strPairs, strData] at hD7q104; with_reducible exact hD7q104) | with_unfolding_all exact hD7q104); (case hf => with_reducible rename PyProof.V.FlatPairs PyData.str _ _ => hF7q104; first | with_reducible exact hF7q104 | (dsimp only [strPairs, strData] at hF7q104; with_reducible exact hF7q104) | with_unfolding_all exact hF7q104); (case hlo => with_reducible assumption); (case k1 => k_asm); (case k2 => k_asm); (case k3 => k_asm); (case k4 => k_asm); (case k5 => k_asm); (case k6 => exact rfl); (case k7 => k_extra "z2"); (case k8 => k_extra "z3"); (case k9 => with_reducible assumption); (case k0 => first | with_reducible exact own_nil | (with_reducible refine own_one ?_; k_mem)); intro r9q104 h9q104 t9q104 F9q104 N9q104 o9q104; obtain ⟨tn9q104, e9q104⟩ := o9q104; subst e9q104; (try k_sweep); (try dsimp only); (try k_fold)))
  k_with "call ref" => (k_here; (with_reducible show wpAny _ _ (call (Value.ref 327) _ _) _ _ _); k_dflt (refine' TellO.use (tell_attrs1 ?hnm ?hz ?hx ?hlo ?hd ?hf) ?k1 ?k2 ?k3 ?k4 ?k5 ?k6 ?k7 ?k8 ?k9 ?k0 ?_; (case hd => with_reducible rename Obj.IsDictOf (PySem.strKind _ _) _ _ => hD7q105; first | with_reducible exact hD7q105 | (dsimp only [strPairs, strData] at hD7q105; with_reducible exact hD7q105) | with_unfolding_all exact hD7q105); (case hf => with_reducible rename PyProof.V.FlatPairs PyData.str _ _ => hF7q105; first | with_reducible exact hF7q105 | (dsimp only [strPairs, strData] at hF7q105; with_reducible exact hF7q105) | with_unfolding_all exact hF7q105); (case hlo => with_reducible assumption); (case hnm => first | with_reducible exact ⟨full_class, by decide +kernel⟩ | with_reducible exact ⟨full_href, by decide +kernel⟩ | with_reducible exact ⟨full_id, by decide +kernel⟩ | with_reducible exact ⟨full_title, by decide +kernel⟩); (case hz => exact Sz.one (by decide +kernel)); (case hx => first | with_reducible assumption | exact raw_lit (by decide +kernel)); (case k1 => k_asm); (case k2 => k_asm); (case k3 => k_asm); (case k4 => k_asm); (case k5 => k_asm); (case k6 => exact rfl); (case k7 => k_extra "z2"); (case k8 => k_extra "z3"); (case k9 => with_reducible assumption); (case k0 => first | with_reducible exact own_nil | (with_reducible refine own_one ?_; k_mem)); intro r9q105 h9q105 t9q105 F9q105 N9q105 o9q105; obtain ⟨tn9q105, e9q105, hz9q105⟩ := o9q105; subst e9q105; (try k_sweep); (try dsimp only); (try k_fold)))
  k_with "look" => (with_reducible first | exact Look1.str | exact Look1.int | (refine' Look1.name ?hx ?hd ?hm; (case hx => k_dflt (exact rfl)); (case hd => k_dflt decide); (case hm => k_dflt (exact rfl))) | exact LookN.nil | (refine' LookN.cons ?x ?y; (case x => k_extra "look"); (case y => k_extra "look")) | exact LookP.nil | (refine' LookP.cons ?x ?y ?z; (case x => k_extra "look"); (case y => k_extra "look"); (case z => k_extra "look")))
  k_with "spliced" => (k_here; (with_reducible show wpAny _ _ (spliced (backTo _ (starEach (_ :: _) _))) _ _ _); (with_reducible rename Fr _ _ _ _ => F8q16); ((with_reducible refine' args_lk F8q16 ?he ?hk ?l ?_); (case he => k_dflt (exact ⟨_, _, _, _, rfl⟩)); (case hk => k_dflt (exact rfl)); (case l => k_extra "look")); (try dsimp only); (try k_fold))
  k_with "evalPairs" => (k_here; (with_reducible show wpAny _ _ (evalPairs (pairTrees (_ :: _) _ _ _)) _ _ _); (with_reducible rename Fr _ _ _ _ => F8q17); ((with_reducible refine' pairs_lk F8q17 ?he ?hk ?l ?_); (case he => k_dflt (exact ⟨_, _, _, _, rfl⟩)); (case hk => k_dflt (exact rfl)); (case l => k_extra "look")); (try dsimp only); (try k_fold))
  k_with "eval BinOp" => (k_here; (with_reducible show wpAny _ _ (eval (Expr.BinOp (Expr.Name _ _) _ (Expr.Constant _ _ _) _) _) _ _ _); (with_reducible rename Fr _ _ _ _ => F8q18); ((with_reducible refine' bin_lk F8q18 ?he ?hk ?l ?r ?_); (case he => k_dflt (exact ⟨_, _, _, _, rfl⟩)); (case hk => k_dflt (exact rfl)); (case l => k_extra "look"); (case r => k_extra "look")); (try dsimp only); (try k_fold))
  k_with "eval BinOp" => (k_here; (with_reducible show wpAny _ _ (eval (Expr.BinOp (Expr.Name _ _) _ (Expr.Name _ _) _) _) _ _ _); (with_reducible rename Fr _ _ _ _ => F8q19); ((with_reducible refine' bin_lk F8q19 ?he ?hk ?l ?r ?_); (case he => k_dflt (exact ⟨_, _, _, _, rfl⟩)); (case hk => k_dflt (exact rfl)); (case l => k_extra "look"); (case r => k_extra "look")); (try dsimp only); (try k_fold))
  k_with "exec If" => (k_here; (with_reducible show wpAny _ _ (exec (Stmt.If (Expr.Compare (Expr.Name _ _) [CmpOp.Eq] [Expr.Constant (Const.int _) _ _] _) _ _ _) _) _ _ _); (with_reducible rename Fr _ _ _ _ => F8q20); ((with_reducible refine' if_lk F8q20 ?he ?hk ?l ?r ?h ?_); (case he => k_dflt (exact ⟨_, _, _, _, rfl⟩)); (case hk => k_dflt (exact rfl)); (case l => k_extra "look"); (case r => k_extra "look"); (case h => k_dflt (with_unfolding_all rfl))); (try dsimp only); (try k_fold))
  k_with "storeName" => (k_here; (with_reducible rename Fr _ _ _ _ => F8q21); (with_reducible rename News _ _ _ _ => N8q21); ((with_reducible refine' store_lk F8q21 N8q21 ?he ?hk ?hx ?_); (case he => k_dflt (exact ⟨_, _, _, _, rfl⟩)); (case hk => k_dflt (exact rfl)); (case hx => k_dflt (exact rfl)); intro h9q21 m9q21 F9q21 N9q21; (try clear F8q21 N8q21); (try dsimp only); (try k_fold)))
  trivial
theorem tell_code0 {w : World} {esc : Bool} {sa : Addr} {x : Str} {t1 t2 : Nat} (hx : x ∈ rawsL) : TellO w 456 120 1200 [.ref sa, .str x t1] [] [] (fun h => SelfAt w esc h sa) (fun r => ∃ t, r = .str (S "<pre><code" ++ S "" ++ S ">" ++ shownF x ++ S "</code></pre>\n") t) := by
  intro p loose mean mg mb dp un gd cn cs a ccd cl outer A₀ base h₀ L m news s Q E B F X N T hk hdp hun hpre hown ret
  refine fillT w ?_
  k_fill
  intro _ _
  k_dflt ((refine' (code_own hown) ?k1 ?k2 ?k3 ?k4 ?k5 ?kA ?kF ?kK ?k6 ?k7 ?k8 ?k9 ?kB ?_ ?c2 ?c3 ?c4 ?c5; (case kA => exact rfl); (case kF => exact rfl); (case kK => first | assumption | exact rfl); (case k1 => k_asm); (case k2 => k_asm); (case k3 => k_asm); (case k4 => k_asm); (case k5 => k_asm); (case k6 => k_is); (case k7 => k_is); (case k8 => ((try simp only [depth_under_make, depth_under_kw, depth_in1, depth_deeper, depth_caller]); (try dsimp only [ktrTop]); omega)); (case k9 => first | exact BindsTo.of_eq rfl | exact binds_K (by k_in) rfl (by k_is) rfl rfl rfl | fail "enter: no rule for these arguments"); (case c5 => decide); (case kB => exact locs rfl); (case c2 => exact rfl); (case c3 => exact rfl); (case c4 => exact rfl); k_whole); intro g0 L0 h' FG' F' N' B' X' T' hs0 hst0 hlo0; (try dsimp only); (try k_fold))
  replace hpre := SelfAt.kept hpre hst0
  obtain ⟨dx, md, k1, k2, k3, hI, hmd⟩ := id hpre
  repeat' (first | ((with_reducible show Q _ _); fail) | (k_unfold; (try dsimp only)) | ((fail_if_success (with_reducible show Q _ _)); walk1) | ((fail_if_success (with_reducible show Q _ _)); dsimp only; walk1) | (leave1; try dsimp only) | fail "no step")
  all_goals (
    with_reducible rename Fr h₀ L _ _ => kF
    with_reducible rename News h₀ L _ _ => kN
    with_reducible rename Fr g0 _ _ _ => F9
    refine ret _ _ _ kF (backO N hown hs0 F9 kN (by first | with_reducible exact own_nil | (with_reducible refine own_one ?_; k_mem))) ⟨_, rfl⟩)
end
section
open PySem.W.KStt (codes)
theorem tell_code1 {w : World} {esc : Bool} {sa : Addr} {x : Str} {t1 t2 : Nat} (hx : x ∈ rawsL) : TellO w 456 120 1200 [.ref sa, .str x t1] [(S "info", .str (S "") t2)] [] (fun h => SelfAt w esc h sa) (fun r => ∃ t, r = .str (S "<pre><code" ++ S "" ++ S ">" ++ shownF x ++ S "</code></pre>\n") t) := by
  intro p loose mean mg mb dp un gd cn cs a ccd cl outer A₀ base h₀ L m news s Q E B F X N T hk hdp hun hpre hown ret
  refine fillT w ?_
  k_fill
  intro _ _
  k_dflt ((refine' (code_own hown) ?k1 ?k2 ?k3 ?k4 ?k5 ?kA ?kF ?kK ?k6 ?k7 ?k8 ?k9 ?kB ?_ ?c2 ?c3 ?c4 ?c5; (case kA => exact rfl); (case kF => exact rfl); (case kK => first | assumption | exact rfl); (case k1 => k_asm); (case k2 => k_asm); (case k3 => k_asm); (case k4 => k_asm); (case k5 => k_asm); (case k6 => k_is); (case k7 => k_is); (case k8 => ((try simp only [depth_under_make, depth_under_kw, depth_in1, depth_deeper, depth_caller]); (try dsimp only [ktrTop]); omega)); (case k9 => first | exact BindsTo.of_eq rfl | exact binds_K (by k_in) rfl (by k_is) rfl rfl rfl | fail "enter: no rule for these arguments"); (case c5 => decide); (case kB => exact locs rfl); (case c2 => exact rfl); (case c3 => exact rfl); (case c4 => exact rfl); k_whole); intro g0 L0 h' FG' F' N' B' X' T' hs0 hst0 hlo0; (try dsimp only); (try k_fold))
  replace hpre := SelfAt.kept hpre hst0
  obtain ⟨dx, md, k1, k2, k3, hI, hmd⟩ := id hpre
  have hs1 : shownF (S "") = S "" := by decide +kernel
  repeat' (first | ((with_reducible show Q _ _); fail) | (k_unfold; (try dsimp only)) | ((fail_if_success (with_reducible show Q _ _)); walk1) | ((fail_if_success (with_reducible show Q _ _)); dsimp only; walk1) | (leave1; try dsimp only) | fail "no step")
  all_goals (
    with_reducible rename Fr h₀ L _ _ => kF
    with_reducible rename News h₀ L _ _ => kN
    with_reducible rename Fr g0 _ _ _ => F9
    refine ret _ _ _ kF (backO N hown hs0 F9 kN (by first | with_reducible exact own_nil | (with_reducible refine own_one ?_; k_mem))) ⟨_, rfl⟩)
end
section
open PySem.W.KStt (codes)
theorem tell_code2 {w : World} {esc : Bool} {sa : Addr} {x : Str} {t1 t2 : Nat} (hx : x ∈ rawsL) : TellO w 456 120 1200 [.ref sa, .str x t1] [(S "info", .str (S "py") t2)] [] (fun h => SelfAt w esc h sa) (fun r => ∃ t, r = .str (S "<pre><code" ++ S " class=\"language-py\"" ++ S ">" ++ shownF x ++ S "</code></pre>\n") t) := by
  intro p loose mean mg mb dp un gd cn cs a ccd cl outer A₀ base h₀ L m news s Q E B F X N T hk hdp hun hpre hown ret
  refine fillT w ?_
  k_fill
  intro _ _
  k_dflt ((refine' (code_own hown) ?k1 ?k2 ?k3 ?k4 ?k5 ?kA ?kF ?kK ?k6 ?k7 ?k8 ?k9 ?kB ?_ ?c2 ?c3 ?c4 ?c5; (case kA => exact rfl); (case kF => exact rfl); (case kK => first | assumption | exact rfl); (case k1 => k_asm); (case k2 => k_asm); (case k3 => k_asm); (case k4 => k_asm); (case k5 => k_asm); (case k6 => k_is); (case k7 => k_is); (case k8 => ((try simp only [depth_under_make, depth_under_kw, depth_in1, depth_deeper, depth_caller]); (try dsimp only [ktrTop]); omega)); (case k9 => first | exact BindsTo.of_eq rfl | exact binds_K (by k_in) rfl (by k_is) rfl rfl rfl | fail "enter: no rule for these arguments"); (case c5 => decide); (case kB => exact locs rfl); (case c2 => exact rfl); (case c3 => exact rfl); (case c4 => exact rfl); k_whole); intro g0 L0 h' FG' F' N' B' X' T' hs0 hst0 hlo0; (try dsimp only); (try k_fold))
  replace hpre := SelfAt.kept hpre hst0
  obtain ⟨dx, md, k1, k2, k3, hI, hmd⟩ := id hpre
  have hs1 : shownF (S "py") = S "py" := by decide +kernel
  have hs3 := wa_py
  repeat' (first | ((with_reducible show Q _ _); fail) | (k_unfold; (try dsimp only)) | ((fail_if_success (with_reducible show Q _ _)); walk1) | ((fail_if_success (with_reducible show Q _ _)); dsimp only; walk1) | (leave1; try dsimp only) | fail "no step")
  all_goals (
    with_reducible rename Fr h₀ L _ _ => kF
    with_reducible rename News h₀ L _ _ => kN
    with_reducible rename Fr g0 _ _ _ => F9
    refine ret _ _ _ kF (backO N hown hs0 F9 kN (by first | with_reducible exact own_nil | (with_reducible refine own_one ?_; k_mem))) ⟨_, congrArg (fun z => Value.str (S "<pre><code" ++ z ++ S ">" ++ shownF x ++ S "</code></pre>\n") _) (by decide +kernel)⟩)
end
section
open PySem.W.KStt (codes)
theorem tell_code3 {w : World} {esc : Bool} {sa : Addr} {x : Str} {t1 t2 : Nat} (hx : x ∈ rawsL) : TellO w 456 120 1200 [.ref sa, .str x t1] [(S "info", .str (S " c++  d ") t2)] [] (fun h => SelfAt w esc h sa) (fun r => ∃ t, r = .str (S "<pre><code" ++ S " class=\"language-c++\"" ++ S ">" ++ shownF x ++ S "</code></pre>\n") t) := by
  intro p loose mean mg mb dp un gd cn cs a ccd cl outer A₀ base h₀ L m news s Q E B F X N T hk hdp hun hpre hown ret
  refine fillT w ?_
  k_fill
  intro _ _
  k_dflt ((refine' (code_own hown) ?k1 ?k2 ?k3 ?k4 ?k5 ?kA ?kF ?kK ?k6 ?k7 ?k8 ?k9 ?kB ?_ ?c2 ?c3 ?c4 ?c5; (case kA => exact rfl); (case kF => exact rfl); (case kK => first | assumption | exact rfl); (case k1 => k_asm); (case k2 => k_asm); (case k3 => k_asm); (case k4 => k_asm); (case k5 => k_asm); (case k6 => k_is); (case k7 => k_is); (case k8 => ((try simp only [depth_under_make, depth_under_kw, depth_in1, depth_deeper, depth_caller]); (try dsimp only [ktrTop]); omega)); (case k9 => first | exact BindsTo.of_eq rfl | exact binds_K (by k_in) rfl (by k_is) rfl rfl rfl | fail "enter: no rule for these arguments"); (case c5 => decide); (case kB => exact locs rfl); (case c2 => exact rfl); (case c3 => exact rfl); (case c4 => exact rfl); k_whole); intro g0 L0 h' FG' F' N' B' X' T' hs0 hst0 hlo0; (try dsimp only); (try k_fold))
  replace hpre := SelfAt.kept hpre hst0
  obtain ⟨dx, md, k1, k2, k3, hI, hmd⟩ := id hpre
  have hs1 : shownF (S "c++  d") = S "c++  d" := by decide +kernel
  have hs3 := wa_cpp
  repeat' (first | ((with_reducible show Q _ _); fail) | (k_unfold; (try dsimp only)) | ((fail_if_success (with_reducible show Q _ _)); walk1) | ((fail_if_success (with_reducible show Q _ _)); dsimp only; walk1) | (leave1; try dsimp only) | fail "no step")
  all_goals (
    with_reducible rename Fr h₀ L _ _ => kF
    with_reducible rename News h₀ L _ _ => kN
    with_reducible rename Fr g0 _ _ _ => F9
    refine ret _ _ _ kF (backO N hown hs0 F9 kN (by first | with_reducible exact own_nil | (with_reducible refine own_one ?_; k_mem))) ⟨_, congrArg (fun z => Value.str (S "<pre><code" ++ z ++ S ">" ++ shownF x ++ S "</code></pre>\n") _) (by decide +kernel)⟩)
end
section
open PySem.W.KStt (codes)
theorem tell_code4 {w : World} {esc : Bool} {sa : Addr} {x : Str} {t1 t2 : Nat} (hx : x ∈ rawsL) : TellO w 456 120 1200 [.ref sa, .str x t1] [(S "info", .str (S "e") t2)] [] (fun h => SelfAt w esc h sa) (fun r => ∃ t, r = .str (S "<pre><code" ++ S " class=\"language-e\"" ++ S ">" ++ shownF x ++ S "</code></pre>\n") t) := by
  intro p loose mean mg mb dp un gd cn cs a ccd cl outer A₀ base h₀ L m news s Q E B F X N T hk hdp hun hpre hown ret
  refine fillT w ?_
  k_fill
  intro _ _
  k_dflt ((refine' (code_own hown) ?k1 ?k2 ?k3 ?k4 ?k5 ?kA ?kF ?kK ?k6 ?k7 ?k8 ?k9 ?kB ?_ ?c2 ?c3 ?c4 ?c5; (case kA => exact rfl); (case kF => exact rfl); (case kK => first | assumption | exact rfl); (case k1 => k_asm); (case k2 => k_asm); (case k3 => k_asm); (case k4 => k_asm); (case k5 => k_asm); (case k6 => k_is); (case k7 => k_is); (case k8 => ((try simp only [depth_under_make, depth_under_kw, depth_in1, depth_deeper, depth_caller]); (try dsimp only [ktrTop]); omega)); (case k9 => first | exact BindsTo.of_eq rfl | exact binds_K (by k_in) rfl (by k_is) rfl rfl rfl | fail "enter: no rule for these arguments"); (case c5 => decide); (case kB => exact locs rfl); (case c2 => exact rfl); (case c3 => exact rfl); (case c4 => exact rfl); k_whole); intro g0 L0 h' FG' F' N' B' X' T' hs0 hst0 hlo0; (try dsimp only); (try k_fold))
  replace hpre := SelfAt.kept hpre hst0
  obtain ⟨dx, md, k1, k2, k3, hI, hmd⟩ := id hpre
  have hs1 : shownF (S "e") = S "e" := by decide +kernel
  have hs3 := wa_e
  repeat' (first | ((with_reducible show Q _ _); fail) | (k_unfold; (try dsimp only)) | ((fail_if_success (with_reducible show Q _ _)); walk1) | ((fail_if_success (with_reducible show Q _ _)); dsimp only; walk1) | (leave1; try dsimp only) | fail "no step")
  all_goals (
    with_reducible rename Fr h₀ L _ _ => kF
    with_reducible rename News h₀ L _ _ => kN
    with_reducible rename Fr g0 _ _ _ => F9
    refine ret _ _ _ kF (backO N hown hs0 F9 kN (by first | with_reducible exact own_nil | (with_reducible refine own_one ?_; k_mem))) ⟨_, congrArg (fun z => Value.str (S "<pre><code" ++ z ++ S ">" ++ shownF x ++ S "</code></pre>\n") _) (by decide +kernel)⟩)
end
section
open PySem.W.KStt (codes)
theorem lines_NTbc1 : True := by
  k_with_none
  k_with "z1" => (((try simp only [depth_under_make, depth_under_kw, depth_in1, depth_deeper, depth_caller]); (try dsimp only [ktrTop]); omega))
  k_with "ktr_enter" => ((refine' code_def ?k1 ?k2 ?k3 ?k4 ?k5 ?kA ?kF ?kK ?k6 ?k7 ?k8 ?k9 ?kB ?_ ?c2 ?c3 ?c4 ?c5; (case kA => exact rfl); (case kF => exact rfl); (case kK => first | assumption | exact rfl); (case k1 => k_asm); (case k2 => k_asm); (case k3 => k_asm); (case k4 => k_asm); (case k5 => k_asm); (case k6 => k_is); (case k7 => k_is); (case k8 => k_extra "z1"); (case k9 => first | exact BindsTo.of_eq rfl | exact binds_K (by k_in) rfl (by k_is) rfl rfl rfl | fail "enter: no rule for these arguments"); (case c5 => decide); (case kB => exact locs rfl); (case c2 => exact rfl); (case c3 => exact rfl); (case c4 => exact rfl); k_whole); intro gpq0 Lpq0 hpq0 FGpq0 Fpq0 Npq0 Bpq0 Xpq0 Tpq0; (try dsimp only); (try k_lift Bpq0); (try k_fold))
  k_with "k_mem" => (first | with_reducible exact List.mem_cons_self | with_reducible assumption | (with_reducible refine List.mem_cons_of_mem _ ?_; k_mem) | (with_reducible refine List.mem_append_left _ ?_; k_mem) | (with_reducible refine List.mem_append_right _ ?_; k_mem))
  k_with "execs cons" => (k_here; k_dflt (refine wpAny_execs_cons ?_))
  k_with "execs cons" => (k_here; (with_reducible refine execs_cons_gen ?_); intro tk9q3)
  k_with "execs nil" => (k_here; (with_reducible refine wpAny_execs_nil ?_))
  k_with "exec If" => (k_here; k_dflt (refine wpAny_If ?_))
  k_with "ite" => (k_here; first | (with_reducible refine ite_tt ?_) | (with_reducible refine ite_ff ?_) | (k_closed; (first | (with_reducible refine iteP ?iteC ?_; (case iteC => decide)) | (with_reducible refine iteN ?iteC ?_; (case iteC => decide)))) | (with_reducible refine split_ine ?_ ?_ <;> intro _) | (with_reducible refine split_ieq ?_ ?_ <;> intro _) | with_reducible refine split_not ?_ | (with_reducible refine iteDec ?_ ?_ <;> intro _) | (with_reducible refine iteB ?_ ?_ <;> intro _))
  k_with "callWith ref" => (k_here; k_dflt ((with_reducible refine' callWith_K ?k1 ?k2 ?_ ?he ?hp); (case he => exact rfl); (case hp => exact rfl); (case k1 => k_asm); (case k2 => k_is)))
  k_with "callWith ref" => (k_here; k_dflt ((with_reducible refine' callWith_K0 ?k1 ?k2 ?_); (case k1 => exact Frag.In.keeps (by with_reducible assumption) (Fr.keep (by with_reducible assumption))); (case k2 => k_is); (try dsimp only [List.nil_append])))
  k_with "callWith" => (k_here; k_dflt ((with_reducible refine' callWith_m1 ?_ ?he ?hp); (case he => exact rfl); (case hp => exact rfl)))
  k_with "binaryOp Mod int int" => (k_here; (with_reducible refine' mod_int' ?kbe ?_); (case kbe => decide); (try dsimp only); (try k_fold))
  k_with "k_room" => (((try simp only [depth_under_make, depth_under_kw, depth_in1, depth_deeper, depth_caller]); (try dsimp only [ktrTop]); omega))
  k_with "ktr_enter" => ((refine' code_def ?k1 ?k2 ?k3 ?k4 ?k5 ?kA ?kF ?kK ?k6 ?k7 ?k8 ?k9 ?kB ?_ ?c2 ?c3 ?c4 ?c5; (case kA => exact rfl); (case kF => exact rfl); (case kK => first | assumption | exact rfl); (case k1 => k_asm); (case k2 => k_asm); (case k3 => k_asm); (case k4 => k_asm); (case k5 => k_asm); (case k6 => k_is); (case k7 => k_is); (case k8 => k_extra "z1"); (case k9 => first | exact BindsTo.of_eq rfl | exact binds_K (by k_in) rfl (by k_is) rfl rfl rfl | fail "enter: no rule for these arguments"); (case c5 => decide); (case kB => exact locs rfl); (case c2 => exact rfl); (case c3 => exact rfl); (case c4 => exact rfl); k_whole); intro gpq70 Lpq70 hpq70 FGpq70 Fpq70 Npq70 Bpq70 Xpq70 Tpq70; (try dsimp only); (try k_lift Bpq70); (try k_fold); (try have hIL := InstAt.kept (by with_reducible assumption) (Fr.keep FGpq70)); (try have hSL := SelfAt.kept (by with_reducible assumption) (Fr.keep FGpq70)))
  k_with "k_enter" => ((refine' code_def ?k1 ?k2 ?k3 ?k4 ?k5 ?kA ?kF ?kK ?k6 ?k7 ?k8 ?k9 ?kB ?_ ?c2 ?c3 ?c4 ?c5; (case kA => exact rfl); (case kF => exact rfl); (case kK => first | assumption | exact rfl); (case k1 => k_asm); (case k2 => k_asm); (case k3 => k_asm); (case k4 => k_asm); (case k5 => k_asm); (case k6 => k_is); (case k7 => k_is); (case k8 => k_extra "z1"); (case k9 => first | exact BindsTo.of_eq rfl | exact binds_K (by k_in) rfl (by k_is) rfl rfl rfl | fail "enter: no rule for these arguments"); (case c5 => decide); (case kB => exact locs rfl); (case c2 => exact rfl); (case c3 => exact rfl); (case c4 => exact rfl); k_whole); intro gpq71 Lpq71 hpq71 FGpq71 Fpq71 Npq71 Bpq71 Xpq71 Tpq71; (try dsimp only); (try k_lift Bpq71); (try k_fold); (try have hIL := InstAt.kept (by with_reducible assumption) (Fr.keep FGpq71)); (try have hSL := SelfAt.kept (by with_reducible assumption) (Fr.keep FGpq71)))
  k_with "eval Call" => (k_here; (with_reducible show wpAny _ _ (eval (Expr.Call (Expr.Name _ _) _ [] _) _) _ _ _); k_dflt (refine Call_ ?_))
  k_with "binaryOp Add str str" => (k_here; k_dflt ((with_reducible refine' add_strP (Sz.app ?sa ?sb) ?hn ?_); (case sa => first | with_reducible assumption | exact raw_sz (by with_reducible assumption) | (refine Sz.one ?_; first | decide +kernel | exact num_sz _)); (case sb => first | with_reducible assumption | exact raw_sz (by with_reducible assumption) | (refine Sz.one ?_; first | decide +kernel | exact num_sz _)); (case hn => decide); intro t9q72 k9q72 hz9q72; (try dsimp only); (try k_fold)))
  k_with "k_all" => (first | with_reducible assumption | exact List.forall_mem_nil _ | (with_reducible refine' List.forall_mem_cons.mpr ⟨?ka, ?kb⟩; (case ka => k_ne); (case kb => k_all)) | (with_reducible refine' ltNe2 ?ka; (case ka => with_reducible assumption)) | (with_reducible refine' ltNe3 ?ka; (case ka => with_reducible assumption)) | (with_reducible refine' ltNe4 ?ka; (case ka => with_reducible assumption)) | (with_reducible refine' List.forall_mem_append.mpr ⟨?ka, ?kb⟩; (case ka => k_all); (case kb => k_all)) | (with_reducible refine' apartE ?ka ?kb; (case ka => with_reducible assumption); (case kb => k_mem)) | (with_reducible refine' ltNe ?ka; (case ka => with_reducible assumption)))
  k_with "k_ne" => (refine neN ?_; (try dsimp only); first | with_reducible assumption | (with_reducible exact Ne.symm (by assumption)) | (with_reducible exact Nat.ne_of_lt (by assumption)) | (with_reducible exact Nat.ne_of_gt (by assumption)) | omega)
  k_with "ite" => (k_here; first | (with_reducible refine iteP (by with_reducible assumption) ?_) | (with_reducible refine iteF (by with_reducible assumption) ?_))
  k_with "k_inst" => ((with_reducible refine' inst_fr ?ib ?ia; (case ib => with_reducible assumption); (case ia => with_reducible assumption)))
  k_with "z2" => ((with_reducible rename _ + _ < recursionLimit => hr9; first | exact room1 hr9 (by first | decide | assumption | (refine' Nat.le_trans ?qa ?qb; (case qb => assumption); (case qa => decide))) | ((try simp only [depth_under_make, depth_under_kw, depth_in1, depth_deeper, depth_caller, units_in1, units_deeper, units_caller]); (try dsimp only [ktrTop]); omega)))
  k_with "z3" => ((with_reducible rename _ + _ < cLine => hr9; first | exact room3 hr9 (by first | decide | assumption | (refine' Nat.le_trans ?qa ?qb; (case qb => assumption); (case qa => decide))) | ((try simp only [depth_under_make, depth_under_kw, depth_in1, depth_deeper, depth_caller, units_in1, units_deeper, units_caller]); (try dsimp only [ktrTop]); omega)))
  k_with "call ref" => (k_here; (with_reducible show wpAny _ _ (call (Value.ref 238) _) _ _ _); k_dflt (refine' Tell0.use (tell_escapeL ?ka ?kb) ?k1 ?k2 ?k3 ?k4 ?k5 ?k6 ?k7 ?k8 ?k9 ?_; (case ka => first | with_reducible assumption | exact raw_lit (by decide +kernel)); (case kb => first | with_reducible assumption | exact rfl); (case k1 => k_asm); (case k2 => k_asm); (case k3 => k_asm); (case k4 => k_asm); (case k5 => k_asm); (case k6 => exact rfl); (case k7 => k_extra "z2"); (case k8 => k_extra "z3"); (case k9 => exact True.intro); intro r9q75 h9q75 t9q75 F9q75 N9q75 o9q75; obtain ⟨tn9q75, e9q75⟩ := o9q75; subst e9q75; (try have hl9q75 := raw_sz (by with_reducible assumption)); (try k_sweep); (try dsimp only); (try k_fold)))
  k_with "call ref" => (k_here; (with_reducible show wpAny _ _ (call (Value.ref 245) _) _ _ _); k_dflt (refine' Tell0.use (tell_safeL ?ka ?kb) ?k1 ?k2 ?k3 ?k4 ?k5 ?k6 ?k7 ?k8 ?k9 ?_; (case ka => first | with_reducible assumption | exact raw_lit (by decide +kernel)); (case kb => first | with_reducible assumption | exact rfl); (case k1 => k_asm); (case k2 => k_asm); (case k3 => k_asm); (case k4 => k_asm); (case k5 => k_asm); (case k6 => exact rfl); (case k7 => k_extra "z2"); (case k8 => k_extra "z3"); (case k9 => exact True.intro); intro r9q76 h9q76 t9q76 F9q76 N9q76 o9q76; obtain ⟨tn9q76, e9q76⟩ := o9q76; subst e9q76; (try have hl9q76 := raw_sz (by with_reducible assumption)); (try k_sweep); (try dsimp only); (try k_fold)))
  k_with "subscriptTail Name" => (k_here; (with_reducible show wpAny _ _ (subscriptTail _ _ (Value.ref _) (Value.str _ _)) _ _ _); k_dflt ((with_reducible refine' g_item ?x ?F ?hl ?_ ?hs ?hg); (case x => with_reducible assumption); (case F => with_reducible assumption); (case hl => exact rfl); (case hs => with_unfolding_all rfl); (case hg => (intro _; with_unfolding_all rfl)); (try dsimp only); (try k_fold)))
  k_with "compareOp In str ref" => (k_here; k_dflt (first | ((with_reducible refine' g_in ?x ?F true ?hl ?_); (case x => with_reducible assumption); (case F => with_reducible assumption); (case hl => exact rfl)) | ((with_reducible refine' g_in ?x ?F false ?hl ?_); (case x => with_reducible assumption); (case F => with_reducible assumption); (case hl => exact rfl))); (try dsimp only); (try k_fold))
  k_with "getMethod ref" => (k_here; (with_reducible show wpAny _ _ (getMethod (Value.ref _) (Str.ofString "get") _) _ _ _); k_dflt ((with_reducible refine' g_meth ?x ?F ?_); (case x => with_reducible assumption); (case F => with_reducible assumption); (try dsimp only); (try k_fold)))
  k_with "call builtin:dict.get" => (k_here; k_dflt (first | ((with_reducible refine' g_get ?x ?F (some _) ?hl ?_); (case x => with_reducible assumption); (case F => with_reducible assumption); (case hl => exact rfl)) | ((with_reducible refine' g_get ?x ?F none ?hl ?_); (case x => with_reducible assumption); (case F => with_reducible assumption); (case hl => exact rfl))); (try dsimp only [Option.getD]); (try dsimp only); (try k_fold))
  k_with "callWith ref" => (k_here; (with_reducible show wpAny _ _ (callWith _ _ _ _ (backToKw _ (keywordEach [⟨none, _, _⟩] _))) _ _ _); k_dflt (first | ((with_reducible refine' callWith_MS ?k1 ?k2 ?k3 ?k4 ?_ ?he); (case he => exact rfl); (case k1 => k_asm); (case k2 => k_asm); (case k3 => k_mem); (case k4 => k_is)) | ((with_reducible refine' callWith_MS0 ?k1 ?k2 ?k3 ?k4 ?_); (case k1 => k_asm); (case k2 => k_asm); (case k3 => k_mem); (case k4 => k_is))); (try dsimp only))
  k_with "KwStar" => (k_here; k_dflt ((with_reducible refine' kw_star' ?k1 ?k2 ?_); (case k1 => k_asm); (case k2 => k_asm); intro d9q82 h9q82 F9q82 N9q82 hap9q82; (try k_sweep); (try dsimp only); (try k_fold)))
  k_with "KwDict" => (k_here; k_dflt ((with_reducible refine' kw_dict ?x ?F ?N ?ha ?hz ?_); (case x => with_reducible assumption); (case F => k_asm); (case N => k_asm); (case ha => with_reducible assumption); (case hz => exact Nat.le_of_ble_eq_true rfl); intro h9q83 F9q83 N9q83; (try k_sweep); (try dsimp only); (try k_fold)))
  k_with "truthy ref" => (k_here; k_dflt (((with_reducible refine' g_truthy ?x ?F true ?hb ?hf ?_); (case x => with_reducible assumption); (case F => with_reducible assumption); (case hb => exact rfl); (case hf => exact Nat.le_of_ble_eq_true rfl)); (try dsimp only); (try k_fold)))
  k_with "call ref" => (k_here; (with_reducible show wpAny _ _ (call (Value.ref 195) _) _ _ _); k_dflt (refine' TellT.use (tell_meth ⟨?m1, ?m2, ?m3, ?m4, ?m5, ?m6, ?m7, ?m8, ?m9, ?m10⟩) ?k1 ?k2 ?k3 ?k4 ?k5 ?k6 ?k7 ?k8 ?k9 ?_; (case m5 => k_is); (case m1 => decide +kernel); (case m2 => decide +kernel); (case m3 => k_is); (case m4 => k_is); (case m6 => k_is); (case m7 => k_is); (case m8 => k_is); (case m9 => decide +kernel); (case m10 => (intros; exact rfl)); (case k1 => k_asm); (case k2 => k_asm); (case k3 => k_asm); (case k4 => k_asm); (case k5 => k_asm); (case k6 => exact rfl); (case k7 => k_extra "z2"); (case k8 => k_extra "z3"); (case k9 => exact SelfAt.kept (by with_reducible assumption) (Fr.keep (by k_asm))); intro r9q94 tl9q94 h9q94 t9q94 F9q94 N9q94 hl9q94 o9q94; obtain ⟨q9q94, e9q94, e8q94⟩ := o9q94; subst e9q94; subst e8q94; (try simp only [List.nil_append, List.cons_append] at N9q94); (try k_sweep); (try dsimp only); (try k_fold)))
  k_with "call ref" => (k_here; (with_reducible show wpAny _ _ (call (Value.ref _) _ _) _ _ _); k_dflt ((refine' TellO.meth (tell_code1 ?hx) ?hq ?k1 ?k2 ?k3 ?k4 ?k5 ?k6 ?k7 ?k8 ?k9 ?k0 ?_); (case k1 => k_asm); (case k2 => k_asm); (case k3 => k_asm); (case k4 => k_asm); (case k5 => k_asm); (case hq => k_mem); (case hx => with_reducible assumption); (case k6 => exact rfl); (case k7 => k_extra "z2"); (case k8 => k_extra "z3"); (case k9 => with_reducible assumption); (case k0 => with_reducible exact own_nil); intro r9q107 h9q107 t9q107 F9q107 N9q107 o9q107; obtain ⟨tn9q107, e9q107⟩ := o9q107; subst e9q107; (try k_sweep); (try dsimp only); (try k_fold)))
  k_with "look" => (with_reducible first | exact Look1.str | exact Look1.int | (refine' Look1.name ?hx ?hd ?hm; (case hx => k_dflt (exact rfl)); (case hd => k_dflt decide); (case hm => k_dflt (exact rfl))) | exact LookN.nil | (refine' LookN.cons ?x ?y; (case x => k_extra "look"); (case y => k_extra "look")) | exact LookP.nil | (refine' LookP.cons ?x ?y ?z; (case x => k_extra "look"); (case y => k_extra "look"); (case z => k_extra "look")))
  k_with "spliced" => (k_here; (with_reducible show wpAny _ _ (spliced (backTo _ (starEach (_ :: _) _))) _ _ _); (with_reducible rename Fr _ _ _ _ => F8q16); ((with_reducible refine' args_lk F8q16 ?he ?hk ?l ?_); (case he => k_dflt (exact ⟨_, _, _, _, rfl⟩)); (case hk => k_dflt (exact rfl)); (case l => k_extra "look")); (try dsimp only); (try k_fold))
  k_with "evalPairs" => (k_here; (with_reducible show wpAny _ _ (evalPairs (pairTrees (_ :: _) _ _ _)) _ _ _); (with_reducible rename Fr _ _ _ _ => F8q17); ((with_reducible refine' pairs_lk F8q17 ?he ?hk ?l ?_); (case he => k_dflt (exact ⟨_, _, _, _, rfl⟩)); (case hk => k_dflt (exact rfl)); (case l => k_extra "look")); (try dsimp only); (try k_fold))
  k_with "eval BinOp" => (k_here; (with_reducible show wpAny _ _ (eval (Expr.BinOp (Expr.Name _ _) _ (Expr.Constant _ _ _) _) _) _ _ _); (with_reducible rename Fr _ _ _ _ => F8q18); ((with_reducible refine' bin_lk F8q18 ?he ?hk ?l ?r ?_); (case he => k_dflt (exact ⟨_, _, _, _, rfl⟩)); (case hk => k_dflt (exact rfl)); (case l => k_extra "look"); (case r => k_extra "look")); (try dsimp only); (try k_fold))
  k_with "eval BinOp" => (k_here; (with_reducible show wpAny _ _ (eval (Expr.BinOp (Expr.Name _ _) _ (Expr.Name _ _) _) _) _ _ _); (with_reducible rename Fr _ _ _ _ => F8q19); ((with_reducible refine' bin_lk F8q19 ?he ?hk ?l ?r ?_); (case he => k_dflt (exact ⟨_, _, _, _, rfl⟩)); (case hk => k_dflt (exact rfl)); (case l => k_extra "look"); (case r => k_extra "look")); (try dsimp only); (try k_fold))
  k_with "exec If" => (k_here; (with_reducible show wpAny _ _ (exec (Stmt.If (Expr.Compare (Expr.Name _ _) [CmpOp.Eq] [Expr.Constant (Const.int _) _ _] _) _ _ _) _) _ _ _); (with_reducible rename Fr _ _ _ _ => F8q20); ((with_reducible refine' if_lk F8q20 ?he ?hk ?l ?r ?h ?_); (case he => k_dflt (exact ⟨_, _, _, _, rfl⟩)); (case hk => k_dflt (exact rfl)); (case l => k_extra "look"); (case r => k_extra "look"); (case h => k_dflt (with_unfolding_all rfl))); (try dsimp only); (try k_fold))
  k_with "storeName" => (k_here; (with_reducible rename Fr _ _ _ _ => F8q21); (with_reducible rename News _ _ _ _ => N8q21); ((with_reducible refine' store_lk F8q21 N8q21 ?he ?hk ?hx ?_); (case he => k_dflt (exact ⟨_, _, _, _, rfl⟩)); (case hk => k_dflt (exact rfl)); (case hx => k_dflt (exact rfl)); intro h9q21 m9q21 F9q21 N9q21; (try clear F8q21 N8q21); (try dsimp only); (try k_fold)))
  trivial
theorem tok_bc1 {w : World} {esc : Bool} {sa d e l st : Addr} {t1 t2 t3 t4 t5 D U : Nat} (hD : 1 + 200 ≤ D) (hU : 3 + 2000 ≤ U) {x : Str} (hx : x ∈ rawsL) : TellG w 341 D U [.ref sa, .ref d, .ref st] (fun h => SelfAt w esc h sa ∧ DG w h d [(S "type", .str (S "block_code") t1), (S "raw", .str x t2), (S "style", .str (S "fenced") t3), (S "marker", .str (S "~~~") t4), (S "attrs", .ref e)] ∧ DG w h e [(S "info", .str (S "") t5)]) (fun r => ∃ t, r = .str (S "<pre><code" ++ S "" ++ S ">" ++ shownF x ++ S "</code></pre>\n") t) := by
  intro p loose mean mg mb dp un gd cn cs a ccd cl outer A₀ base h₀ L m news s Q E B F X N T hk hdp hun hpre ret
  refine fillT w ?_
  k_fill
  intro _ _
  refine wpAny_call ?_
  k_dflt ((refine' code_all ?k1 ?k2 ?k3 ?k4 ?k5 ?kA ?kF ?kK ?k6 ?k7 ?k8 ?k9 ?kB ?_ ?c2 ?c3 ?c4 ?c5; (case kA => exact rfl); (case kF => exact rfl); (case kK => first | assumption | exact rfl); (case k1 => k_asm); (case k2 => k_asm); (case k3 => k_asm); (case k4 => k_asm); (case k5 => k_asm); (case k6 => k_is); (case k7 => k_is); (case k8 => ((try simp only [depth_under_make, depth_under_kw, depth_in1, depth_deeper, depth_caller]); (try dsimp only [ktrTop]); omega)); (case k9 => first | exact BindsTo.of_eq rfl | exact binds_K (by k_in) rfl (by k_is) rfl rfl rfl | fail "enter: no rule for these arguments"); (case c5 => decide); (case kB => exact locs rfl); (case c2 => exact rfl); (case c3 => exact rfl); (case c4 => exact rfl); k_whole); intro g0 L0 h' FG' F' N' B' X' T' hs0; (try dsimp only); (try k_fold))
  obtain ⟨hpre, htok, hatt⟩ := hpre
  replace htok := htok.kept hs0
  replace hatt := hatt.kept hs0
  replace hpre := SelfAt.kept hpre hs0
  obtain ⟨dx, md, k1, k2, k3, hI, hmd⟩ := id hpre
  repeat' (first | ((with_reducible show Q _ _); fail) | (k_unfold; (try dsimp only)) | ((fail_if_success (with_reducible show Q _ _)); walk1) | ((fail_if_success (with_reducible show Q _ _)); dsimp only; walk1) | (leave1; try dsimp only) | fail "no step")
  all_goals (
    with_reducible rename Fr h₀ L _ _ => kF
    with_reducible rename Fr g0 _ _ _ => F9
    exact ret _ _ _ _ kF (back0 N hs0 F9) (by first | with_reducible assumption | exact GX.refl _) ⟨_, rfl⟩)
end
section
open PySem.W.KStt (codes)
theorem lines_NTbc2 : True := by
  k_with "call ref" => (k_here; (with_reducible show wpAny _ _ (call (Value.ref _) _ _) _ _ _); k_dflt ((refine' TellO.meth (tell_code2 ?hx) ?hq ?k1 ?k2 ?k3 ?k4 ?k5 ?k6 ?k7 ?k8 ?k9 ?k0 ?_); (case k1 => k_asm); (case k2 => k_asm); (case k3 => k_asm); (case k4 => k_asm); (case k5 => k_asm); (case hq => k_mem); (case hx => with_reducible assumption); (case k6 => exact rfl); (case k7 => k_extra "z2"); (case k8 => k_extra "z3"); (case k9 => with_reducible assumption); (case k0 => with_reducible exact own_nil); intro r9q108 h9q108 t9q108 F9q108 N9q108 o9q108; obtain ⟨tn9q108, e9q108⟩ := o9q108; subst e9q108; (try k_sweep); (try dsimp only); (try k_fold)))
  trivial
theorem tok_bc2 {w : World} {esc : Bool} {sa d e l st : Addr} {t1 t2 t3 t4 t5 D U : Nat} (hD : 1 + 200 ≤ D) (hU : 3 + 2000 ≤ U) {x : Str} (hx : x ∈ rawsL) : TellG w 341 D U [.ref sa, .ref d, .ref st] (fun h => SelfAt w esc h sa ∧ DG w h d [(S "type", .str (S "block_code") t1), (S "raw", .str x t2), (S "style", .str (S "fenced") t3), (S "marker", .str (S "~~~") t4), (S "attrs", .ref e)] ∧ DG w h e [(S "info", .str (S "py") t5)]) (fun r => ∃ t, r = .str (S "<pre><code" ++ S " class=\"language-py\"" ++ S ">" ++ shownF x ++ S "</code></pre>\n") t) := by
  intro p loose mean mg mb dp un gd cn cs a ccd cl outer A₀ base h₀ L m news s Q E B F X N T hk hdp hun hpre ret
  refine fillT w ?_
  k_fill
  intro _ _
  refine wpAny_call ?_
  k_dflt ((refine' code_all ?k1 ?k2 ?k3 ?k4 ?k5 ?kA ?kF ?kK ?k6 ?k7 ?k8 ?k9 ?kB ?_ ?c2 ?c3 ?c4 ?c5; (case kA => exact rfl); (case kF => exact rfl); (case kK => first | assumption | exact rfl); (case k1 => k_asm); (case k2 => k_asm); (case k3 => k_asm); (case k4 => k_asm); (case k5 => k_asm); (case k6 => k_is); (case k7 => k_is); (case k8 => ((try simp only [depth_under_make, depth_under_kw, depth_in1, depth_deeper, depth_caller]); (try dsimp only [ktrTop]); omega)); (case k9 => first | exact BindsTo.of_eq rfl | exact binds_K (by k_in) rfl (by k_is) rfl rfl rfl | fail "enter: no rule for these arguments"); (case c5 => decide); (case kB => exact locs rfl); (case c2 => exact rfl); (case c3 => exact rfl); (case c4 => exact rfl); k_whole); intro g0 L0 h' FG' F' N' B' X' T' hs0; (try dsimp only); (try k_fold))
  obtain ⟨hpre, htok, hatt⟩ := hpre
  replace htok := htok.kept hs0
  replace hatt := hatt.kept hs0
  replace hpre := SelfAt.kept hpre hs0
  obtain ⟨dx, md, k1, k2, k3, hI, hmd⟩ := id hpre
  repeat' (first | ((with_reducible show Q _ _); fail) | (k_unfold; (try dsimp only)) | ((fail_if_success (with_reducible show Q _ _)); walk1) | ((fail_if_success (with_reducible show Q _ _)); dsimp only; walk1) | (leave1; try dsimp only) | fail "no step")
  all_goals (
    with_reducible rename Fr h₀ L _ _ => kF
    with_reducible rename Fr g0 _ _ _ => F9
    exact ret _ _ _ _ kF (back0 N hs0 F9) (by first | with_reducible assumption | exact GX.refl _) ⟨_, rfl⟩)
end
section
open PySem.W.KStt (codes)
theorem lines_NTbc3 : True := by
  k_with "call ref" => (k_here; (with_reducible show wpAny _ _ (call (Value.ref _) _ _) _ _ _); k_dflt ((refine' TellO.meth (tell_code3 ?hx) ?hq ?k1 ?k2 ?k3 ?k4 ?k5 ?k6 ?k7 ?k8 ?k9 ?k0 ?_); (case k1 => k_asm); (case k2 => k_asm); (case k3 => k_asm); (case k4 => k_asm); (case k5 => k_asm); (case hq => k_mem); (case hx => with_reducible assumption); (case k6 => exact rfl); (case k7 => k_extra "z2"); (case k8 => k_extra "z3"); (case k9 => with_reducible assumption); (case k0 => with_reducible exact own_nil); intro r9q109 h9q109 t9q109 F9q109 N9q109 o9q109; obtain ⟨tn9q109, e9q109⟩ := o9q109; subst e9q109; (try k_sweep); (try dsimp only); (try k_fold)))
  trivial
theorem tok_bc3 {w : World} {esc : Bool} {sa d e l st : Addr} {t1 t2 t3 t4 t5 D U : Nat} (hD : 1 + 200 ≤ D) (hU : 3 + 2000 ≤ U) {x : Str} (hx : x ∈ rawsL) : TellG w 341 D U [.ref sa, .ref d, .ref st] (fun h => SelfAt w esc h sa ∧ DG w h d [(S "type", .str (S "block_code") t1), (S "raw", .str x t2), (S "style", .str (S "fenced") t3), (S "marker", .str (S "~~~") t4), (S "attrs", .ref e)] ∧ DG w h e [(S "info", .str (S " c++  d ") t5)]) (fun r => ∃ t, r = .str (S "<pre><code" ++ S " class=\"language-c++\"" ++ S ">" ++ shownF x ++ S "</code></pre>\n") t) := by
  intro p loose mean mg mb dp un gd cn cs a ccd cl outer A₀ base h₀ L m news s Q E B F X N T hk hdp hun hpre ret
  refine fillT w ?_
  k_fill
  intro _ _
  refine wpAny_call ?_
  k_dflt ((refine' code_all ?k1 ?k2 ?k3 ?k4 ?k5 ?kA ?kF ?kK ?k6 ?k7 ?k8 ?k9 ?kB ?_ ?c2 ?c3 ?c4 ?c5; (case kA => exact rfl); (case kF => exact rfl); (case kK => first | assumption | exact rfl); (case k1 => k_asm); (case k2 => k_asm); (case k3 => k_asm); (case k4 => k_asm); (case k5 => k_asm); (case k6 => k_is); (case k7 => k_is); (case k8 => ((try simp only [depth_under_make, depth_under_kw, depth_in1, depth_deeper, depth_caller]); (try dsimp only [ktrTop]); omega)); (case k9 => first | exact BindsTo.of_eq rfl | exact binds_K (by k_in) rfl (by k_is) rfl rfl rfl | fail "enter: no rule for these arguments"); (case c5 => decide); (case kB => exact locs rfl); (case c2 => exact rfl); (case c3 => exact rfl); (case c4 => exact rfl); k_whole); intro g0 L0 h' FG' F' N' B' X' T' hs0; (try dsimp only); (try k_fold))
  obtain ⟨hpre, htok, hatt⟩ := hpre
  replace htok := htok.kept hs0
  replace hatt := hatt.kept hs0
  replace hpre := SelfAt.kept hpre hs0
  obtain ⟨dx, md, k1, k2, k3, hI, hmd⟩ := id hpre
  repeat' (first | ((with_reducible show Q _ _); fail) | (k_unfold; (try dsimp only)) | ((fail_if_success (with_reducible show Q _ _)); walk1) | ((fail_if_success (with_reducible show Q _ _)); dsimp only; walk1) | (leave1; try dsimp only) | fail "no step")
  all_goals (
    with_reducible rename Fr h₀ L _ _ => kF
    with_reducible rename Fr g0 _ _ _ => F9
    exact ret _ _ _ _ kF (back0 N hs0 F9) (by first | with_reducible assumption | exact GX.refl _) ⟨_, rfl⟩)
end
section
open PySem.W.KStt (codes)
theorem lines_NTbc4 : True := by
  k_with "call ref" => (k_here; (with_reducible show wpAny _ _ (call (Value.ref _) _ _) _ _ _); k_dflt ((refine' TellO.meth (tell_code4 ?hx) ?hq ?k1 ?k2 ?k3 ?k4 ?k5 ?k6 ?k7 ?k8 ?k9 ?k0 ?_); (case k1 => k_asm); (case k2 => k_asm); (case k3 => k_asm); (case k4 => k_asm); (case k5 => k_asm); (case hq => k_mem); (case hx => with_reducible assumption); (case k6 => exact rfl); (case k7 => k_extra "z2"); (case k8 => k_extra "z3"); (case k9 => with_reducible assumption); (case k0 => with_reducible exact own_nil); intro r9q110 h9q110 t9q110 F9q110 N9q110 o9q110; obtain ⟨tn9q110, e9q110⟩ := o9q110; subst e9q110; (try k_sweep); (try dsimp only); (try k_fold)))
  trivial
theorem tok_bc4 {w : World} {esc : Bool} {sa d e l st : Addr} {t1 t2 t3 t4 t5 D U : Nat} (hD : 1 + 200 ≤ D) (hU : 3 + 2000 ≤ U) {x : Str} (hx : x ∈ rawsL) : TellG w 341 D U [.ref sa, .ref d, .ref st] (fun h => SelfAt w esc h sa ∧ DG w h d [(S "type", .str (S "block_code") t1), (S "raw", .str x t2), (S "style", .str (S "fenced") t3), (S "marker", .str (S "~~~") t4), (S "attrs", .ref e)] ∧ DG w h e [(S "info", .str (S "e") t5)]) (fun r => ∃ t, r = .str (S "<pre><code" ++ S " class=\"language-e\"" ++ S ">" ++ shownF x ++ S "</code></pre>\n") t) := by
  intro p loose mean mg mb dp un gd cn cs a ccd cl outer A₀ base h₀ L m news s Q E B F X N T hk hdp hun hpre ret
  refine fillT w ?_
  k_fill
  intro _ _
  refine wpAny_call ?_
  k_dflt ((refine' code_all ?k1 ?k2 ?k3 ?k4 ?k5 ?kA ?kF ?kK ?k6 ?k7 ?k8 ?k9 ?kB ?_ ?c2 ?c3 ?c4 ?c5; (case kA => exact rfl); (case kF => exact rfl); (case kK => first | assumption | exact rfl); (case k1 => k_asm); (case k2 => k_asm); (case k3 => k_asm); (case k4 => k_asm); (case k5 => k_asm); (case k6 => k_is); (case k7 => k_is); (case k8 => ((try simp only [depth_under_make, depth_under_kw, depth_in1, depth_deeper, depth_caller]); (try dsimp only [ktrTop]); omega)); (case k9 => first | exact BindsTo.of_eq rfl | exact binds_K (by k_in) rfl (by k_is) rfl rfl rfl | fail "enter: no rule for these arguments"); (case c5 => decide); (case kB => exact locs rfl); (case c2 => exact rfl); (case c3 => exact rfl); (case c4 => exact rfl); k_whole); intro g0 L0 h' FG' F' N' B' X' T' hs0; (try dsimp only); (try k_fold))
  obtain ⟨hpre, htok, hatt⟩ := hpre
  replace htok := htok.kept hs0
  replace hatt := hatt.kept hs0
  replace hpre := SelfAt.kept hpre hs0
  obtain ⟨dx, md, k1, k2, k3, hI, hmd⟩ := id hpre
  repeat' (first | ((with_reducible show Q _ _); fail) | (k_unfold; (try dsimp only)) | ((fail_if_success (with_reducible show Q _ _)); walk1) | ((fail_if_success (with_reducible show Q _ _)); dsimp only; walk1) | (leave1; try dsimp only) | fail "no step")
  all_goals (
    with_reducible rename Fr h₀ L _ _ => kF
    with_reducible rename Fr g0 _ _ _ => F9
    exact ret _ _ _ _ kF (back0 N hs0 F9) (by first | with_reducible assumption | exact GX.refl _) ⟨_, rfl⟩)
end
section
open PySem.W.KStt (codes)
theorem lines_NTbc0 : True := by
  k_with "call ref" => (k_here; (with_reducible show wpAny _ _ (call (Value.ref _) _ _) _ _ _); k_dflt ((refine' TellO.meth (tell_code0 (t2 := 0) ?hx) ?hq ?k1 ?k2 ?k3 ?k4 ?k5 ?k6 ?k7 ?k8 ?k9 ?k0 ?_); (case k1 => k_asm); (case k2 => k_asm); (case k3 => k_asm); (case k4 => k_asm); (case k5 => k_asm); (case hq => k_mem); (case hx => with_reducible assumption); (case k6 => exact rfl); (case k7 => k_extra "z2"); (case k8 => k_extra "z3"); (case k9 => with_reducible assumption); (case k0 => with_reducible exact own_nil); intro r9q106 h9q106 t9q106 F9q106 N9q106 o9q106; obtain ⟨tn9q106, e9q106⟩ := o9q106; subst e9q106; (try k_sweep); (try dsimp only); (try k_fold)))
  trivial
theorem tok_bc0 {w : World} {esc : Bool} {sa d e l st : Addr} {t1 t2 t3 t4 t5 D U : Nat} (hD : 1 + 200 ≤ D) (hU : 3 + 2000 ≤ U) {x : Str} (hx : x ∈ rawsL) : TellG w 341 D U [.ref sa, .ref d, .ref st] (fun h => SelfAt w esc h sa ∧ DG w h d [(S "type", .str (S "block_code") t1), (S "raw", .str x t2), (S "style", .str (S "indent") t3)]) (fun r => ∃ t, r = .str (S "<pre><code" ++ S "" ++ S ">" ++ shownF x ++ S "</code></pre>\n") t) := by
  intro p loose mean mg mb dp un gd cn cs a ccd cl outer A₀ base h₀ L m news s Q E B F X N T hk hdp hun hpre ret
  refine fillT w ?_
  k_fill
  intro _ _
  refine wpAny_call ?_
  k_dflt ((refine' code_all ?k1 ?k2 ?k3 ?k4 ?k5 ?kA ?kF ?kK ?k6 ?k7 ?k8 ?k9 ?kB ?_ ?c2 ?c3 ?c4 ?c5; (case kA => exact rfl); (case kF => exact rfl); (case kK => first | assumption | exact rfl); (case k1 => k_asm); (case k2 => k_asm); (case k3 => k_asm); (case k4 => k_asm); (case k5 => k_asm); (case k6 => k_is); (case k7 => k_is); (case k8 => ((try simp only [depth_under_make, depth_under_kw, depth_in1, depth_deeper, depth_caller]); (try dsimp only [ktrTop]); omega)); (case k9 => first | exact BindsTo.of_eq rfl | exact binds_K (by k_in) rfl (by k_is) rfl rfl rfl | fail "enter: no rule for these arguments"); (case c5 => decide); (case kB => exact locs rfl); (case c2 => exact rfl); (case c3 => exact rfl); (case c4 => exact rfl); k_whole); intro g0 L0 h' FG' F' N' B' X' T' hs0; (try dsimp only); (try k_fold))
  obtain ⟨hpre, htok⟩ := hpre
  replace htok := htok.kept hs0
  replace hpre := SelfAt.kept hpre hs0
  obtain ⟨dx, md, k1, k2, k3, hI, hmd⟩ := id hpre
  repeat' (first | ((with_reducible show Q _ _); fail) | (k_unfold; (try dsimp only)) | ((fail_if_success (with_reducible show Q _ _)); walk1) | ((fail_if_success (with_reducible show Q _ _)); dsimp only; walk1) | (leave1; try dsimp only) | fail "no step")
  all_goals (
    with_reducible rename Fr h₀ L _ _ => kF
    with_reducible rename Fr g0 _ _ _ => F9
    exact ret _ _ _ _ kF (back0 N hs0 F9) (by first | with_reducible assumption | exact GX.refl _) ⟨_, rfl⟩)
end
section
theorem tok_step {w : World} {esc : Bool} {n dn ne D U : Nat} (hn : n ≤ 4) (hK : KidsC w esc n dn ne) (hD : 1 + 200 ≤ D) (hU : 3 + 2000 ≤ U) (hd1 : 1 + dn ≤ D) (hd2 : 3 + ne ≤ U) : TokC w esc (n + 1) D U := by
  have kl : ∀ {At : Holder} {vs : List Value} {x : Str}, vs.length ≤ 3 → Kids (TokIn w esc At n) vs x → x.length ≤ 100000 := fun {At vs x} hv hk => by
    have h1 := kids_len (fun v x (h : TokIn w esc At n v x) => tok_len h) hk
    have h2 : lenOf n ≤ lenOf 4 := by
      have : n = 0 ∨ n = 1 ∨ n = 2 ∨ n = 3 ∨ n = 4 := by omega
      rcases this with rfl | rfl | rfl | rfl | rfl <;> decide
    have h3 : lenOf 4 = 20000 := by decide
    have h4 : vs.length * lenOf n ≤ 3 * lenOf n := Nat.mul_le_mul_right _ hv
    omega
  intro sa st v x p loose mean mg mb dp un gd cn cs a ccd cl outer A₀ base h₀ L m news s Q E B F X N T hk hdp hun hpre ret
  obtain ⟨hS, hT⟩ := hpre
  have hT : Shape w esc (inHeap s.heap) (TokIn w esc (inHeap s.heap) n) v x := hT
  cases hT with
  | text a b => exact (tok_text (e := 0) (l := 0) (t3 := 0) (t4 := 0) (t5 := 0) hD hU (raw_text b)).use B F X N T hk hdp hun ⟨hS, ⟨a⟩⟩ ret
  | code a b => exact (tok_code (e := 0) (l := 0) (t3 := 0) (t4 := 0) (t5 := 0) hD hU (raw_text b)).use B F X N T hk hdp hun ⟨hS, ⟨a⟩⟩ ret
  | soft a => exact (tok_soft (e := 0) (l := 0) (t2 := 0) (t3 := 0) (t4 := 0) (t5 := 0) hD hU).use B F X N T hk hdp hun ⟨hS, ⟨a⟩⟩ ret
  | br a => exact (tok_br (e := 0) (l := 0) (t2 := 0) (t3 := 0) (t4 := 0) (t5 := 0) hD hU).use B F X N T hk hdp hun ⟨hS, ⟨a⟩⟩ ret
  | rule a => exact (tok_rule (e := 0) (l := 0) (t2 := 0) (t3 := 0) (t4 := 0) (t5 := 0) hD hU).use B F X N T hk hdp hun ⟨hS, ⟨a⟩⟩ ret
  | blank a => exact (tok_blank (e := 0) (l := 0) (t2 := 0) (t3 := 0) (t4 := 0) (t5 := 0) hD hU).use B F X N T hk hdp hun ⟨hS, ⟨a⟩⟩ ret
  | em a b c d => exact (tok_em (e := 0) (t2 := 0) (t3 := 0) (t4 := 0) (t5 := 0) hD hU hK hd1 hd2 c (kl c d)).use B F X N T hk hdp hun ⟨hS, ⟨a⟩, b, d⟩ ret
  | strong a b c d => exact (tok_strong (e := 0) (t2 := 0) (t3 := 0) (t4 := 0) (t5 := 0) hD hU hK hd1 hd2 c (kl c d)).use B F X N T hk hdp hun ⟨hS, ⟨a⟩, b, d⟩ ret
  | quote a b c d => exact (tok_quote (e := 0) (t2 := 0) (t3 := 0) (t4 := 0) (t5 := 0) hD hU hK hd1 hd2 c (kl c d)).use B F X N T hk hdp hun ⟨hS, ⟨a⟩, b, d⟩ ret
  | blockText a b c d => exact (tok_btext (e := 0) (t2 := 0) (t3 := 0) (t4 := 0) (t5 := 0) hD hU hK hd1 hd2 c (kl c d)).use B F X N T hk hdp hun ⟨hS, ⟨a⟩, b, d⟩ ret
  | para a b c d => exact (tok_para (e := 0) (t2 := 0) (t3 := 0) (t4 := 0) (t5 := 0) hD hU hK hd1 hd2 c (kl c d)).use B F X N T hk hdp hun ⟨hS, ⟨a⟩, b, d⟩ ret
  | link a b c d e f =>
    refine (tok_link (t3 := 0) (t4 := 0) (t5 := 0) hD hU f hK hd1 hd2 c (kl c d)).use B F X N T hk hdp hun ⟨hS, ⟨a⟩, ⟨e⟩, b, d⟩ ?_
    intro r h' tk' g' F' N' G' o
    refine ret r h' tk' g' F' N' G' ?_
    obtain ⟨t, rfl⟩ := o
    exact ⟨t, congrArg (fun z => Value.str z t) (by rw [san_is f]; exact link_txt1 _ _)⟩
  | linkT a b c d e f g =>
    have q := text_facts g
    refine (tok_linkT (t4 := 0) (t5 := 0) hD hU f q.a3 q.a9 (Nat.le_trans q.a8 (by decide)) hK hd1 hd2 c (kl c d)).use B F X N T hk hdp hun ⟨hS, ⟨a⟩, ⟨e⟩, b, d⟩ ?_
    intro r h' tk' g' F' N' G' o
    refine ret r h' tk' g' F' N' G' ?_
    obtain ⟨t, rfl⟩ := o
    refine ⟨t, congrArg (fun z => Value.str z t) ?_⟩
    rw [san_is f]
    unfold attrF
    rw [q.a6]
    exact link_txt2 _ _ _
  | head a b c d e f g => exact (tok_head (t4 := 0) (t5 := 0) hD hU f g hK hd1 hd2 c (kl c d)).use B F X N T hk hdp hun ⟨hS, ⟨a⟩, ⟨e⟩, b, d⟩ ret
  | headI a b c d e f g i =>
    have q := text_facts i
    refine (tok_headI (t5 := 0) hD hU f g q.a4 q.b2 (Nat.le_trans q.b1 (by decide)) hK hd1 hd2 c (kl c d)).use B F X N T hk hdp hun ⟨hS, ⟨a⟩, ⟨e⟩, b, d⟩ ?_
    intro r h' tk' g' F' N' G' o
    refine ret r h' tk' g' F' N' G' ?_
    obtain ⟨t, rfl⟩ := o
    refine ⟨t, congrArg (fun z => Value.str z t) ?_⟩
    unfold attrF
    rw [q.a7]
    exact head_txt2 _ _ _
  | codeI a b =>
    have q := text_facts b
    refine (tok_bc0 (e := 0) (l := 0) (t4 := 0) (t5 := 0) hD hU q.a1).use B F X N T hk hdp hun ⟨hS, ⟨a⟩⟩ ?_
    intro r h' tk' g' F' N' G' o
    refine ret r h' tk' g' F' N' G' ?_
    obtain ⟨t, rfl⟩ := o
    exact ⟨t, congrArg (fun z => Value.str z t) q.b4⟩
  | codeF a b c d =>
    unfold infoL at d
    simp only [List.mem_cons, List.not_mem_nil, or_false, Prod.mk.injEq] at d
    rcases d with ⟨rfl, rfl⟩ | ⟨rfl, rfl⟩ | ⟨rfl, rfl⟩ | ⟨rfl, rfl⟩
    · exact (tok_bc2 (l := 0) hD hU (raw_text b)).use B F X N T hk hdp hun ⟨hS, ⟨a⟩, ⟨c⟩⟩ ret
    · exact (tok_bc3 (l := 0) hD hU (raw_text b)).use B F X N T hk hdp hun ⟨hS, ⟨a⟩, ⟨c⟩⟩ ret
    · exact (tok_bc4 (l := 0) hD hU (raw_text b)).use B F X N T hk hdp hun ⟨hS, ⟨a⟩, ⟨c⟩⟩ ret
    · exact (tok_bc1 (l := 0) hD hU (raw_text b)).use B F X N T hk hdp hun ⟨hS, ⟨a⟩, ⟨c⟩⟩ ret
  | html a b =>
    have q := text_facts b
    exact (tok_html (e := 0) (l := 0) (t3 := 0) (t4 := 0) (t5 := 0) hD hU q.a2 (Sz.one (Nat.le_trans q.b3 (by decide))) (by rw [q.a5]; exact q.a2) (by rw [q.a5]) (Nat.le_trans q.b3 (by decide))).use B F X N T hk hdp hun ⟨hS, ⟨a⟩⟩ ret
end
section
theorem tok0 {w : World} {esc : Bool} : TokC w esc 0 0 0 := by
  intro sa st v x p loose mean mg mb dp un gd cn cs a ccd cl outer A₀ base h₀ L m news s Q E B F X N T hk hdp hun hpre ret
  exact hpre.2.elim
theorem kids0 {w : World} {esc : Bool} : KidsC w esc 0 10 100 := kids_step tok0 (by decide) (by decide)
theorem tok1 {w : World} {esc : Bool} : TokC w esc 1 201 2003 := tok_step (by decide) kids0 (by decide) (by decide) (by decide) (by decide)
theorem kids1 {w : World} {esc : Bool} : KidsC w esc 1 211 2103 := kids_step tok1 (by decide) (by decide)
theorem tok2 {w : World} {esc : Bool} : TokC w esc 2 212 2106 := tok_step (by decide) kids1 (by decide) (by decide) (by decide) (by decide)
theorem kids2 {w : World} {esc : Bool} : KidsC w esc 2 222 2206 := kids_step tok2 (by decide) (by decide)
theorem tok3 {w : World} {esc : Bool} : TokC w esc 3 223 2209 := tok_step (by decide) kids2 (by decide) (by decide) (by decide) (by decide)
theorem kids3 {w : World} {esc : Bool} : KidsC w esc 3 233 2309 := kids_step tok3 (by decide) (by decide)
theorem tok4 {w : World} {esc : Bool} : TokC w esc 4 234 2312 := tok_step (by decide) kids3 (by decide) (by decide) (by decide) (by decide)
theorem kids4 {w : World} {esc : Bool} : KidsC w esc 4 244 2412 := kids_step tok4 (by decide) (by decide)
theorem tok5 {w : World} {esc : Bool} : TokC w esc 5 245 2415 := tok_step (by decide) kids4 (by decide) (by decide) (by decide) (by decide)
theorem kids5 {w : World} {esc : Bool} : KidsC w esc 5 255 2515 := kids_step tok5 (by decide) (by decide)
end
section
open PySem.W.KStt (codes)
theorem lines_NLw : True := by
  k_with_none
  k_with "z1" => (((try simp only [depth_under_make, depth_under_kw, depth_in1, depth_deeper, depth_caller]); (try dsimp only [ktrTop]); omega))
  k_with "ktr_enter" => ((refine' code_def ?k1 ?k2 ?k3 ?k4 ?k5 ?kA ?kF ?kK ?k6 ?k7 ?k8 ?k9 ?kB ?_ ?c2 ?c3 ?c4 ?c5; (case kA => exact rfl); (case kF => exact rfl); (case kK => first | assumption | exact rfl); (case k1 => k_asm); (case k2 => k_asm); (case k3 => k_asm); (case k4 => k_asm); (case k5 => k_asm); (case k6 => k_is); (case k7 => k_is); (case k8 => k_extra "z1"); (case k9 => first | exact BindsTo.of_eq rfl | exact binds_K (by k_in) rfl (by k_is) rfl rfl rfl | fail "enter: no rule for these arguments"); (case c5 => decide); (case kB => exact locs rfl); (case c2 => exact rfl); (case c3 => exact rfl); (case c4 => exact rfl); k_whole); intro gpq0 Lpq0 hpq0 FGpq0 Fpq0 Npq0 Bpq0 Xpq0 Tpq0; (try dsimp only); (try k_lift Bpq0); (try k_fold))
  k_with "k_mem" => (first | with_reducible exact List.mem_cons_self | with_reducible assumption | (with_reducible refine List.mem_cons_of_mem _ ?_; k_mem) | (with_reducible refine List.mem_append_left _ ?_; k_mem) | (with_reducible refine List.mem_append_right _ ?_; k_mem))
  k_with "execs cons" => (k_here; k_dflt (refine wpAny_execs_cons ?_))
  k_with "execs cons" => (k_here; (with_reducible refine execs_cons_gen ?_); intro tk9q3)
  k_with "execs nil" => (k_here; (with_reducible refine wpAny_execs_nil ?_))
  k_with "exec If" => (k_here; k_dflt (refine wpAny_If ?_))
  k_with "ite" => (k_here; first | (with_reducible refine ite_tt ?_) | (with_reducible refine ite_ff ?_) | (k_closed; (first | (with_reducible refine iteP ?iteC ?_; (case iteC => decide)) | (with_reducible refine iteN ?iteC ?_; (case iteC => decide)))) | (with_reducible refine split_ine ?_ ?_ <;> intro _) | (with_reducible refine split_ieq ?_ ?_ <;> intro _) | with_reducible refine split_not ?_ | (with_reducible refine iteDec ?_ ?_ <;> intro _) | (with_reducible refine iteB ?_ ?_ <;> intro _))
  k_with "callWith ref" => (k_here; k_dflt ((with_reducible refine' callWith_K ?k1 ?k2 ?_ ?he ?hp); (case he => exact rfl); (case hp => exact rfl); (case k1 => k_asm); (case k2 => k_is)))
  k_with "callWith ref" => (k_here; k_dflt ((with_reducible refine' callWith_K0 ?k1 ?k2 ?_); (case k1 => exact Frag.In.keeps (by with_reducible assumption) (Fr.keep (by with_reducible assumption))); (case k2 => k_is); (try dsimp only [List.nil_append])))
  k_with "callWith" => (k_here; k_dflt ((with_reducible refine' callWith_m1 ?_ ?he ?hp); (case he => exact rfl); (case hp => exact rfl)))
  k_with "binaryOp Mod int int" => (k_here; (with_reducible refine' mod_int' ?kbe ?_); (case kbe => decide); (try dsimp only); (try k_fold))
  k_with "eval Call" => (k_here; (with_reducible show wpAny _ _ (eval (Expr.Call (Expr.Name _ _) _ [] _) _) _ _ _); k_dflt (refine Call_ ?_))
  k_with "binaryOp Add str str" => (k_here; k_dflt ((with_reducible refine' add_strP (Sz.app ?sa ?sb) ?hn ?_); (case sa => first | with_reducible assumption | (refine Sz.one ?_; first | decide +kernel | exact num_sz _)); (case sb => first | with_reducible assumption | (refine Sz.one ?_; first | decide +kernel | exact num_sz _)); (case hn => decide); intro t9q38 k9q38 hz9q38; (try dsimp only); (try k_fold)))
  k_with "k_all" => (first | with_reducible assumption | exact List.forall_mem_nil _ | (with_reducible refine' List.forall_mem_cons.mpr ⟨?ka, ?kb⟩; (case ka => k_ne); (case kb => k_all)) | (with_reducible refine' ltNe2 ?ka; (case ka => with_reducible assumption)) | (with_reducible refine' ltNe3 ?ka; (case ka => with_reducible assumption)) | (with_reducible refine' ltNe4 ?ka; (case ka => with_reducible assumption)) | (with_reducible refine' List.forall_mem_append.mpr ⟨?ka, ?kb⟩; (case ka => k_all); (case kb => k_all)) | (with_reducible refine' apartE ?ka ?kb; (case ka => with_reducible assumption); (case kb => k_mem)) | (with_reducible refine' ltNe ?ka; (case ka => with_reducible assumption)))
  k_with "k_ne" => (refine neN ?_; (try dsimp only); first | with_reducible assumption | (with_reducible exact Ne.symm (by assumption)) | (with_reducible exact Nat.ne_of_lt (by assumption)) | (with_reducible exact Nat.ne_of_gt (by assumption)) | omega)
  k_with "call builtin:list.append" => (k_here; (with_reducible show wpAny _ _ (call (Value.builtin _) [Value.ref _, _]) _ _ _); k_dflt ((with_reducible refine' append_tok ?k1 ?k2 ?k3 ?k4 ?_); (case k1 => k_asm); (case k2 => k_asm); (case k3 => k_upd); (case k4 => first | with_reducible assumption | decide | omega); intro h9q115 F9q115 N9q115; (try dsimp only); (try k_sweep); (try k_fold)))
  k_with "call ref" => (k_here; (with_reducible show wpAny _ _ (call (Value.ref 531) _) _ _ _); k_dflt (refine' Tell0.use (tell_at (by assumption) (by assumption) ?ka ?kb) ?k1 ?k2 ?k3 ?k4 ?k5 ?k6 ?k7 ?k8 ?k9 ?_; (case ka => omega); (case kb => omega); (case k1 => k_asm); (case k2 => k_asm); (case k3 => k_asm); (case k4 => k_asm); (case k5 => k_asm); (case k6 => exact rfl); (case k7 => exact Nat.le_of_ble_eq_true rfl); (case k8 => exact Nat.le_of_ble_eq_true rfl); (case k9 => (refine' list_fr ?lF ?ll; (case lF => k_asm); (case ll => with_reducible assumption))); intro r9q116 h9q116 t9q116 F9q116 N9q116 o9q116; obtain ⟨n9q116, tn9q116, e9q116⟩ := o9q116; subst e9q116; (try k_sweep); (try dsimp only); (try k_fold)))
  k_with "call ref" => (k_here; (with_reducible show wpAny _ _ (call (Value.ref 559) _) _ _ _); k_dflt (refine' TellT.use (tell_block2 (by assumption) (by assumption) ?ka ?kb) ?k1 ?k2 ?k3 ?k4 ?k5 ?k6 ?k7 ?k8 ?k9q117 ?_; (case ka => omega); (case kb => omega); (case k1 => k_asm); (case k2 => k_asm); (case k3 => k_asm); (case k4 => k_asm); (case k5 => k_asm); (case k6 => exact rfl); (case k7 => exact Nat.le_of_ble_eq_true rfl); (case k8 => exact Nat.le_of_ble_eq_true rfl); (case k9q117 => (refine' list_fr ?lF ?ll; (case lF => k_asm); (case ll => with_reducible assumption))); intro r9q117 tl9q117 h9q117 t9q117 F9q117 N9q117 hl9q117 o9q117; obtain ⟨a9q117, v9q117, x9q117, u9q117, w9q117, k9q117, e9q117, m9q117, hT9q117, hka9q117, hkb9q117⟩ := o9q117; subst e9q117; (have hxz9q117 := tok_sz (by decide) hT9q117); (have hq9q117 := fun q hq => hl9q117 q hq _ m9q117); (simp only [List.forall_mem_cons] at hq9q117); (try dsimp only at hq9q117); (repeat (obtain ⟨hqa9q117, hq9q117⟩ := hq9q117)); (try simp only [List.nil_append, List.cons_append] at N9q117); replace N9q117 := news_dup (p := (a9q117, _)) N9q117 (by k_mem); (try k_sweep); (try dsimp only); (try k_fold)))
  k_with "callWith ref" => (k_here; (with_reducible show wpAny _ _ (callWith _ (Value.ref 487) _ _ _) _ _ _); k_dflt (refine' callWith_KW0 ?k1 ?k2 ?k3 ?_; (case k1 => k_asm); (case k2 => k_is); (case k3 => exact rfl); k_whole))
  k_with "call ref" => (k_here; (with_reducible show wpAny _ _ (call (Value.ref 487) _ _) _ _ _); k_dflt ((show wpAny _ _ (call (Value.ref 487) [] [(Str.ofString "escape", _)]) _ _ _); refine' TellC.use (mk_renderer (b := _)) ?k1 ?k2 ?k3 ?k4 ?k5 ?k6 ?k7 ?k8 ?_; (case k1 => k_asm); (case k2 => k_asm); (case k3 => k_asm); (case k4 => k_asm); (case k5 => k_asm); (case k6 => exact rfl); (case k7 => exact Nat.le_of_ble_eq_true rfl); (case k8 => exact Nat.le_of_ble_eq_true rfl); intro r9q119 tl9q119 h9q119 t9q119 F9q119 N9q119 hl9q119 o9q119; obtain ⟨sa9q119, e9q119, hs9q119⟩ := o9q119; subst e9q119; (try simp only [List.nil_append, List.cons_append] at N9q119); (try k_sweep); (try dsimp only); (try k_fold)))
  k_with "call ref" => (k_here; (with_reducible show wpAny _ _ (call (Value.ref 163) _ _) _ _ _); k_dflt (refine' TellC.use (mk_state) ?k1 ?k2 ?k3 ?k4 ?k5 ?k6 ?k7 ?k8 ?_; (case k1 => k_asm); (case k2 => k_asm); (case k3 => k_asm); (case k4 => k_asm); (case k5 => k_asm); (case k6 => exact rfl); (case k7 => exact Nat.le_of_ble_eq_true rfl); (case k8 => exact Nat.le_of_ble_eq_true rfl); intro r9q120 tl9q120 h9q120 t9q120 F9q120 N9q120 hl9q120 o9q120; obtain ⟨st9q120, e9q120⟩ := o9q120; subst e9q120; replace N9q120 := news_left N9q120; clear hl9q120; (try k_sweep); (try dsimp only); (try k_fold)))
  k_with "call type:range" => (k_here; (with_reducible rename Fr _ _ _ _ => Fpq40); (with_reducible rename News _ _ _ _ => Npq40); (with_unfolding_all refine range1_rows Fpq40 Npq40 ?_); clear Fpq40 Npq40; intro h9q40 tk9q40 t9q40 u9q40 v9q40 hR9q40 F9q40 N9q40 hK9q40; (try dsimp only); (try k_fold))
  k_with "pyIter ref" => (k_here; (with_reducible show wpAny _ _ (pyIter (Value.ref _)) (fun it s₂ => LoopAtV _ _ _ _ _ _ _ _ _ it s₂) _ _); (with_reducible rename Fr _ _ _ _ => lFpq121); (with_reducible rename News _ _ _ _ => lNpq121); (with_reducible rename IsRange _ _ _ _ _ _ _ _ => rgXq121); k_dflt (refine' loop_law (st := [Str.ofString "token", Str.ofString "shown"]) (by with_reducible assumption) rng1 (rng ?he ?hf).2.2 ?hd rgXq121 (rng ?he ?hf).1 (rng ?he ?hf).2.1 lFpq121 lNpq121 ?hx1 ?hx2 ?hj ?hm (fun vs9q121 us9q121 c9q121 d9q121 k9q121 t29q121 uu9q121 Z9q121 h9q121 tk9q121 j9q121 tj9q121 hv9q121 hu9q121 hZ9q121 hY9q121 hka9q121 hkb9q121 F9q121 N9q121 => ?_) (fun vs9q121 us9q121 ys9q121 v9q121 y9q121 t9q121 c9q121 d9q121 k9q121 t29q121 uu9q121 tl9q121 h9q121 tk9q121 hv9q121 hu9q121 hT9q121 hK9q121 hS9q121 hy9q121 hz9q121 F9q121 N9q121 => ?_); (case hd => exact rfl); (case he => decide); (case hf => decide); (case hx1 => k_all); (case hx2 => k_all); (case hj => exact rfl); (case hm => decide +kernel); all_goals ((try clear lFpq121 lNpq121 rgXq121); (try dsimp only); (try k_fold))))
  k_with "k_inst" => (((with_reducible rename News _ _ _ _ => N9iq122); (refine' InstAt.led N9iq122 ?ia ?ib; (case ia => k_mem); (case ib => k_mem))))
  k_with "subscriptTail Name" => (k_here; (try dsimp only); (with_reducible show wpAny _ _ (subscriptTail _ _ (Value.ref _) (Value.int (-1) _)) _ _ _); (with_reducible rename News _ _ _ _ => N8q123); k_dflt (refine' last_item N8q123 ?hm ?hv ?hs ?_; (case hm => k_mem); (case hv => first | with_reducible assumption | omega); (case hs => with_unfolding_all rfl); (try dsimp only); (try k_fold)))
  k_with "call ref" => (k_here; (with_reducible show wpAny _ _ (call (Value.ref 341) _) _ _ _); (with_reducible rename SelfLed _ _ _ _ => hS8q124); (with_reducible rename News _ _ _ _ => N8q124); k_dflt ((with_reducible rename TokIn _ _ _ _ _ _ => hR9q124); refine' TellG.use (tok_useL tok5 hR9q124) ?k1 ?k2 ?k3 ?k4 ?k5 ?k6 ?k7 ?k8 ?k9 ?_; (case k1 => k_asm); (case k2 => k_asm); (case k3 => k_asm); (case k4 => k_asm); (case k5 => k_asm); (case k6 => exact rfl); (case k7 => exact Nat.le_of_ble_eq_true rfl); (case k8 => exact Nat.le_of_ble_eq_true rfl); (case k9 => exact pre_tokL hR9q124 hS8q124 N8q124 (fun p hp => by k_mem) (fun p hp => by k_mem)); intro r9q124 h9q124 t9q124 g9q124 F9q124 N9q124 hg9q124 o9q124; obtain ⟨tn9q124, e9q124⟩ := o9q124; subst e9q124; (try k_sweep); (try dsimp only); (try k_fold)))
  k_with "call ref" => (k_here; (with_reducible show wpAny _ _ (call (Value.ref 216) _) _ _ _); (with_reducible rename SelfLed _ _ _ _ => hS8q125); (with_reducible rename News _ _ _ _ => N8q125); k_dflt ((with_reducible rename Kids _ _ _ => hR9q125); refine' TellG.use (kids_useL kids5 ?kv ?kx hR9q125) ?k1 ?k2 ?k3 ?k4 ?k5 ?k6 ?k7 ?k8 ?k9 ?_; (case kv => (simp only [List.length_append, List.length_cons, List.length_nil]; omega)); (case kx => with_reducible assumption); (case k1 => k_asm); (case k2 => k_asm); (case k3 => k_asm); (case k4 => k_asm); (case k5 => k_asm); (case k6 => exact rfl); (case k7 => exact Nat.le_of_ble_eq_true rfl); (case k8 => exact Nat.le_of_ble_eq_true rfl); (case k9 => exact pre_kidsL hR9q125 hS8q125 N8q125 (fun p hp => by k_mem) (fun p hp => by k_mem) (by k_mem)); intro r9q125 h9q125 t9q125 g9q125 F9q125 N9q125 hg9q125 o9q125; obtain ⟨tn9q125, e9q125⟩ := o9q125; subst e9q125; (try k_sweep); (try dsimp only); (try k_fold)))
  k_with "call builtin:str.join" => (k_here; (with_reducible rename News _ _ _ _ => N8q126); (with_reducible rename StrsAre _ _ => hS8q126); k_dflt (refine' join_all N8q126 ?hm hS8q126 ?hy ?hz ?_; (case hm => k_mem); (case hy => with_reducible assumption); (case hz => with_reducible assumption); intro t9q126 k9q126; (try dsimp only); (try k_fold)))
  k_with "ite" => (k_here; (with_reducible refine ite_same ?_))
  k_with "look" => (with_reducible first | exact Look1.str | exact Look1.int | (refine' Look1.name ?hx ?hd ?hm; (case hx => k_dflt (exact rfl)); (case hd => k_dflt decide); (case hm => k_dflt (exact rfl))) | exact LookN.nil | (refine' LookN.cons ?x ?y; (case x => k_extra "look"); (case y => k_extra "look")) | exact LookP.nil | (refine' LookP.cons ?x ?y ?z; (case x => k_extra "look"); (case y => k_extra "look"); (case z => k_extra "look")))
  k_with "spliced" => (k_here; (with_reducible show wpAny _ _ (spliced (backTo _ (starEach (_ :: _) _))) _ _ _); (with_reducible rename Fr _ _ _ _ => F8q16); ((with_reducible refine' args_lk F8q16 ?he ?hk ?l ?_); (case he => k_dflt (exact ⟨_, _, _, _, rfl⟩)); (case hk => k_dflt (exact rfl)); (case l => k_extra "look")); (try dsimp only); (try k_fold))
  k_with "evalPairs" => (k_here; (with_reducible show wpAny _ _ (evalPairs (pairTrees (_ :: _) _ _ _)) _ _ _); (with_reducible rename Fr _ _ _ _ => F8q17); ((with_reducible refine' pairs_lk F8q17 ?he ?hk ?l ?_); (case he => k_dflt (exact ⟨_, _, _, _, rfl⟩)); (case hk => k_dflt (exact rfl)); (case l => k_extra "look")); (try dsimp only); (try k_fold))
  k_with "eval BinOp" => (k_here; (with_reducible show wpAny _ _ (eval (Expr.BinOp (Expr.Name _ _) _ (Expr.Constant _ _ _) _) _) _ _ _); (with_reducible rename Fr _ _ _ _ => F8q18); ((with_reducible refine' bin_lk F8q18 ?he ?hk ?l ?r ?_); (case he => k_dflt (exact ⟨_, _, _, _, rfl⟩)); (case hk => k_dflt (exact rfl)); (case l => k_extra "look"); (case r => k_extra "look")); (try dsimp only); (try k_fold))
  k_with "eval BinOp" => (k_here; (with_reducible show wpAny _ _ (eval (Expr.BinOp (Expr.Name _ _) _ (Expr.Name _ _) _) _) _ _ _); (with_reducible rename Fr _ _ _ _ => F8q19); ((with_reducible refine' bin_lk F8q19 ?he ?hk ?l ?r ?_); (case he => k_dflt (exact ⟨_, _, _, _, rfl⟩)); (case hk => k_dflt (exact rfl)); (case l => k_extra "look"); (case r => k_extra "look")); (try dsimp only); (try k_fold))
  k_with "exec If" => (k_here; (with_reducible show wpAny _ _ (exec (Stmt.If (Expr.Compare (Expr.Name _ _) [CmpOp.Eq] [Expr.Constant (Const.int _) _ _] _) _ _ _) _) _ _ _); (with_reducible rename Fr _ _ _ _ => F8q20); ((with_reducible refine' if_lk F8q20 ?he ?hk ?l ?r ?h ?_); (case he => k_dflt (exact ⟨_, _, _, _, rfl⟩)); (case hk => k_dflt (exact rfl)); (case l => k_extra "look"); (case r => k_extra "look"); (case h => k_dflt (with_unfolding_all rfl))); (try dsimp only); (try k_fold))
  k_with "storeName" => (k_here; (with_reducible rename Fr _ _ _ _ => F8q21); (with_reducible rename News _ _ _ _ => N8q21); ((with_reducible refine' store_lk F8q21 N8q21 ?he ?hk ?hx ?_); (case he => k_dflt (exact ⟨_, _, _, _, rfl⟩)); (case hk => k_dflt (exact rfl)); (case hx => k_dflt (exact rfl)); intro h9q21 m9q21 F9q21 N9q21; (try clear F8q21 N8q21); (try dsimp only); (try k_fold)))
  trivial
theorem law_ : PySem.Challenge.rw_ba0042_01.Holds := hd (by
  k_fill
  intro w s₀ s₁ mg mb G Y fa o pm cd doc dV kV ho hd hcd hD hmg hg args vals as hpre hlay hrd hwl hlo
  have KX := km_in_of Y
  km_tabs Y
  have X := (Ground.X G).1
  have V := (Ground.X G).2
  refine Ground.open G ?_
  intro T B D TE TW
  try (refine guard_noD D (by decide +kernel) ?_; clear D)
  km_lay T hmg ho hd cd
  clear hmg
  wrow_args hpre hlay hrd hwl hlo
  all_goals (
    first | refine callC_kw (enter_call ?_) | refine enter_call ?_
    w_top on
    refine kn_postB hT9 ?_
    w_call any ho hd hcd hD T F
    clear hd
    kn_ghosts F T
    k_drop
    skip)
  all_goals (try k_fold)
  (with_reducible rename ¬ _ < _ => hc9)
  (with_reducible rename IntsAre _ _ => hi9)
  have hlen9 : _ ≤ 63 := Int.ofNat_le.mp (Int.not_lt.mp hc9)
  clear hc9
  repeat' (first | ((with_reducible show wpAny _ _ (pyIter _) _ _ _); fail) | (k_unfold; (try dsimp only)) | ((fail_if_success (with_reducible show wpAny _ _ (pyIter _) _ _ _)); walk1) | ((fail_if_success (with_reducible show wpAny _ _ (pyIter _) _ _ _)); dsimp only; walk1) | (leave1; try dsimp only) | fail "no step")
  (with_reducible rename Fr _ _ _ _ => lF'); (with_reducible rename News _ _ _ _ => lN'); (with_reducible rename IsRange _ _ _ _ _ _ _ _ => rgX)
  refine' loop_law (st := [Str.ofString "token", Str.ofString "shown"]) (by with_reducible assumption) rng1 (rng ?he ?hf).2.2 ?hd rgX (rng ?he ?hf).1 (rng ?he ?hf).2.1 lF' lN' ?hx1 ?hx2 ?hj ?hm ?turn ?done
  case he => decide
  case hf => decide
  case hd => exact rfl
  case hj => exact rfl
  case hm => decide +kernel
  case hx1 => k_all
  case hx2 => k_all
  case turn =>
    (clear lF' lN' rgX; intro vs9 us9 c9 d9 k9 t29 uu9 Z9 h9 tk9 j9 tj9 hv9 hu9 hZ9 hY9 hka9 hkb9 F9 N9; (try dsimp only); (try k_fold))
    repeat' (first | ((with_reducible show TurnPost2 _ _ _ _ _ _ _ _ _ _ _ _ _ _ _ _ _); fail) | (k_unfold; (try dsimp only)) | ((fail_if_success (with_reducible show TurnPost2 _ _ _ _ _ _ _ _ _ _ _ _ _ _ _ _ _)); walk1) | ((fail_if_success (with_reducible show TurnPost2 _ _ _ _ _ _ _ _ _ _ _ _ _ _ _ _ _)); dsimp only; walk1) | (leave1; try dsimp only) | fail "no step")
    all_goals (
      (with_reducible rename Fr _ _ _ _ => F9)
      (with_reducible rename News _ _ _ _ => N9)
      (with_reducible rename TokIn _ _ _ _ _ _ => hT9)
      (with_reducible rename ∀ (q : Addr × Obj), q ∈ _ → ∀ (p : Addr × Obj), p ∈ _ → p.1 ≠ q.1 => hl9)
      refine' turn_law rfl F9 N9 ?hl hT9 rfl ?ka ?kb (fun z z1 z3 z4 => ?_)
      case hl => with_reducible assumption
      case ka => with_reducible assumption
      case kb => with_reducible assumption
      have z5 := st_ne z4 (a := Str.ofString "token") (by simp)
      have z6 := st_ne z4 (a := Str.ofString "shown") (by simp)
      repeat (first | (with_reducible exact rfl) | (refine Eq.trans (if_neg ?_) ?_; · first | (with_reducible first | assumption | exact ne_true_of_eq_false (by assumption)) | exact z3)))
  case' done => (clear lF' lN' rgX; intro vs9 us9 ys9 v9 y9 t9 c9 d9 k9 t29 uu9 tl9 h9 tk9 hv9 hu9 hT9 hK9 hS9 hy9 hz9 F9 N9; (with_reducible rename SelfLed _ _ _ _ => hs9); (obtain ⟨dx9, md9, om9, q9, q8, q7, b9, b8, b7, b6, b5⟩ := id hs9); (try dsimp only); (try k_fold))
  repeat' (first | ((with_reducible show wpAny _ _ (exec (Stmt.Try _ _ _ _ _) _) _ _ _); fail) | (k_unfold; (try dsimp only)) | ((fail_if_success (with_reducible show wpAny _ _ (exec (Stmt.Try _ _ _ _ _) _) _ _ _)); walk1) | ((fail_if_success (with_reducible show wpAny _ _ (exec (Stmt.Try _ _ _ _ _) _) _ _ _)); dsimp only; walk1) | (leave1; try dsimp only) | fail "no step")
  repeat' (first | ((with_reducible show wpAny _ _ (call (Value.ref 341) _) _ _ _); fail) | (k_unfold; (try dsimp only)) | ((fail_if_success (with_reducible show wpAny _ _ (call (Value.ref 341) _) _ _ _)); walk1) | ((fail_if_success (with_reducible show wpAny _ _ (call (Value.ref 341) _) _ _ _)); dsimp only; walk1) | (leave1; try dsimp only) | fail "no step")
  all_goals (
    (with_reducible rename SelfLed _ _ _ _ => hS8)
    (with_reducible rename News _ _ _ _ => N8)
    (with_reducible rename Fr _ _ _ _ => F8)
    (with_reducible rename Below callerA _ [] _ => K8)
    (with_reducible rename Frag.In _ (ghostOf _ _) => X8)
    (with_reducible rename Top _ _ _ _ _ _ => T8)
    (with_reducible rename Obj.IsDictOf (PySem.strKind _ _) _ _ => hD8)
    (with_reducible rename (_ == sysModules) = false => hlo8)
    refine' TellX.use tellx_tok K8 F8 X8 N8 T8 rfl X8 T8 ?k9 ?ka (pre_X hS8 N8 ?kb (List.mem_cons_self) hD8 hlo8) ?_
    case k9 => exact Nat.le_of_ble_eq_true rfl
    case ka => exact Nat.le_of_ble_eq_true rfl
    case kb => (intro p hp; k_mem)
    intro e9x h9x t9x R9x u9x
    obtain ⟨G9, FG9, R9y, kG9⟩ := raised_led R9x K8 F8 N8
    try dsimp only
    try (k_unfold; try dsimp only)
    refine' caught_SN0 (T' := "AttributeError") R9y FG9 K8 ((Heap.UpToSlots.of_keeps kG9).trans u9x) X8 T8 ktsDicts_nil KtsTurn.refl ?ex PyProof.Rows.Boot.«AttributeError» ?hn ae_isExc ae_notTuple sub_AttributeError ?_ rfl rfl ?hdd ?hE
    case ex => k_is
    case hn => decide
    case hdd => decide
    case hE => passes_own
    intro h' g' Tz F' N' K' X' P' D'
    clear F8 N8 K8 FG9 R9y
    try dsimp only
    try k_fold)
  repeat' (first | ((with_reducible show GoodB _ _ _ _ _); fail) | ((with_reducible show GoodB _ _ _ _ _ ∧ _); fail) | (k_unfold; (try dsimp only)) | ((fail_if_success (with_reducible show GoodB _ _ _ _ _)); (fail_if_success (with_reducible show GoodB _ _ _ _ _ ∧ _)); walk1) | ((fail_if_success (with_reducible show GoodB _ _ _ _ _)); (fail_if_success (with_reducible show GoodB _ _ _ _ _ ∧ _)); dsimp only; walk1) | (leave1; try dsimp only) | fail "no step")
  all_goals (
    (with_reducible rename Fr _ _ _ _ => Fe)
    (with_reducible rename News _ _ _ _ => Ne)
    try dsimp only
    try k_unfold
    try dsimp only
    refine' ⟨⟨⟨true, rfl, fun _ => rfl, ?post⟩, ground_turn Tz Fe, rfl, ?bare⟩, ⟨GrownAt.of Ne ?kg, trivial⟩⟩
    case post => first | rfl | wrow_post
    case kg => k_mem
    case bare =>
      (with_reducible rename GX (Shared.gens _) _ => gx2)
      have b2 := gx2.2.2
      clear gx2
      (with_reducible rename GX (Shared.gens _) _ => gx1)
      exact b2 (gx1.2.2 (AllBare.of_eq hg))))
end
end Mine
theorem PySem.Challenge.cw_ba0042_01_holds : PySem.Challenge.rw_ba0042_01.Holds :=
  Mine.law_
