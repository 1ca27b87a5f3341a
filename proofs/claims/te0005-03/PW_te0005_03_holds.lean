import PyProof.Rows.All
import Wide.All
import OpenK.AllK
import Wide.FinOn
import KE.KFmtOwn
import KE.KxPercentT
import PyProof.ExcClass3
import PyProof.ExcBaseAll.Exception
import OpenK.KRaise
import KE.KTryOn
import OpenK.KOwn
import KE.KSlice
import Lean
import PySem.Challenge.RW_te0005_03
set_option genSizeOf false
set_option genInjectivity false
set_option tactic.hygienic false
set_option linter.all false
set_option autoImplicit true
set_option relaxedAutoImplicit true
set_option Elab.async false
set_option maxRecDepth 100000
set_option maxHeartbeats 0
open PySem PySem.W PyProof.Rows PySem.Calls
namespace Mine
abbrev ξ:=List Nat
abbrev κ:=Option
abbrev π:=Value
abbrev χ:=Shared
abbrev ω:=Str→Option Value
abbrev Θ:=Value→Shared→Prop
abbrev Δ:=List (Addr×Obj)
def Wg:=@wpAny_bind
def Wi:=@wpAny_pure
def Wj:=@Bool.and_eq_true
def Wk:=@List.length_replicate
def Wl:=@List.map_append
def Wm:=@Nat.le_refl
def Wn:=@Nat.ble_eq_true_of_le
def Wo:=@wpAny_holding
def Wp:=@Bool.and_eq_true_iff
def Wq:=@decide_eq_false_iff_not
def Wr:=@List.length_map
def Ws:=@List.mem_map_of_mem
def Wt:=@wpAny_standAt
def Wu:=@List.cons_ne_nil
def Wv:=@List.size_toArray
def Ww:=@List.getElem?_toArray
def Wy:=@List.getElem?_eq_some_iff
def WA:=@List.not_mem_nil
def WB:=@beq_iff_eq
def WD:=@Nat.add_sub_cancel_left
def WG:=@decide_eq_false
def WH:=@List.nodup_cons
def WI:=@Heap.lt_size
def WJ:=@List.eq_nil_of_length_eq_zero
def WK:=@Nat.zero_le
def WM:=@of_decide_eq_true
def WO:=@List.cons_append
def WP:=@List.take_of_length_le
def WQ:=@wpAny_mono
def WR:=@List.getElem?_eq_none
def WS:=@sizeLine_eq
def WT:=@List.map_cons
def WU:=@Int.add_assoc
def WV:=@Nat.ne_of_lt
def WW:=@List.nil_append
def WX:=@wpAny_execs_cons
def WY:=@List.mem_map
def WZ:=@Nat.le_trans
def W0:=@Nat.le_add_right
def W1:=@Nat.add_le_add_left
def W2:=@Nat.le_add_left_of_le
def W3:=@Int.le_trans
def W4:=@Nat.add_le_add_right
def W5:=@Nat.mul_le_mul_left
def W6:=@Nat.ne_of_beq_eq_false
def W7:=@Nat.le_of_eq
def W8:=@Nat.lt_of_le_of_lt
def W9:=@Nat.succ_le_succ
def Xa:=@Nat.lt_of_lt_of_le
def Xb:=@Nat.add_le_add
def Xc:=@Nat.le_of_ble_eq_true
def Xe:=@Int.lt_of_le_of_lt
def Xf:=@List.mem_cons
def Xg:=@List.length_drop
def Xh:=@Nat.le_succ
def Xi:=@List.map_map
def Xk:=@List.length_take
def Xl:=@Nat.add_lt_add_left
def Xm:=@Nat.le_of_lt_succ
def Xn:=@Nat.le_add_left
def Xo:=@Nat.add_right_comm
def Xp:=@List.mem_of_getElem?
def Xq:=@List.length_singleton
def Xr:=@List.map_congr_left
def Xs:=@Nat.le_add_right_of_le
def Xu:=@List.map_take
def Xv:=@Bool.and_true
def Xw:=@Bool.and_false
def Xx:=@Nat.min_eq_left
def Xy:=@Nat.succ_pos
def Xz:=@Nat.beq_refl
def XA:=@Nat.add_comm
def XB:=@Int.sub_nonneg_of_le
def XC:=@List.flatMap_append
def XD:=@Nat.lt_add_of_pos_right
def XE:=@Nat.sub_le
def XF:=@Nat.le_of_succ_le_succ
def XG:=@List.drop_of_length_le
def XH:=@Bool.false_ne_true
def XI:=@Int.sub_le_self
def XJ:=@Int.le_of_sub_nonneg
def XK:=@List.all_eq_true
def XL:=@Int.add_zero
def XM:=@List.drop_eq_getElem_cons
def XN:=@List.length_take_le
def XO:=@InstAt.of_news
def XQ:=@List.map_drop
def XR:=@List.all_append
def XS:=@Nat.zero_add
def XT:=@Nat.sub_self
def XU:=@Nat.lt_or_ge
def XV:=@List.length_range
def XW:=@List.append_assoc
def XX:=@List.take_append_drop
def XY:=@Nat.mod_lt
def XZ:=@Nat.min_eq_right
def X0:=@Nat.lt_irrefl
def X1:=@Int.add_comm
def X2:=@Bool.or_true
theorem X3{α B:Type}{l:List α}{f g:α→B}(h:l.map f=l.map g):∀ a∈l,f a=g a:=List.map_inj_left.mp h
theorem X4{α B:Type}{l:List α}{f:α→List B}{b:B}(h:∃ a,a∈l∧b∈f a):b∈l.flatMap f:=List.mem_flatMap.mpr h
theorem X5{a b:Nat}(h:a≤b):(a:Int)≤b:=Int.ofNat_le.mpr h
theorem X6{a b:Bool}(h:(a||b)=true):a=true∨b=true:=Bool.or_eq_true_iff.mp h
noncomputable section
section
set_option backward.match.sparseCases false
noncomputable def zd0(f:Nat):Nat→ξ→ξ:=Nat.rec (fun U a=>a) (fun U h k a=>Bool.rec (h (Nat.div k 128) (Nat.mod k 128::a)) a (Nat.beq k 0)) f
noncomputable abbrev Zs(k:Nat):Str:=⟨(zd0 99 k []).toArray⟩
def n0:=Zs 25752532588
def n1:=Zs 107
def n2:=Zs 53901865833295839
def n3:=Zs 1123079441222953908210
def n4:=Zs 6450058896032446450
def n6:=Zs 143754168476539146713715
def n7:=Zs 18771179380
def n9:=Zs 53901697516122079
def aO:=Zs 242841190
def b7:=Zs 1069101576680944204139
def b9:=Zs 57345192117172587
def fV:=Zs 53902004352495583
def su:=Zs 5683423073544009588
def dh:=Zs 3362631858162
def qk:=Zs 739080573569091557527366533793369248331636
def hV:=Zs 1913063
def i8:=Zs 59593009682511092
def lQ:=Zs 948629182022938424933
def xD:=Zs 45109898289129123384230772444476569460
def q9:=Zs 3403926080353561510119142638319476
def mh:=Zs 57345162033657703
def wT:=Zs 207759160177821774417485199220
def q6:=Zs 45774150075707398393261777016227198836
def nG:=Zs 57389588380447988
def sT:=Zs 522470666434542
def xj:=Zs 244872179
def qT:=Zs 2793832402081750382306134884710260
def vJ:=Zs 607360942877418551156
def qt:=Zs 98909269166956702431092
def uU:=Zs 31880592101
def gi:=Zs 31115343461
def vU:=Zs 55692004963343186118109036854560520052
def wa:=Zs 3399170224813426879184019396327284
def wX:=Zs 403777419133405823670401021846845300
def wJ:=Zs 24644617867029156134786252240756
def bb:=Zs 18400533564996702628033266
def dI:=Zs 10556646559329485682685938
def lM:=Zs 207427771652019295294620234995
def wk:=Zs 3978150228210
def zd:=Zs 27342420601
def BR:=Zs 7920621897851238245
def Aj:=Zs 3969283589511203933724755388560622
def AG:=Zs 508068299457429381139079014561379566
def Bl:=Zs 8324191018310851353914800626357378036452
def z6:=Zs 8324191018310562126630482311164934828772
def BB:=Zs 115521356623828383166955
def ax:=Zs 307238851654386
def uw:=Zs 746371165200801380100481245886409742885587
def xb:=Zs 33
def Em:=Zs 77603073409589396391451277736175999290
def FK:=Zs 4257
def r8:=Zs 3982749167853
def pO:=Zs 7188795584033648876
def rg:=Zs 3637511812980
def Pp:=Zs 32165673576
def rc:=Zs 1892701906924887859800044133
def OQ:=Zs 1003752599342594748651
def u6:=Zs 3982713762547
def sR:=Zs 31114951269
def rW:=Zs 8672469110459096521481040742909369416052
def sW:=Zs 3502222588531
def cQ:=Zs 27361113972
def sV:=Zs 465601512061555
def tL:=Zs 948629182021027869420
def uq:=Zs 17359270806304593557421172
def ut:=Zs 4697244439447133800905352714746996
def tE:=Zs 34785822668855005935469113998452
def tQ:=Zs 76980258256652377915424455194958199924
def uD:=Zs 228226917
def ui:=Zs 3431638857454
def pX:=Zs 1105134885585607487973
def pE:=Zs 7628415173616367598
def ug:=Zs 1031922091645059281636
def uK:=Zs 116637891752989529044852
def uh:=Zs 911233529323978308200
def uT:=Zs 31309745659619699049500012802283
def V6:=Zs 10
def Mo:=Zs 13
def tm:=Zs 17644898687968211596358387
def tG:=Zs 35778437800009647945100025280498
def uL:=Zs 17060488605503868077158631
def uZ:=Zs 55093292739392755
def pF:=Zs 443443530430949
def ra:=Zs 213611764
def sg:=Zs 4494390303114087976601388614138483
def KL:=Zs 976800284697052295653
def pA:=Zs 130803973387947389729395
def sI:=Zs 26809825140
def xY:=Zs 29204787948
def Sg:=Zs 1782510
def qg:=Zs 33550107350467769213589783148404
def LX:=Zs 215693303
def Mb:=Zs 976437142222901180915
def qM:=Zs 79685283910878609754414002411765528948
def ry:=Zs 624917258467931441641994966354702492689435799164894607732
def sN:=Zs 252402070632061681245049485159
def rY:=Zs 142089733905761800170782391067854197023603060
def ge:=Zs 27602500084
def qw:=Zs 37996904330671830837608268511218
def sF:=Zs 18118335881553569239365492
def OH:=Zs 17951955403645488264215668
def sy:=Zs 35778437800009645231643874195438
def sh:=Zs 2737965506957603828622342734316372128205209500517
def NE:=Zs 3599683368549
def Te:=Zs 3879105836280
def Jd:=Zs 123684178751010306096244
def pN:=Zs 75032822389165827498091159158315890277
def VK:=Zs 133285061636388388699252
def pI:=Zs 75032822389165827498091159437738358008
def rR:=Zs 10199716340592478507137650501975463852901
def rG:=Zs 1086929524367448131756011369534350148859764
def pW:=Zs 1110076046138764063834237430217610912069620
def rL:=Zs 4863603754326087021143432764159844
def pH:=Zs 8672469110459094248704979923575085037412
def qE:=Zs 15542395575244221092294893
def qh:=Zs 120354686084776726360677
def TT:=Zs 240908276
def OT:=Zs 65187361612083685
def NC:=Zs 482750265718631
def Pq:=Zs 1068315689476578538233
def sq:=Zs 15405399818851417478295795
def rQ:=Zs 279520541159132228653973911538
def ro:=Zs 133285780505720247890151
def pJ:=Zs 1971891176812982053264634098
def p7:=Zs 1086929524367448131756011377935100004774373
def sw:=Zs 1110076046138764102080701020758244404736485
def ri:=Zs 142089733905761795162785913788739687513043429
def sE:=Zs 8491636909120688529343838863591971911527
def rC:=Zs 8672469110459094547505476698147787536231
def rF:=Zs 1110076046138764024709264951448002811819879
def q5:=Zs 279520541159132229269492281586
def sM:=Zs 167749949239109037913906307544443359851897579177959104038613889773
def qI:=Zs 38141922513911831170363331495283814725745550307439341
def pV:=Zs 10238644362738588739862445528835654287828425086056278026547961
def qd:=Zs 4049128012238005981771908259705593
def p0:=Zs 21471993502605956861681193806566371911505938719659269446860407519973
def rm:=Zs 38141922513911831170363331378621246712700701599546085
def so:=Zs 2327998200312001414206746299964675702679486001913
def sr:=Zs 21471993502605956852980007365348466886579270705781276135336810722029
def rh:=Zs 4882166081780714049523331967776899287406248833585066733
def sj:=Zs 1310546478430539358702393027670194512120309695020340764800119545
def qW:=Zs 297983769639936160249226804666762495080151610225401
def rl:=Zs 2748415168333562286732795601230501819110148024083113495009036735298277
def p9:=Zs 4882166081780714049523331967660236719393203984877173477
def ru:=Zs 279519045312575352653047543794
def r5:=Zs 133285067230498959208679
def qu:=Zs 242302863918219708206996467954
def HO:=Zs 7628415308062865394
def sA:=Zs 8491689321417145680479908677225753245285
def HF:=Zs 34
def zm:=Zs 31106741492
def qQ:=Zs 10199716340592171154304540414468861801188
def p8:=Zs 10199716340592460381588858729661305008868
def r9:=Zs 18118335881553466445345508
def sd:=Zs 2319146992838869889274654956
def sK:=Zs 141549499074639134487790
def MM:=Zs 48
def KF:=Zs 97
def Ef:=Zs 211319393
def M2:=(⟨#[133]⟩:Str)
def SH:=(⟨#[160]⟩:Str)
def Qu:=Zs 35112424243170536634039651561957
def pR:=Zs 32184629861
def qP:=Zs 4863603754326021662653768917414123
def fK:=Zs 244939892
def O9:=Zs 5925384337339730582562627280165468875347
def Ki:=(⟨#[0]⟩:Str)
def Py:=Zs 7
def Sf:=Zs 8
def QY:=Zs 9
def Ka:=Zs 11
def Lo:=Zs 12
def P8:=Zs 27
def IC:=Zs 92
def JC:=(⟨#[8232]⟩:Str)
def T6:=(⟨#[8233]⟩:Str)
def MP:=Zs 98
def Mq:=Zs 116
def kl:=Zs 110
def Sy:=Zs 118
def Ke:=Zs 102
def VL:=Zs 114
def Vo:=Zs 101
def Vy:=Zs 78
def d8:=Zs 95
def T4:=Zs 76
def VV:=Zs 80
def qS:=Zs 140489386011736319411931753814264269573438067
def jd:=Zs 173800435
def ir:=Zs 240909299
def mo:=Zs 2103823416895867087977175091
def o8:=Zs 884057696458012664403
def om:=Zs 113159385146489539076819
def oR:=Zs 884057696461852866420
def Oo:=Zs 245102180
def jI:=Zs 226129764
def mw:=Zs 215691495
def ml:=Zs 251394404
def nU:=Zs 6906700753626985061
def gR:=Zs 244873317
def yg:=Zs 27057207912
def bu:=Zs 1882103
def L3:=Zs 31089784933
def mR:=Zs 109
def KH:=Zs 30806881253
def nO:=Zs 884057696465306808953
def cX:=Zs 106
def tu:=Zs 32148978291
def o9:=Zs 6906700753624660331
def Qm:=Zs 1914864
def K4:=Zs 3979786073701
def gT:=Zs 3771490562788
def oC:=Zs 113159385147559275853806
def bZ:=Zs 243086064
def c9:=Zs 3876689867507
def hH:=Zs 236485224
def hK:=Zs 30292865509
def g7:=Zs 29225646565
def rU:=Zs 26254062322
def ip:=Zs 228159716
def px:=Zs 1782007
def KS:=Zs 3978185832564
def nN:=Zs 219771108
def vm:=Zs 26266465006
def vK:=Zs 1962233
def Uz:=Zs 12532
def mM:=Zs 447976340009714
def nw:=Zs 211548005
def bI:=Zs 105
def dl:=Zs 1653477
def iH:=Zs 504875263521508
def uI:=Zs 924201079557676291106519161
noncomputable def ar:Program:=PySem.Challenge.pw_te0005_03
def Uk:PySem.Challenge.pw_te0005_03=ar:=rfl
def gp:OpenLaw:={PySem.Challenge.rw_te0005_03 with prog:=ar}
def CE:PySem.Challenge.rw_te0005_03=gp:=congrArg (fun p=>({PySem.Challenge.rw_te0005_03 with prog:=p}:OpenLaw)) Uk
def U3a:PySem.W.Fast.tw17960256430627541270 (PySem.W.Fast.tw2368527892694137696 gp)=true:=by kernel_rfl
def U3:gp.wellSaid=true:=by rw[PySem.W.Fast.te9446332074065402090];unfold PySem.W.Fast.tw9446332074065402090;rw[U3a];kernel_rfl
noncomputable def tM(ok:Thread→Bool)(st:SharedT→Thread→κ (SharedT×Thread)):Nat→SharedT→Thread→κ SharedT
 |0,_,_=>none
 |n+1,s,t=>match through t with
  |true=>some s
  |false=>match ok t with
   |false=>none
   |true=>match st s t with
    |some (s',t')=>tM ok st n s' t'
    |none=>none
def Jw:∀ {n:Nat} {s s':SharedT} {t:Thread},
  tM (stepOk n₀ ann) (stepT (denote tb) p w) n s t=some s'→topRun tb p w n₀ ann n s.abs t=some s'.abs:=by
 intro n;induction n with
 |zero=>intro _ _ _ h;injection h
 |succ n ih=>
  intro s s' t h;unfold tM at h;unfold topRun;cases he:through t with
  |true=>rw[he] at h;cases h;rfl
  |false=>
   rw[he] at h;cases hk:stepOk n₀ ann t with
   |false=>rw[hk] at h;cases h
   |true=>
    rw[hk] at h;cases hs:stepT (denote tb) p w s t with
    |none=>rw[hs] at h;cases h
    |some r=>obtain⟨s₂,t₂⟩:=r;rw[hs] at h;rw[stepT_spec hs];exact ih h
def Ss{p q:Program}{loose:List Str}{Xt:χ→Bool}{α:Type}{Yf:χ→α}{Ya:World→α}{N:Nat}{g0:Bool}{T₀:Params→BT}{n:Nat}{life:Life}{gs₀:Array GenState}{d₀:Drawn}{k₀:Nat}{m₀:Nat}{ann:κ π}{X7:Nat}
  (open_:∀ w:World,(fencedOpening treeTable p w N).map (fun s=>(s.heap,s.gens,s.drawn,s.toks))=some (absHeap (T₀ w.params) n life,gs₀,d₀,k₀))
  (size:∀ w:World,((absHeap (T₀ w.params) n life).isNs mainGlobals&&gs₀.size == 0,(absHeap (T₀ w.params) n life).objs.size,(absHeap (T₀ w.params) n life).nsMap mainGlobals "__annotations__")=(true,m₀,ann))
  (run:∀ w:World,(fun os=>(tM (stepOk m₀ ann) (stepT (denote treeTable) p w) X7 ⟨T₀ w.params,n,life,gs₀,d₀,k₀,os⟩ (topStub p)).map fun s=>
   ((staticsOk (importedModules p.main.body) (absHeap (T₀ w.params) n life) s.abs.heap&&namesBound p s.abs.heap&&gensDone s.abs&&laidKept (absHeap (T₀ w.params) n life) s.abs.heap),
    openSeen q loose (importedModules p.main.body) Xt g0 s.abs,Yf s.abs))=fun U=>some (true,openGood q loose,Ya w)) (le:Nat.ble X7 N=true):LeftO p q loose Xt Yf Ya N g0:=fun w=>by
 obtain⟨⟨h,gs,d,k,os⟩,e,e'⟩:=Option.map_eq_some_iff.mp (open_ w);obtain⟨rfl,rfl,rfl,rfl⟩ : h=absHeap (T₀ w.params) n life∧gs=gs₀∧d=d₀∧k=k₀:=by simpa using e'
 obtain⟨z1,z2,z3⟩ : _∧_∧_:=by simpa only [Prod.mk.injEq] using size w
 obtain⟨s₁,r₁,l⟩:=Option.map_eq_some_iff.mp (congrFun (run w) os);obtain⟨l1,l2,l3⟩ : _∧_∧_:=by simpa only [Prod.mk.injEq] using l
 have r:=topRun_mono (N-X7) _ _ _ _ (Jw r₁);rw[show X7+(N-X7)=N by exact Nat.add_sub_cancel' (Xc le)] at r;have t:topFrom treeTable p w N ⟨absHeap (T₀ w.params) n life,gs,d,k,os⟩=some s₁.abs:=by
  unfold topFrom;rw[z1,z2,z3];show Option.bind (topRun treeTable p w m₀ ann N (SharedT.abs ⟨T₀ w.params,n,life,gs,d,k,os⟩) (topStub p)) _=_;rw[r];show (match staticsOk (importedModules p.main.body) (absHeap (T₀ w.params) n life) s₁.abs.heap&&namesBound p s₁.abs.heap&&gensDone s₁.abs&&laidKept (absHeap (T₀ w.params) n life) s₁.abs.heap with|true=>_|false=>_)=_;rw[l1]
 unfold openEnds;rw[e];show (topFrom treeTable p w N _).map _=_;rw[t];exact congrArg some (Prod.ext l2 l3)
noncomputable def T₀(P:Params):BT:=((((((((((BT.nil.ins 0 (boot_o_0 P)).ins 1 (boot_o_1 P)).ins 2 (boot_o_2 P)).ins 3 (boot_o_3 P)).ins 4 (boot_o_4 P)).ins 5 (boot_o_5 P)).ins 6 (boot_o_6 P)).ins 7 (boot_o_7 P)).ins 8 (boot_o_8 P)).ins 9 (boot_o_9 P)).ins 10 (boot_o_10 P)
def R5(P:Params):boot_heap P=absHeap (T₀ P) 11 {}:=by kernel_rfl
def Jm:∀ w:World,(fencedOpening treeTable ar w 14200).map (fun s=>(s.heap,s.gens,s.drawn,s.toks))=some (absHeap (T₀ w.params) 11 {},Array.mk [],boot_drawn,boot_toks):=fun w=>by
 rw[←R5];exact boot_open (by kernel_rfl) (by decide) (fun U=>by kernel_rfl) w
def LM:∀ w:World,((absHeap (T₀ w.params) 11 {}).isNs mainGlobals)=true:=fun w=>by kernel_rfl
def OM:∀ w:World,(absHeap (T₀ w.params) 11 {}).objs.size=11:=fun w=>by kernel_rfl
def UZ:∀ w:World,(absHeap (T₀ w.params) 11 {}).nsMap mainGlobals "__annotations__"=some (.ref 6):=fun w=>by kernel_rfl
def Rh:∀ w:World,((absHeap (T₀ w.params) 11 {}).isNs mainGlobals&&(Array.mk []:Array GenState).size == 0,(absHeap (T₀ w.params) 11 {}).objs.size,(absHeap (T₀ w.params) 11 {}).nsMap mainGlobals "__annotations__")=(true,11,some (.ref 6)):=fun w=>by
 rw[LM,OM,UZ];rfl
section
set_option genSizeOf false
set_option genInjectivity false
def aV{α:Type}{p:α→Bool}{l:List α}(h:l.all p=true):∀ x,x∈l→p x=true:=XK.mp h
def aw(h:(a&&b)=true):a=true∧b=true:=Wp.mp h
def et{α:Type}{Q:α→Prop}:∀ x∈([]:List α),Q x:=nofun
def da{α:Type}{Q:α→Prop}{a:α}{l:List α}(h:Q a)(r:∀ x∈l,Q x):∀ x∈a::l,Q x:=List.forall_mem_cons.mpr ⟨h,r⟩
def kP{Q:Nat→Prop}(h:k<10)(a0:Q 0)(a1:Q 1)(a2:Q 2)(a3:Q 3)(a4:Q 4)(a5:Q 5)(a6:Q 6)(a7:Q 7)(a8:Q 8)(a9:Q 9):Q k:=(da a0 (da a1 (da a2 (da a3 (da a4 (da a5 (da a6 (da a7 (da a8 (da a9 et)))))))))) k (List.mem_range.mpr h)
def wr(h:k<10):k=0∨k=1∨k=2∨k=3∨k=4∨k=5∨k=6∨k=7∨k=8∨k=9:=by
 apply kP h<;>decide
def aX{α:Type}(l:List α):l++[]=l:=List.append_nil l
def aB{α:Type}{a b:List α}:(a++b).length=a.length+b.length:=List.length_append
def bP{α:Type}(a b c:List α):a++b++c=a++(b++c):=XW a b c
def dH{α:Type}{a:α}{l:List α}:(a::l).length=l.length+1:=List.length_cons
def aK{α:Type}{a:α}{l:List α}(r:List α)(h:a∈l):a∈l++r:=List.mem_append_left r h
def bF{α:Type}{a:α}(l:List α){r:List α}(h:a∈r):a∈l++r:=List.mem_append_right l h
def aJ(h:Nat.beq a b=true):a=b:=Nat.eq_of_beq_eq_true h
def bU{α:Type}{a b:α}(h:a∈[b]):a=b:=List.mem_singleton.mp h
def cI{α:Type}{a b:α}{l:List α}(h:a∈b::l):a=b∨a∈l:=Xf.mp h
def cC{α B:Type}{f:α→B}{l:List α}{b:B}(h:b∈l.map f):∃ a,a∈l∧f a=b:=WY.mp h
def cT(n:Nat):(0:Int)≤(n:Int):=Int.natCast_nonneg n
def nleT(h:Nat.ble a b=true):a≤b:=Xc h
def bO(a:Int):a≤a:=Int.le_refl a
def wM(a:Int):a+0=a:=XL a
def bM{α:Type}{a b:α}(h:some a=some b):a=b:=Option.some.inj h
def dc(h:m<n):m∈List.range n:=List.mem_range.mpr h
def bw{m n:Nat}(h:m≤n):(m:Int)≤(n:Int):=X5 h
def cZ{α:Type}{a:α}{l r:List α}(h:a∈l++r):a∈l∨a∈r:=List.mem_append.mp h
def xk(hn:n+1≤m)(h:a+m≤k):a+1+n≤k:=by rw[Xo];exact WZ (W1 hn a) h
def uy(hn:n+1≤m)(h:a+4*m≤k):a+3+4*n≤k:=by rw[Xo];exact WZ (WZ (Xh _) (W1 (W5 4 hn) a)) h
def hB{a b:Int}{j:Nat}(h:0≤a∧a≤20*(j:Int))(g:0≤b-a∧b-a≤20):0≤b∧b≤20*((j+1:Nat):Int):=by lia
def o3(h:k≤2):k=0∨k=1∨k=2:=(show ∀ x∈List.range 3,x=0∨x=1∨x=2 from da (.inl rfl) (da (.inr (.inl rfl)) (da (.inr (.inr rfl)) et))) k (List.mem_range.mpr (Nat.lt_succ_of_le h))
def o6(h:k<6):k=0∨k=1∨k=2∨k=3∨k=4∨k=5:=(show ∀ x∈List.range 6,x=0∨x=1∨x=2∨x=3∨x=4∨x=5 by decide) k (List.mem_range.mpr h)
def sS(j:Nat):((j+1:Nat):Int)-1=j:=Int.add_sub_cancel j 1
def mB{x j c k:Nat}(h:j≤k)(g:x≤c*j):x≤c*k:=WZ g (W5 c h)
def ol{x:Int}{j k c:Nat}(h:j≤k)(g:x≤(c:Int)*(j:Int)):x≤((c*k:Nat):Int):=W3 g (by rw[←Int.natCast_mul];exact X5 (W5 c h))
noncomputable abbrev sU (s:χ) (h:Heap) (t:Tok):χ:={s with heap:=h,toks:=t}
def gd{α:Type}(b:Bool)(k:κ α):κ α:=Bool.rec none k b
def ob{α B:Type}(m:κ α)(f:α→κ B):κ B:=Option.rec none f m
def obp{α B γ:Type}(m:κ (α×B))(f:α→B→κ γ):κ γ:=Option.rec none (fun p=>Prod.rec f p) m
def kQ{α B γ δ:Type}(m:κ (α×B×γ))(f:α→B→γ→κ δ):κ δ:=Option.rec none (fun p=>Prod.rec (fun a q=>Prod.rec (fun b c=>f a b c) q) p) m
structure aD where
 c:Int
 l:List (Nat×Int)
def wL(i:Int):Bool:=Int.rec (fun n=>n.beq 0) (fun U=>false) i
def s8(v:Nat)(a:Int)(l:List (Nat×Int)):List (Nat×Int):=List.rec [(v,a)] (fun p r ih=>Bool.rec (Bool.rec (p::ih) ((v,a)::p::r) (v.blt p.1)) (Bool.rec ((p.1,a+p.2)::r) r (wL (a+p.2))) (Nat.beq p.1 v)) l
noncomputable def vl:List (Nat×Int)→List (Nat×Int)→List (Nat×Int)
 |[],y=>y
 |(v,a)::r,y=>vl r (s8 v a y)
noncomputable def aD.k(i:Int):aD:=⟨i,[]⟩
def addL(l r:List (Nat×Int)):List (Nat×Int):=List.rec l (fun U U U=>List.rec r (fun U U U=>vl l r) l) r
def aD.add(x y:aD):aD:=⟨x.c+y.c,addL x.l y.l⟩
noncomputable def aD.neg(x:aD):aD:=⟨-x.c,x.l.map fun p=>(p.1,-p.2)⟩
def aD.sub(x y:aD):aD:=x.add y.neg
abbrev Bd:=List (Int×Int)
noncomputable def rp:Bd→Nat→κ (Int×Int)
 |[],_=>none
 |p::_,0=>some p
 |_::r,n+1=>rp r n
def eJ(a b:Int):Bool:=Int.rec (fun U=>true) (fun U=>false) (b-a)
def u5(B:Bd)(l:List (Nat×Int)):κ Int:=List.rec (some 0) (fun p U ih=>Option.rec none (fun q=>Option.rec none (fun t=>some (Int.rec (fun U=>p.2*q.1) (fun U=>p.2*q.2) p.2+t)) ih) (rp B p.1)) l
def aD.lo(B:Bd)(x:aD):κ Int:=Option.rec none (fun t=>some (x.c+t)) (u5 B x.l)
noncomputable def jY(a b:Int):Bool:=match a,b with
 |.ofNat x,.ofNat y=>x.blt y
 |.negSucc _,.ofNat _=>true
 |.ofNat _,.negSucc _=>false
 |.negSucc x,.negSucc y=>y.blt x
noncomputable def jM(a b:Int):Bool:=match a,b with
 |.ofNat x,.ofNat y=>x.beq y
 |.negSucc x,.negSucc y=>x.beq y
 |_,_=>false
def BS(B:Bd)(x y:aD):κ Bool:=Option.rec none (fun d=>Bool.rec (Option.rec none (fun e=>Bool.rec none (some false) (eJ 0 e)) ((x.sub y).lo B)) (some true) (eJ 1 d)) ((y.sub x).lo B)
def pL(x y:aD):Bool:=List.rec (List.rec true (fun U U U=>false) y.l) (fun U U U=>false) x.l
def n8(B:Bd)(x y:aD):κ Bool:=Bool.rec (BS B x y) (some (jY x.c y.c)) (pL x y)
def me(B:Bd)(x y:aD):κ Bool:=Option.rec none (fun b=>some !b) (n8 B y x)
def zv(B:Bd)(x y:aD):κ Bool:=Option.rec none (fun d=>Option.rec none (fun e=>Bool.rec (Bool.rec (Bool.rec none (Bool.rec none (some true) (eJ 0 e)) (eJ 0 d)) (some false) (eJ 1 e)) (some false) (eJ 1 d)) ((x.sub y).lo B)) ((y.sub x).lo B)
def tI(B:Bd)(x y:aD):κ Bool:=Bool.rec (zv B x y) (some (jM x.c y.c)) (pL x y)
inductive Pc where
 |lit (l:ξ)
 |var (i:Nat)
 |rep (ch:Nat) (n:aD)
abbrev SS:=List Pc
noncomputable def SS.app:SS→SS→SS
 |[],y=>y
 |[.lit a],.lit b::r=>.lit (a++b)::r
 |p::x,y=>p::SS.app x y
noncomputable def SS.k(l:ξ):SS:=match l with|[]=>[]|l=>[.lit l]
def lenA{α:Type}(l:List α):Nat:=List.rec 0 (fun U U ih=>Nat.succ ih) l
noncomputable def SS.len:SS→aD
 |[]=>.k 0
 |.lit l::r=>(aD.k (.ofNat (lenA l))).add (SS.len r)
 |.var i::r=>(aD.mk 0 [(2*i+1,1)]).add (SS.len r)
 |.rep _ n::r=>n.add (SS.len r)
noncomputable def SS.conc:SS→κ ξ
 |[]=>some []
 |[.lit l]=>some l
 |_=>none
def aD.conc(x:aD):κ Int:=List.rec (some x.c) (fun U U U=>none) x.l
def gy(a:ξ):ξ→Bool:=List.rec (fun b=>List.rec true (fun U U U=>false) b) (fun x U ih b=>List.rec false (fun y r U=>Bool.rec false (ih r) (x.beq y)) b) a
noncomputable def v9(s:Str):Nat:=List.rec 1 (fun c U ih=>Nat.add c (Nat.mul 1114112 ih)) s.cps.toList
def seq(a b:Str):Bool:=Bool.rec false (gy a.cps.toList b.cps.toList) (Nat.beq (v9 a) (v9 b))
def lk{α:Type}(x:Str)(l:List (Str×α)):κ α:=List.rec none (fun p U ih=>Prod.rec (fun y v=>Bool.rec ih (some v) (seq y x)) p) l
def ki(x:Str)(l:List Str):Bool:=List.rec false (fun y U ih=>Bool.rec ih true (seq y x)) l
def put{α:Type}(x:Str)(v:α)(l:List (Str×α)):List (Str×α):=List.rec [(x,v)] (fun p r ih=>Prod.rec (fun y u=>Bool.rec ((y,u)::ih) ((y,v)::r) (seq y x)) p) l
inductive BF where
 |len|isi|range
noncomputable def BF.id:BF→String
 |.len=>"len"
 |.isi=>"isinstance"
 |.range=>"range"
def BF.val(k:BF):π:=match k with
 |.range=>.type "range"
 |k=>.builtin k.id
inductive BM where
 |append|pop|join|starts|copy
noncomputable def BM.id:BM→String
 |.append=>"list.append"
 |.pop=>"list.pop"
 |.join=>"str.join"
 |.starts=>"str.startswith"
 |.copy=>"dict.copy"
inductive AV where
 |none
 |bool (b:Bool)
 |int (l:aD)
 |str (s:SS)
 |cell (k:Nat)
 |tup (xs:List AV)
 |obj (C:Addr) (fs:List (Str×AV))
 |dict
 |cls (a:Addr)
 |fn (a:Addr)
 |bi (k:BF)
 |meth (f:Addr) (self:AV)
 |any (i:Nat)
 |rng (i n:Nat)
 |evx (C:Addr) (h:Bool)
inductive ak where
 |list (xs:List AV)
 |rows (t:SS) (n:aD)
 |spl (i:Nat) (xs:List AV)
 |seg (xs:List AV)
 |inst (C:Addr) (fs:List (Str×AV))
 |any (i:Nat)
 |hd (i:Nat) (C:Addr) (h:Bool)
abbrev St:=List ak
def ao{α:Type}(l:List α):Nat→κ α:=List.rec (fun U=>none) (fun a U ih n=>Nat.rec (some a) (fun k U=>ih k) n) l
def dT{α:Type}(l:List α):Nat→α→List α:=List.rec (fun U U=>[]) (fun a r ih n x=>Nat.rec (x::r) (fun k U=>a::ih k x) n) l
structure CI where
 init:κ Addr
 frozen:Bool
 mro:List Addr
 meths:List (Str×Addr)
 consts:List (Str×AV)
 flds:List Str
structure nJ where
 args:List Str
 dflt:List AV
 body:List Stmt
 sc:List (Str×NameKind)
structure ac where
 v:List (Str×AV)
 sc:List (Str×NameKind)
inductive Fl where
 |next|ret (v:AV)
structure Pi where
 B:Bd
 fn:Addr→κ nJ
 ci:Addr→κ CI
 glob:Str→κ AV
 spec:St→Addr→List AV→List (Str×AV)→κ (AV×St)
 nm:Nat→Str
noncomputable def kO(v:AV):κ aD:=match v with|.int l=>some l|_=>none
noncomputable def mE(v:AV):κ SS:=match v with|.str s=>some s|_=>none
def s7(v:AV):κ ξ:=match v with|.str s=>s.conc|_=>none
def jN(v:AV):κ Int:=match v with|.int l=>l.conc|_=>none
noncomputable def DP(v:AV):κ Addr:=match v with|.cls C=>some C|_=>none
noncomputable def il(v:AV):κ Nat:=match v with|.cell k=>some k|_=>none
noncomputable def DB(c:ak):κ (List AV):=match c with|.list xs=>some xs|_=>none
noncomputable def Dv(c:ak):κ (Addr×List (Str×AV)):=match c with|.inst C fs=>some (C,fs)|_=>none
def jW(J:St)(k:Nat):κ (List AV):=ob (ao J k) DB
def ny(J:St)(k:Nat):κ (Addr×List (Str×AV)):=ob (ao J k) Dv
def bD{α:Type}(l:List α):Bool:=List.rec true (fun U U U=>false) l
def nW{α:Type}(l:List α):κ α:=List.rec none (fun a r U=>Bool.rec none (some a) (bD r)) l
def mU(o:κ Bool):κ Bool:=Option.rec none (fun b=>some (Bool.rec true false b)) o
def Cj(c:ak):κ Bool:=match c with
 |.list xs=>some (Bool.rec true false (bD xs))
 |.spl _ xs=>Bool.rec (some true) none (bD xs)
 |.inst _ _=>some true
 |.hd _ _ _=>some true
 |_=>none
def o0(B:Bd)(J:St)(v:AV):κ Bool:=match v with
 |.none=>some false
 |.bool b=>some b
 |.int l=>mU (tI B l (.k 0))
 |.str s=>n8 B (.k 0) s.len
 |.cell k=>ob (ao J k) Cj
 |.obj _ _=>some true
 |.tup xs=>gd (Nat.ble (lenA xs) 1000) (some (Bool.rec true false (bD xs)))
 |_=>none
def tP(a:ξ):ξ→Bool:=List.rec (fun b=>List.rec false (fun U U U=>true) b) (fun x U ih b=>List.rec false (fun y r U=>Bool.rec (Bool.rec false (ih r) (x.beq y)) true (x.blt y)) b) a
def nH(a:ξ):ξ→Bool:=List.rec (fun U=>true) (fun x U ih b=>List.rec false (fun y r U=>Bool.rec false (ih r) (x.beq y)) b) a
def wl(p q:Pc):Bool:=match p with
 |.lit a=>match q with|.lit b=>gy a b|_=>false
 |.var i=>match q with|.var j=>i.beq j|_=>false
 |_=>false
def v7(a:SS):SS→Bool:=List.rec (fun b=>List.rec true (fun U U U=>false) b) (fun p U ih b=>List.rec false (fun q r U=>Bool.rec false (ih r) (wl p q)) b) a
def Ac(B:Bd)(a b:SS):κ Bool:=ob (tI B a.len b.len) fun e=>Bool.rec (some false) (Bool.rec none (some true) (v7 a b)) e
def BH(B:Bd)(a b:SS):κ Bool:=Option.rec (Ac B a b) (fun x=>Option.rec (Ac B a b) (fun y=>some (gy x y)) b.conc) a.conc
def Vx(B:Bd)(a:SS)(b:AV):κ Bool:=match b with
 |.str b=>BH B a b
 |.none=>some false
 |_=>none
noncomputable def EH(a:AV):κ Bool:=match a with|.bool b=>some b|_=>none
def yh(B:Bd)(a b:AV):κ Bool:=match a with
 |.str s=>Vx B s b
 |.int x=>ob (kO b) fun y=>tI B x y
 |.none=>ob (mE b) fun U=>some false
 |.bool x=>ob (EH b) fun y=>some (x == y)
 |_=>none
noncomputable def isNone:AV→κ Bool
 |.none=>some true
 |.bi _=>.none
 |.any _=>.none
 |.evx _ _=>.none
 |_=>some false
noncomputable def Fi(a:AV):κ Nat:=match a with|.str [.lit [c]]=>some c|_=>none
def dB(c:Nat)(l:ξ):Bool:=List.rec false (fun b U ih=>Bool.rec ih true (c.beq b)) l
def IF(a y:AV):κ Bool:=match a with
 |.none=>ob (mE y) fun U=>some false
 |.str s=>
  ob s.conc fun x=>
  ob (s7 y) fun z=>
  some (gy z x)
 |.int l=>
  ob l.conc fun x=>
  ob (jN y) fun z=>
  some (jM z x)
 |_=>none
noncomputable def pP(a:AV):List AV→κ Bool
 |[]=>some false
 |y::r=>
  ob (pP a r) fun t=>
  ob (IF a y) fun b=>
  some (b ||t)
def tg(B:Bd)(a b:AV):κ Bool:=match a with
 |.int x=>
  ob (kO b) fun y=>
  n8 B x y
 |.str x=>
  ob (x.conc) fun i=>
  ob (s7 b) fun j=>
  some ((tP i j))
 |_=>none
def Ag(a b:AV):κ Bool:=match b with|.none=>isNone a|_=>none
def yH(a:AV)(s:SS):κ Bool :=
 ob (Fi a) fun c=>
 ob s.conc fun l=>
 some (dB c l)
def Cb(J:St)(a:AV)(k:Nat):κ Bool:=ob (jW J k) fun xs=>pP a xs
def LB(J:St)(a b:AV):κ Bool:=match b with
 |.str s=>yH a s
 |.cell k=>Cb J a k
 |.tup xs=>pP a xs
 |_=>none
def NL(a b:AV):κ Bool:=match b with
 |.str s=>mU (yH a s)
 |.tup xs=>mU (pP a xs)
 |_=>none
def cmp(B:Bd)(J:St)(op:CmpOp)(a b:AV):κ Bool:=match op with
 |CmpOp.Eq=>yh B a b
 |.NotEq=>mU (yh B a b)
 |.Is=>Ag a b
 |.IsNot=>mU (Ag a b)
 |.In=>LB J a b
 |.NotIn=>NL a b
 |.Lt=>tg B a b
 |.Gt=>tg B b a
 |.LtE=>mU (tg B b a)
 |.GtE=>mU (tg B a b)
def i7(B:Bd)(s:SS):κ AV:=match me B s.len (.k 1000000) with|some true=>some (.str s)|_=>none
noncomputable def kz:Nat→ξ→ξ
 |0,_=>[]
 |n+1,l=>l++kz n l
noncomputable def xW(m:Nat):List (Nat×Int)→Bool
 |[]=>true
 |p::r=>Nat.beq (p.2.natAbs % m) 0&&xW m r
noncomputable def pe(i:Int):Bool:=i.natAbs.ble 1000000
noncomputable def Dt(i:Int):κ Nat:=match i with|.ofNat (n+1)=>some (n+1)|_=>none
def C6(B:Bd)(a b:AV):κ AV:=match a with
 |.int x=>
  ob (kO b) fun y=>
  some (.int (x.add y))
 |.str x=>
  ob (mE b) fun y=>
  i7 B (x.app y)
 |_=>none
def FU(a b:AV):κ AV :=
 ob (kO a) fun x=>
 ob (kO b) fun y=>
 some (.int (x.sub y))
noncomputable def aD.smul(x:aD)(m:Int):aD:=⟨x.c*m,x.l.map fun p=>(p.1,p.2*m)⟩
def TY(x:aD)(b:AV):κ AV :=
 ob (jN b) fun y=>
 gd (pe y) <|
 some (.int (x.smul y))
def LU(B:Bd)(l:ξ)(m:Int):κ AV:=match m with
 |.ofNat m=>
  gd (pe (.ofNat m)) <|
  i7 B (.k (kz m l))
 |.negSucc _=>none
def NB(B:Bd)(l:ξ)(n:aD):κ AV :=
 ob (nW l) fun ch=>
 ob (n8 B n (.k 0)) fun neg=>
 gd (Bool.rec true false neg) <|
 i7 B [.rep ch n]
def Fq(B:Bd)(s:SS)(b:AV):κ AV :=
 ob (s.conc) fun l=>
 ob (kO b) fun n=>
 Option.rec (NB B l n) (fun m=>LU B l m) n.conc
def EU(B:Bd)(a b:AV):κ AV:=match a with
 |.int x=>TY x b
 |.str s=>Fq B s b
 |_=>none
def UL(x:aD)(b:AV):κ AV :=
 ob (jN b) fun y=>
 ob (Dt y) fun m=>
 gd (xW m x.l) <|
 some (.int (.k (Int.fmod x.c (.ofNat m))))
noncomputable def vM(i:Int):κ Nat:=match i with|.ofNat n=>some n|.negSucc _=>none
def vI(a b:AV):κ AV:=match a with
 |.int x=>UL x b
 |_=>none
def lV(B:Bd)(op:Operator)(a b:AV):κ AV:=match op with
 |.Add=>C6 B a b
 |.Sub=>FU a b
 |.Mult=>EU B a b
 |.Mod=>vI a b
 |_=>none
noncomputable def bN{α:Type}:Nat→List α→List α
 |0,_=>[]
 |_+1,[]=>[]
 |n+1,a::r=>a::bN n r
noncomputable def bT{α:Type}:Nat→List α→List α
 |0,l=>l
 |_+1,[]=>[]
 |n+1,_::r=>bT n r
noncomputable def place(n:Nat)(j:Int):κ Nat:=seqIndex? j n
noncomputable def clip(n:Nat)(i:Int):Nat:=(max 0 (min (if i<0 then i+(n:Int) else i) (n:Int))).toNat
def JM(l:ξ)(n:aD):κ AV :=
 ob n.conc fun j=>
 ob (place (lenA l) j) fun p=>
 ob (ao l p) fun c=>
 some (.str [.lit [c]])
def FT(s:SS)(n:aD):κ AV:=ob s.conc fun l=>JM l n
def iZ(xs:List AV)(n:aD):κ AV :=
 ob n.conc fun j=>
 ob (place (lenA xs) j) fun p=>
 ao xs p
def LZ(xs:List AV)(n:aD):κ AV :=
 ob n.conc fun j=>
 gd (jM j (-1)) <|
 ob (place (lenA xs) (-1)) fun p=>
 ao xs p
def Uu(C:Addr)(h:Bool)(n:aD):κ AV :=
 ob n.conc fun j=>
 gd (jM j 0) <|
 some (.evx C h)
def xe(J:St)(k:Nat)(n:aD):κ AV :=
 ob (ao J k) fun c=>
 match c with
 |.list xs=>iZ xs n
 |.spl _ xs=>LZ xs n
 |.hd _ C h=>Uu C h n
 |_=>none
def JR(xs:List AV)(n:aD):κ AV :=
 ob n.conc fun j=>
 gd (pe j) <|
 ob (place (lenA xs) j) fun p=>
 ao xs p
def mc(_β:Bd)(J:St)(v i:AV):κ AV:=match v with
 |.str s=>ob (kO i) fun n=>FT s n
 |.cell k=>ob (kO i) fun n=>xe J k n
 |.tup xs=>ob (kO i) fun n=>JR xs n
 |_=>none
def cut{α:Type}(l:List α)(lo hi:κ Int):List α :=
 let n:=lenA l
 let a:=match lo with|some i=>clip n i|none=>0
 let b:=match hi with|some i=>clip n i|none=>n
 bN (b-a) (bT a l)
def tU(v:κ AV):κ (κ Int):=Option.rec (some none) (fun v=>ob (jN v) fun i=>some (some i)) v
mutual
noncomputable def d6(n:Nat):AV→Bool
 |.cell k=>k.blt n
 |.tup xs=>eB n xs
 |.obj _ fs=>jO n fs
 |.meth _ s=>d6 n s
 |_=>true
noncomputable def eB(n:Nat):List AV→Bool
 |[]=>true
 |x::r=>match d6 n x with|true=>eB n r|false=>false
noncomputable def jO(n:Nat):List (Str×AV)→Bool
 |[]=>true
 |x::r=>match d6 n x.2 with|true=>jO n r|false=>false
end
def ew(n:Nat):ak→Bool
 |.list xs=>eB n xs
 |.spl _ xs=>eB n xs
 |.seg xs=>eB n xs
 |.rows _ _=>true
 |.inst _ fs=>jO n fs
 |.any _=>true
 |.hd _ _ _=>true
noncomputable def fH(n:Nat):List ak→Bool
 |[]=>true
 |c::r=>match ew n c with|true=>fH n r|false=>false
def gN(n:Nat)(v:AV)(J:St):St:=match Nat.beq (lenA J) n with
 |true=>J
 |false=>match d6 n v with
  |false=>J
  |true=>match fH n (bN n J) with
   |true=>bN n J
   |false=>J
noncomputable def l7{α:Type}(names:List Str):List (Str×α)→List (Str×α)→Bool
 |_,[]=>true
 |sl,(k,v)::r=>match ki k names with
  |true=>match lk k sl with
   |none=>l7 names (sl++[(k,v)]) r
   |some _=>false
  |false=>false
noncomputable def ik{α:Type}:List (Str×α)→List (Str×α)→List (Str×α)
 |sl,[]=>sl
 |sl,(x,d)::r=>match lk x sl with
  |none=>ik (sl++[(x,d)]) r
  |some _=>ik sl r
noncomputable def e8{α:Type}(sl:List (Str×α)):List Str→List (Str×α)
 |[]=>[]
 |x::r=>match lk x sl with
  |some v=>(x,v)::e8 sl r
  |none=>e8 sl r
noncomputable def lW{α:Type}(sl:List (Str×α)):List Str→Bool
 |[]=>true
 |x::r=>match lk x sl with|some _=>lW sl r|none=>false
def fE{α:Type}(names:List Str)(dflt pos:List α)(kw:List (Str×α)):κ (List (Str×α)) :=
 gd (Nat.ble (lenA pos) (lenA names)) <|
 gd (Nat.ble (lenA dflt) (lenA names)) <|
 gd (l7 names (names.zip pos) kw) <|
 gd (lW (names.zip pos++kw) (bN (lenA names-lenA dflt) names)) <|
 some ((e8 (ik (names.zip pos++kw) ((bT (lenA names-lenA dflt) names).zip dflt)) names))
inductive It where
 |lst (k i:Nat)
 |vals (l:List AV)
noncomputable def wy:Nat→Nat→List AV
 |_,0=>[]
 |i,n+1=>.int (.k (.ofNat i))::wy (i+1) n
def yW(J:St)(v:AV):κ It:=match v with
 |.cell k=>ob (jW J k) fun U=>some (.lst k 0)
 |.str s=>ob s.conc fun l=>some (.vals (l.map fun c=>.str [.lit [c]]))
 |.rng i n=>some (.vals (wy i n))
 |_=>none
def pQ(k i:Nat)(xs:List AV):κ (AV×It):=ob (ao xs i) fun v=>some (v,.lst k (i+1))
def z7(l:List AV):κ (AV×It):=List.rec none (fun v r U=>some (v,.vals r)) l
def mN(J:St)(i:It):κ (κ (AV×It)):=match i with
 |.lst k i=>ob (jW J k) fun xs=>some (pQ k i xs)
 |.vals l=>some (z7 l)
noncomputable def zA(v:AV):Bool:=match v with|.bi _=>false|.any _=>false|.evx _ _=>false|_=>true
def xT(k:Nat)(x:Str)(c:CI):κ AV:=match lk x c.meths with
 |some f=>some (.meth f (.cell k))
 |none=>lk x c.consts
def JF(fs:List (Str×AV))(x:Str):κ AV :=
 ob (lk x fs) fun v=>
 gd (zA v) <|
 some v
def xB(Y:Pi)(J:St)(k:Nat)(x:Str):κ AV :=
 obp (ny J k) fun C fs=>
 Option.rec (ob (Y.ci C) fun c=>xT k x c) (fun v=>gd (zA v) (some v)) (lk x fs)
def hY(Y:Pi)(J:St)(v:AV)(x:Str):κ AV:=match v with
 |.cell k=>xB Y J k x
 |.obj _ fs=>JF fs x
 |_=>none
def Hl(Y:Pi)(C:Addr)(fs:List (Str×AV))(x:Str):Bool:=match lk x fs with
 |some _=>true
 |none=>match Y.ci C with
  |some c=>ki x c.flds
  |none=>false
def yT(Y:Pi)(J:St)(k:Nat)(x:Str)(v:AV):κ St :=
 obp (ny J k) fun C fs=>
 gd (Hl Y C fs x) <|
 gd (Nat.ble (lenA fs) 900) <|
 some (dT J k (.inst C (put x v fs)))
def qB(Y:Pi)(D C:Addr):κ Bool :=
 ob (Y.ci D) fun c=>
 ob (Y.ci C) fun U=>
 some ((c.mro.any (Nat.beq C)))
def q7(Y:Pi)(J:St)(v:AV)(C:Addr):κ Bool:=match v with
 |.obj D _=>qB Y D C
 |.cell k=>obp (ny J k) fun D U=>qB Y D C
 |.evx D h=>gd (D.beq C) (some h)
 |_=>none
noncomputable def xS(Y:Pi)(J:St)(v:AV):List AV→κ Bool
 |[]=>some false
 |c::r=>
  ob (DP c) fun C=>
  ob (q7 Y J v C) fun b=>
  Bool.rec (xS Y J v r) (some true) b
noncomputable def zh(sep:SS):List AV→κ SS
 |[]=>some []
 |a::r=>
  ob (mE a) fun s=>
  ob (zh sep r) fun t=>
  some (Bool.rec (s.app (sep.app t)) s (bD r))
def Dl(J:St)(v:AV):κ aD:=match v with
 |.str s=>some s.len
 |.cell k=>ob (jW J k) fun xs=>some (.k (.ofNat (lenA xs)))
 |_=>none
def new(J:St)(c:ak):AV×St:=(.cell (lenA J),J++[c])
def CK(Y:Pi)(x:Str):κ BM:=Bool.rec (Bool.rec none (some .pop) (seq x (Y.nm 1))) (some .append) (seq x (Y.nm 0))
noncomputable def IJ(c:ak):Bool:=match c with|.list _=>true|.rows _ _=>true|.spl _ _=>true|_=>false
def Ek(Y:Pi)(x:Str):κ BM:=Bool.rec (Bool.rec none (some .starts) (seq x (Y.nm 3))) (some .join) (seq x (Y.nm 2))
def DK(Y:Pi)(x:Str):κ BM:=Bool.rec none (some .copy) (seq x (Y.nm 4))
def zK(Y:Pi)(J:St)(o:AV)(x:Str):κ BM:=match o with
 |.cell k=>ob (ao J k) fun c=>gd (IJ c) <|CK Y x
 |.str _=>Ek Y x
 |.dict=>DK Y x
 |_=>none
def HB(B:Bd)(J:St)(k:Nat)(v:AV)(c:ak):κ (AV×St):=match c with
 |.list xs=>
  gd (Nat.ble (lenA xs) 100000) <|
  some (.none,dT J k (.list (xs++[v])))
 |.spl i xs=>
  gd (Nat.ble (lenA xs) 10000) <|
  some (.none,dT J k (.spl i (xs++[v])))
 |.rows t n=>
  ob (mE v) fun s=>
  ob (me B n (.k 1000000)) fun b=>
  gd b <|
  some (.none,dT J k (.rows (t.app s) (n.add (.k 1))))
 |_=>none
def GB(B:Bd)(J:St)(o:AV)(as:List AV):κ (AV×St) :=
 ob (il o) fun k=>
 ob (nW as) fun v=>
 ob (ao J k) fun c=>
 HB B J k v c
def AW(J:St)(k:Nat)(f:List AV→ak)(xs:List AV):κ (AV×St) :=
 ob (place (lenA xs) (-1)) fun p=>
 ob (ao xs p) fun v=>
 some (v,dT J k (f (bN p xs)))
def S8(J:St)(k:Nat)(xs:List AV)(i:AV):κ (AV×St) :=
 ob (jN i) fun j=>
 gd (jM j 0) <|
 List.rec none (fun v r U=>some (v,dT J k (.list r))) xs
def HY(J:St)(k:Nat)(xs as:List AV):κ (AV×St):=match as with
 |[]=>AW J k .list xs
 |[i]=>S8 J k xs i
 |_=>none
def GD(J:St)(o:AV)(as:List AV):κ (AV×St) :=
 ob (il o) fun k=>
 ob (ao J k) fun c=>
 match c with
 |.list xs=>HY J k xs as
 |.spl i xs=>gd (bD as) (AW J k (.spl i) xs)
 |_=>none
def DH(Y:Pi)(J:St)(s:ξ)(c:ak):κ (AV×St):=match c with
 |.list xs=>
  ob (zh (.k s) xs) fun t=>
  ob (i7 Y.B t) fun r=>
  some (r,J)
 |.rows t n=>
  gd (bD s) <|
  ob (i7 Y.B t) fun r=>
  some (r,J)
 |_=>none
def BV(Y:Pi)(J:St)(o:AV)(as:List AV):κ (AV×St) :=
 ob (s7 o) fun s=>
 gd (Nat.ble (lenA s) 1000) <|
 ob (nW as) fun a=>
 ob (il a) fun k=>
 ob (ao J k) fun c=>
 DH Y J s c
def z9(p:ξ):ξ→Bool→κ Bool:=List.rec (fun U U=>some true) (fun b U ih l e=>List.rec (Bool.rec none (some false) e) (fun a r U=>Bool.rec (some false) (ih r e) (b.beq a)) l) p
def Cn(p:ξ)(s:SS):κ Bool:=match s with
 |.lit l::r=>z9 p l (bD r)
 |[]=>some (bD p)
 |_=>none
def IM(J:St)(o:AV)(as:List AV):κ (AV×St) :=
 ob (mE o) fun s=>
 ob (nW as) fun p=>
 ob (s7 p) fun p=>
 ob (Cn p s) fun b=>
 some (.bool b,J)
def DJ(J:St)(o:AV)(as:List AV):κ (AV×St):=match o with
 |.dict=>gd (bD as) <|some (.dict,J)
 |_=>none
def bm(Y:Pi)(J:St)(id:BM)(o:AV)(as:List AV):κ (AV×St):=match id with
 |.append=>GB Y.B J o as
 |.pop=>GD J o as
 |.join=>BV Y J o as
 |.starts=>IM J o as
 |.copy=>DJ J o as
def Eh(J:St)(as:List AV):κ (AV×St) :=
 ob (nW as) fun v=>
 ob (Dl J v) fun l=>
 some (.int l,J)
def HK(Y:Pi)(J:St)(v t:AV):κ (AV×St):=match t with
 |.cls C=>
  ob (q7 Y J v C) fun b=>
  some (.bool b,J)
 |.tup cs=>
  gd (Bool.rec true false (bD cs)) <|
  ob (xS Y J v cs) fun b=>
  some (.bool b,J)
 |_=>none
def D7(Y:Pi)(J:St)(as:List AV):κ (AV×St):=match as with
 |[v,t]=>HK Y J v t
 |_=>none
def EJ(J:St)(v:AV):κ (AV×St) :=
 ob (jN v) fun i=>
 ob (vM i) fun n=>
 gd (n.ble 1000) <|
 some (.rng 0 n,J)
def E2(J:St)(v w:AV):κ (AV×St) :=
 ob (jN v) fun i=>
 ob (vM i) fun a=>
 ob (jN w) fun j=>
 ob (vM j) fun b=>
 gd (b.ble 1000) <|
 gd (a.ble b) <|
 some (.rng a (b-a),J)
def Cz(J:St)(as:List AV):κ (AV×St):=match as with
 |[v]=>EJ J v
 |[v,w]=>E2 J v w
 |_=>none
def bf(Y:Pi)(J:St)(f:BF)(as:List AV):κ (AV×St):=match f with
 |.len=>Eh J as
 |.isi=>D7 Y J as
 |.range=>Cz J as
def nj(x:Str)(sc:List (Str×NameKind)):Bool:=match lk x sc with|some .globalImplicit=>true|_=>false
def lr(x:Str)(sc:List (Str×NameKind)):Bool:=match lk x sc with|some .local=>true|_=>false
def mZ(ls:ac)(x:Str)(v:AV):κ ac :=
 gd (lr x ls.sc) <|
 some ({ls with v:=put x v ls.v})
noncomputable def Fv(v:AV):Bool:=match v with|.meth _ _=>true|_=>false
inductive EV where
 |con (c:Const)
 |name (x:Str) (p:Pos)
 |attr (o:Expr) (x:Str) (p:Pos)
 |bool (op:BoolOp) (vs:List Expr)
 |un (op:UnaryOp) (e:Expr)
 |ife (t b o:Expr)
 |bin (l:Expr) (op:Operator) (r:Expr)
 |cmp (l:Expr) (ops:List CmpOp) (rs:List Expr)
 |tup (es:List Expr)
 |lst (es:List Expr)
 |sub (o s:Expr)
 |slice (lo hi st:κ Expr)
 |call (f:Expr) (as:List Expr) (ks:List Keyword) (pos:Pos)
 |other
noncomputable def vE(e:Expr):EV:=match e with
 |.Constant c _ _=>.con c
 |.Name x p=>.name x p
 |.Attribute o x p=>.attr o x p
 |.BoolOp op vs _=>.bool op vs
 |.UnaryOp op e _=>.un op e
 |.IfExp t b o _=>.ife t b o
 |.BinOp l op r _=>.bin l op r
 |.Compare l ops rs _=>.cmp l ops rs
 |.Tuple es _ _=>.tup es
 |.List es _=>.lst es
 |.Subscript o s _=>.sub o s
 |.Slice lo hi st _=>.slice lo hi st
 |.Call f as ks pos=>.call f as ks pos
 |_=>.other
inductive SV where
 |exp (e:Expr)
 |pass
 |ret (e:κ Expr)
 |asg (ts:List Expr) (e:Expr)
 |aug (t:Expr) (op:Operator) (e:Expr)
 |ife (t:Expr) (b o:List Stmt)
 |wh (t:Expr) (b o:List Stmt)
 |fo (t it:Expr) (b o:List Stmt)
 |other
noncomputable def vS(s:Stmt):SV:=match s with
 |.Expr e _=>.exp e
 |.Pass _=>.pass
 |.Return e _=>.ret e
 |.Assign ts e _=>.asg ts e
 |.AugAssign t op e _=>.aug t op e
 |.If t b o _=>.ife t b o
 |.While t b o _=>.wh t b o
 |.For t it b o _=>.fo t it b o
 |_=>.other
def xr(e:Expr):Bool:=match vE e with|.other=>false|_=>true
def jk(e:Expr):Bool:=match vE e with|.call _ _ _ _=>false|.other=>false|_=>true
def lh(e:Expr):Bool:=xr e
def fJ(e:Expr):Bool:=match vE e with|.other=>false|_=>true
def ke(e:Expr):Bool:=xr e
def VJ(e:Expr):Bool:=match vE e with|.tup vs=>vs.all (foldedForSure 8)|_=>true
def Ij(ts:List Expr)(e:Expr):Bool:=match ts with
 |[t]=>match vE t with
  |.tup _=>VJ e
  |.lst _=>false
  |_=>true
 |_=>true
def iS(ts:List Expr)(e:Expr):Bool:=xr e&&Ij ts e
noncomputable def oH(op:Operator):Bool:=match op with|.Add=>true|.Sub=>true|_=>false
def Ea(e:Expr):Bool:=xr e&&match vE e with|.slice _ _ _=>false|_=>true
def jv(e:Expr):Bool:=match vE e with|.name _ _=>true|.tup _=>true|_=>false
noncomputable def oK(op:BoolOp)(b:Bool):Bool:=match op with|.And=>!b|.Or=>b
def vN:Const→κ AV
 |.none=>some .none
 |.bool b=>some (.bool b)
 |.int i=>some (.int (.k i))
 |.str s=>match Nat.ble (lenA s.cps.toList) 1000000 with|true=>some (.str (.k s.cps.toList))|false=>none
 |_=>none
structure aM where
 ev:ac→St→Expr→κ (AV×St)
 evo:ac→St→κ Expr→κ (κ AV×St)
 evs:ac→St→List Expr→κ (List AV×St)
 evk:ac→St→List Keyword→κ (List (Str×AV)×St)
 bl:ac→St→BoolOp→List Expr→κ (AV×St)
 cc:ac→St→AV→List CmpOp→List Expr→κ (Bool×St)
 tst:ac→St→Expr→κ (Bool×St)
 tb:ac→St→BoolOp→List Expr→κ (Bool×St)
 cl:St→AV→List AV→List (Str×AV)→κ (AV×St)
 cf:St→Addr→List AV→List (Str×AV)→κ (AV×St)
 exs:ac→St→List Stmt→κ (Fl×ac×St)
 asg:ac→St→AV→Expr→κ (ac×St)
 asgs:ac→St→List AV→List Expr→κ (ac×St)
 asgm:ac→St→AV→List Expr→κ (ac×St)
 ex:ac→St→Stmt→κ (Fl×ac×St)
 wh:ac→St→Expr→List Stmt→κ (Fl×ac×St)
 fo:ac→St→Expr→It→List Stmt→κ (Fl×ac×St)
noncomputable def aM.bot:aM where
 ev:=fun U U U=>none
 evo:=fun U U U=>none
 evs:=fun U U U=>none
 evk:=fun U U U=>none
 bl:=fun U U U U=>none
 cc:=fun U U U U U=>none
 tst:=fun U U U=>none
 tb:=fun U U U U=>none
 cl:=fun U U U U=>none
 cf:=fun U U U U=>none
 exs:=fun U U U=>none
 asg:=fun U U U U=>none
 asgs:=fun U U U U=>none
 asgm:=fun U U U U=>none
 ex:=fun U U U=>none
 wh:=fun U U U U=>none
 fo:=fun U U U U U=>none
def yE(Y:Pi)(ls:ac)(J:St)(x:Str):κ (AV×St):=match lk x ls.v with
 |some v=>some (v,J)
 |none=>
  gd (nj x ls.sc) <|
  ob (Y.glob x) fun v=>
  some ((v,J))
def Du(Y:Pi)(R:aM)(ls:ac)(J:St)(o:Expr)(x:Str):κ (AV×St) :=
 gd (jk o) <|
 obp (R.ev ls J o) fun v J=>
 ob (hY Y J v x) fun r=>
 some ((r,J))
def ED(Y:Pi)(R:aM)(ls:ac)(J:St)(e:Expr):κ (AV×St) :=
 obp (R.ev ls J e) fun v J=>
 ob (o0 Y.B J v) fun b=>
 some ((.bool !b,J))
def KQ(J:St)(c:Const):κ (AV×St):=match c with
 |.int i=>some (.int (.k (-i)),J)
 |_=>none
def Ie(Y:Pi)(R:aM)(ls:ac)(J:St)(op:UnaryOp)(e:Expr):κ (AV×St):=match op with
 |.USub=>match vE e with
  |.con c=>KQ J c
  |_=>none
 |.Not=>ED Y R ls J e
 |_=>none
def CT(R:aM)(ls:ac)(J:St)(t b o:Expr):κ (AV×St) :=
 obp (R.tst ls J t) fun c J=>
 match c with
 |true=>R.ev ls J b
 |false=>R.ev ls J o
def yw(J:St)(i:Nat)(b:AV):κ (AV×St) :=
 ob (il b) fun j=>
 ob (jW J i) fun x=>
 ob (jW J j) fun y=>
 gd (Nat.ble (lenA x+lenA y) 100000) <|
 some ((new J (.list (x++y))))
def OI(op:Operator)(J:St)(i:Nat)(b:AV):κ (AV×St):=match op with
 |.Add=>yw J i b
 |_=>none
def S5(Y:Pi)(op:Operator)(a b:AV)(J:St):κ (AV×St):=ob (lV Y.B op a b) fun r=>some (r,J)
def Gx(Y:Pi)(R:aM)(ls:ac)(J:St)(l:Expr)(op:Operator)(r:Expr):κ (AV×St) :=
 obp (R.ev ls J l) fun a J=>
 obp (R.ev ls J r) fun b J=>
 Option.rec (S5 Y op a b J) (fun i=>OI op J i b) (il a)
def HH(R:aM)(ls:ac)(J:St)(l:Expr)(ops:List CmpOp)(rs:List Expr):κ (AV×St) :=
 obp (R.ev ls J l) fun a J=>
 obp (R.cc ls J a ops rs) fun b J=>
 some ((.bool b,J))
def HT(R:aM)(ls:ac)(J:St)(es:List Expr):κ (AV×St) :=
 obp (R.evs ls J es) fun vs J=>
 gd (Nat.ble (lenA vs) 100000) <|
 some ((.tup vs,J))
def Eu(R:aM)(ls:ac)(J:St)(es:List Expr):κ (AV×St) :=
 obp (R.evs ls J es) fun vs J=>
 gd (Nat.ble (lenA vs) 100000) <|
 some ((new J (.list vs)))
def KB(l:ξ)(a b:κ AV)(J:St):κ (AV×St) :=
 ob (tU a) fun a=>
 ob (tU b) fun b=>
 some (.str (.k (cut l a b)),J)
def zz(v:AV)(a b:κ AV)(J:St):κ (AV×St) :=
 ob (mE v) fun s=>
 ob s.conc fun l=>KB l a b J
def yR(k:Nat)(a b:κ AV)(J:St):κ (AV×St) :=
 ob (tU a) fun a=>
 ob (tU b) fun b=>
 ob (jW J k) fun xs=>
 some (new J (.list (cut xs a b)))
def FY(R:aM)(ls:ac)(J:St)(o:Expr)(lo hi st:κ Expr):κ (AV×St) :=
 obp (R.ev ls J o) fun v J=>
 gd st.isNone <|
 obp (R.evo ls J lo) fun a J=>
 obp (R.evo ls J hi) fun b J=>
 Option.rec (zz v a b J) (fun k=>yR k a b J) (il v)
def z5(Y:Pi)(R:aM)(ls:ac)(J:St)(o s:Expr):κ (AV×St) :=
 obp (R.ev ls J o) fun v J=>
 obp (R.ev ls J s) fun i J=>
 ob (mc Y.B J v i) fun r=>some (r,J)
def Mz(Y:Pi)(R:aM)(ls:ac)(J:St)(o s:Expr):κ (AV×St):=match vE s with
 |.slice lo hi st=>FY R ls J o lo hi st
 |_=>z5 Y R ls J o s
def x9(R:aM)(ls:ac)(J:St)(fv:AV)(as:List Expr)(ks:List Keyword):κ (AV×St) :=
 gd (Fv fv) <|
 obp (R.evs ls J as) fun vs J=>
 obp (R.evk ls J ks) fun kw J=>
 R.cl J fv vs kw
def xu(Y:Pi)(R:aM)(ls:ac)(J:St)(ov:AV)(x:Str)(as:List Expr)(ks:List Keyword):κ (AV×St) :=
 ob (zK Y J ov x) fun id=>
 obp (R.evs ls J as) fun vs J=>
 gd (ks.isEmpty) <|
 bm Y J id ov vs
def zn(Y:Pi)(R:aM)(ls:ac)(J:St)(o:Expr)(x:Str)(apos:Pos)(as:List Expr)(ks:List Keyword)(pos:Pos):κ (AV×St) :=
 gd (jk o&&apos.endLine.beq pos.line&&Nat.blt (lenA as+lenA ks+1) 30) <|
 obp (R.ev ls J o) fun ov J=>
 match hY Y J ov x with
 |some fv=>x9 R ls J fv as ks
 |none=>xu Y R ls J ov x as ks
def A9(R:aM)(ls:ac)(J:St)(x:Str)(p:Pos)(as:List Expr)(ks:List Keyword):κ (AV×St) :=
 obp (R.ev ls J (.Name x p)) fun fv J=>
 obp (R.evs ls J as) fun vs J=>
 obp (R.evk ls J ks) fun kw J=>
 R.cl J fv vs kw
def LY(Y:Pi)(R:aM)(ls:ac)(J:St)(f:Expr)(as:List Expr)(ks:List Keyword)(pos:Pos):κ (AV×St):=match vE f with
 |.attr o x apos=>zn Y R ls J o x apos as ks pos
 |.name x p=>A9 R ls J x p as ks
 |_=>none
def NR(J:St)(c:Const):κ (AV×St) :=
 ob (vN c) fun v=>
 some ((v,J))
def FD(Y:Pi)(R:aM)(ls:ac)(J:St)(e:Expr):κ (AV×St):=match vE e with
 |.con c=>NR J c
 |.name x _=>yE Y ls J x
 |.attr o x _=>Du Y R ls J o x
 |.bool op vs=>R.bl ls J op vs
 |.un op e=>Ie Y R ls J op e
 |.ife t b o=>CT R ls J t b o
 |.bin l op r=>Gx Y R ls J l op r
 |.cmp l ops rs=>HH R ls J l ops rs
 |.tup es=>HT R ls J es
 |.lst es=>Eu R ls J es
 |.sub o s=>Mz Y R ls J o s
 |.slice _ _ _=>none
 |.call f as ks pos=>LY Y R ls J f as ks pos
 |.other=>none
def Ba(Y:Pi)(R:aM):ac→St→κ Expr→κ (κ AV×St):=fun ls J e=>match e with
 |none=>some (none,J)
 |some e=>
  obp (R.ev ls J e) fun v J=>
  some ((some v,J))
def Ar(Y:Pi)(R:aM):ac→St→List Expr→κ (List AV×St):=fun ls J es=>match es with
 |[]=>some ([],J)
 |e::r=>
  gd (fJ e) <|
  obp (R.ev ls J e) fun v J=>
  obp (R.evs ls J r) fun vs J=>
  some ((v::vs,J))
def E6(Y:Pi)(R:aM):ac→St→List Keyword→κ (List (Str×AV)×St):=fun ls J ks=>match ks with
 |[]=>some ([],J)
 |k::r=>
  ob (k.arg) fun x=>
  obp (R.ev ls J k.value) fun v J=>
  obp (R.evk ls J r) fun vs J=>
  some (((x,v)::vs,J))
def qA(Y:Pi)(R:aM):ac→St→BoolOp→List Expr→κ (AV×St):=fun ls J op es=>match es with
 |[]=>none
 |e::r=>match r with
  |[]=>R.ev ls J e
  |r=>
   obp (R.ev ls J e) fun v J=>
   ob (o0 Y.B J v) fun b=>
   match oK op b with
   |true=>some (v,J)
   |false=>R.bl ls J op r
def Hx(Y:Pi)(R:aM):ac→St→AV→List CmpOp→List Expr→κ (Bool×St):=fun ls J a ops rs=>match ops,rs with
 |op::ops,r::rs=>
  gd (lh r) <|
  obp (R.ev ls J r) fun b J=>
  ob (cmp Y.B J op a b) fun t=>
  Bool.rec (Bool.rec (some (false,J)) (R.cc ls J b ops rs) t) (some (t,J)) (bD ops&&bD rs)
 |_,_=>none
def O5(R:aM)(ls:ac)(J:St)(op:UnaryOp)(e:Expr):κ (Bool×St):=match op with
 |.Not=>
  obp (R.tst ls J e) fun b J=>
  some ((!b,J))
 |_=>none
def Dq(R:aM)(ls:ac)(J:St)(l:Expr)(ops:List CmpOp)(rs:List Expr):κ (Bool×St) :=
 obp (R.ev ls J l) fun a J=>
 R.cc ls J a ops rs
def He(Y:Pi)(R:aM)(ls:ac)(J:St)(e:Expr):κ (Bool×St) :=
 obp (R.ev ls J e) fun v J=>
 ob (o0 Y.B J v) fun b=>
 some ((b,J))
def Bj(Y:Pi)(R:aM)(ls:ac)(J:St)(e:Expr):κ (Bool×St):=match vE e with
 |.bool op vs=>R.tb ls J op vs
 |.un op e'=>O5 R ls J op e'
 |.cmp l ops rs=>Dq R ls J l ops rs
 |.ife _ _ _=>none
 |_=>He Y R ls J e
def pU(Y:Pi)(R:aM):ac→St→BoolOp→List Expr→κ (Bool×St):=fun ls J op es=>match es with
 |[]=>none
 |e::r=>match r with
  |[]=>R.tst ls J e
  |r=>
   obp (R.tst ls J e) fun b J=>
   match oK op b with
   |true=>some (b,J)
   |false=>R.tb ls J op r
def GT(J J':St)(C:Addr):κ (AV×St) :=
 obp (ny J' (lenA J)) fun D fs=>
 gd (D.beq C) <|
 gd (Nat.beq (lenA J') (lenA J+1)) <|
 gd (jO (lenA J) fs) <|
 gd (fH (lenA J) (bN (lenA J) J')) <|
 some (.obj C fs,bN (lenA J) J')
noncomputable def Ox(r:AV):Bool:=match r with|.none=>true|_=>false
def BY(R:aM)(J:St)(C:Addr)(vs:List AV)(kw:List (Str×AV))(c:CI)(f:Addr):κ (AV×St) :=
 obp (R.cf (J++[.inst C []]) f (.cell (lenA J)::vs) kw) fun r J'=>
 gd (Ox r) <|
 Bool.rec (some (.cell (lenA J),J')) (GT J J' C) c.frozen
def U4(Y:Pi)(R:aM)(J:St)(C:Addr)(vs:List AV)(kw:List (Str×AV)):κ (AV×St) :=
 ob (Y.ci C) fun c=>ob c.init fun f=>BY R J C vs kw c f
def Uw(Y:Pi)(J:St)(v:BF)(vs:List AV)(kw:List (Str×AV)):κ (AV×St):=gd kw.isEmpty (bf Y J v vs)
def mD(Y:Pi)(R:aM)(J:St)(fv:AV)(vs:List AV)(kw:List (Str×AV)):κ (AV×St):=match fv with
 |.fn f=>R.cf J f vs kw
 |.meth f self=>R.cf J f (self::vs) kw
 |.cls C=>U4 Y R J C vs kw
 |.bi v=>Uw Y J v vs kw
 |_=>none
def Od(J:St)(r:Fl)(J':St):κ (AV×St):=match r with
 |.ret v=>some (v,gN (lenA J) v J')
 |.next=>some (.none,gN (lenA J) .none J')
def Hi(Y:Pi)(C:Unit→aM)(J:St)(f:Addr)(vs:List AV)(kw:List (Str×AV)):κ (AV×St) :=
 ob (Y.fn f) fun fi=>
 ob (fE fi.args fi.dflt vs kw) fun ls=>
 kQ ((C ()).exs ⟨ls,fi.sc⟩ J fi.body) fun r U J'=>
 Od J r J'
def x7(Y:Pi)(C:Unit→aM)(J:St)(f:Addr)(vs:List AV)(kw:List (Str×AV)):κ (AV×St) :=
 Option.rec (Hi Y C J f vs kw) some (Y.spec J f vs kw)
def zN(Y:Pi)(R:aM):ac→St→List Stmt→κ (Fl×ac×St):=fun ls J ss=>match ss with
 |[]=>some (.next,ls,J)
 |s::r=>
  kQ (R.ex ls J s) fun f ls J=>
  match f with
  |.next=>R.exs ls J r
  |f=>some (f,ls,J)
def Dw(ls:ac)(J:St)(v:AV)(x:Str):κ (ac×St) :=
 ob (mZ ls x v) fun ls=>
 some ((ls,J))
def GQ(Y:Pi)(R:aM)(ls:ac)(J:St)(v:AV)(o:Expr)(x:Str):κ (ac×St) :=
 obp (R.ev ls J o) fun ov J=>
 ob (il ov) fun k=>
 ob (yT Y J k x v) fun J=>
 some ((ls,J))
def Id(R:aM)(ls:ac)(J:St)(v:AV)(ts:List Expr):κ (ac×St):=match v with
 |.tup vs=>R.asgs ls J vs ts
 |.cell k=>ob (jW J k) fun vs=>R.asgs ls J vs ts
 |_=>none
def Ib(R:aM)(ls:ac)(J:St)(v:AV)(o i:Expr):κ (ac×St) :=
 gd (Ea i) <|
 obp (R.ev ls J o) fun ov J=>
 obp (R.ev ls J i) fun iv J=>
 ob (il ov) fun k=>
 ob (jW J k) fun xs=>
 ob (jN iv) fun j=>
 ob (place (lenA xs) j) fun p=>
 some ((ls,dT J k (.list (dT xs p v))))
def Gs(Y:Pi)(R:aM)(ls:ac)(J:St)(v:AV)(t:Expr):κ (ac×St):=match vE t with
 |.name x _=>Dw ls J v x
 |.attr o x _=>GQ Y R ls J v o x
 |.tup ts=>Id R ls J v ts
 |.sub o i=>Ib R ls J v o i
 |_=>none
def DD(Y:Pi)(R:aM):ac→St→List AV→List Expr→κ (ac×St):=fun ls J vs ts=>match vs,ts with
 |[],[]=>some (ls,J)
 |v::vs,t::ts=>
  gd (fJ t) <|
  obp (R.asg ls J v t) fun ls J=>
  R.asgs ls J vs ts
 |_,_=>none
def GJ(Y:Pi)(R:aM):ac→St→AV→List Expr→κ (ac×St):=fun ls J v ts=>match ts with
 |[]=>none
 |t::ts=>
  gd (fJ t) <|
  match ts with
  |[]=>R.asg ls J v t
  |ts=>
   obp (R.asg ls J v t) fun ls J=>
   R.asgm ls J v ts
def zW(R:aM)(ls:ac)(J:St)(e:Expr):κ (Fl×ac×St) :=
 gd (ke e) <|
 obp (R.ev ls J e) fun U J=>
 some ((.next,ls,J))
def y9(R:aM)(ls:ac)(J:St)(e:κ Expr):κ (Fl×ac×St):=match e with
 |none=>some (.ret .none,ls,J)
 |some e=>
  obp (R.ev ls J e) fun v J=>
  some ((.ret v,ls,J))
def y7(R:aM)(ls:ac)(J:St)(ts:List Expr)(e:Expr):κ (Fl×ac×St) :=
 gd (iS ts e) <|
 obp (R.ev ls J e) fun v J=>
 obp (R.asgm ls J v ts) fun ls J=>
 some ((.next,ls,J))
def Au(Y:Pi)(R:aM)(ls:ac)(J:St)(x:Str)(op:Operator)(e:Expr):κ (Fl×ac×St) :=
 gd (lr x ls.sc&&oH op) <|
 ob (lk x ls.v) fun a=>
 obp (R.ev ls J e) fun b J=>
 ob (lV Y.B op a b) fun r=>
 ob (mZ ls x r) fun ls=>
 some ((.next,ls,J))
def Hu(Y:Pi)(R:aM)(ls:ac)(J:St)(o:Expr)(x:Str)(op:Operator)(e:Expr):κ (Fl×ac×St) :=
 gd (oH op) <|
 obp (R.ev ls J o) fun ov J=>
 ob (il ov) fun k=>
 ob (hY Y J ov x) fun a=>
 obp (R.ev ls J e) fun b J=>
 ob (lV Y.B op a b) fun r=>
 ob (yT Y J k x r) fun J=>
 some ((.next,ls,J))
def F1(Y:Pi)(R:aM)(ls:ac)(J:St)(o i:Expr)(op:Operator)(e:Expr):κ (Fl×ac×St) :=
 gd (oH op&&Ea i) <|
 obp (R.ev ls J o) fun ov J=>
 obp (R.ev ls J i) fun iv J=>
 ob (il ov) fun k=>
 ob (jW J k) fun xs=>
 ob (jN iv) fun j=>
 ob (place (lenA xs) j) fun p=>
 ob (ao xs p) fun a=>
 obp (R.ev ls J e) fun b J=>
 ob (lV Y.B op a b) fun r=>
 ob (jW J k) fun ys=>
 ob (place (lenA ys) j) fun q=>
 some ((.next,ls,dT J k (.list (dT ys q r))))
def VY(Y:Pi)(R:aM)(ls:ac)(J:St)(t:Expr)(op:Operator)(e:Expr):κ (Fl×ac×St):=match vE t with
 |.name x _=>Au Y R ls J x op e
 |.attr o x _=>Hu Y R ls J o x op e
 |.sub o i=>F1 Y R ls J o i op e
 |_=>none
def HS(R:aM)(ls:ac)(J:St)(t:Expr)(b o:List Stmt):κ (Fl×ac×St) :=
 obp (R.tst ls J t) fun c J=>
 match c with
 |true=>R.exs ls J b
 |false=>R.exs ls J o
def B6(R:aM)(ls:ac)(J:St)(t:Expr)(b o:List Stmt):κ (Fl×ac×St) :=
 gd (o.isEmpty) <|
 R.wh ls J t b
def Ik(R:aM)(ls:ac)(J:St)(t it:Expr)(b o:List Stmt):κ (Fl×ac×St) :=
 gd (o.isEmpty&&lh it&&jv t) <|
 obp (R.ev ls J it) fun v J=>
 ob (yW J v) fun i=>
 R.fo ls J t i b
def GH(Y:Pi)(R:aM)(ls:ac)(J:St)(s:Stmt):κ (Fl×ac×St):=match vS s with
 |.exp e=>zW R ls J e
 |.pass=>some (.next,ls,J)
 |.ret e=>y9 R ls J e
 |.asg ts e=>y7 R ls J ts e
 |.aug t op e=>VY Y R ls J t op e
 |.ife t b o=>HS R ls J t b o
 |.wh t b o=>B6 R ls J t b o
 |.fo t it b o=>Ik R ls J t it b o
 |.other=>none
def GE(Y:Pi)(R:aM):ac→St→Expr→List Stmt→κ (Fl×ac×St):=fun ls J t b=>
 obp (R.tst ls J t) fun c J=>
 match c with
 |false=>some (.next,ls,J)
 |true=>
  kQ (R.exs ls J b) fun f ls J=>
  match f with
  |.ret v=>some (.ret v,ls,J)
  |_=>R.wh ls J t b
def Gv(Y:Pi)(R:aM):ac→St→Expr→It→List Stmt→κ (Fl×ac×St):=fun ls J t i b=>
 ob (mN J i) fun x=>
 match x with
 |none=>some (.next,ls,J)
 |some (v,i)=>
  obp (R.asg ls J v t) fun ls J=>
  kQ (R.exs ls J b) fun f ls J=>
  match f with
  |.ret v=>some (.ret v,ls,J)
  |_=>R.fo ls J t i b
def aM.step(Y:Pi)(R:aM)(C:Unit→aM):aM where
 ev:=FD Y R
 evo:=Ba Y R
 evs:=Ar Y R
 evk:=E6 Y R
 bl:=qA Y R
 cc:=Hx Y R
 tst:=Bj Y R
 tb:=pU Y R
 cl:=mD Y R
 cf:=x7 Y C
 exs:=zN Y R
 asg:=Gs Y R
 asgs:=DD Y R
 asgm:=GJ Y R
 ex:=GH Y R
 wh:=GE Y R
 fo:=Gv Y R
def mk(Y:Pi)(n:Nat):Nat→aM:=Nat.rec (fun U=>.bot) (fun U ih d=>.step Y (ih d) (fun U=>Nat.rec .bot (fun d' U=>ih d') d)) n
end
noncomputable def vu:List Stmt→Nat→Stmt
 |[],_=>.Pass default
 |a::_,0=>a
 |_::r,n+1=>vu r n
noncomputable def cB:Stmt→List Stmt
 |.ClassDef _ _ _ b _ _ _ _ _ _ _=>b
 |_=>[]
noncomputable def fA:Stmt→Arguments
 |.FunctionDef _ a _ _ _ _ _ _ _ _=>a
 |_=>default
noncomputable def fB:Stmt→List Stmt
 |.FunctionDef _ _ b _ _ _ _ _ _ _=>b
 |_=>[]
noncomputable def fS:Stmt→Scope
 |.FunctionDef _ _ _ _ _ _ s _ _ _=>s
 |_=>default
def tS(i:Nat):Stmt:=vu ar.main.body i
def mS(i j:Nat):Stmt:=vu (cB (vu ar.main.body i)) j
namespace X9
noncomputable def q(a b:Str):Str:=⟨⟨a.cps.toList++46::b.cps.toList⟩⟩
noncomputable def k(P:Params)(x:Str)(t:Tok)(v:π):DictEntry:=⟨PyData.keyHash P x,.str x t,v⟩
noncomputable def c(a:Addr)(n:Str)(t:Tok)(q:Str)(l r x:Nat):Addr×Obj:=(a,⟨.type "code",none,.fields #[.str n t,.str q (t+1),.str uI (t+2),.int l 0,.int r 0,.int 0 0,.int 0 0,.int 3 0,.ref (a-5),.bool true,.int 181 0,.ref (a-4),.none,.ref (a-3),.ref (a-2),.ref (a-1),.int x 0,.int l 0,.str uI (x+1)],#[]⟩)
noncomputable def f(a:Addr)(n q:Str)(s:Stmt)(d:π)(m:Str)(t:Tok):Addr×Obj:=(a,⟨.type "function",none,.func (fnOf n q (fA s) (fB s) (fS s) d .none .none (.str m t) none (.ref (a-1)) .none),#[]⟩)
noncomputable def y(a:Addr)(n:Str)(b r s:List π)(i:π)(t u:Tok):Addr×Obj:=(a,⟨.type "type",none,.cls ⟨n,b,r,a-1,n,true,[],s,false,none,false⟩,#[some i,none,some (.str n t),some (.str n u),some (.builtin "object.__new__"),some (.bool true)]⟩)
noncomputable def d(a:Addr)(e:Array DictEntry)(n:Nat):Addr×Obj:=(a,⟨.type "dict",none,.dict e n,#[]⟩)
noncomputable def u(a:Addr)(e:Array π):Addr×Obj:=(a,⟨.type "tuple",none,.seq e 0,#[]⟩)
noncomputable def s0:Str:=⟨#[95,95,115,116,97,116,105,99,95,97,116,116,114,105,98,117,116,101,115,95,95]⟩
noncomputable def s1:Str:=⟨#[95,95,102,105,114,115,116,108,105,110,101,110,111,95,95]⟩
noncomputable def s2:Str:=⟨#[95,95,109,111,100,117,108,101,95,95]⟩
noncomputable def s3:Str:=⟨#[95,95,100,111,99,95,95]⟩
noncomputable def s4:Str:=⟨#[95,95,119,101,97,107,114,101,102,95,95]⟩
noncomputable def s5:Str:=⟨#[95,95,100,105,99,116,95,95]⟩
end X9
open X9 in
def xi(P:Params):List DictEntry:=[k P xb 633 (.str xb 634),k P Em 635 (.str FK 636)]
open X9 in
def Tf(P:Params):List DictEntry:=[k P Ki 1120 (.str MM 1121),k P Py 1122 (.str KF 1123),k P Sf 1124 (.str MP 1125),k P QY 1126 (.str Mq 1127),k P V6 1128 (.str kl 1129),k P Ka 1130 (.str Sy 1131),k P Lo 1132 (.str Ke 1133),k P Mo 1134 (.str VL 1135),k P P8 1136 (.str Vo 1137),k P HF 1138 (.str HF 1139),k P IC 1140 (.str IC 1141),k P M2 1142 (.str Vy 1143),k P SH 1144 (.str d8 1145),k P JC 1146 (.str T4 1147),k P T6 1148 (.str VV 1149)]
open X9 in
def bY(P:Params):Frag :=
 [d 3 #[k P n2 165 (.str mo 1315),k P s3 166 .none,k P ⟨#[95,95,112,97,99,107,97,103,101,95,95]⟩ 167 .none,k P ⟨#[95,95,108,111,97,100,101,114,95,95]⟩ 168 (.builtin "__main__.__loader__#opaque"),k P ⟨#[95,95,115,112,101,99,95,95]⟩ 169 .none,k P ⟨#[95,95,97,110,110,111,116,97,116,105,111,110,115,95,95]⟩ 170 (.ref 6),k P ⟨#[95,95,98,117,105,108,116,105,110,115,95,95]⟩ 171 (.ref 4),k P ⟨#[95,95,102,105,108,101,95,95]⟩ 173 (.str uI 172),k P ⟨#[95,95,99,97,99,104,101,100,95,95]⟩ 174 .none,k P n0 193 (.ref 21),k P n4 215 (.ref 31),k P n7 255 (.ref 59),k P su 284 (.ref 81),k P qk 319 (.ref 101),k P xD 335 (.ref 113),k P q9 364 (.ref 133),k P wT 380 (.ref 145),k P q6 413 (.ref 165),k P qT 442 (.ref 185),k P vJ 458 (.ref 197),k P qt 495 (.ref 217),k P vU 511 (.ref 229),k P wa 527 (.ref 241),k P wX 543 (.ref 253),k P wJ 559 (.ref 265),k P dI 577 (.ref 277),k P lM 620 (.ref 296),k P ax 1271 (.ref 736),k P jd 1314 (.ref 771),k P o8 1322 (.ref 782),k P om 1328 (.ref 789),k P oR 1340 (.ref 796),k P nU 1355 (.ref 803),k P nO 1367 (.ref 810),k P o9 1383 (.ref 817),k P oC 1414 (.ref 824),k P px 1420 (.ref 829)] 37,
c 20 n0 187 n0 1 1 191,
f 21 n0 n0 (tS 0) .none ⟨#[95,95,109,97,105,110,95,95]⟩ 164,
d 30 #[k P s2 203 (.str n3 194),k P s1 207 (.int 5 206),k P s0 208 (.ref 29),k P s4 210 (.ref 32),k P s3 211 .none] 3,
(31,⟨(.type "type"),none,.cls ⟨n4,[(.type "Exception")],[(.ref 31),(.type "Exception"),(.type "BaseException"),(.type "object")],30,n4,true,[],[(.ref 277)],false,none,false⟩,#[(some (.ref 22)),none,(some (.str n4 196)),(some (.str n4 204)),(some (.builtin "Exception.__new__")),(some (.bool true))]⟩),
u 42 #[.none,.none],
c 48 n9 230 (q n7 n9) 10 3 236,
f 49 n9 (q n7 n9) (mS 4 0) (.ref 42) n6 216,
c 55 fV 239 (q n7 fV) 14 1 243,
f 56 fV (q n7 fV) (mS 4 1) .none n6 216,
d 58 #[k P s2 225 (.str n6 216),k P s1 229 (.int 8 228),k P n9 238 (.ref 49),k P fV 245 (.ref 56),k P s0 248 (.ref 57),k P s5 250 (.ref 60),k P s4 252 (.ref 61),k P s3 253 .none] 4,
y 59 n7 [(.type "object")] [(.ref 59),(.type "object")] [(.ref 81),(.ref 113),(.ref 133),(.ref 145),(.ref 165),(.ref 185)] (.ref 35) 218 226,
u 71 #[.none,.none],
c 77 n9 268 (q su n9) 18 4 275,
f 78 n9 (q su n9) (mS 5 0) (.ref 71) n6 216,
d 80 #[k P s2 263 (.str n6 216),k P s1 267 (.int 16 266),k P n9 277 (.ref 78),k P s0 281 (.ref 79),k P s3 282 .none] 2,
y 81 su [(.ref 59)] [(.ref 81),(.ref 59),(.type "object")] [(.ref 101),(.ref 197),(.ref 217)] (.ref 64) 256 264,
u 91 #[.none,.none,.none],
c 97 n9 297 (q qk n9) 24 7 307,
f 98 n9 (q qk n9) (mS 6 0) (.ref 91) n6 216,
d 100 #[k P s2 292 (.str n6 216),k P s1 296 (.int 22 295),k P n9 309 (.ref 98),k P s0 316 (.ref 99),k P s3 317 .none] 2,
y 101 qk [(.ref 81)] [(.ref 101),(.ref 81),(.ref 59),(.type "object")] [(.ref 229),(.ref 253)] (.ref 84) 285 293,
d 112 #[k P s2 327 (.str n6 216),k P s1 331 (.int 31 330),k P s0 332 (.ref 111),k P s3 333 .none] 2,
y 113 xD [(.ref 59)] [(.ref 113),(.ref 59),(.type "object")] [(.ref 241),(.ref 265)] (.ref 104) 320 328,
u 123 #[.none,.none,.none],
c 129 n9 348 (q q9 n9) 35 4 355,
f 130 n9 (q q9 n9) (mS 8 0) (.ref 123) n6 216,
d 132 #[k P s2 343 (.str n6 216),k P s1 347 (.int 33 346),k P n9 357 (.ref 130),k P s0 361 (.ref 131),k P s3 362 .none] 2,
y 133 q9 [(.ref 59)] [(.ref 133),(.ref 59),(.type "object")] [] (.ref 116) 336 344,
d 144 #[k P s2 372 (.str n6 216),k P s1 376 (.int 39 375),k P s0 377 (.ref 143),k P s3 378 .none] 2,
y 145 wT [(.ref 59)] [(.ref 145),(.ref 59),(.type "object")] [] (.ref 136) 365 373,
u 155 #[.none,.none,.none,.none,.none],
c 161 n9 393 (q q6 n9) 43 6 402,
f 162 n9 (q q6 n9) (mS 10 0) (.ref 155) n6 216,
d 164 #[k P s2 388 (.str n6 216),k P s1 392 (.int 41 391),k P n9 404 (.ref 162),k P s0 410 (.ref 163),k P s3 411 .none] 2,
y 165 q6 [(.ref 59)] [(.ref 165),(.ref 59),(.type "object")] [] (.ref 148) 381 389,
u 175 #[.none,.none,.none],
c 181 n9 426 (q qT n9) 51 4 433,
f 182 n9 (q qT n9) (mS 11 0) (.ref 175) n6 216,
d 184 #[k P s2 421 (.str n6 216),k P s1 425 (.int 49 424),k P n9 435 (.ref 182),k P s0 439 (.ref 183),k P s3 440 .none] 2,
y 185 qT [(.ref 59)] [(.ref 185),(.ref 59),(.type "object")] [] (.ref 168) 414 422,
d 196 #[k P s2 450 (.str n6 216),k P s1 454 (.int 55 453),k P s0 455 (.ref 195),k P s3 456 .none] 2,
y 197 vJ [(.ref 81)] [(.ref 197),(.ref 81),(.ref 59),(.type "object")] [] (.ref 188) 443 451,
u 207 #[.none,.none,.none],
c 213 n9 471 (q qt n9) 59 8 482,
f 214 n9 (q qt n9) (mS 13 0) (.ref 207) n6 216,
d 216 #[k P s2 466 (.str n6 216),k P s1 470 (.int 57 469),k P n9 484 (.ref 214),k P s0 492 (.ref 215),k P s3 493 .none] 2,
y 217 qt [(.ref 81)] [(.ref 217),(.ref 81),(.ref 59),(.type "object")] [] (.ref 200) 459 467,
d 228 #[k P s2 503 (.str n6 216),k P s1 507 (.int 67 506),k P s0 508 (.ref 227),k P s3 509 .none] 2,
y 229 vU [(.ref 101)] [(.ref 229),(.ref 101),(.ref 81),(.ref 59),(.type "object")] [] (.ref 220) 496 504,
d 240 #[k P s2 519 (.str n6 216),k P s1 523 (.int 69 522),k P s0 524 (.ref 239),k P s3 525 .none] 2,
y 241 wa [(.ref 113)] [(.ref 241),(.ref 113),(.ref 59),(.type "object")] [] (.ref 232) 512 520,
d 252 #[k P s2 535 (.str n6 216),k P s1 539 (.int 71 538),k P s0 540 (.ref 251),k P s3 541 .none] 2,
y 253 wX [(.ref 101)] [(.ref 253),(.ref 101),(.ref 81),(.ref 59),(.type "object")] [] (.ref 244) 528 536,
d 264 #[k P s2 551 (.str n6 216),k P s1 555 (.int 73 554),k P s0 556 (.ref 263),k P s3 557 .none] 2,
y 265 wJ [(.ref 113)] [(.ref 265),(.ref 113),(.ref 59),(.type "object")] [] (.ref 256) 544 552,
d 276 #[k P s2 569 (.str bb 560),k P s1 573 (.int 76 572),k P s0 574 (.ref 275),k P s3 575 .none] 2,
(277,⟨(.type "type"),none,.cls ⟨dI,[(.ref 31)],[(.ref 277),(.ref 31),(.type "Exception"),(.type "BaseException"),(.type "object")],276,dI,true,[],[],false,none,false⟩,#[(some (.ref 268)),none,(some (.str dI 562)),(some (.str dI 570)),(some (.builtin "Exception.__new__")),(some (.bool true))]⟩),
c 292 n9 590 (q lM n9) 80 9 602,
f 293 n9 (q lM n9) (mS 20 0) .none bb 560,
d 295 #[k P s2 585 (.str bb 560),k P s1 589 (.int 78 588),k P n9 604 (.ref 293),k P s0 613 (.ref 294),k P s5 615 (.ref 297),k P s4 617 (.ref 298),k P s3 618 .none] 4,
(296,⟨(.type "type"),none,.cls ⟨lM,[(.type "object")],[(.ref 296),(.type "object")],295,lM,true,[],[],false,none,false⟩,#[none,none,(some (.str lM 578)),(some (.str lM 586)),(some (.builtin "object.__new__")),(some (.bool true))]⟩),
(308,⟨(.type "dict"),none,.dict (xi P).toArray 2,#[]⟩),
u 309 #[.none,.none,.none,.none,.none],
c 315 n9 640 (q ax n9) 92 7 650,
f 316 n9 (q ax n9) (mS 21 1) (.ref 309) bb 560,
c 322 pF 653 (q ax pF) 128 1 657,
f 323 pF (q ax pF) (mS 21 2) .none bb 560,
c 329 ra 660 (q ax ra) 131 2 665,
f 330 ra (q ax ra) (mS 21 3) .none bb 560,
c 336 sg 668 (q ax sg) 138 1 673,
f 337 sg (q ax sg) (mS 21 4) .none bb 560,
c 343 pA 676 (q ax pA) 151 2 683,
f 344 pA (q ax pA) (mS 21 5) .none bb 560,
u 345 #[(.bool false),(.bool false)],
c 351 qg 686 (q ax qg) 164 3 692,
f 352 qg (q ax qg) (mS 21 6) (.ref 345) bb 560,
c 358 rW 695 (q ax rW) 174 1 699,
f 359 rW (q ax rW) (mS 21 7) .none bb 560,
c 365 sN 702 (q ax sN) 181 1 706,
f 366 sN (q ax sN) (mS 21 8) .none bb 560,
c 372 ry 709 (q ax ry) 184 1 713,
f 373 ry (q ax ry) (mS 21 9) .none bb 560,
u 374 #[(.bool false)],
c 380 rY 716 (q ax rY) 187 2 728,
f 381 rY (q ax rY) (mS 21 10) (.ref 374) bb 560,
c 387 pH 731 (q ax pH) 220 1 735,
f 388 pH (q ax pH) (mS 21 11) .none bb 560,
c 394 pW 738 (q ax pW) 231 1 742,
f 395 pW (q ax pW) (mS 21 12) .none bb 560,
u 396 #[(.bool false),(.bool false),(.bool false),(.bool false)],
c 402 qh 745 (q ax qh) 235 5 753,
f 403 qh (q ax qh) (mS 21 13) (.ref 396) bb 560,
c 409 sq 756 (q ax sq) 260 1 760,
f 410 sq (q ax sq) (mS 21 14) .none bb 560,
c 416 pJ 763 (q ax pJ) 266 1 767,
f 417 pJ (q ax pJ) (mS 21 15) .none bb 560,
c 423 sw 770 (q ax sw) 272 1 774,
f 424 sw (q ax sw) (mS 21 16) .none bb 560,
c 430 sM 777 (q ax sM) 278 1 781,
f 431 sM (q ax sM) (mS 21 17) .none bb 560,
c 437 qI 784 (q ax qI) 290 1 788,
f 438 qI (q ax qI) (mS 21 18) .none bb 560,
c 444 rC 791 (q ax rC) 306 1 795,
f 445 rC (q ax rC) (mS 21 19) .none bb 560,
c 451 pV 798 (q ax pV) 312 1 802,
f 452 pV (q ax pV) (mS 21 20) .none bb 560,
c 458 so 805 (q ax so) 329 1 809,
f 459 so (q ax so) (mS 21 21) .none bb 560,
c 465 p0 812 (q ax p0) 350 1 816,
f 466 p0 (q ax p0) (mS 21 22) .none bb 560,
c 472 rm 819 (q ax rm) 355 1 823,
f 473 rm (q ax rm) (mS 21 23) .none bb 560,
c 479 ri 826 (q ax ri) 362 1 831,
f 480 ri (q ax ri) (mS 21 24) .none bb 560,
c 486 sr 834 (q ax sr) 367 1 838,
f 487 sr (q ax sr) (mS 21 25) .none bb 560,
u 488 #[(.bool false)],
c 494 rh 841 (q ax rh) 370 2 846,
f 495 rh (q ax rh) (mS 21 26) (.ref 488) bb 560,
c 501 rF 849 (q ax rF) 380 1 853,
f 502 rF (q ax rF) (mS 21 27) .none bb 560,
c 508 sj 856 (q ax sj) 384 1 860,
f 509 sj (q ax sj) (mS 21 28) .none bb 560,
u 510 #[(.bool false)],
c 516 qW 863 (q ax qW) 387 2 868,
f 517 qW (q ax qW) (mS 21 29) (.ref 510) bb 560,
c 523 rl 871 (q ax rl) 401 1 875,
f 524 rl (q ax rl) (mS 21 30) .none bb 560,
c 530 p9 878 (q ax p9) 406 1 882,
f 531 p9 (q ax p9) (mS 21 31) .none bb 560,
c 537 p7 885 (q ax p7) 412 1 889,
f 538 p7 (q ax p7) (mS 21 32) .none bb 560,
c 544 sE 892 (q ax sE) 415 1 896,
f 545 sE (q ax sE) (mS 21 33) .none bb 560,
c 551 rG 899 (q ax rG) 418 1 904,
f 552 rG (q ax rG) (mS 21 34) .none bb 560,
c 558 qd 907 (q ax qd) 424 1 912,
f 559 qd (q ax qd) (mS 21 35) .none bb 560,
c 565 rQ 915 (q ax rQ) 440 2 920,
f 566 rQ (q ax rQ) (mS 21 36) .none bb 560,
c 572 ro 923 (q ax ro) 450 1 928,
f 573 ro (q ax ro) (mS 21 37) .none bb 560,
c 579 sA 931 (q ax sA) 472 1 935,
f 580 sA (q ax sA) (mS 21 38) .none bb 560,
c 586 q5 938 (q ax q5) 488 1 943,
f 587 q5 (q ax q5) (mS 21 39) .none bb 560,
c 593 sy 946 (q ax sy) 507 2 953,
f 594 sy (q ax sy) (mS 21 40) .none bb 560,
c 600 pN 956 (q ax pN) 513 2 962,
f 601 pN (q ax pN) (mS 21 41) .none bb 560,
c 607 pI 965 (q ax pI) 523 2 975,
f 608 pI (q ax pI) (mS 21 42) .none bb 560,
c 614 r5 978 (q ax r5) 545 2 993,
f 615 r5 (q ax r5) (mS 21 43) .none bb 560,
c 621 ru 996 (q ax ru) 578 2 1002,
f 622 ru (q ax ru) (mS 21 44) .none bb 560,
c 628 qu 1005 (q ax qu) 586 2 1032,
f 629 qu (q ax qu) (mS 21 45) .none bb 560,
c 635 qE 1035 (q ax qE) 684 1 1039,
f 636 qE (q ax qE) (mS 21 46) .none bb 560,
c 642 qM 1042 (q ax qM) 687 1 1046,
f 643 qM (q ax qM) (mS 21 47) .none bb 560,
c 649 rL 1049 (q ax rL) 690 1 1053,
f 650 rL (q ax rL) (mS 21 48) .none bb 560,
u 651 #[(.bool false),(.bool false)],
c 657 qw 1056 (q ax qw) 693 5 1065,
f 658 qw (q ax qw) (mS 21 49) (.ref 651) bb 560,
c 664 sF 1068 (q ax sF) 704 1 1074,
f 665 sF (q ax sF) (mS 21 50) .none bb 560,
u 666 #[.none],
c 672 qP 1077 (q ax qP) 714 2 1082,
f 673 qP (q ax qP) (mS 21 51) (.ref 666) bb 560,
c 679 sh 1085 (q ax sh) 723 2 1091,
f 680 sh (q ax sh) (mS 21 52) .none bb 560,
c 686 rR 1094 (q ax rR) 728 3 1101,
f 687 rR (q ax rR) (mS 21 53) .none bb 560,
u 688 #[(.bool true)],
c 694 p8 1104 (q ax p8) 733 3 1117,
f 695 p8 (q ax p8) (mS 21 54) (.ref 688) bb 560,
(696,⟨(.type "dict"),none,.dict (Tf P).toArray 15,#[]⟩),
u 697 #[(.bool true)],
c 703 qQ 1166 (q ax qQ) 780 3 1176,
f 704 qQ (q ax qQ) (mS 21 56) (.ref 697) bb 560,
c 710 qS 1179 (q ax qS) 821 2 1185,
f 711 qS (q ax qS) (mS 21 57) .none bb 560,
c 717 r9 1188 (q ax r9) 832 2 1202,
f 718 r9 (q ax r9) (mS 21 58) .none bb 560,
c 724 sd 1205 (q ax sd) 880 2 1217,
f 725 sd (q ax sd) (mS 21 59) .none bb 560,
u 726 #[(.bool true)],
c 732 sK 1220 (q ax sK) 912 3 1233,
f 733 sK (q ax sK) (mS 21 60) (.ref 726) bb 560,
d 735 #[k P s2 628 (.str bb 560),k P s1 632 (.int 89 631),k P uw 639 (.ref 308),k P n9 652 (.ref 316),k P pF 659 (.ref 323),k P ra 667 (.ref 330),k P sg 675 (.ref 337),k P pA 685 (.ref 344),k P qg 694 (.ref 352),k P rW 701 (.ref 359),k P sN 708 (.ref 366),k P ry 715 (.ref 373),k P rY 730 (.ref 381),k P pH 737 (.ref 388),k P pW 744 (.ref 395),k P qh 755 (.ref 403),k P sq 762 (.ref 410),k P pJ 769 (.ref 417),k P sw 776 (.ref 424),k P sM 783 (.ref 431),k P qI 790 (.ref 438),k P rC 797 (.ref 445),k P pV 804 (.ref 452),k P so 811 (.ref 459),k P p0 818 (.ref 466),k P rm 825 (.ref 473),k P ri 833 (.ref 480),k P sr 840 (.ref 487),k P rh 848 (.ref 495),k P rF 855 (.ref 502),k P sj 862 (.ref 509),k P qW 870 (.ref 517),k P rl 877 (.ref 524),k P p9 884 (.ref 531),k P p7 891 (.ref 538),k P sE 898 (.ref 545),k P rG 906 (.ref 552),k P qd 914 (.ref 559),k P rQ 922 (.ref 566),k P ro 930 (.ref 573),k P sA 937 (.ref 580),k P q5 945 (.ref 587),k P sy 955 (.ref 594),k P pN 964 (.ref 601),k P pI 977 (.ref 608),k P r5 995 (.ref 615),k P ru 1004 (.ref 622),k P qu 1034 (.ref 629),k P qE 1041 (.ref 636),k P qM 1048 (.ref 643),k P rL 1055 (.ref 650),k P qw 1067 (.ref 658),k P sF 1076 (.ref 665),k P qP 1084 (.ref 673),k P sh 1093 (.ref 680),k P rR 1103 (.ref 687),k P p8 1119 (.ref 695),k P O9 1165 (.ref 696),k P qQ 1178 (.ref 704),k P qS 1187 (.ref 711),k P r9 1204 (.ref 718),k P sd 1219 (.ref 725),k P sK 1235 (.ref 733),k P s0 1264 (.ref 734),k P s5 1266 (.ref 737),k P s4 1268 (.ref 738),k P s3 1269 .none] 4,
(736,⟨(.type "type"),none,.cls ⟨ax,[(.type "object")],[(.ref 736),(.type "object")],735,ax,true,[],[],false,none,false⟩,#[none,none,(some (.str ax 621)),(some (.str ax 629)),(some (.builtin "object.__new__")),(some (.bool true))]⟩),
c 753 n9 1284 (q jd n9) 965 1 1288,
f 754 n9 (q jd n9) (mS 22 0) .none bb 560,
c 760 pR 1291 (q jd pR) 968 2 1296,
f 761 pR (q jd pR) (mS 22 1) .none bb 560,
c 767 fK 1299 (q jd fK) 971 1 1303,
f 768 fK (q jd fK) (mS 22 2) .none bb 560,
d 770 #[k P s2 1279 (.str bb 560),k P s1 1283 (.int 963 1282),k P n9 1290 (.ref 754),k P pR 1298 (.ref 761),k P fK 1305 (.ref 768),k P s0 1307 (.ref 769),k P s5 1309 (.ref 772),k P s4 1311 (.ref 773),k P s3 1312 .none] 4,
(771,⟨(.type "type"),none,.cls ⟨jd,[(.type "object")],[(.ref 771),(.type "object")],770,jd,true,[],[],false,none,false⟩,#[none,none,(some (.str jd 1272)),(some (.str jd 1280)),(some (.builtin "object.__new__")),(some (.bool true))]⟩),
c 781 o8 1317 o8 974 0 1320,
f 782 o8 o8 (tS 24) .none mo 1315,
c 788 om 1323 om 976 0 1326,
f 789 om om (tS 25) .none mo 1315,
c 795 oR 1329 oR 978 1 1338,
f 796 oR oR (tS 26) .none mo 1315,
c 802 nU 1341 nU 999 3 1353,
f 803 nU nU (tS 27) .none mo 1315,
c 809 nO 1356 nO 1014 2 1365,
f 810 nO nO (tS 28) .none mo 1315,
c 816 o9 1368 o9 1023 3 1381,
f 817 o9 o9 (tS 29) .none mo 1315,
c 823 oC 1384 oC 1041 2 1412,
f 824 oC oC (tS 30) .none mo 1315,
(828,⟨(.type "code"),none,.fields #[(.str px 1415),(.str px 1416),(.str uI 1417),(.int 1109 0),(.int 1 0),(.int 0 0),(.int 0 0),(.int 3 0),(.ref 825),(.bool true),(.int 181 0),(.ref 826),.none,.none,.none,(.ref 827),(.int 1418 0),(.int 1109 0),(.str uI 1419)],#[]⟩),
f 829 px px (tS 31) .none mo 1315]
noncomputable def yL:List Addr:=[3,20,21,30,31,42,48,49,55,56,58,59,71,77,78,80,81,91,97,98,100,101,112,113,123,129,130,132,133,144,145,155,161,162,164,165,175,181,182,184,185,196,197,207,213,214,216,217,228,229,240,241,252,253,264,265,276,277,292,293,295,296,308,309,315,316,322,323,329,330,336,337,343,344,345,351,352,358,359,365,366,372,373,374,380,381,387,388,394,395,396,402,403,409,410,416,417,423,424,430,431,437,438,444,445,451,452,458,459,465,466,472,473,479,480,486,487,488,494,495,501,502,508,509,510,516,517,523,524,530,531,537,538,544,545,551,552,558,559,565,566,572,573,579,580,586,587,593,594,600,601,607,608,614,615,621,622,628,629,635,636,642,643,649,650,651,657,658,664,665,666,672,673,679,680,686,687,688,694,695,696,697,703,704,710,711,717,718,724,725,726,732,733,735,736,753,754,760,761,767,768,770,771,781,782,788,789,795,796,802,803,809,810,816,817,823,824,828,829]
def fI(a:Addr)(s:Stmt)(as:List Str)(d:List AV):Addr×nJ:=(a,⟨as,d,fB s,(fS s).names⟩)
def jb:List (Addr×nJ) :=
 [fI 21 (tS 0) [n1] [],fI 49 (mS 4 0) [aO,b7,b9] [.none,.none],fI 56 (mS 4 1) [aO] [],fI 78 (mS 5 0) [aO,dh,b7,b9] [.none,.none],fI 98 (mS 6 0) [aO,dh,hV,i8,b7,b9,lQ] [.none,.none,.none],fI 130 (mS 8 0) [aO,b7,b9,mh] [.none,.none,.none],fI 162 (mS 10 0) [aO,b7,b9,nG,sT,xj] [.none,.none,.none,.none,.none],fI 182 (mS 11 0) [aO,b7,b9,nG] [.none,.none,.none],fI 214 (mS 13 0) [aO,dh,hV,i8,uU,b7,b9,gi] [.none,.none,.none],fI 293 (mS 20 0) [aO,wk,zd,BR,Aj,AG,Bl,z6,BB] [],fI 316 (mS 21 1) [aO,r8,pO,rg,Pp,rc,OQ] [.none,.none,.none,.none,.none],fI 323 (mS 21 2) [aO] [],fI 330 (mS 21 3) [aO,cQ] [],fI 337 (mS 21 4) [aO] [],fI 344 (mS 21 5) [aO,sI] [],fI 352 (mS 21 6) [aO,LX,Mb] [.bool false,.bool false],fI 359 (mS 21 7) [aO] [],fI 366 (mS 21 8) [aO] [],fI 373 (mS 21 9) [aO] [],fI 381 (mS 21 10) [aO,ge] [.bool false],fI 388 (mS 21 11) [aO] [],fI 395 (mS 21 12) [aO] [],fI 403 (mS 21 13) [aO,TT,OT,NC,Pq] [.bool false,.bool false,.bool false,.bool false],fI 410 (mS 21 14) [aO] [],fI 417 (mS 21 15) [aO] [],fI 424 (mS 21 16) [aO] [],fI 431 (mS 21 17) [aO] [],fI 438 (mS 21 18) [aO] [],fI 445 (mS 21 19) [aO] [],fI 452 (mS 21 20) [aO] [],fI 459 (mS 21 21) [aO] [],fI 466 (mS 21 22) [aO] [],fI 473 (mS 21 23) [aO] [],fI 480 (mS 21 24) [aO] [],fI 487 (mS 21 25) [aO] [],fI 495 (mS 21 26) [aO,ge] [.bool false],fI 502 (mS 21 27) [aO] [],fI 509 (mS 21 28) [aO] [],fI 517 (mS 21 29) [aO,ge] [.bool false],fI 524 (mS 21 30) [aO] [],fI 531 (mS 21 31) [aO] [],fI 538 (mS 21 32) [aO] [],fI 545 (mS 21 33) [aO] [],fI 552 (mS 21 34) [aO] [],fI 559 (mS 21 35) [aO] [],fI 566 (mS 21 36) [aO,HO] [],fI 573 (mS 21 37) [aO] [],fI 580 (mS 21 38) [aO] [],fI 587 (mS 21 39) [aO] [],fI 594 (mS 21 40) [aO,sT] [],fI 601 (mS 21 41) [aO,NE] [],fI 608 (mS 21 42) [aO,Te] [],fI 615 (mS 21 43) [aO,hV] [],fI 622 (mS 21 44) [aO,dh] [],fI 629 (mS 21 45) [aO,wk] [],fI 636 (mS 21 46) [aO] [],fI 643 (mS 21 47) [aO] [],fI 650 (mS 21 48) [aO] [],fI 658 (mS 21 49) [aO,HO,Qu,pX,pE] [.bool false,.bool false],fI 665 (mS 21 50) [aO] [],fI 673 (mS 21 51) [aO,Ef] [.none],fI 680 (mS 21 52) [aO,OH] [],fI 687 (mS 21 53) [aO,Jd,VK] [],fI 695 (mS 21 54) [aO,fK,zm] [.bool true],fI 704 (mS 21 56) [aO,fK,zm] [.bool true],fI 711 (mS 21 57) [aO,fK] [],fI 718 (mS 21 58) [aO,fK] [],fI 725 (mS 21 59) [aO,fK] [],fI 733 (mS 21 60) [aO,fK,zm] [.bool true],fI 754 (mS 22 0) [aO] [],fI 761 (mS 22 1) [aO,Ef] [],fI 768 (mS 22 2) [aO] [],fI 782 (tS 24) [] [],fI 789 (tS 25) [] [],fI 796 (tS 26) [Oo] [],fI 803 (tS 27) [gR,yg,bu] [],fI 810 (tS 28) [bu,cX] [],fI 817 (tS 29) [Qm,K4,gT] [],fI 824 (tS 30) [bu,bZ] [],fI 829 (tS 31) [KS] []]
def mI:List (Addr×CI) :=
 [(59,⟨(some 49),true,[59],[(n9,49),(fV,56)],[],[b9,b7]⟩),
  (81,⟨(some 78),true,[81,59],[(n9,78),(fV,56)],[],[dh,b9,b7]⟩),
  (101,⟨(some 98),true,[101,81,59],[(n9,98),(fV,56)],[],[dh,b9,lQ,i8,b7,hV]⟩),
  (113,⟨(some 49),true,[113,59],[(n9,49),(fV,56)],[],[b9,b7]⟩),
  (133,⟨(some 130),true,[133,59],[(n9,130),(fV,56)],[],[mh,b9,b7]⟩),
  (145,⟨(some 49),true,[145,59],[(n9,49),(fV,56)],[],[b9,b7]⟩),
  (165,⟨(some 162),true,[165,59],[(n9,162),(fV,56)],[],[b9,nG,b7,xj,sT]⟩),
  (185,⟨(some 182),true,[185,59],[(n9,182),(fV,56)],[],[b9,nG,b7]⟩),
  (197,⟨(some 78),true,[197,81,59],[(n9,78),(fV,56)],[],[dh,b9,b7]⟩),
  (217,⟨(some 214),true,[217,81,59],[(n9,214),(fV,56)],[],[dh,b9,i8,b7,gi,hV,uU]⟩),
  (229,⟨(some 98),true,[229,101,81,59],[(n9,98),(fV,56)],[],[dh,b9,lQ,i8,b7,hV]⟩),
  (241,⟨(some 49),true,[241,113,59],[(n9,49),(fV,56)],[],[b9,b7]⟩),
  (253,⟨(some 98),true,[253,101,81,59],[(n9,98),(fV,56)],[],[dh,b9,lQ,i8,b7,hV]⟩),
  (265,⟨(some 49),true,[265,113,59],[(n9,49),(fV,56)],[],[b9,b7]⟩),
  (296,⟨(some 293),true,[296],[(n9,293)],[],[BB,AG,z6,Aj,Bl,zd,BR,wk]⟩),
  (736,⟨(some 316),false,[736],[(n9,316),(pF,323),(ra,330),(sg,337),(pA,344),(qg,352),(rW,359),(sN,366),(ry,373),(rY,381),(pH,388),(pW,395),(qh,403),(sq,410),(pJ,417),(sw,424),(sM,431),(qI,438),(rC,445),(pV,452),(so,459),(p0,466),(rm,473),(ri,480),(sr,487),(rh,495),(rF,502),(sj,509),(qW,517),(rl,524),(p9,531),(p7,538),(sE,545),(rG,552),(qd,559),(rQ,566),(ro,573),(sA,580),(q5,587),(sy,594),(pN,601),(pI,608),(r5,615),(ru,622),(qu,629),(qE,636),(qM,643),(rL,650),(qw,658),(sF,665),(qP,673),(sh,680),(rR,687),(p8,695),(qQ,704),(qS,711),(r9,718),(sd,725),(sK,733)],[(uw,.dict)],[rc,uZ,uK,uT,uh,pO,ui,mh,cQ,sW,tL,rg,pE,sV,uD,tE,ug,tG,uL,uq,ut,tQ,sR,u6,r8,gi,tm,pX]⟩),
  (771,⟨(some 754),false,[771],[(n9,754),(pR,761),(fK,768)],[],[ir]⟩)]
def Cq:List (Str×AV) :=
 [(n4,.cls 31),
  (n7,.cls 59),
  (su,.cls 81),
  (qk,.cls 101),
  (xD,.cls 113),
  (q9,.cls 133),
  (wT,.cls 145),
  (q6,.cls 165),
  (qT,.cls 185),
  (vJ,.cls 197),
  (qt,.cls 217),
  (vU,.cls 229),
  (wa,.cls 241),
  (wX,.cls 253),
  (wJ,.cls 265),
  (dI,.cls 277),
  (lM,.cls 296),
  (ax,.cls 736),
  (jd,.cls 771),
  (n0,.fn 21),
  (o8,.fn 782),
  (om,.fn 789),
  (oR,.fn 796),
  (nU,.fn 803),
  (nO,.fn 810),
  (o9,.fn 817),
  (oC,.fn 824),
  (px,.fn 829),
  (Sg,.bi .len),
  (KL,.bi .isi),
  (KH,.bi .range)]
def vw:Program:=view ar [31]
def loose:List Str:=[n0,n4,n7,su,qk,xD,q9,wT,q6,qT,vJ,qt,vU,wa,wX,wJ,dI,lM,ax,jd,o8,om,oR,nU,nO,o9,oC]
abbrev Bm (X7:Nat) (Xt:χ→Bool) {α:Type} (Yf:χ→α) (Ya:World→α) (w:World):Prop:=(fun os=>(tM (stepOk 11 (some (.ref 6))) (stepT (denote treeTable) ar w) X7 ⟨T₀ w.params,11,{},Array.mk [],boot_drawn,boot_toks,os⟩ (topStub ar)).map fun s=>
 ((staticsOk (importedModules ar.main.body) (absHeap (T₀ w.params) 11 {}) s.abs.heap&&namesBound ar s.abs.heap&&gensDone s.abs&&laidKept (absHeap (T₀ w.params) 11 {}) s.abs.heap),
  openSeen vw loose (importedModules ar.main.body) Xt true s.abs,Yf s.abs))=fun U=>some (true,openGood vw loose,Ya w)
abbrev u8 (w:World):Prop:=Bm 14000 (fun U=>true) (fun s=>yL.map s.heap.get?) (fun w=>(bY w.params).map fun p=>some p.2) w
def JN(w:World):u8 (w.withFollow "special-get-raises" false):=by
 unfold u8 Bm;rw[PySem.W.Fast.te6613529449190102663,PySem.W.Fast.te10156331382660048174,PySem.W.Fast.te11892475500146522536,PySem.W.Fast.te14364793385576792824,PySem.W.Fast.te4187177175401517315,PySem.W.Fast.te5923862056798008813];kernel_rfl
def TQ(w:World):u8 (w.withFollow "special-get-raises" true):=by
 unfold u8 Bm;rw[PySem.W.Fast.te6613529449190102663,PySem.W.Fast.te10156331382660048174,PySem.W.Fast.te11892475500146522536,PySem.W.Fast.te14364793385576792824,PySem.W.Fast.te4187177175401517315,PySem.W.Fast.te5923862056798008813];kernel_rfl
def PS:∀ w:World,u8 w:=byRow2 "special-get-raises" JN TQ
def N5:(defOf vw gp.row.name).isSome=true:=by kernel_rfl
def iA:DefRec:=((defOf vw gp.row.name).get N5).1
def P7:defOf vw gp.row.name=some (iA,[]):=by kernel_rfl
def KV:∀ P,yL=(bY P).map (·.1):=fun U=>by kernel_rfl
def RA:LeftO gp.row.prog vw loose (fun U=>true) (fun s=>yL.map s.heap.get?) (fun w=>(bY w.params).map fun p=>some p.2) 14200:=Ss Jm Rh PS (by decide)
def VW:(chainsOk vw&&opensWell gp.row.prog&&(frees gp.row.toRowW&&gp.row.within.isEmpty))=true:=by kernel_rfl
def N0:gp.row.prog.theDef gp.row.name=some (iA.params,iA.body,iA.scope):=by kernel_rfl
def Sm:kwWritten? iA.params.kwonlyargs iA.params.kw_defaults=some []:=by kernel_rfl
def Qz:gp.row.prog.bare:=⟨rfl,rfl,rfl,rfl,rfl,by decide +kernel⟩
def Rb:gp.row.records=[]:=by kernel_rfl
def Sb:PySem.Challenge.rw_te0005_03.row.toRowW.promised:=by w_witness2
def V7:gp.row.toRowW.promised:=CE▸Sb
def LA(s:χ):RecFacts gp.row.records s.heap:=by
 rw[Rb];exact recFacts_of (R:=[]) (by rfl)
def head(walk:WalkO vw loose (fun U U=>True) (InK bY) gp.row.toRowW iA [] fun f vs=>PySem.call f vs):PySem.Challenge.rw_te0005_03.Holds:=by
 rw[CE];refine holds_law U3 fun k1=>?_;exact holds_open (q:=vw) (loose:=loose) (Xt:=fun U=>true) (XP:=fun U U=>True) (YP:=InK bY) (N:=14200) RA (InK.of KV) InK.keeps
  (fun U U=>trivial) (fun U U U U U=>trivial) P7 N0 Sm (fun s U=>LA s) (by rfl) k1 VW Qz V7 walk
end
section
def oB{motive:Bool→Prop}(t:Bool)(false:motive false)(true:motive true):motive t:=Bool.rec false true t
def oO{α:Type}{motive:κ α→Prop}(t:κ α)(none:motive none)(some:∀ a,motive (some a)):motive t:=Option.rec none some t
def oL{α:Type}{motive:List α→Prop}(t:List α)(nil:motive [])(cons:∀ a r,motive (a::r)):motive t:=List.rec nil (fun a r U=>cons a r) t
def j1{α:Type}{a b:α}{P:Prop}(h:some a=some b)(k:b=a→P):P:=k (bM h).symm
def j2{α B:Type}{a b:α}{c d:B}{P:Prop}(h:some (a,c)=some (b,d))(k:b=a→d=c→P):P:=j1 h fun e=>k (congrArg (·.1) e) (congrArg (·.2) e)
def j3{α B γ:Type}{a b:α}{c d:B}{e f:γ}{P:Prop}(h:some (a,c,e)=some (b,d,f))(k:b=a→d=c→f=e→P):P:=j2 h fun x y=>k x (congrArg (·.1) y) (congrArg (·.2) y)
def r1{α:Type}{a b:α}(h:some a=some b){P:α→Prop}(k:P a):P b:=bM h▸k
def r2{α B:Type}{a b:α}{c d:B}(h:some (a,c)=some (b,d)){P:α→B→Prop}(k:P a c):P b d:=j2 h fun x y=>x▸y▸k
def r3{α B γ:Type}{a b:α}{c d:B}{e f:γ}(h:some (a,c,e)=some (b,d,f)){P:α→B→γ→Prop}(k:P a c e):P b d f:=j3 h fun x y z=>x▸y▸z▸k
inductive CC where
 |list (a:Addr) (vs:List π) (n:Nat)
 |inst (a C d:Addr) (es:List DictEntry) (n:Nat)
 |seg (vs:List π)
structure Ev where
 iv:Nat→Int
 sv:Nat→ξ
 P:Params
 ov:Nat→π
 cv:Nat→CC
def Ev.Ok(Z:Ev):Prop:=∀ i,Z.iv (2*i+1)=(Z.sv i).length
noncomputable def cg(Z:Ev):List (Nat×Int)→Int
 |[]=>0
 |p::r=>p.2*Z.iv p.1+cg Z r
def aD.val(Z:Ev)(x:aD):Int:=x.c+cg Z x.l
def Ob(h:wL i=true):i=0:=by
 cases i with
 |ofNat n=>exact congrArg Int.ofNat (aJ h)
 |negSucc n=>injection h
def Ou(v:Nat)(a:Int):∀ l,cg Z (s8 v a l)=a*Z.iv v+cg Z l:=by
 intro L0;induction L0 with
 |nil=>rfl
 |cons p r ih=>
  show cg Z (Bool.rec (Bool.rec (p::s8 v a r) ((v,a)::p::r) (v.blt p.1)) (Bool.rec ((p.1,a+p.2)::r) r (wL (a+p.2))) (Nat.beq p.1 v))=a*Z.iv v+(p.2*Z.iv p.1+cg Z r);cases h:Nat.beq p.1 v with
  |true=>
   rw[aJ h];cases q:wL (a+p.2) with
   |true=>rw[←WU,←Int.add_mul,Ob q,Int.zero_mul,Int.zero_add]
   |false=>
    show (a+p.2)*Z.iv v+cg Z r=_;rw[Int.add_mul,WU]
  |false=>
   cases v.blt p.1 with
   |true=>rfl
   |false=>
    show p.2*Z.iv p.1+cg Z (s8 v a r)=_;rw[ih,Int.add_left_comm]
def TG:∀ x y,cg Z (vl x y)=cg Z x+cg Z y:=by
 intro L0;induction L0 with
 |nil=>
  intro y;exact(Int.zero_add _).symm
 |cons x0 r ih=>
  obtain⟨v,a⟩:=x0;intro y;show cg Z (vl r (s8 v a y))=a*Z.iv v+cg Z r+cg Z y;rw[ih,Ou,←WU,X1 (cg Z r)]
def bH(i:Int):(aD.k i).val Z=i:=XL _
def Lb(l r:List (Nat×Int)):cg Z (addL l r)=cg Z l+cg Z r:=by
 induction r using oL with
 |nil=>exact(XL _).symm
 |cons b r=>induction l using oL with
  |nil=>exact(Int.zero_add _).symm
  |cons a l=>exact TG (a::l) (b::r)
def du(x y:aD):(x.add y).val Z=x.val Z+y.val Z:=by
 show x.c+y.c+cg Z (addL x.l y.l)=x.c+cg Z x.l+(y.c+cg Z y.l);rw[Lb,WU,WU,Int.add_left_comm y.c]
def LP:∀ l:List (Nat×Int),cg Z (l.map fun p=>(p.1,-p.2))=- cg Z l:=by
 intro L0;induction L0 with
 |nil=>
  exact rfl
 |cons x0 r ih=>
  obtain⟨v,a⟩:=x0;show -a*Z.iv v+cg Z (r.map _)=-(a*Z.iv v+cg Z r);rw[ih,Int.neg_mul];exact Int.neg_add.symm
def SA(x:aD):x.neg.val Z=- x.val Z:=by
 show -x.c+cg Z (x.l.map _)=-(x.c+cg Z x.l);rw[LP];exact Int.neg_add.symm
def n5(x y:aD):(x.sub y).val Z=x.val Z-y.val Z:=by
 unfold aD.sub;rw[du,SA];exact Int.sub_eq_add_neg
def gZ{x:aD}(h:x.conc=some i):x.val Z=i:=by
 unfold aD.conc at h;unfold aD.val;cases e:x.l with
 |nil=>rw[e] at h;rw[←bM h];exact wM _
 |cons=>rw[e] at h;injection h
def aU(B:Bd)(Z:Ev):Prop:=∀ v p,rp B v=some p→p.1≤Z.iv v∧Z.iv v≤p.2
def pB(a b:Int):eJ a b=true↔a≤b:=by
 unfold eJ;cases q:b-a with
 |ofNat n=>exact⟨fun U=>XJ (by rw[q];exact cT n),fun U=>rfl⟩
 |negSucc n=>exact⟨fun h=>by injection h,fun h=>absurd (XB h) (by rw[q];exact Int.not_le.mpr (Int.negSucc_lt_zero n))⟩
def Ll(hb:aU B Z):∀ {l:List (Nat×Int)} {t:Int},u5 B l=some t→t≤cg Z l:=by
 intro L0;induction L0 with
 |nil=>
  intro t h;rw[←bM h];exact bO _
 |cons p r ih=>
  intro t h;replace h:Option.rec none (fun q=>Option.rec none (fun t=>some (Int.rec (fun U=>p.2*q.1) (fun U=>p.2*q.2) p.2+t)) (u5 B r)) (rp B p.1)=some t:=h;cases e1:rp B p.1 with
  |none=>rw[e1] at h;injection h
  |some q=>
   cases e2:u5 B r with
   |none=>rw[e1,e2] at h;injection h
   |some s=>
    rw[e1,e2] at h;have h1:=hb p.1 _ e1;have h2:=ih e2;rw[←bM h];show _≤p.2*Z.iv p.1+cg Z r;cases p.2 with
    |ofNat n=>exact Int.add_le_add (Int.mul_le_mul_of_nonneg_left h1.1 (cT n)) h2
    |negSucc n=>exact Int.add_le_add (Int.mul_le_mul_of_nonpos_left (Int.le_of_lt (Int.negSucc_lt_zero n)) h1.2) h2
def ua(hb:aU B Z){x:aD}(h:x.lo B=some t):t≤x.val Z:=by
 unfold aD.lo at h;cases e:u5 B x.l with
 |none=>rw[e] at h;injection h
 |some s=>rw[e] at h;rw[←bM h];exact Int.add_le_add_left (Ll hb e) _
def Rl(hb:aU B Z)(h:BS B x y=some b):b=decide (x.val Z<y.val Z):=by
 unfold BS at h;cases e:(y.sub x).lo B with
 |none=>rw[e] at h;injection h
 |some d=>
  rw[e] at h;have h1:=ua hb e;rw[n5] at h1;replace h:Bool.rec (Option.rec none (fun e=>Bool.rec none (some false) (eJ 0 e)) ((x.sub y).lo B)) (some true) (eJ 1 d)=some b:=h;cases q:eJ 1 d with
  |true=>
   rw[q] at h;rw[←bM h];exact(decide_eq_true (Int.lt_of_sub_pos (W3 ((pB 1 d).mp q) h1))).symm
  |false=>
   rw[q] at h;replace h:=h;cases e2:(x.sub y).lo B with
   |none=>rw[e2] at h;injection h
   |some f=>
    rw[e2] at h;have h2:=ua hb e2;rw[n5] at h2;replace h:Bool.rec none (some false) (eJ 0 f)=some b:=h;cases q2:eJ 0 f with
    |true=>
     rw[q2] at h;rw[←bM h];exact(WG (Int.not_lt.mpr (XJ (W3 ((pB 0 f).mp q2) h2)))).symm
    |false=>rw[q2] at h;injection h
set_option tactic.hygienic true in
def P1(a b:Int):jY a b=decide (a<b):=by
 unfold jY;cases a<;>cases b<;>dsimp only
 ·rename_i x y
  cases h:Nat.blt x y with
  |true=>have:=nleT h;symm;rw[decide_eq_true_iff];exact Int.ofNat_lt.mpr this
  |false=>
   have:¬ x<y:=fun q=>by have:Nat.blt x y=true:=Wn q;rw[this] at h;injection h
   symm;rw[Wq];exact fun q=>this (Int.ofNat_lt.mp q)
 ·rename_i x y
  symm;rw[Wq];exact Int.not_lt.mpr (Int.le_of_lt (Int.lt_of_lt_of_le (Int.negSucc_lt_zero _) (cT _)))
 ·rename_i x y
  symm;rw[decide_eq_true_iff];exact Int.lt_of_lt_of_le (Int.negSucc_lt_zero _) (cT _)
 ·rename_i x y
  cases h:Nat.blt y x with
  |true=>have:=nleT h;symm;rw[decide_eq_true_iff];exact Int.neg_lt_neg (Int.ofNat_lt.mpr (Nat.succ_lt_succ this))
  |false=>
   have:¬ y<x:=fun q=>by have:Nat.blt y x=true:=Wn q;rw[this] at h;injection h
   symm;rw[Wq];exact fun q=>this (Nat.lt_of_succ_lt_succ (Int.ofNat_lt.mp (Int.lt_of_neg_lt_neg q)))
set_option tactic.hygienic true in
def pv(a b:Int):jM a b=decide (a=b):=by
 unfold jM;cases a<;>cases b<;>dsimp only
 ·rename_i x y
  cases h:Nat.beq x y with
  |true=>have:=aJ h;clear h;subst this;simp
  |false=>symm;rw[Wq];intro e;exact(W6 h) (Int.ofNat.inj e)
 ·symm;rw[Wq];intro e;injection e
 ·symm;rw[Wq];intro e;injection e
 ·rename_i x y
  cases h:Nat.beq x y with
  |true=>have:=aJ h;clear h;subst this;simp
  |false=>symm;rw[Wq];intro e;exact(W6 h) (Int.negSucc.inj e)
def C3(h:pL x y=true):x.val Z=x.c∧y.val Z=y.c:=by
 unfold pL at h;unfold aD.val;cases hx:x.l with
 |nil=>
  cases hy:y.l with
  |nil=>exact⟨wM _,wM _⟩
  |cons=>rw[hx,hy] at h;injection h
 |cons=>rw[hx] at h;injection h
def vL(hb:aU B Z)(h:n8 B x y=some b):b=decide (x.val Z<y.val Z):=by
 unfold n8 at h;cases q:pL x y with
 |true=>
  rw[q] at h;obtain⟨e1,e2⟩:=C3 q;rw[e1,e2,←P1];exact(bM h).symm
 |false=>rw[q] at h;exact Rl hb h
def wK(hb:aU B Z)(h:me B x y=some b):b=decide (x.val Z≤y.val Z):=by
 unfold me at h;cases e:n8 B y x with
 |none=>rw[e] at h;injection h
 |some c=>
  rw[e] at h;rw[←bM h,vL hb e]
  by_cases q:y.val Z<x.val Z
  ·rw[decide_eq_true q];exact(WG (Int.not_le.mpr q)).symm
  ·rw[WG q];exact(decide_eq_true (Int.not_lt.mp q)).symm
def Ks(hb:aU B Z)(h:zv B x y=some b):b=decide (x.val Z=y.val Z):=by
 unfold zv at h;cases e1:(y.sub x).lo B with
 |none=>rw[e1] at h;injection h
 |some d=>
  cases e2:(x.sub y).lo B with
  |none=>rw[e1,e2] at h;injection h
  |some e=>
   rw[e1,e2] at h;replace h:Bool.rec (Bool.rec (Bool.rec none (Bool.rec none (some true) (eJ 0 e)) (eJ 0 d)) (some false) (eJ 1 e)) (some false) (eJ 1 d)=some b:=h;have h1:=ua hb e1;have h2:=ua hb e2;rw[n5] at h1 h2;clear e1 e2;have no:1≤d∨1≤e→some false=some b→b=decide (x.val Z=y.val Z):=fun q h=>by
    rw[←bM h];exact(WG (q.elim (fun h=>Int.ne_of_lt (Int.lt_of_sub_pos (W3 h h1))) fun h=>Int.ne_of_gt (Int.lt_of_sub_pos (W3 h h2)))).symm
   cases a1:eJ 1 d with
   |true=>rw[a1] at h;exact no (.inl ((pB 1 d).mp a1)) h
   |false=>
    cases a2:eJ 1 e with
    |true=>rw[a1,a2] at h;exact no (.inr ((pB 1 e).mp a2)) h
    |false=>
     cases a3:eJ 0 d with
     |false=>rw[a1,a2,a3] at h;cases eJ 0 e<;>injection h
     |true=>
      cases a4:eJ 0 e with
      |false=>rw[a1,a2,a3,a4] at h;injection h
      |true=>
       rw[a1,a2,a3,a4] at h;rw[←bM h];exact(decide_eq_true (Int.le_antisymm (XJ (W3 ((pB 0 d).mp a3) h1)) (XJ (W3 ((pB 0 e).mp a4) h2)))).symm
def zJ(hb:aU B Z)(h:tI B x y=some b):b=decide (x.val Z=y.val Z):=by
 unfold tI at h;cases q:pL x y with
 |true=>
  rw[q] at h;obtain⟨e1,e2⟩:=C3 q;rw[e1,e2,←pv];exact(bM h).symm
 |false=>rw[q] at h;exact Ks hb h
def Pc.val(Z:Ev):Pc→ξ
 |.lit l=>l
 |.var i=>Z.sv i
 |.rep ch n=>List.replicate (n.val Z).toNat ch
noncomputable def SS.val(Z:Ev):SS→ξ
 |[]=>[]
 |p::r=>p.val Z++SS.val Z r
def dw(Z:Ev)(s:SS):Prop:=∀ p∈s,match p with|.rep _ n=>0≤n.val Z|_=>True
def cE:∀ x y:SS,(x.app y).val Z=x.val Z++y.val Z
 |[],y=>rfl
 |[.lit a],[]=>(aX (a++[])).symm
 |[.lit a],.lit b::r=>by
  show (a++b)++SS.val Z r=(a++[])++(b++SS.val Z r);simp
 |[.lit a],.var i::r=>congrArg (·++SS.val Z (.var i::r)) (aX a).symm
 |[.lit a],.rep c n::r=>congrArg (·++SS.val Z (.rep c n::r)) (aX a).symm
 |.var i::x,y=>by
  show Pc.val Z (.var i)++(SS.app x y).val Z=_;rw[cE x y];exact(bP ..).symm
 |.rep c n::x,y=>by
  show Pc.val Z (.rep c n)++(SS.app x y).val Z=_;rw[cE x y];exact(bP ..).symm
 |.lit a::p::x,y=>by
  show Pc.val Z (.lit a)++(SS.app (p::x) y).val Z=_;rw[cE (p::x) y];exact(bP ..).symm
def kW:∀ {x y:SS},dw Z x→dw Z y→dw Z (x.app y)
 |[],y,_,hy=>hy
 |[.lit a],[],hx,_=>hx
 |[.lit a],.lit b::r,_,hy=>fun p hp=>by
  rcases cI hp with rfl|hp
  ·trivial
  ·exact hy p (.tail _ hp)
 |[.lit a],.var i::r,hx,hy=>fun p hp=>by
  rcases cI hp with rfl|hp
  ·trivial
  ·exact hy p hp
 |[.lit a],.rep c n::r,hx,hy=>fun p hp=>by
  rcases cI hp with rfl|hp
  ·trivial
  ·exact hy p hp
 |.var i::x,y,hx,hy=>fun p hp=>by
  rcases cI hp with rfl|hp
  ·trivial
  ·exact kW (fun q hq=>hx q (.tail _ hq)) hy p hp
 |.rep c n::x,y,hx,hy=>fun p hp=>by
  rcases cI hp with rfl|hp
  ·exact hx _ (.head _)
  ·exact kW (fun q hq=>hx q (.tail _ hq)) hy p hp
 |.lit a::p'::x,y,hx,hy=>fun p hp=>by
  rcases cI hp with rfl|hp
  ·trivial
  ·exact kW (fun q hq=>hx q (.tail _ hq)) hy p hp
def aZ{α:Type}:∀ l:List α,lenA l=l.length:=by
 intro L0;induction L0 with
 |nil=>
  exact rfl
 |cons a r ih=>
  show Nat.succ (lenA r)=_;rw[ih];rfl
def mi(he:Z.Ok):∀ {s:SS},dw Z s→s.len.val Z=(s.val Z).length
 |[],_=>bH 0
 |.lit l::r,h=>by
  show ((aD.k (.ofNat (lenA l))).add (SS.len r)).val Z=_;rw[du,bH,mi he (s:=r) (fun p hp=>h p (.tail _ hp)),aZ];exact congrArg Int.ofNat (List.length_append (as:=l)).symm
 |.var i::r,h=>by
  show ((aD.mk 0 [(2*i+1,1)]).add (SS.len r)).val Z=_;rw[du,mi he (s:=r) (fun p hp=>h p (.tail _ hp))];show (0+(1*Z.iv (2*i+1)+0))+_=_;rw[he i];refine .trans ?_ (congrArg Int.ofNat (List.length_append (as:=Z.sv i)).symm);show (0+(1*((Z.sv i).length:Int)+0))+((SS.val Z r).length:Int)=((Z.sv i).length:Int)+((SS.val Z r).length:Int);rw[Int.one_mul,XL,Int.zero_add]
 |.rep c n::r,h=>by
  show (n.add (SS.len r)).val Z=_;rw[du,mi he (s:=r) (fun p hp=>h p (.tail _ hp))];have:=h _ (.head _);have:0≤n.val Z:=this;refine .trans ?_ (congrArg Int.ofNat (List.length_append (as:=List.replicate _ c)).symm);rw[Wk];show n.val Z+_=((n.val Z).toNat:Int)+((SS.val Z r).length:Int);rw[Int.toNat_of_nonneg this]
def ji{s:SS}{l:ξ}(h:s.conc=some l):s.val Z=l:=by
 induction s using oL with
 |nil=>(apply j1 h;clear h;rintro rfl);rfl
 |cons p r=>
  induction p using Pc.casesOn<;>induction r using oL<;>try (injection h;done)
  (apply j1 h;clear h;rintro rfl);exact aX _
def fT(l:ξ):(SS.k l).val Z=l:=by
 cases l with
 |nil=>rfl
 |cons a l=>exact aX _
def kL(l:ξ):dw Z (SS.k l):=by
 cases l with
 |nil=>intro p hp;cases hp
 |cons a l=>intro p hp;rw[bU hp];trivial
def jf:∀ {a b:ξ},gy a b=true↔a=b
 |[],[]=>⟨fun U=>rfl,fun U=>rfl⟩
 |[],_::_=>⟨fun h=>(Bool.noConfusion (show false=true from h)),fun h=>absurd h (Wu _ _).symm⟩
 |_::_,[]=>⟨fun h=>(Bool.noConfusion (show false=true from h)),fun h=>absurd h (Wu _ _)⟩
 |a::x,b::y=>by
  have e:gy (a::x) (b::y)=(a.beq b&&gy x y):=by
   show Bool.rec (motive:=fun U=>Bool) false (gy x y) (a.beq b)=_;cases a.beq b<;>rfl
  rw[e,Wj,jf,List.cons.injEq];exact⟨fun h=>⟨aJ h.1,h.2⟩,fun h=>⟨by rw[h.1];exact Xz _,h.2⟩⟩
def ii:seq a b=true↔a=b:=by
 constructor
 ·intro h
  unfold seq at h;cases q:Nat.beq (v9 a) (v9 b) with
  |false=>rw[q] at h;injection h
  |true=>
   rw[q] at h;replace h:=jf.mp h;cases a;cases b;congr 1;exact Array.ext' h
 ·rintro rfl
  unfold seq;rw[Xz _];exact jf.mpr rfl
def DX(h:seq a b=false):a≠b:=fun e=>by rw[ii.mpr e] at h;injection h
def cJ{α:Type}:∀ (l:List α) (n:Nat),ao l n=l[n]?
 |[],_=>by show none=_;simp
 |a::r,0=>rfl
 |a::r,n+1=>by show ao r n=_;rw[cJ r n];rfl
def k8{α:Type}:∀ (n:Nat) (l:List α),bN n l=l.take n
 |0,_=>rfl
 |n+1,[]=>rfl
 |n+1,a::r=>by show a::bN n r=_;rw[k8 n r];rfl
def wD{α:Type}:∀ (n:Nat) (l:List α),bT n l=l.drop n
 |0,_=>rfl
 |n+1,[]=>rfl
 |n+1,a::r=>by show bT n r=_;rw[wD n r];rfl
def OB{α:Type}(o:κ α)(P:α→Prop):Prop:=∀ x,o=some x→P x
def OB.pure{α:Type}{x:α}{P:α→Prop}(h:P x):OB (some x) P:=fun U e=>bM e▸h
def fW{α:Type}{a:α}{P:Prop}(h:none=some a):P:=by injection h
def OB.no{α:Type}{P:α→Prop}:OB none P:=fun _ h=>fW h
def OB.ob{α B:Type}{m:κ α}{f:α→κ B}{P:B→Prop}(h:∀ x,m=some x→OB (f x) P):OB (Mine.ob m f) P:=by
 induction m using oO with
 |none=>exact OB.no
 |some x=>exact h x rfl
def OB.obp{α B γ:Type}{m:κ (α×B)}{f:α→B→κ γ}{P:γ→Prop}(h:∀ x y,m=some (x,y)→OB (f x y) P):OB (Mine.obp m f) P:=by
 induction m using oO with
 |none=>exact OB.no
 |some x=>exact h x.1 x.2 rfl
def OB.gd{α:Type}{b:Bool}{k:κ α}{P:α→Prop}(h:b=true→OB k P):OB (Mine.gd b k) P:=by
 induction b using oB with
 |false=>exact OB.no
 |true=>exact h rfl
def Ay{α B:Type}{m:κ α}{f:α→κ B}{y:B}(h:ob m f=some y):∃ x,m=some x∧f x=some y:=by
 induction m using oO with
 |none=>injection h
 |some x=>exact⟨x,rfl,h⟩
def RO{α B γ:Type}{m:κ (α×B)}{f:α→B→κ γ}{z:γ}(h:obp m f=some z):∃ x y,m=some (x,y)∧f x y=some z:=by
 induction m using oO with
 |none=>injection h
 |some x=>exact⟨x.1,x.2,rfl,h⟩
def Qt{α B γ δ:Type}{m:κ (α×B×γ)}{f:α→B→γ→κ δ}{z:δ}(h:kQ m f=some z):∃ x y w,m=some (x,y,w)∧f x y w=some z:=by
 induction m using oO with
 |none=>injection h
 |some x=>exact⟨x.1,x.2.1,x.2.2,rfl,h⟩
def Nu{α:Type}{b:Bool}{k:κ α}{y:α}(h:gd b k=some y):b=true∧k=some y:=by
 induction b using oB with
 |false=>injection h
 |true=>exact⟨rfl,h⟩
def Gn{α1:Type}{α2:Type}{p1:α1→Prop}{p2:α1→Prop}{p3:α1→α2→Prop}{P:Prop}(h:∃ x1,p1 x1∧p2 x1∧(∃ x2,p3 x1 x2))(k:∀ x1,p1 x1→p2 x1→∀ x2,p3 x1 x2→P):P:=h.elim fun x1 h=>h.elim fun h1 h=>h.elim fun h2 h=>h.elim fun x2 h=>k x1 h1 h2 x2 h
def jo{α1:Type}{α2:Type}{α3:Type}{p1:α1→α2→α3→Prop}{p2:α1→α2→α3→Prop}{P:Prop}(h:∃ x1,∃ x2,∃ x3,p1 x1 x2 x3∧p2 x1 x2 x3)(k:∀ x1,∀ x2,∀ x3,p1 x1 x2 x3→p2 x1 x2 x3→P):P:=h.elim fun x1 h=>h.elim fun x2 h=>h.elim fun x3 h=>h.elim fun h1 h=>k x1 x2 x3 h1 h
def ay{p1:Prop}{p2:Prop}{P:Prop}(h:p1∧p2)(k:p1→p2→P):P:=h.elim fun h1 h2=>k h1 h2
def cw{p1:Prop}{p2:Prop}{p3:Prop}{P:Prop}(h:p1∧p2∧p3)(k:p1→p2→p3→P):P:=h.elim fun h1 h=>h.elim fun h2 h3=>k h1 h2 h3
def mq{p1:Prop}{p2:Prop}{p3:Prop}{p4:Prop}{p5:Prop}{P:Prop}(h:p1∧p2∧p3∧p4∧p5)(k:p1→p2→p3→p4→p5→P):P:=h.elim fun h1 h=>h.elim fun h2 h=>h.elim fun h3 h=>h.elim fun h4 h5=>k h1 h2 h3 h4 h5
def j7{p1:Prop}{p2:Prop}{p3:Prop}{p4:Prop}{p5:Prop}{p6:Prop}{P:Prop}(h:p1∧p2∧p3∧p4∧p5∧p6)(k:p1→p2→p3→p4→p5→p6→P):P:=h.elim fun h1 h=>h.elim fun h2 h=>h.elim fun h3 h=>h.elim fun h4 h=>h.elim fun h5 h6=>k h1 h2 h3 h4 h5 h6
def bn{α1:Type}{p1:α1→Prop}{P:Prop}(h:∃ x1,p1 x1)(k:∀ x1,p1 x1→P):P:=h.elim fun x1 h1=>k x1 h1
def af{α1:Type}{p1:α1→Prop}{p2:α1→Prop}{P:Prop}(h:∃ x1,p1 x1∧p2 x1)(k:∀ x1,p1 x1→p2 x1→P):P:=h.elim fun x1 h=>h.elim fun h1 h2=>k x1 h1 h2
def db{α1:Type}{p1:α1→Prop}{p2:α1→Prop}{p3:α1→Prop}{P:Prop}(h:∃ x1,p1 x1∧p2 x1∧p3 x1)(k:∀ x1,p1 x1→p2 x1→p3 x1→P):P:=h.elim fun x1 h=>h.elim fun h1 h=>h.elim fun h2 h3=>k x1 h1 h2 h3
def mV{α1:Type}{p1:α1→Prop}{p2:α1→Prop}{p3:α1→Prop}{p4:α1→Prop}{P:Prop}(h:∃ x1,p1 x1∧p2 x1∧p3 x1∧p4 x1)(k:∀ x1,p1 x1→p2 x1→p3 x1→p4 x1→P):P:=h.elim fun x1 h=>h.elim fun h1 h=>h.elim fun h2 h=>h.elim fun h3 h4=>k x1 h1 h2 h3 h4
def pf{α1:Type}{p1:α1→Prop}{p2:α1→Prop}{p3:α1→Prop}{p4:α1→Prop}{p5:α1→Prop}{P:Prop}(h:∃ x1,p1 x1∧p2 x1∧p3 x1∧p4 x1∧p5 x1)(k:∀ x1,p1 x1→p2 x1→p3 x1→p4 x1→p5 x1→P):P:=h.elim fun x1 h=>h.elim fun h1 h=>h.elim fun h2 h=>h.elim fun h3 h=>h.elim fun h4 h5=>k x1 h1 h2 h3 h4 h5
def bJ{α1:Type}{α2:Type}{p1:α1→α2→Prop}{P:Prop}(h:∃ x1,∃ x2,p1 x1 x2)(k:∀ x1,∀ x2,p1 x1 x2→P):P:=h.elim fun x1 h=>h.elim fun x2 h1=>k x1 x2 h1
def gF{α1:Type}{α2:Type}{p1:α1→α2→Prop}{p2:α1→α2→Prop}{P:Prop}(h:∃ x1,∃ x2,p1 x1 x2∧p2 x1 x2)(k:∀ x1,∀ x2,p1 x1 x2→p2 x1 x2→P):P:=h.elim fun x1 h=>h.elim fun x2 h=>h.elim fun h1 h2=>k x1 x2 h1 h2
def cD{α1:Type}{α2:Type}{p1:α1→α2→Prop}{p2:α1→α2→Prop}{p3:α1→α2→Prop}{P:Prop}(h:∃ x1,∃ x2,p1 x1 x2∧p2 x1 x2∧p3 x1 x2)(k:∀ x1,∀ x2,p1 x1 x2→p2 x1 x2→p3 x1 x2→P):P:=h.elim fun x1 h=>h.elim fun x2 h=>h.elim fun h1 h=>h.elim fun h2 h3=>k x1 x2 h1 h2 h3
def dj{α1:Type}{α2:Type}{α3:Type}{p1:α1→α2→α3→Prop}{p2:α1→α2→α3→Prop}{p3:α1→α2→α3→Prop}{P:Prop}(h:∃ x1,∃ x2,∃ x3,p1 x1 x2 x3∧p2 x1 x2 x3∧p3 x1 x2 x3)(k:∀ x1,∀ x2,∀ x3,p1 x1 x2 x3→p2 x1 x2 x3→p3 x1 x2 x3→P):P:=h.elim fun x1 h=>h.elim fun x2 h=>h.elim fun x3 h=>h.elim fun h1 h=>h.elim fun h2 h3=>k x1 x2 x3 h1 h2 h3
def cj{α1:Type}{α2:Type}{α3:Type}{p1:α1→α2→α3→Prop}{p2:α1→α2→α3→Prop}{p3:α1→α2→α3→Prop}{p4:α1→α2→α3→Prop}{P:Prop}(h:∃ x1,∃ x2,∃ x3,p1 x1 x2 x3∧p2 x1 x2 x3∧p3 x1 x2 x3∧p4 x1 x2 x3)(k:∀ x1,∀ x2,∀ x3,p1 x1 x2 x3→p2 x1 x2 x3→p3 x1 x2 x3→p4 x1 x2 x3→P):P:=h.elim fun x1 h=>h.elim fun x2 h=>h.elim fun x3 h=>h.elim fun h1 h=>h.elim fun h2 h=>h.elim fun h3 h4=>k x1 x2 x3 h1 h2 h3 h4
def lw{α1:Type}{α2:Type}{α3:Type}{α4:Type}{p1:α1→α2→α3→α4→Prop}{p2:α1→α2→α3→α4→Prop}{p3:α1→α2→α3→α4→Prop}{P:Prop}(h:∃ x1,∃ x2,∃ x3,∃ x4,p1 x1 x2 x3 x4∧p2 x1 x2 x3 x4∧p3 x1 x2 x3 x4)(k:∀ x1,∀ x2,∀ x3,∀ x4,p1 x1 x2 x3 x4→p2 x1 x2 x3 x4→p3 x1 x2 x3 x4→P):P:=h.elim fun x1 h=>h.elim fun x2 h=>h.elim fun x3 h=>h.elim fun x4 h=>h.elim fun h1 h=>h.elim fun h2 h3=>k x1 x2 x3 x4 h1 h2 h3
def dZ{α1:Type}{α2:Type}{α3:Type}{α4:Type}{p1:α1→α2→α3→α4→Prop}{p2:α1→α2→α3→α4→Prop}{p3:α1→α2→α3→α4→Prop}{p4:α1→α2→α3→α4→Prop}{P:Prop}(h:∃ x1,∃ x2,∃ x3,∃ x4,p1 x1 x2 x3 x4∧p2 x1 x2 x3 x4∧p3 x1 x2 x3 x4∧p4 x1 x2 x3 x4)(k:∀ x1,∀ x2,∀ x3,∀ x4,p1 x1 x2 x3 x4→p2 x1 x2 x3 x4→p3 x1 x2 x3 x4→p4 x1 x2 x3 x4→P):P:=h.elim fun x1 h=>h.elim fun x2 h=>h.elim fun x3 h=>h.elim fun x4 h=>h.elim fun h1 h=>h.elim fun h2 h=>h.elim fun h3 h4=>k x1 x2 x3 x4 h1 h2 h3 h4
def kb{α1:Type}{α2:Type}{α3:Type}{α4:Type}{p1:α1→α2→α3→α4→Prop}{p2:α1→α2→α3→α4→Prop}{p3:α1→α2→α3→α4→Prop}{p4:α1→α2→α3→α4→Prop}{p5:α1→α2→α3→α4→Prop}{P:Prop}(h:∃ x1,∃ x2,∃ x3,∃ x4,p1 x1 x2 x3 x4∧p2 x1 x2 x3 x4∧p3 x1 x2 x3 x4∧p4 x1 x2 x3 x4∧p5 x1 x2 x3 x4)(k:∀ x1,∀ x2,∀ x3,∀ x4,p1 x1 x2 x3 x4→p2 x1 x2 x3 x4→p3 x1 x2 x3 x4→p4 x1 x2 x3 x4→p5 x1 x2 x3 x4→P):P:=h.elim fun x1 h=>h.elim fun x2 h=>h.elim fun x3 h=>h.elim fun x4 h=>h.elim fun h1 h=>h.elim fun h2 h=>h.elim fun h3 h=>h.elim fun h4 h5=>k x1 x2 x3 x4 h1 h2 h3 h4 h5
def nz{α1:Type}{α2:Type}{α3:Type}{α4:Type}{p1:α1→α2→α3→α4→Prop}{p2:α1→α2→α3→α4→Prop}{p3:α1→α2→α3→α4→Prop}{p4:α1→α2→α3→α4→Prop}{p5:α1→α2→α3→α4→Prop}{p6:α1→α2→α3→α4→Prop}{P:Prop}(h:∃ x1,∃ x2,∃ x3,∃ x4,p1 x1 x2 x3 x4∧p2 x1 x2 x3 x4∧p3 x1 x2 x3 x4∧p4 x1 x2 x3 x4∧p5 x1 x2 x3 x4∧p6 x1 x2 x3 x4)(k:∀ x1,∀ x2,∀ x3,∀ x4,p1 x1 x2 x3 x4→p2 x1 x2 x3 x4→p3 x1 x2 x3 x4→p4 x1 x2 x3 x4→p5 x1 x2 x3 x4→p6 x1 x2 x3 x4→P):P:=h.elim fun x1 h=>h.elim fun x2 h=>h.elim fun x3 h=>h.elim fun x4 h=>h.elim fun h1 h=>h.elim fun h2 h=>h.elim fun h3 h=>h.elim fun h4 h=>h.elim fun h5 h6=>k x1 x2 x3 x4 h1 h2 h3 h4 h5 h6
def rT{α1:Type}{α2:Type}{α3:Type}{α4:Type}{α5:Type}{p1:α1→α2→α3→α4→α5→Prop}{p2:α1→α2→α3→α4→α5→Prop}{p3:α1→α2→α3→α4→α5→Prop}{p4:α1→α2→α3→α4→α5→Prop}{p5:α1→α2→α3→α4→α5→Prop}{P:Prop}(h:∃ x1,∃ x2,∃ x3,∃ x4,∃ x5,p1 x1 x2 x3 x4 x5∧p2 x1 x2 x3 x4 x5∧p3 x1 x2 x3 x4 x5∧p4 x1 x2 x3 x4 x5∧p5 x1 x2 x3 x4 x5)(k:∀ x1,∀ x2,∀ x3,∀ x4,∀ x5,p1 x1 x2 x3 x4 x5→p2 x1 x2 x3 x4 x5→p3 x1 x2 x3 x4 x5→p4 x1 x2 x3 x4 x5→p5 x1 x2 x3 x4 x5→P):P:=h.elim fun x1 h=>h.elim fun x2 h=>h.elim fun x3 h=>h.elim fun x4 h=>h.elim fun x5 h=>h.elim fun h1 h=>h.elim fun h2 h=>h.elim fun h3 h=>h.elim fun h4 h5=>k x1 x2 x3 x4 x5 h1 h2 h3 h4 h5
def lG{α1:Type}{α2:Type}{α3:Type}{α4:Type}{α5:Type}{p1:α1→α2→α3→α4→α5→Prop}{p2:α1→α2→α3→α4→α5→Prop}{p3:α1→α2→α3→α4→α5→Prop}{p4:α1→α2→α3→α4→α5→Prop}{p5:α1→α2→α3→α4→α5→Prop}{p6:α1→α2→α3→α4→α5→Prop}{P:Prop}(h:∃ x1,∃ x2,∃ x3,∃ x4,∃ x5,p1 x1 x2 x3 x4 x5∧p2 x1 x2 x3 x4 x5∧p3 x1 x2 x3 x4 x5∧p4 x1 x2 x3 x4 x5∧p5 x1 x2 x3 x4 x5∧p6 x1 x2 x3 x4 x5)(k:∀ x1,∀ x2,∀ x3,∀ x4,∀ x5,p1 x1 x2 x3 x4 x5→p2 x1 x2 x3 x4 x5→p3 x1 x2 x3 x4 x5→p4 x1 x2 x3 x4 x5→p5 x1 x2 x3 x4 x5→p6 x1 x2 x3 x4 x5→P):P:=h.elim fun x1 h=>h.elim fun x2 h=>h.elim fun x3 h=>h.elim fun x4 h=>h.elim fun x5 h=>h.elim fun h1 h=>h.elim fun h2 h=>h.elim fun h3 h=>h.elim fun h4 h=>h.elim fun h5 h6=>k x1 x2 x3 x4 x5 h1 h2 h3 h4 h5 h6
def ej{p1:Prop}{p2:Prop}{p3:Prop}{p4:Prop}{P:Prop}(h:p1∧p2∧p3∧p4)(k:p1→p2→p3→p4→P):P:=h.elim fun h1 h=>h.elim fun h2 h=>h.elim fun h3 h4=>k h1 h2 h3 h4
def t9{α1:Type}{α2:Type}{p1:α1→α2→Prop}{p2:α1→α2→Prop}{p3:α1→α2→Prop}{p4:α1→α2→Prop}{P:Prop}(h:∃ x1,∃ x2,p1 x1 x2∧p2 x1 x2∧p3 x1 x2∧p4 x1 x2)(k:∀ x1,∀ x2,p1 x1 x2→p2 x1 x2→p3 x1 x2→p4 x1 x2→P):P:=h.elim fun x1 h=>h.elim fun x2 h=>h.elim fun h1 h=>h.elim fun h2 h=>h.elim fun h3 h4=>k x1 x2 h1 h2 h3 h4
def m7{α1:Type}{α2:Type}{p1:α1→α2→Prop}{p2:α1→α2→Prop}{p3:α1→α2→Prop}{p4:α1→α2→Prop}{p5:α1→α2→Prop}{P:Prop}(h:∃ x1,∃ x2,p1 x1 x2∧p2 x1 x2∧p3 x1 x2∧p4 x1 x2∧p5 x1 x2)(k:∀ x1,∀ x2,p1 x1 x2→p2 x1 x2→p3 x1 x2→p4 x1 x2→p5 x1 x2→P):P:=h.elim fun x1 h=>h.elim fun x2 h=>h.elim fun h1 h=>h.elim fun h2 h=>h.elim fun h3 h=>h.elim fun h4 h5=>k x1 x2 h1 h2 h3 h4 h5
def aG{α B:Type}{m:κ α}{f:α→κ B}{r:B}{P:Prop}(h:ob m f=some r)(k:∀ a,m=some a→f a=some r→P):P:=(Ay h).elim fun a h=>h.elim fun h1 h2=>k a h1 h2
def bK{α B γ:Type}{m:κ (α×B)}{f:α→B→κ γ}{r:γ}{P:Prop}(h:obp m f=some r)(k:∀ a b,m=some (a,b)→f a b=some r→P):P:=(RO h).elim fun a h=>h.elim fun b h=>h.elim fun h1 h2=>k a b h1 h2
def xX{α B γ δ:Type}{m:κ (α×B×γ)}{f:α→B→γ→κ δ}{r:δ}{P:Prop}(h:kQ m f=some r)(k:∀ a b c,m=some (a,b,c)→f a b c=some r→P):P:=(Qt h).elim fun a h=>h.elim fun b h=>h.elim fun c h=>h.elim fun h1 h2=>k a b c h1 h2
def bC{α:Type}{b:Bool}{k:κ α}{r:α}{P:Prop}(h:gd b k=some r)(q:b=true→k=some r→P):P:=(Nu h).elim fun h1 h2=>q h1 h2
structure aF where
 w:World
 mg:ω
 mb:ω
 Z:Ev
 hw:Z.P=w.params
 he:Z.Ok
noncomputable abbrev aF.K (M:aF):Frag:=bY M.w.params
variable {M:aF}
section
variable (M)(imm:Δ)(ρ:List Addr)
def Kn(a:Addr)(o:Obj):Prop:=(a,o)∈imm∨M.K.lookup a=some o
noncomputable def ba(l:ξ):Str:=⟨l.toArray⟩
structure ju (C:Addr):Prop where
 ga:plainGet M.K C ""=true
 hd:hasDictIn M.K C=true
 sa:findIn M.K (.ref C) "__setattr__"=some (some (.builtin "object.__setattr__"))
 po:plainOver M.K C=true
 tb:findIn M.K (.ref C) "__bool__"=some none
 tl:findIn M.K (.ref C) "__len__"=some none
structure qC (K:Frag) (D C:Addr) (h:Bool):Prop where
 one:kitOne K (.ref D) (.ref C)=some h
 hd:hasDictIn K D=true
 kin:plainGet K D "__class__"=true∧findIn K (.ref D) "__class__"=some (some (.builtin "object.__class__"))∧specialIn K (.builtin "object.__class__") "__get__"=some (some (.builtin "getset_descriptor.__get__"))∧takesIn K (.builtin "object.__class__")=some true∧mroIn K D (.type "object")=some true
noncomputable def lF(i n:Nat)(t u v:Tok):Obj:={cls:=.type "range",data:=.fields #[.int (i:Int) t,.int ((i+n:Nat):Int) u,.int 1 v]}
def vB(es:List DictEntry):Prop:=∃ kvs:List (Str×π),KeysOf (strKind ar M.w) es.toArray∧Pairs (strKind ar M.w) es kvs∧(kvs.map (·.1)).Nodup∧kvs.length≤1000
mutual
inductive VR:π→AV→Prop
 |none:VR .none .none
 |bool (b:Bool):VR (.bool b) (.bool b)
 |int {l:aD} {i:Int} {t:Tok}:i=l.val M.Z→VR (.int i t) (.int l)
 |str {s:SS} {x:Str} {t:Tok}:x=ba (s.val M.Z)→dw M.Z s→(s.val M.Z).length≤16777216→VR (.str x t) (.str s)
 |cell {a:Addr} {k:Nat}:ao ρ k=some a→VR (.ref a) (.cell k)
 |tup {a:Addr} {vs:List π} {xs:List AV} {n:Nat}:Kn M imm a {cls:=.type "tuple",data:=.seq vs.toArray n}→aj vs xs→VR (.ref a) (.tup xs)
 |obj {a C d:Addr} {es:List DictEntry} {n:Nat} {fs:List (Str×AV)}:(a,instObj C d)∈imm→(d,dictOf es n)∈imm→aT es fs→(∀ p∈fs,findIn M.K (.ref C) p.1=some none)→ju M C→VR (.ref a) (.obj C fs)
 |dict {a:Addr} {es:List DictEntry} {n:Nat}:Kn M imm a (dictOf es n)→(a == sysModules)=false→vB M es→VR (.ref a) .dict
 |cls {C:Addr}:VR (.ref C) (.cls C)
 |fn {f:Addr}:VR (.ref f) (.fn f)
 |bi {k:BF}:VR k.val (.bi k)
 |meth {a f:Addr} {v:π} {x:AV}:(a,methodObj (.ref f) v)∈imm→VR v x→VR (.ref a) (.meth f x)
 |any {v:π} {i:Nat}:M.Z.ov i=v→VR v (.any i)
 |rng {a:Addr} {i n:Nat} {t u v:Tok}:(a,lF i n t u v)∈imm→i+n≤1000→VR (.ref a) (.rng i n)
 |evx {a D d C:Addr} {es:List DictEntry} {n:Nat} {h:Bool}:(a,instObj D d)∈imm→(d,dictOf es n)∈imm→qC M.K D C h→VR (.ref a) (.evx C h)
inductive aj:List π→List AV→Prop
 |nil:aj [] []
 |cons {v:π} {x:AV} {vs:List π} {xs:List AV}:VR v x→aj vs xs→aj (v::vs) (x::xs)
inductive aT:List DictEntry→List (Str×AV)→Prop
 |nil:aT [] []
 |cons {h:Int} {t:Tok} {n:Str} {v:π} {x:AV} {es:List DictEntry} {fs:List (Str×AV)}:VR v x→aT es fs→aT (⟨h,.str n t,v⟩::es) ((n,x)::fs)
end
end
section
variable {imm imm':Δ}{ρ':List Addr}
set_option smartUnfolding false in
def vR(o:eB n (x::r)=true):d6 n x=true∧eB n r=true:=by
 replace o:Bool.rec (motive:=fun U=>Bool) false (eB n r) (d6 n x)=true:=o;cases q:d6 n x with
 |true=>rw[q] at o;exact⟨rfl,o⟩
 |false=>rw[q] at o;injection o
set_option smartUnfolding false in
def vH(o:jO n ((x,y)::r)=true):d6 n y=true∧jO n r=true:=by
 replace o:Bool.rec (motive:=fun U=>Bool) false (jO n r) (d6 n y)=true:=o;cases q:d6 n y with
 |true=>rw[q] at o;exact⟨rfl,o⟩
 |false=>rw[q] at o;injection o
def VI(M:aF)(imm:Δ)(ρ:List Addr)(v:π)(x:AV):Prop:=match x with
 |.none=>v=.none
 |.bool b=>v=.bool b
 |.int l=>∃ t,v=.int (l.val M.Z) t
 |.str s=>∃ t,v=.str (ba (s.val M.Z)) t∧dw M.Z s∧(s.val M.Z).length≤16777216
 |.cell k=>∃ a,v=.ref a∧ao ρ k=some a
 |.tup xs=>∃ a vs n,v=.ref a∧Kn M imm a {cls:=.type "tuple",data:=.seq vs.toArray n}∧aj M imm ρ vs xs
 |.obj C fs=>∃ a d es n,v=.ref a∧(a,instObj C d)∈imm∧(d,dictOf es n)∈imm∧aT M imm ρ es fs∧(∀ p∈fs,findIn M.K (.ref C) p.1=some Option.none)∧ju M C
 |.dict=>∃ a es n,v=.ref a∧Kn M imm a (dictOf es n)∧(a == sysModules)=false∧vB M es
 |.cls C=>v=.ref C
 |.fn f=>v=.ref f
 |.bi k=>v=k.val
 |.meth f x=>∃ a w,v=.ref a∧(a,methodObj (.ref f) w)∈imm∧VR M imm ρ w x
 |.any i=>M.Z.ov i=v
 |.rng i n=>∃ a t u v',v=.ref a∧(a,lF i n t u v')∈imm∧i+n≤1000
 |.evx C h=>∃ a D d es n,v=.ref a∧(a,instObj D d)∈imm∧(d,dictOf es n)∈imm∧qC M.K D C h
def VR.inv(h:VR M imm ρ v x):VI M imm ρ v x :=
 VR.casesOn h rfl (fun U=>rfl) (fun e=>⟨_,congrArg (Value.int · _) e⟩) (fun e o k=>⟨_,congrArg (Value.str · _) e,o,k⟩) (fun e=>⟨_,rfl,e⟩) (fun a b=>⟨_,_,_,rfl,a,b⟩)
  (fun a b c d e=>⟨_,_,_,_,rfl,a,b,c,d,e⟩) (fun a b c=>⟨_,_,_,rfl,a,b,c⟩) rfl rfl rfl (fun a b=>⟨_,_,rfl,a,b⟩) id (fun a b=>⟨_,_,_,_,rfl,a,b⟩) (fun a b c=>⟨_,_,_,_,_,rfl,a,b,c⟩)
def V5(M:aF)(imm:Δ)(ρ:List Addr)(v:List π)(x:List AV):Prop:=match x with
 |[]=>v=[]
 |x::r=>∃ a t,v=a::t∧VR M imm ρ a x∧aj M imm ρ t r
def aj.inv(h:aj M imm ρ v x):V5 M imm ρ v x:=aj.casesOn h rfl fun a b=>⟨_,_,rfl,a,b⟩
def aj.nil_inv(h:aj M imm ρ v []):v=[]:=h.inv
def aj.cons_inv(h:aj M imm ρ v (x::r)):∃ a t,v=a::t∧VR M imm ρ a x∧aj M imm ρ t r:=h.inv
def R6(M:aF)(imm:Δ)(ρ:List Addr)(v:List DictEntry)(x:List (Str×AV)):Prop:=match x with
 |[]=>v=[]
 |x::r=>∃ k t a s,v=⟨k,.str x.1 t,a⟩::s∧VR M imm ρ a x.2∧aT M imm ρ s r
def aT.inv(h:aT M imm ρ v x):R6 M imm ρ v x:=aT.casesOn h rfl fun a b=>⟨_,_,_,_,rfl,a,b⟩
def aj.ind{motive:∀ (vs:List π) (xs:List AV),aj M imm ρ vs xs→Prop}(nil:motive [] [] .nil)(cons:∀ {v:π} {x:AV} {vs:List π} {xs:List AV} (a:VR M imm ρ v x) (g:aj M imm ρ vs xs),motive vs xs g→motive (v::vs) (x::xs) (.cons a g))(h:aj M imm ρ vs xs):motive vs xs h:=by
 induction xs generalizing vs with
 |nil=>have eq9:=h.inv;subst eq9;exact nil
 |cons y r ih=>
  apply cD h.inv;intro a t e0 h1 h2;subst e0;exact cons h1 h2 (ih h2)
def aT.ind{motive:∀ (es:List DictEntry) (fs:List (Str×AV)),aT M imm ρ es fs→Prop}(nil:motive [] [] .nil)(cons:∀ {h:Int} {t:Tok} {n:Str} {v:π} {x:AV} {es:List DictEntry} {fs:List (Str×AV)} (a:VR M imm ρ v x) (g:aT M imm ρ es fs),motive es fs g→motive (⟨h,.str n t,v⟩::es) ((n,x)::fs) (.cons a g))(h:aT M imm ρ es fs):motive es fs h:=by
 induction fs generalizing es with
 |nil=>have eq9:=h.inv;subst eq9;exact nil
 |cons y r ih=>
  apply lw h.inv;intro _ _ a t e0 h1 h2;subst e0;exact cons h1 h2 (ih h2)
noncomputable def cF(o:Obj):Bool:=match o.cls with
 |.type n=>n == "enumerate" ||(n == "list" ||(n == "list_iterator" ||n == "str_iterator" ||n == "str_ascii_iterator" ||n == "range_iterator"))
 |_=>false
def Kn.all(hi:∀ p∈imm,cF p.2=false→p∈imm')(ho:cF o=false)(h:Kn M imm a o):Kn M imm' a o:=h.imp (fun q=>hi _ q ho) id
def rM(n:String)(d:Data)(h:(n == "enumerate" ||(n == "list" ||(n == "list_iterator" ||n == "str_iterator" ||n == "str_ascii_iterator" ||n == "range_iterator")))=false):cF {cls:=.type n,data:=d}=false:=h
section
variable (hi:∀ p∈imm,cF p.2=false→p∈imm')(hr:∀ k a,(q=true→k<n)→ao ρ k=some a→ao ρ' k=some a)
include hi hr
theorem VR.all(o:q=true→d6 n x=true)(h:VR M imm ρ v x):VR M imm' ρ' v x :=
 VR.rec (motive_2:=fun v x U=>(q=true→eB n x=true)→aj M imm' ρ' v x) (motive_3:=fun v x U=>(q=true→jO n x=true)→aT M imm' ρ' v x)
  (fun U=>.none) (fun b U=>.bool b) (fun h U=>.int h) (fun h g k U=>.str h g k) (fun h o=>.cell (hr _ _ (fun e=>nleT (o e)) h)) (fun h U g o=>.tup (h.all hi (rM _ _ (by decide))) (g o))
  (fun a b U d e c o=>.obj (hi _ a rfl) (hi _ b (rM _ _ (by decide))) (c o) d e) (fun h k d U=>.dict (h.all hi (rM _ _ (by decide))) k d)
  (fun U=>.cls) (fun U=>.fn) (fun U=>.bi) (fun h U g o=>.meth (hi _ h (rM _ _ (by decide))) (g o)) (fun h U=>.any h) (fun h k U=>.rng (hi _ h (rM _ _ (by decide))) k) (fun a b c U=>.evx (hi _ a rfl) (hi _ b (rM _ _ (by decide))) c)
  (fun U=>.nil) (fun U U a b o=>.cons (a fun e=>(vR (o e)).1) (b fun e=>(vR (o e)).2))
  (fun U=>.nil) (fun U U a b o=>.cons (a fun e=>(vH (o e)).1) (b fun e=>(vH (o e)).2)) h o
theorem aj.all(o:q=true→eB n x=true)(h:aj M imm ρ v x):aj M imm' ρ' v x:=by
 revert o;induction h using aj.ind with
 |nil=>exact fun U=>.nil
 |cons a _ ih=>exact fun o=>.cons (a.all hi hr fun e=>(vR (o e)).1) (ih fun e=>(vR (o e)).2)
theorem aT.all(o:q=true→jO n x=true)(h:aT M imm ρ v x):aT M imm' ρ' v x:=by
 revert o;induction h using aT.ind with
 |nil=>exact fun U=>.nil
 |cons a _ ih=>exact fun o=>.cons (a.all hi hr fun e=>(vH (o e)).1) (ih fun e=>(vH (o e)).2)
end
section
variable (hi:∀ p∈imm,p∈imm')(hr:∀ k a,ao ρ k=some a→ao ρ' k=some a)
include hi hr
theorem VR.mono:VR M imm ρ v x→VR M imm' ρ' v x:=VR.all (n:=0) (q:=false) (fun p h U=>hi p h) (fun k a U=>hr k a) (fun h=>Bool.noConfusion h)
theorem aj.mono:aj M imm ρ v x→aj M imm' ρ' v x:=aj.all (n:=0) (q:=false) (fun p h U=>hi p h) (fun k a U=>hr k a) (fun h=>Bool.noConfusion h)
theorem aT.mono:aT M imm ρ v x→aT M imm' ρ' v x:=aT.all (n:=0) (q:=false) (fun p h U=>hi p h) (fun k a U=>hr k a) (fun h=>Bool.noConfusion h)
end
section
variable (hr:∀ k a,k<n→ao ρ k=some a→ao ρ' k=some a)
include hr
theorem VR.few(o:d6 n x=true):VR M imm ρ v x→VR M imm ρ' v x:=VR.all (fun p h U=>h) (fun k a h=>hr k a (h rfl)) fun U=>o
theorem aj.few(o:eB n x=true):aj M imm ρ v x→aj M imm ρ' v x:=aj.all (fun p h U=>h) (fun k a h=>hr k a (h rfl)) fun U=>o
theorem aT.few(o:jO n x=true):aT M imm ρ v x→aT M imm ρ' v x:=aT.all (fun p h U=>h) (fun k a h=>hr k a (h rfl)) fun U=>o
end
noncomputable def CC.addr:CC→Addr
 |.list a _ _=>a
 |.inst a _ _ _ _=>a
 |.seg _=>0
noncomputable def CC.objs:CC→Δ
 |.list a vs n=>[(a,listOf vs.toArray n)]
 |.inst a C d es n=>[(a,instObj C d),(d,dictOf es n)]
 |.seg _=>[]
def aQ(cs:List CC):Δ:=cs.flatMap CC.objs
def ae(cs:List CC):List Addr:=cs.map CC.addr
def CC.same{c:CC}(h:c.addr=a):c.addr=a:=h
inductive jV (Z:Ev):List π→ξ→Prop
 |nil:jV Z [] []
 |snoc {vs:List π} {l r:ξ} {t:Tok}:jV Z vs l→jV Z (vs++[.str (ba r) t]) (l++r)
inductive CR (M:aF) (imm:Δ) (ρ:List Addr):CC→ak→Prop
 |list {a:Addr} {vs:List π} {n:Nat} {xs:List AV}:aj M imm ρ vs xs→xs.length≤200000→CR M imm ρ (.list a vs n) (.list xs)
 |rows {a:Addr} {vs:List π} {n:Nat} {q:aD} {t:SS}:jV M.Z vs (t.val M.Z)→dw M.Z t→(vs.length:Int)≤q.val M.Z→CR M imm ρ (.list a vs n) (.rows t q)
 |inst {a C d:Addr} {es:List DictEntry} {n:Nat} {fs:List (Str×AV)}:aT M imm ρ es fs→(∀ p∈fs,findIn M.K (.ref C) p.1=some none)→ju M C→CR M imm ρ (.inst a C d es n) (.inst C fs)
 |any {c:CC} {i:Nat}:M.Z.cv i=c→CR M imm ρ c (.any i)
 |spl {a:Addr} {us vs:List π} {n i:Nat} {xs:List AV}:M.Z.cv i=.seg us→us.length≤50000→aj M imm ρ vs xs→xs.length≤50000→CR M imm ρ (.list a (us++vs) n) (.spl i xs)
 |seg {vs:List π} {xs:List AV}:aj M imm ρ vs xs→xs.length≤50000→CR M imm ρ (.seg vs) (.seg xs)
 |hd {a:Addr} {v:π} {vs:List π} {n i:Nat} {C:Addr} {h:Bool}:M.Z.cv i=.list a (v::vs) n→vs.length≤200000→VR M imm ρ v (.evx C h)→CR M imm ρ (.list a (v::vs) n) (.hd i C h)
inductive aN (M:aF) (imm:Δ) (ρ:List Addr):List CC→List ak→Prop
 |nil:aN M imm ρ [] []
 |cons {c:CC} {x:ak} {cs:List CC} {xs:List ak}:CR M imm ρ c x→aN M imm ρ cs xs→aN M imm ρ (c::cs) (x::xs)
def CR.mono(hi:∀ p∈imm,p∈imm')(hr:∀ k a,ao ρ k=some a→ao ρ' k=some a)(h:CR M imm ρ c x):CR M imm' ρ' c x :=
 CR.casesOn h (fun h k=>.list (h.mono hi hr) k) (fun h g k=>.rows h g k) (fun h g k=>.inst (h.mono hi hr) g k) .any (fun e k h g=>.spl e k (h.mono hi hr) g) (fun h g=>.seg (h.mono hi hr) g) fun e k h=>.hd e k (h.mono hi hr)
def VR.cell_inv(h:VR M imm ρ v (.cell k)):∃ a,v=.ref a∧ao ρ k=some a:=h.inv
def VR.obj_inv(h:VR M imm ρ v (.obj C fs)):∃ a d es n,v=.ref a∧(a,instObj C d)∈imm∧(d,dictOf es n)∈imm∧aT M imm ρ es fs∧(∀ p∈fs,findIn M.K (.ref C) p.1=some Option.none)∧ju M C:=h.inv
def VR.tup_inv(h:VR M imm ρ v (.tup xs)):∃ a vs n,v=.ref a∧Kn M imm a {cls:=.type "tuple",data:=.seq vs.toArray n}∧aj M imm ρ vs xs:=h.inv
def Kp(M:aF)(imm:Δ)(ρ:List Addr)(c:CC)(x:ak):Prop:=match x with
 |.list xs=>∃ a vs n,c=.list a vs n∧aj M imm ρ vs xs∧xs.length≤200000
 |.rows t q=>∃ a vs n,c=.list a vs n∧jV M.Z vs (t.val M.Z)∧dw M.Z t∧(vs.length:Int)≤q.val M.Z
 |.inst C fs=>∃ a d es n,c=.inst a C d es n∧aT M imm ρ es fs∧(∀ p∈fs,findIn M.K (.ref C) p.1=some none)∧ju M C
 |.any i=>M.Z.cv i=c
 |.spl i xs=>∃ a us vs n,c=.list a (us++vs) n∧M.Z.cv i=.seg us∧us.length≤50000∧aj M imm ρ vs xs∧xs.length≤50000
 |.seg xs=>∃ vs,c=.seg vs∧aj M imm ρ vs xs∧xs.length≤50000
 |.hd i C h=>∃ a v vs n,c=.list a (v::vs) n∧M.Z.cv i=.list a (v::vs) n∧vs.length≤200000∧VR M imm ρ v (.evx C h)
def CR.inv(h:CR M imm ρ c x):Kp M imm ρ c x:=CR.casesOn h (fun a b=>⟨_,_,_,rfl,a,b⟩) (fun a b d=>⟨_,_,_,rfl,a,b,d⟩) (fun a b c=>⟨_,_,_,_,rfl,a,b,c⟩) id (fun a b c d=>⟨_,_,_,_,rfl,a,b,c,d⟩) (fun a b=>⟨_,rfl,a,b⟩) fun a b c=>⟨_,_,_,_,rfl,a,b,c⟩
def CR.list_inv(h:CR M imm ρ c (.list xs)):∃ a vs n,c=.list a vs n∧aj M imm ρ vs xs∧xs.length≤200000:=h.inv
def CR.rows_inv(h:CR M imm ρ c (.rows t q)):∃ a vs n,c=.list a vs n∧jV M.Z vs (t.val M.Z)∧dw M.Z t∧(vs.length:Int)≤q.val M.Z:=h.inv
def CR.inst_inv(h:CR M imm ρ c (.inst C fs)):∃ a d es n,c=.inst a C d es n∧aT M imm ρ es fs∧(∀ p∈fs,findIn M.K (.ref C) p.1=some none)∧ju M C:=h.inv
def CR.spl_inv(h:CR M imm ρ c (.spl i xs)):∃ a us vs n,c=.list a (us++vs) n∧M.Z.cv i=.seg us∧us.length≤50000∧aj M imm ρ vs xs∧xs.length≤50000:=h.inv
def aN.mono(hi:∀ p∈imm,p∈imm')(hr:∀ k a,ao ρ k=some a→ao ρ' k=some a)(h:aN M imm ρ c x):aN M imm' ρ' c x:=by
 induction h with
 |nil=>exact .nil
 |cons h _ ih=>exact .cons (h.mono hi hr) ih
def aN.len(h:aN M imm ρ c x):c.length=x.length:=by
 induction h with
 |nil=>rfl
 |cons _ _ ih=>exact congrArg (·+1) ih
def aN.at(h:aN M imm ρ c x)(e:ao x k=some y):∃ d pre post,c=pre++d::post∧pre.length=k∧CR M imm ρ d y:=by
 induction h generalizing k with
 |nil=>injection e
 |cons h g ih=>
  cases k with
  |zero=>exact⟨_,[],_,rfl,rfl,bM e▸h⟩
  |succ k=>
   apply dj (ih e);intro d pre post e1 l r;exact⟨d,_::pre,post,congrArg _ e1,congrArg (·+1) l,r⟩
def Nl(M:aF)(imm:Δ)(ρ:List Addr)(c:List CC)(x:List ak):Prop:=match c with
 |[]=>x=[]
 |d::cs=>∃ y r,x=y::r∧CR M imm ρ d y∧aN M imm ρ cs r
def aN.inv(h:aN M imm ρ c x):Nl M imm ρ c x:=aN.casesOn h rfl fun a b=>⟨_,_,rfl,a,b⟩
def aN.set(h:aN M imm ρ (pre++d::post) x)(g:CR M imm ρ d' y):aN M imm ρ (pre++d'::post) (dT x pre.length y):=by
 induction pre generalizing x with
 |nil=>
  apply cD h.inv;intro _ _ e0 _ k;clear h;subst e0;exact .cons g k
 |cons p pre ih=>
  apply cD h.inv;intro _ _ e0 a k;clear h;subst e0;exact .cons a (ih k)
def aN.snoc(h:aN M imm ρ c x)(g:CR M imm ρ d y):aN M imm ρ (c++[d]) (x++[y]):=by
 induction h with
 |nil=>exact .cons g .nil
 |cons k _ ih=>exact .cons k ih
def vp{α:Type}{l:List α}{k:Nat}{a:α}(h:ao l k=some a):k<l.length:=by
 rw[cJ] at h;exact(Wy.mp h).1
def oa{α:Type}{l r:List α}{k:Nat}{a:α}(h:ao l k=some a):ao (l++r) k=some a:=by
 have:=vp h;rw[cJ] at h ⊢;rw[List.getElem?_append_left this];exact h
def r6(pre post:List CC)(d d':CC)(h:d'.addr=d.addr):ae (pre++d'::post)=ae (pre++d::post):=by simp [ae,h]
def Q2(pre post:List CC)(d:CC):ao (ae (pre++d::post)) pre.length=some d.addr:=by
 rw[cJ];simp [ae]
def k6(pre post:List CC)(d:CC):aQ (pre++d::post)=aQ pre++(d.objs++aQ post):=by simp [aQ]
structure ai (M:aF) (h₀:Heap) (L:Addr) (h:Heap) (m:ω) (ls:List (Str×AV)) (J:St) (imm:Δ) (cs:List CC):Prop where
 F:Fr h₀ L h m
 N:News h₀ L h (imm++aQ cs)
 nd:((imm++aQ cs).map Prod.fst).Nodup
 C:aN M imm (ae cs) cs J
 l:∀ x v,lk x ls=some v→∃ val,m x=some val∧VR M imm (ae cs) val v
structure aE (imm:Δ) (cs:List CC) (imm':Δ) (cs':List CC):Prop where
 i:∀ p∈imm,p∈imm'
 r:∀ k a,ao (ae cs) k=some a→ao (ae cs') k=some a
def aE.refl(imm:Δ)(cs:List CC):aE imm cs imm cs:=⟨fun U h=>h,fun U U h=>h⟩
def aE.trans(a:aE i1 c1 i2 c2)(b:aE i2 c2 i3 c3):aE i1 c1 i3 c3:=⟨fun p h=>b.i p (a.i p h),fun k x h=>b.r k x (a.r k x h)⟩
def VR.ext(e:aE i1 c1 i2 c2)(h:VR M i1 (ae c1) v x):VR M i2 (ae c2) v x:=h.mono e.i e.r
def aj.ext(e:aE i1 c1 i2 c2)(h:aj M i1 (ae c1) v x):aj M i2 (ae c2) v x:=h.mono e.i e.r
def ai.lt(R:ai M h₀ L h m ls J imm cs)(ha:a∈(imm++aQ cs).map Prod.fst):a<h.objs.size:=by
 apply af (cC ha);intro p hp e0;clear ha;subst e0;exact WI (R.N p hp).1
def ai.newI(R:ai M h₀ L h m ls J imm cs)(o:Obj)(hf:o.isFreed=false):ai M h₀ L (h.push o) m ls J ((h.objs.size,o)::imm) cs:=by
 have e:∀ p∈imm,p∈(h.objs.size,o)::imm:=fun p hp=>.tail _ hp;refine⟨R.F.push o,R.N.push R.F o (hfree:=hf),?_,R.C.mono e fun U U h=>h,fun x v hx=>?_⟩
 ·exact WH.mpr ⟨fun q=>X0 _ (R.lt q),R.nd⟩
 ·apply af (R.l x v hx);intro val a b
  exact⟨val,a,b.mono e fun U U h=>h⟩
def ai.extI(R:ai M h₀ L h m ls J imm cs)(o:Obj):aE imm cs ((h.objs.size,o)::imm) cs:=⟨fun U hp=>.tail _ hp,fun U U h=>h⟩
end
structure Cx where
 base:Heap
 h₀:Heap
 outer:List Env
 L:Addr
 a:Addr
 cn:Str
 cs:Scope
 cd:π
noncomputable def Cx.env(c:Cx):Env:=envOf c.cn c.cs c.L c.a c.cd
def Cx.fr(c:Cx):List Env:=c.env::c.outer
def Cx.parts(c:Cx):c.env.scope=c.cs∧c.env.locals=c.L∧c.env.globals=mainGlobals∧c.env.builtins=builtinsNs:=⟨rfl,rfl,rfl,rfl⟩
structure aR (M:aF) (c:Cx) (A:Around) (n:Nat):Prop where
 Yb:∃ A₀,Below A₀ c.base c.outer c.h₀
 X:M.K.In c.h₀
 T:TopRead vw (looseW vw loose) M.mg M.mb c.h₀
 k:c.cs.kind=.function
 fr:A.frames=some c.fr
 hd:A.handled=none
 dp:A.depth+n≤990
 un:A.units+4*n≤9800
structure bL (c:Cx) (ls:ac):Prop where
 sc:ls.sc=c.cs.names
 lo:∀ x v,lk x ls.v=some v→c.cs.names.lookup x=some .local
 nd:c.cs.names.lookup ("__debug__" : Str)=none
def eU{α:Type}(x y:Str)(v:α)(r:List (Str×α)):lk x ((y,v)::r)=if y=x then some v else lk x r:=by
 show Bool.rec (motive:=fun U=>κ α) (lk x r) (some v) (seq y x)=_;cases q:seq y x with
 |true=>rw[if_pos (ii.mp q)]
 |false=>rw[if_neg (DX q)]
def kt{α:Type}(x:Str):∀ l:List (Str×α),lk x l=l.lookup x:=by
 intro L0;induction L0 with
 |nil=>
  exact rfl
 |cons x0 r ih=>
  obtain⟨y,v⟩:=x0;rw[eU,List.lookup_cons,ih]
  by_cases e:y=x
  ·clear ih;subst e;simp
  ·have h2:(x == y)=false:=by simp [Ne.symm e]
   rw[if_neg e,h2]
def Oh{α:Type}(x:Str)(v:α):put x v []=[(x,v)]:=rfl
def yX{α:Type}(x y:Str)(v u:α)(r:List (Str×α)):put x v ((y,u)::r)=if y=x then (y,v)::r else (y,u)::put x v r:=by
 show Bool.rec (motive:=fun U=>List (Str×α)) ((y,u)::put x v r) ((y,v)::r) (seq y x)=_;cases q:seq y x with
 |true=>rw[if_pos (ii.mp q)]
 |false=>rw[if_neg (DX q)]
def y5{α:Type}(x y:Str)(v:α):∀ l:List (Str×α),lk y (put x v l)=if y=x then some v else lk y l:=by
 intro L0;induction L0 with
 |nil=>
  rw[Oh,eU]
  by_cases e:y=x
  ·rw[if_pos e,if_pos e.symm]
  ·rw[if_neg e,if_neg (Ne.symm e)]
 |cons x0 r ih=>
  obtain⟨z,u⟩:=x0;rw[yX,eU]
  by_cases q:z=x
  ·clear ih;subst q
   rw[if_pos rfl,eU]
   by_cases e:y=z
   ·rw[if_pos e,if_pos e.symm]
   ·rw[if_neg e,if_neg (Ne.symm e),if_neg (Ne.symm e)]
  ·rw[if_neg q,eU,ih]
   by_cases e:z=y
   ·clear ih;subst e;rw[if_pos rfl,if_pos rfl,if_neg q]
   ·rw[if_neg e,if_neg e]
section
def uE{X7:Model}{A:Around}{α:Type}{x y:Sem α}{Q:α→χ→Prop}{E:Θ}{s:χ}(h:x=y)(k:wpAny X7 A y Q E s):wpAny X7 A x Q E s:=h▸k
def GF{X7:Model}{A:Around}{α:Type}{t:Bool}{x y:Sem α}{Q:α→χ→Prop}{E:Θ}{s:χ}(h1:t=true→wpAny X7 A x Q E s)(h2:t=false→wpAny X7 A y Q E s):wpAny X7 A (if t=true then x else y) Q E s:=by
 cases t with
 |true=>exact h1 rfl
 |false=>exact h2 rfl
def eG{α:Type}(M:aF)(n:Nat)(t:Cx→Sem α)(ls:ac)(J:St)(P:Δ→List CC→α→Prop)(J':St):Prop :=
 ∀ {c A s m imm cs} {Q:α→χ→Prop} {E:Θ},aR M c A n→bL c ls→ai M c.h₀ c.L s.heap m ls.v J imm cs →
  (∀ h' tk imm' cs' x,ai M c.h₀ c.L h' m ls.v J' imm' cs'→aE imm cs imm' cs'→P imm' cs' x→Q x (sU s h' tk))→wpAny (model ar M.w) A (t c) Q E s
abbrev Gf (M:aF) (v:AV):Δ→List CC→π→Prop:=fun imm cs val=>VR M imm (ae cs) val v
abbrev sb (M:aF) (v:List AV):Δ→List CC→List π→Prop:=fun imm cs val=>aj M imm (ae cs) val v
abbrev lu (b:Bool):Δ→List CC→Bool→Prop:=fun U U x=>x=b
abbrev cS (M:aF) (n:Nat) (t:Cx→Sem π) (ls:ac) (J:St) (v:AV) (J':St):Prop:=eG M n t ls J (Gf M v) J'
set_option tactic.hygienic true in
def Hg(h:vN x=some v):cS M n (fun c=>eval (.Constant x q pos) c.env) ls J v J:=by
 intro c A s m imm cs Q E C l R k;cases x with
 |none=>(apply j1 h;clear h;rintro rfl);exact Wi (k s.heap s.toks imm cs .none R (aE.refl ..) .none)
 |bool b=>(apply j1 h;clear h;rintro rfl);exact Wi (k s.heap s.toks imm cs (.bool b) R (aE.refl ..) (.bool b))
 |int i=>(apply j1 h;clear h;rintro rfl);exact wpAny_Constant_int (k s.heap (s.toks+1) imm cs _ R (aE.refl ..) (.int (bH i).symm))
 |str x=>
  unfold vN at h;dsimp only at h
  split at h
  ·rename_i q
   (apply j1 h;clear h;rintro rfl);replace q:=nleT q;rw[aZ] at q;exact wpAny_mkText (k s.heap (s.toks+1) imm cs _ R (aE.refl ..) (.str (by rw[fT];rfl) (kL _) (by rw[fT];exact W2 q)))
  ·injection h
 |_=>injection h
def zC(l:bL c ls)(h:c.cs.names.lookup x=some q):(x == ("__debug__" : Str))=false:=by
 cases e:x == ("__debug__") with
 |false=>rfl
 |true=>rw[WB.mp e,l.nd] at h;injection h
def Uj{ls:ac}(h:lk x ls.v=some v):cS M n (fun c=>eval (.Name x pos) c.env) ls J v J:=by
 intro c A s m imm cs Q E C l R k;apply af (R.l x v h);intro val a b;apply ej c.parts;intro p1 p2 p3 p4;exact wpAny_Name (wpAny_loadName_local (by rw[p1];exact C.k) (by unfold Env.kindOf;rw[p1];exact l.lo x v h) (by rw[p2];exact R.F.ns) a (k s.heap s.toks imm cs val R (aE.refl ..) b)) (zC l (l.lo x v h))
structure te (M:aF) (x:Str) (v:AV):Prop where
 h:∃ val,(∀ imm ρ,VR M imm ρ val v)∧(nsIn M.K mainGlobals x=some (some val)∨(nsIn M.K mainGlobals x=some none∧bootBuiltins x=some val∧x≠"__name__"))
def Fe(h:nj x sc=true):sc.lookup x=some .globalImplicit:=by
 unfold nj at h;rw[←kt];cases e:lk x sc with
 |none=>rw[e] at h;injection h
 |some k=>rw[e] at h;cases k<;>first|rfl|injection h
def yG(h:lr x sc=true):sc.lookup x=some .local:=by
 unfold lr at h;rw[←kt];cases e:lk x sc with
 |none=>rw[e] at h;injection h
 |some k=>rw[e] at h;cases k<;>first|rfl|injection h
def FF{ls:ac}(g:nj x ls.sc=true)(G:te M x v):cS M n (fun c=>eval (.Name x pos) c.env) ls J v J:=by
 intro c A s m imm cs Q E C l R k;have hk:=by
  rw[l.sc] at g;exact Fe g
 apply ej c.parts;intro p1 p2 p3 p4;have k1:c.env.scope.kind=.function:=by rw[p1];exact C.k
 have k2:c.env.kindOf x=some .globalImplicit:=by unfold Env.kindOf;rw[p1];exact hk
 obtain⟨val,hv,e|⟨e,eb,en⟩⟩:=G.h
 ·exact Name_function_global k1 k2 (loadGlobal_global (by rw[p3];exact C.T.g.keeps R.F.keep) (mg_of C.X C.T.g e) (k s.heap s.toks imm cs val R (aE.refl ..) (hv ..))) (zC l hk)
 ·exact Name_function_global k1 k2 (loadGlobal_builtin (by rw[p3];exact C.T.g.keeps R.F.keep) (mg_none_of C.X C.T.g e) (by rw[p4];exact C.T.b.keeps R.F.keep) ((C.T.builtins x en).trans eb) (k s.heap s.toks imm cs val R (aE.refl ..) (hv ..))) (zC l hk)
def jr(M:aF)(t:π→π→Sem π)(a b r:AV):Prop :=
 ∀ {A s Q E imm ρ va vb},VR M imm ρ va a→VR M imm ρ vb b→(∀ tk val,VR M imm ρ val r→Q val {s with toks:=tk})→wpAny (model ar M.w) A (t va vb) Q E s
def VU
  (ha:cS M n (fun c=>eval el c.env) ls J a σ₁) (hb:cS M n (fun c=>eval er c.env) ls σ₁ b σ₂) (ho:jr M (binaryOp op) a b r) :
  cS M n (fun c=>eval (.BinOp el op er pos) c.env) ls J r σ₂:=by
 intro c A s m imm cs Q E C l R k;refine wpAny_BinOp (ha C l R fun h1 t1 i1 c1 va R1 x1 q1=>hb C l R1 fun h2 t2 i2 c2 vb R2 x2 q2=>?_);exact ho (q1.ext x2) q2 fun tk val q=>k h2 tk i2 c2 val R2 (x1.trans x2) q
end
def yM(a b:Nat):Nat.beq a b=decide (a=b):=by
 cases h:Nat.beq a b with
 |true=>exact(decide_eq_true (aJ h)).symm
 |false=>exact(WG (W6 h)).symm
def QC(a b:Nat):Nat.blt a b=decide (a<b):=by
 cases h:Nat.blt a b with
 |true=>exact(decide_eq_true (nleT h)).symm
 |false=>exact(WG fun q=>by have:Nat.blt a b=true:=Wn q;rw[this] at h;injection h).symm
def Dx:∀ a b:ξ,tP a b=decide (a<b)
 |[],[]=>(WG (List.not_lt_nil [])).symm
 |[],b::y=>(decide_eq_true (List.nil_lt_cons b y)).symm
 |a::x,[]=>(WG (List.not_lt_nil (a::x))).symm
 |a::x,b::y=>by
  have e:tP (a::x) (b::y)=(a.blt b ||(a.beq b&&tP x y)):=by
   show Bool.rec (motive:=fun U=>Bool) (Bool.rec (motive:=fun U=>Bool) false (tP x y) (a.beq b)) true (a.blt b)=_;cases a.blt b<;>cases a.beq b<;>rfl
  rw[e,Dx x y];rw[QC,yM];simp only [List.cons_lt_cons_iff,Bool.decide_or,Bool.decide_and]
def Mg(c:Nat):∀ l:ξ,dB c l=decide (c∈l):=by
 intro L0;induction L0 with
 |nil=>
  exact rfl
 |cons b r ih=>
  have e:dB c (b::r)=(c.beq b ||dB c r):=by
   show Bool.rec (motive:=fun U=>Bool) (dB c r) true (c.beq b)=_;cases c.beq b<;>rfl
  rw[e,ih,yM];simp only [Xf,Bool.decide_or]
section
def jR(h:kO v=some l):v=.int l:=by induction v using AV.casesOn<;>(first|apply r1 h|injection h);rfl
def nA(h:mE v=some l):v=.str l:=by induction v using AV.casesOn<;>(first|apply r1 h|injection h);rfl
def Ni(h:EH v=some l):v=.bool l:=by induction v using AV.casesOn<;>(first|apply r1 h|injection h);rfl
def ka(h:il v=some l):v=.cell l:=by induction v using AV.casesOn<;>(first|apply r1 h|injection h);rfl
def I4(h:DP v=some l):v=.cls l:=by induction v using AV.casesOn<;>(first|apply r1 h|injection h);rfl
def lK(h:jN v=some i):∃ l,v=.int l∧l.conc=some i:=by induction v using AV.casesOn<;>first|exact⟨_,rfl,h⟩|injection h
def vf(h:s7 v=some l):∃ s,v=.str s∧s.conc=some l:=by induction v using AV.casesOn<;>first|exact⟨_,rfl,h⟩|injection h
def Tw(h:DB c=some xs):c=.list xs:=by cases c<;>(first|apply r1 h|injection h);rfl
def VS(h:Dv c=some q):c=.inst q.1 q.2:=by cases c<;>(first|apply r1 h|injection h);rfl
def kI(h:jW J k=some xs):ao J k=some (.list xs):=by
 apply af (Ay h);intro c h1 h2;rw[h1,Tw h2]
def pk(h:ny J k=some q):ao J k=some (.inst q.1 q.2):=by
 apply af (Ay h);intro c h1 h2;rw[h1,VS h2]
def qY{α:Type}{l:List α}(h:bD l=true):l=[]:=by
 induction l using oL with
 |nil=>rfl
 |cons a r=>exact Bool.noConfusion h
def rI{α:Type}{l:List α}{a:α}(h:nW l=some a):l=[a]:=by
 match l with
 |[]=>injection h
 |[b]=>exact congrArg (fun x=>[x]) (bM h)
 |_::_::_=>injection h
def oM(h:mU o=some b):∃ q,o=some q∧b=!q:=by
 induction o using oO with
 |none=>injection h
 |some q=>exact⟨q,rfl,by induction q using oB<;>exact(bM h).symm⟩
set_option tactic.hygienic true in
def Nj(h:Fi v=some c):v=.str [.lit [c]]:=by
 induction v using AV.casesOn<;>try (injection h;done)
 rename_i s
 induction s using oL with
 |nil=>injection h
 |cons p r=>
  induction p using Pc.casesOn<;>try (injection h;done)
  rename_i l
  induction l using oL with
  |nil=>induction r using oL<;>injection h
  |cons a t=>
   induction t using oL<;>induction r using oL<;>(first|(apply r1 h;clear h;rfl)|injection h)
def si(h:i7 B s=some v):v=.str s∧me B s.len (.k 1000000)=some true:=by
 unfold i7 at h;cases e:me B s.len (.k 1000000) with
 |none=>rw[e] at h;injection h
 |some b=>
  rw[e] at h;cases b with
  |false=>injection h
  |true=>exact⟨(bM h).symm,rfl⟩
def uB(hb:aU B M.Z)(ho:dw M.Z s)(h:i7 B s=some v):(s.val M.Z).length≤1000000:=by
 have:=wK hb (si h).2;rw[mi M.he ho,bH] at this;exact Int.ofNat_le.mp (WM this.symm)
def VR.int_inv(h:VR M imm ρ v (.int l)):∃ t,v=.int (l.val M.Z) t:=h.inv
def VR.str_inv(h:VR M imm ρ v (.str l)):∃ t,v=.str (ba (l.val M.Z)) t∧dw M.Z l:=let ⟨t,a,b,_⟩:=h.inv;⟨t,a,b⟩
def VR.str_len(h:VR M imm ρ v (.str l)):(l.val M.Z).length≤16777216:=let ⟨_,_,_,b⟩:=h.inv;b
def ft(l:ξ):(ba l).length=l.length:=by simp [ba,Str.length]
def wu(a b:ξ):ba a++ba b=ba (a++b):=by
 show Str.mk _=Str.mk _;simp [ba]
def Sa(h:ba a=ba b):a=b:=congrArg (fun x:Str=>x.cps.toList) h
def DI(a b:ξ):(ba a == ba b)=gy a b:=by
 cases h:gy a b with
 |true=>rw[jf.mp h];simp
 |false=>
  have:a≠b:=fun e=>by rw[jf.mpr e] at h;injection h
  simp only [beq_eq_false_iff_ne];exact fun e=>this (Sa e)
def zQ(M:aF)(t:π→π→Sem π)(a b:AV)(r:Bool):Prop :=
 ∀ {A s Q E imm ρ va vb},VR M imm ρ va a→VR M imm ρ vb b→Q (.bool r) s→wpAny (model ar M.w) A (t va vb) Q E s
def Qc:jr M (binaryOp .Add) (.int x) (.int y) (.int (x.add y)):=by
 intro A s Q E imm ρ va vb ha hb k;apply bn ha.int_inv;intro t e0;clear ha;subst e0;apply bn hb.int_inv;intro u e0;clear hb;subst e0;exact wpAny_add_int (k _ _ (.int (du x y).symm))
def I8:jr M (inplaceOp .Add) (.int x) (.int y) (.int (x.add y)):=by
 intro A s Q E imm ρ va vb ha hb k;apply bn ha.int_inv;intro t e0;clear ha;subst e0;apply bn hb.int_inv;intro u e0;clear hb;subst e0;exact wpAny_iadd_int (k _ _ (.int (du x y).symm))
def Tm:jr M (binaryOp .Sub) (.int x) (.int y) (.int (x.sub y)):=by
 intro A s Q E imm ρ va vb ha hb k;apply bn ha.int_inv;intro t e0;clear ha;subst e0;apply bn hb.int_inv;intro u e0;clear hb;subst e0;exact sub_int (k _ _ (.int (n5 x y).symm))
def Ua:jr M (inplaceOp .Sub) (.int x) (.int y) (.int (x.sub y)):=by
 intro A s Q E imm ρ va vb ha hb k;apply bn ha.int_inv;intro t e0;clear ha;subst e0;apply bn hb.int_inv;intro u e0;clear hb;subst e0;exact isub_int (k _ _ (.int (n5 x y).symm))
set_option smartUnfolding false in
def LC:∀ {l:List (Nat×Int)},xW m l=true→∃ q:Int,cg M.Z l=(m:Int)*q:=by
 intro L0;induction L0 with
 |nil=>
  intro _;exact⟨0,rfl⟩
 |cons p r ih=>
  intro h;replace h:=aw h;apply bn (ih h.2);intro q hq;obtain⟨z,hz⟩ : (m:Int) ∣ p.2:=Int.ofNat_dvd_left.mpr (Nat.dvd_of_mod_eq_zero (aJ h.1));refine⟨z*M.Z.iv p.1+q,?_⟩;show p.2*M.Z.iv p.1+cg M.Z r=_;rw[hq,hz,Int.mul_add,Int.mul_assoc]
def U9{x y:aD}(hx:xW m x.l=true)(hy:y.conc=some (Int.ofNat m))(hm:0<m):jr M (binaryOp .Mod) (.int x) (.int y) (.int (.k (Int.fmod x.c (.ofNat m)))):=by
 intro A s Q E imm ρ va vb ha hb k;apply bn ha.int_inv;intro t e0;clear ha;subst e0;apply bn hb.int_inv;intro u e0;clear hb;subst e0;rw[gZ hy];refine mod_int' (fun e=>Nat.ne_of_gt hm (Int.ofNat.inj e)) (k _ _ (.int ?_));rw[bH];apply bn (LC hx);intro q hq;unfold aD.val;rw[hq];exact Int.add_mul_fmod_self_left ..
def OE(hb:aU B M.Z){x y:SS}(h:i7 B (x.app y)=some v):jr M (binaryOp .Add) (.str x) (.str y) v:=by
 intro A s Q E imm ρ va vb ha hb' k;apply af ha.str_inv;intro t e0 o1;clear ha;subst e0;apply af hb'.str_inv;intro u e0 o2;clear hb';subst e0;have hl:=uB hb (kW o1 o2) h;rw[cE] at hl;apply ay (si h);intro e0 _;clear h;subst e0;have hz:(ba (x.val M.Z)).length+(ba (y.val M.Z)).length≤sizeLine:=by
  rw[ft,ft,WS];rw[aB] at hl;exact W2 hl
 refine SBL.add (fun t' k' U=>?_) hz;rw[wu];exact k k' _ (.str (by rw[cE]) (kW o1 o2) (by rw[cE];exact W2 hl))
def Qk(hb:aU B M.Z){x y:SS}(h:i7 B (x.app y)=some v):jr M (inplaceOp .Add) (.str x) (.str y) v:=by
 intro A s Q E imm ρ va vb ha hb' k;apply af ha.str_inv;intro t e0 o1;clear ha;subst e0;apply af hb'.str_inv;intro u e0 o2;clear hb';subst e0;have hl:=uB hb (kW o1 o2) h;rw[cE] at hl;apply ay (si h);intro e0 _;clear h;subst e0;have hz:(ba (x.val M.Z)).length+(ba (y.val M.Z)).length≤sizeLine:=by
  rw[ft,ft,WS];rw[aB] at hl;exact W2 hl
 refine SBL.iadd (fun t' k' U=>?_) hz;rw[wu];exact k k' _ (.str (by rw[cE]) (kW o1 o2) (by rw[cE];exact W2 hl))
def OU(h:wl p q=true):p.val Z=q.val Z:=by
 induction p using Pc.casesOn with
 |lit a=>induction q using Pc.casesOn with
  |lit b=>exact jf.mp h
  |_=>injection h
 |var i=>induction q using Pc.casesOn with
  |var j=>(obtain e:=aJ h;clear h;subst e);rfl
  |_=>injection h
 |rep=>injection h
def Ft:∀ {x y:SS},v7 x y=true→x.val Z=y.val Z
 |[],[],_=>rfl
 |[],_::_,h=>Bool.noConfusion (show false=true from h)
 |_::_,[],h=>Bool.noConfusion (show false=true from h)
 |p::x,q::y,h=>by
  replace h:Bool.rec (motive:=fun U=>Bool) false (v7 x y) (wl p q)=true:=h;cases e:wl p q with
  |false=>rw[e] at h;injection h
  |true=>
   rw[e] at h;show p.val Z++SS.val Z x=q.val Z++SS.val Z y;rw[OU e,Ft h]
def Fh(hb:aU B M.Z)(h:Ac B x y=some r)(o1:dw M.Z x)(o2:dw M.Z y):r=gy (x.val M.Z) (y.val M.Z):=by
 apply aG h;clear h;intro e q h;have:=zJ hb q;rw[mi M.he o1,mi M.he o2] at this;induction e using oB with
 |true=>
  cases g:v7 x y with
  |true=>rw[g] at h;(injection h with e;subst e);exact(jf.mpr (Ft g)).symm
  |false=>rw[g] at h;injection h
 |false=>
  (injection h with e;subst e);have hn:x.val M.Z≠y.val M.Z:=fun e=>by rw[e] at this;simp at this
  cases g:gy (x.val M.Z) (y.val M.Z) with
  |false=>rfl
  |true=>exact absurd (jf.mp g) hn
def Nm(hb:aU B M.Z)(h:BH B x y=some r)(o1:dw M.Z x)(o2:dw M.Z y):r=gy (x.val M.Z) (y.val M.Z):=by
 unfold BH at h;cases e1:x.conc with
 |none=>rw[e1] at h;exact Fh hb h o1 o2
 |some a=>
  rw[e1] at h;cases e2:y.conc with
  |none=>rw[e2] at h;exact Fh hb h o1 o2
  |some b=>rw[e2] at h;rw[ji e1,ji e2];exact(bM h).symm
def CG(hb:aU B M.Z)(h:yh B a b=some r):zQ M (compareOp .Eq) a b r∧zQ M (compareOp .NotEq) a b (!r):=by
 induction a using AV.casesOn with
 |str x=>
  induction b using AV.casesOn with
  |str y=>
   replace h:=h;refine⟨fun h1 h2 k=>?_,fun h1 h2 k=>?_⟩<;>obtain⟨t,rfl,o1⟩:=h1.str_inv<;>obtain⟨u,rfl,o2⟩:=h2.str_inv<;>rw[Nm hb h o1 o2,←DI] at k
   ·exact eq_str k
   ·exact ne_str k
  |none=>
   (apply r1 h;clear h);refine⟨fun h1 h2 k=>?_,fun h1 h2 k=>?_⟩<;>obtain⟨t,rfl,_⟩:=h1.str_inv<;>(obtain e:_=_:=VR.inv h2;clear h2;subst e)
   ·exact SeqAt.RcAt.str_none _ _ _ _ _ _ k
   ·exact SeqAt.RcNeAt.str_none _ _ _ _ _ _ k
  |_=>injection h
 |int x=>
  apply aG h;clear h;intro y e h;(obtain e:=jR e;subst e);have:=zJ hb h;clear h;subst this;refine⟨fun h1 h2 k=>?_,fun h1 h2 k=>?_⟩<;>obtain⟨t,rfl⟩:=h1.int_inv<;>obtain⟨u,rfl⟩:=h2.int_inv
  ·exact eq_int k
  ·exact ne_int k
 |none=>
  apply aG h;clear h;intro y e h;(obtain e:=nA e;subst e);(apply r1 h;clear h);refine⟨fun h1 h2 k=>?_,fun h1 h2 k=>?_⟩<;>obtain⟨t,rfl,_⟩:=h2.str_inv<;>(obtain e:_=_:=VR.inv h1;clear h1;subst e)
  ·exact SeqAt.RcAt.none_str _ _ _ _ _ _ k
  ·exact SeqAt.RcNeAt.none_str _ _ _ _ _ _ k
 |bool x=>
  apply aG h;clear h;intro y e h;(obtain e:=Ni e;subst e);(apply r1 h;clear h);refine⟨fun h1 h2 k=>?_,fun h1 h2 k=>?_⟩<;>(obtain e:_=_:=VR.inv h1;clear h1;subst e)<;>(obtain e:_=_:=VR.inv h2;clear h2;subst e)
  ·exact SeqAt.RcAt.bool_bool _ _ _ _ _ _ k
  ·exact SeqAt.RcNeAt.bool_bool _ _ _ _ _ _ k
 |_=>injection h
end
section
def aN.cell(C:aN M imm (ae cs) cs J)(ha:ao (ae cs) k=some a)(hy:ao J k=some y):∃ d pre post,cs=pre++d::post∧pre.length=k∧d.addr=a∧CR M imm (ae cs) d y:=by
 apply dj (C.at hy);intro d pre post e0 l r;subst e0;refine⟨d,pre,post,rfl,l,?_,r⟩;have:=Q2 pre post d;rw[l,ha] at this;exact(bM this).symm
def ai.has(R:ai M h₀ L h m ls J imm (pre++d::post))(hq:q∈d.objs):q∈imm++aQ (pre++d::post):=by
 rw[k6];exact bF _ (bF _ (aK _ hq))
def aj.len(h:aj M imm ρ vs xs):vs.length=xs.length:=by
 induction h using aj.ind with
 |nil=>rfl
 |cons _ _ ih=>exact congrArg (·+1) ih
def fu{α:Type}(M:aF)(J:St)(t:Sem α)(imm:Δ)(cs:List CC)(r:α):Prop :=
 ∀ {c A n s m ls} {Q:α→χ→Prop} {E:Θ},aR M c A n→ai M c.h₀ c.L s.heap m ls J imm cs→(∀ tk,Q r {s with toks:=tk})→wpAny (model ar M.w) A t Q E s
def fu.of2(h:zQ M t a b r)(ha:VR M imm (ae cs) va a)(hb:VR M imm (ae cs) vb b) :
 fu M J (t va vb) imm cs (.bool r):=fun U U k=>h ha hb (k _)
def R4(ha:VR M imm ρ v a):∀ r,isNone a=some r→(r=true∧v=.none)∨(r=false∧PySem.plainIs v .none=true∧v≠.none) :=
 have f:∀ {v:π} {r:Bool},some false=some r→PySem.plainIs v .none=true→v≠.none→(r=true∧v=.none)∨(r=false∧PySem.plainIs v .none=true∧v≠.none):=fun h p q=>.inr ⟨(bM h).symm,p,q⟩
 VR.casesOn ha (fun r h=>.inl ⟨(bM h).symm,rfl⟩)
  (fun b r h=>f h rfl fun q=>by injection q) (fun U r h=>f h rfl fun q=>by injection q) (fun U U U r h=>f h rfl fun q=>by injection q) (fun U r h=>f h rfl fun q=>by injection q) (fun U U r h=>f h rfl fun q=>by injection q)
  (fun U U U U U r h=>f h rfl fun q=>by injection q) (fun U U U r h=>f h rfl fun q=>by injection q) (fun r h=>f h rfl fun q=>by injection q) (fun r h=>f h rfl fun q=>by injection q) (fun r h=>by injection h)
  (fun U U r h=>f h rfl fun q=>by injection q) (fun U r h=>by injection h) (fun U U r h=>f h rfl fun q=>by injection q) (fun U U U r h=>by injection h)
def Jc(h:isNone a=some r)(ha:VR M imm (ae cs) va a) :
  fu M J (compareOp .Is va .none) imm cs (.bool r)∧fu M J (compareOp .IsNot va .none) imm cs (.bool !r):=by
 rcases R4 ha r h with ⟨rfl,rfl⟩|⟨rfl,h1,h2⟩
 ·exact⟨fun U U k=>wpAny_is_self rfl (k _),fun U U k=>wpAny_isNot_self rfl (k _)⟩
 ·exact⟨fun U U k=>wpAny_is_other h1 h2 (k _),fun U U k=>wpAny_isNot_other h1 h2 (k _)⟩
def xo(hb:aU B M.Z)(h:tg B a b=some r)(ha:VR M imm (ae cs) va a)(hb':VR M imm (ae cs) vb b) :
  fu M J (compareOp .Lt va vb) imm cs (.bool r)∧fu M J (compareOp .Gt vb va) imm cs (.bool r) ∧
  fu M J (compareOp .LtE vb va) imm cs (.bool !r)∧fu M J (compareOp .GtE va vb) imm cs (.bool !r):=by
 induction a using AV.casesOn with
 |int x=>
  apply aG h;clear h;intro y e h;(obtain e:=jR e;subst e);apply bn ha.int_inv;intro t e0;subst e0;apply bn hb'.int_inv;intro u e0;subst e0;have:=vL hb h;clear h;subst this;have e:(!decide (x.val M.Z<y.val M.Z))=decide (y.val M.Z≤x.val M.Z):=by by_cases z:x.val M.Z<y.val M.Z<;>simp [z]<;>exact(Int.not_lt.mp z)
  rw[e];exact⟨fun U U k=>lt_int (k _),fun U U k=>gt_int (k _),fun U U k=>le_int (k _),fun U U k=>ge_int (k _)⟩
 |str x=>
  apply aG h;clear h;intro i e1 h;apply aG h;clear h;intro j e2 h;(apply r1 h;clear h);apply af (vf e2);clear e2;intro y e0 e2;subst e0;apply af ha.str_inv;intro t e0 _;subst e0;apply af hb'.str_inv;intro u e0 _;subst e0;rw[ji e1,ji e2,Dx];exact⟨fun U U k=>P.lt_str (k _),fun U U k=>P.gt_str (k _),fun U U k=>P.le_str (k _),fun U U k=>P.ge_str (k _)⟩
 |_=>injection h
def VR.dict_inv(h:VR M imm ρ v .dict):∃ a es n,v=.ref a∧Kn M imm a (dictOf es n)∧(a == sysModules)=false∧vB M es:=h.inv
def ai.kn(R:ai M h₀ L h m ls J imm cs)(X:M.K.In h₀)(hk:Kn M imm a o):h.get? a=some o :=
 hk.elim (fun z=>(R.N _ (aK _ z)).1) (fun z=>X.keeps R.F.keep _ _ z)
noncomputable def kT(va:π)(y:π):Bool:=match va,y with
 |.str x _,.str z _=>z == x
 |.int x _,.int z _=>z == x
 |_,_=>false
def VX(ha:VR M imm (ae cs) va a)(hy:VR M imm (ae cs) vy y)(h:IF a y=some b)(A:Around)(st:χ):SeqAt.EqAt A st vy va (kT va vy)∧kT va vy=b:=by
 induction a using AV.casesOn with
 |none=>
  apply aG h;clear h;intro z e h;(obtain e:=nA e;subst e);(injection h with e;subst e);(obtain e:_=_:=VR.inv ha;subst e);apply af hy.str_inv;intro t e0 _;subst e0;exact⟨SeqAt.EqAt.str_none _ _,rfl⟩
 |str s=>
  apply aG h;clear h;intro x e1 h;apply aG h;clear h;intro z e2 h;(apply r1 h;clear h);apply af (vf e2);clear e2;intro w e0 e2;subst e0;apply af ha.str_inv;intro t e0 _;subst e0;apply af hy.str_inv;intro u e0 _;subst e0;rw[ji e1,ji e2];exact⟨(eqGives_str _ _ _ _).at A st,DI _ _⟩
 |int l=>
  apply aG h;clear h;intro x e1 h;apply aG h;clear h;intro z e2 h;(apply r1 h;clear h);apply af (lK e2);clear e2;intro w e0 e2;subst e0;apply bn ha.int_inv;intro t e0;subst e0;apply bn hy.int_inv;intro u e0;subst e0;rw[gZ e1,gZ e2,pv];exact⟨SeqAt.EqAt.int_int _ _ _ _,rfl⟩
 |_=>injection h
def AS(ha:VR M imm (ae cs) va a)(A:Around)(s:χ)(g:aj M imm (ae cs) vs xs):pP a xs=some b →
  (∀ y∈vs,SeqAt.EqAt A s y va (kT va y))∧vs.any (kT va)=b:=by
 induction g using aj.ind generalizing b with
 |nil=>intro h;(injection h with e;subst e);exact⟨et,rfl⟩
 |cons h1 h2 ih=>
  intro h;apply aG h;clear h;intro t e1 h;apply aG h;clear h;intro c e2 h;(apply r1 h;clear h);apply ay (ih e1);intro i1 i2;apply ay (VX ha h1 e2 A s);intro o1 o2;refine⟨fun y hy=>?_,by rw[List.any_cons,i2,o2]⟩;rcases cI hy with rfl|hy
  ·exact o1
  ·exact i1 y hy
def ai.lst(R:ai M h₀ L h m ls J imm cs)(ho:VR M imm (ae cs) va (.cell k))(hx:ao J k=some (.list xs)) :
  ∃ a vs n pre post,va=.ref a∧cs=pre++CC.list a vs n::post∧pre.length=k∧h.get? a=some (listOf vs.toArray n)∧aj M imm (ae cs) vs xs∧xs.length≤200000:=by
 apply af ho.cell_inv;intro a e0 ha;subst e0;apply cj (R.C.cell ha hx);intro d pre post e0 l e2 cr;subst e0;apply dj cr.list_inv;intro b vs nn e0 hvs hsz;clear ho;subst e0;replace e2:=e2;clear ha;subst e2;exact⟨b,vs,nn,pre,post,rfl,rfl,l,(R.N _ (R.has (.head _))).1,hvs,hsz⟩
section
def HJ(h:Ag a b=some r)(ha:VR M imm (ae cs) va a)(hb':VR M imm (ae cs) vb b):fu M J (compareOp .Is va vb) imm cs (.bool r)∧fu M J (compareOp .IsNot va vb) imm cs (.bool !r):=by
 induction b using AV.casesOn<;>try (injection h;done)
 (obtain e:_=_:=VR.inv hb';clear hb';subst e);exact Jc h ha
def Fj(h:yH a s=some r)(ha:VR M imm (ae cs) va a)(hb':VR M imm (ae cs) vb (.str s)):fu M J (compareOp .In va vb) imm cs (.bool r)∧fu M J (compareOp .NotIn va vb) imm cs (.bool !r):=by
 apply aG h;clear h;intro c e1 h;apply aG h;clear h;intro l e2 h;(apply r1 h;clear h);(obtain e:=Nj e1;subst e);apply af ha.str_inv;intro t e0 _;subst e0;apply af hb'.str_inv;intro u e0 _;clear hb';subst e0;rw[ji e2,Mg];have:=StrLaws.found_one (ba l) c;have e:ba (SS.val M.Z [.lit [c]])=(⟨#[c]⟩ : Str):=rfl;rw[e];exact⟨fun U U k=>in_str (by rw[this];exact k _),fun U U k=>notIn_str (by rw[this];exact k _)⟩
def LN(h:Cb J a k=some r)(ha:VR M imm (ae cs) va a)(hb':VR M imm (ae cs) vb (.cell k)):fu M J (compareOp .In va vb) imm cs (.bool r):=by
 apply aG h;clear h;intro xs e h;intro c' A n s m ls Q E C R kk;apply af hb'.cell_inv;intro al e0 hk;subst e0;apply cj (R.C.cell hk (kI e));intro d pre post e0 l e2 cr;subst e0;apply dj cr.list_inv;intro b vs n e0 hv hz;clear hb';subst e0;(obtain e:=CC.same e2;clear e2 hk;subst e);apply ay (AS ha A.in1 s hv h);intro i1 i2;refine SeqAt.in_listAt (kT va) ⟨_,((R.N _ (R.has (.head _))).1),rfl,_,rfl⟩ (fun y hy=>i1 y (by simpa using hy)) ?_;have:vs.toArray.any (kT va)=r:=by rw[←i2];simp
 rw[this];exact kk _
def Hf(h:pP a xs=some r)(ha:VR M imm (ae cs) va a)(hb':VR M imm (ae cs) vb (.tup xs)):fu M J (compareOp .In va vb) imm cs (.bool r)∧fu M J (compareOp .NotIn va vb) imm cs (.bool !r):=by
 apply dj hb'.tup_inv;intro al vs n e0 hk hv;clear hb';subst e0;refine⟨fun {c' A n s m ls Q E} C R kk=>?_,fun {c' A n s m ls Q E} C R kk=>?_⟩
 ·apply ay (AS ha A.in1 s hv h);intro i1 i2
  refine SeqAt.in_tupleAt (kT va) ⟨_,R.kn C.X hk,rfl,_,rfl⟩ (fun y hy=>i1 y (by simpa using hy)) ?_;have:vs.toArray.any (kT va)=r:=by rw[←i2];simp
  rw[this];exact kk _
 ·apply ay (AS ha A.in1 s hv h);intro i1 i2
  refine SeqAt.notIn_tupleAt (kT va) ⟨_,R.kn C.X hk,rfl,_,rfl⟩ (fun y hy=>i1 y (by simpa using hy)) ?_;have:vs.toArray.any (kT va)=r:=by rw[←i2];simp
  rw[this];exact kk _
def Rs(hb:aU B M.Z)(h:cmp B J op a b=some r)(ha:VR M imm (ae cs) va a)(hb':VR M imm (ae cs) vb b) :
  fu M J (compareOp op va vb) imm cs (.bool r):=by
 cases op with
 |Eq=>exact fu.of2 (CG hb h).1 ha hb'
 |NotEq=>apply af (oM h);intro q h1 e0;clear h;subst e0;exact fu.of2 (CG hb h1).2 ha hb'
 |Is=>exact(HJ h ha hb').1
 |IsNot=>apply af (oM h);intro q h1 e0;clear h;subst e0;exact(HJ h1 ha hb').2
 |Lt=>exact(xo hb h ha hb').1
 |Gt=>exact(xo hb h hb' ha).2.1
 |LtE=>apply af (oM h);intro q h1 e0;clear h;subst e0;exact(xo hb h1 hb' ha).2.2.1
 |GtE=>apply af (oM h);intro q h1 e0;clear h;subst e0;exact(xo hb h1 ha hb').2.2.2
 |In=>
  induction b using AV.casesOn with
  |str s=>exact(Fj h ha hb').1
  |cell k=>exact LN h ha hb'
  |tup xs=>exact(Hf h ha hb').1
  |_=>injection h
 |NotIn=>
  induction b using AV.casesOn with
  |str s=>apply af (oM h);intro q h1 e0;clear h;subst e0;exact(Fj h1 ha hb').2
  |tup xs=>apply af (oM h);intro q h1 e0;clear h;subst e0;exact(Hf h1 ha hb').2
  |_=>injection h
end
def VC(hx:ao J k=some c)(h:Cj c=some r)(ha:VR M imm (ae cs) va (.cell k)):fu M J (truthy va) imm cs r:=by
 apply af ha.cell_inv;intro a e0 hk;subst e0;intro c' A n s m ls Q E C R q;apply cj (R.C.cell hk hx);intro d pre post e0 l e2 cr;subst e0;induction c using ak.casesOn with
 |list xs=>
  apply dj cr.list_inv;intro b vs n e0 hv hz;subst e0;(obtain e:=CC.same e2;subst e);refine wpAny_truthy_list ⟨_,((R.N _ (R.has (.head _))).1),rfl,_,rfl⟩ (by have:=hv.len;simp;exact Xe (bw (WZ (W7 this) hz)) (by decide)) ?_;have:(!vs.toArray.isEmpty)=r:=by
   cases xs with
   |nil=>cases aj.nil_inv hv;exact bM h
   |cons=>apply cD (aj.cons_inv hv);intro _ _ e0 _ _;subst e0;exact bM h
  rw[this];exact q _
 |rows=>injection h
 |any=>injection h
 |seg=>injection h
 |hd i C g=>
  apply dZ cr.inv;intro b v vs n e0 _ hz hv;subst e0;(obtain e:=CC.same e2;subst e);refine wpAny_truthy_list ⟨_,((R.N _ (R.has (.head _))).1),rfl,_,rfl⟩ (by simp;exact Xe (X5 (W9 hz)) (by decide)) ?_;have:(!(v::vs).toArray.isEmpty)=r:=bM h;rw[this];exact q _
 |spl i xs=>
  apply kb cr.spl_inv;intro b us vs n e0 _ hu hv hz;subst e0;(obtain e:=CC.same e2;subst e);refine wpAny_truthy_list ⟨_,((R.N _ (R.has (.head _))).1),rfl,_,rfl⟩ (by simp;exact Xe (Int.add_le_add (bw hu) (bw (WZ (W7 hv.len) hz))) (by decide)) ?_;have:(!(us++vs).toArray.isEmpty)=r:=by
   cases xs with
   |nil=>injection h
   |cons=>
    apply cD (aj.cons_inv hv);intro _ _ e0 _ _;subst e0;rw[←bM h];simp
  rw[this];exact q _
 |inst D fs=>
  (apply j1 h;clear h;rintro rfl);apply dZ cr.inst_inv;intro b d es n e0 hf hp hc;subst e0;(obtain e:=CC.same e2;subst e);exact truthy_K0 R.F C.X (XO R.N (R.has (.head _)) (R.has (.tail _ (.head _)))) hc.tb hc.tl (q s.toks)
def An(hb:aU B M.Z)(h:o0 B J v=some r)(ha:VR M imm (ae cs) va v) :
  fu M J (truthy va) imm cs r:=by
 induction v using AV.casesOn with
 |none=>(apply r1 h;clear h);(obtain e:_=_:=VR.inv ha;subst e);exact fun U U k=>truthy_none (k _)
 |bool=>(apply r1 h;clear h);(obtain e:_=_:=VR.inv ha;subst e);exact fun U U k=>wpAny_truthy_bool (k _)
 |int l=>
  apply af (oM h);intro q e e0;clear h;subst e0;apply bn ha.int_inv;intro t e0;subst e0;have:=zJ hb e;rw[bH] at this;intro c' A n s m ls Q E _ _ k;refine truthy_int ?_;have e2:(l.val M.Z != 0)=!q:=by rw[this];by_cases z:l.val M.Z=0<;>simp [z]
  rw[e2];exact k _
 |str x=>
  apply af ha.str_inv;intro t e0 o;subst e0;have:=vL hb h;rw[bH,mi M.he o] at this;intro c' A n s m ls Q E _ _ k;refine SBL.truthy (by rw[ft];exact Xe (X5 ha.str_len) (by decide)) ?_;rw[ft];have e2:(((x.val M.Z).length:Int) != 0)=r:=by
   rw[this]
   by_cases z:(x.val M.Z).length=0
   ·simp [z]
   ·rw[show (((x.val M.Z).length:Int) != 0)=true from bne_iff_ne.mpr (by lia)]
    symm;rw[decide_eq_true_iff];exact W3 (by decide) (bw (Nat.pos_of_ne_zero z))
  rw[e2];exact k _
 |cell k=>
  apply aG h;clear h;intro c e h;exact VC e h ha
 |tup xs=>
  apply bC h;clear h;intro hz h;(apply r1 h;clear h);apply dj ha.tup_inv;intro a vs nn e0 hk v1;clear ha;subst e0;have hl:=nleT hz;rw[aZ] at hl;intro c' A n s m ls Q E C R k;have g1:=hk.elim (fun z=>(R.N _ (aK _ z)).1) (fun z=>C.X.keeps R.F.keep _ _ z);refine ktl_truthy g1 (by rw[Wv,v1.len];exact Int.not_le.mpr (Xe (bw hl) (by decide))) ?_;have:(!vs.toArray.isEmpty)=Bool.rec true false (bD xs):=by
   cases xs with
   |nil=>cases aj.nil_inv v1;rfl
   |cons=>apply cD (aj.cons_inv v1);intro _ _ e0 _ _;clear hk g1 v1;subst e0;rfl
  rw[this];exact k _
 |obj D fs=>
  (apply r1 h;clear h);apply nz ha.obj_inv;intro a d es n e0 h1 h2 hf hp hc;clear ha;subst e0;intro c' A n s m ls Q E C R q;exact truthy_K0 R.F C.X (XO R.N (aK _ h1) (aK _ h2)) hc.tb hc.tl (q s.toks)
 |_=>injection h
end
section
abbrev mX (es:List Expr) (c:Cx):List (Bool×Sem π):=es.map fun e=>(false,eval e c.env)
def kN(M:aF)(v:κ AV):Δ→List CC→π→Prop:=fun imm cs val=>match v with
 |none=>val=.none
 |some v=>VR M imm (ae cs) val v
abbrev Af (pos:Pos) (ks:List Keyword) (c:Cx):List (Sem π):=ks.map fun k=>(do let v ←eval k.value c.env;standAt pos;pure v)
def Be(M:aF)(n:Nat)(pos:Pos)(ls:ac)(J:St)(a:AV)(ops:List CmpOp)(rs:List Expr)(b:Bool)(J':St):Prop :=
 ∀ {c A s m imm cs va} {E:Θ},aR M c A n→bL c ls→ai M c.h₀ c.L s.heap m ls.v J imm cs→VR M imm (ae cs) va a →
  (∀ {Q:Bool→χ→Prop},(∀ h' tk imm' cs',ai M c.h₀ c.L h' m ls.v J' imm' cs'→aE imm cs imm' cs'→Q b (sU s h' tk))→wpAny (model ar M.w) A (testChain pos va ops (markedEach ops rs (evalEach rs c.env))) Q E s) ∧
  (∀ {Q:Θ},(∀ h' tk imm' cs',ai M c.h₀ c.L h' m ls.v J' imm' cs'→aE imm cs imm' cs'→Q (.bool b) (sU s h' tk))→wpAny (model ar M.w) A (compareChain pos va ops (markedEach ops rs (evalEach rs c.env))) Q E s)
structure aS (M:aF) (n:Nat) (R:aM):Prop where
 ev:∀ {ls J e v J'},R.ev ls J e=some (v,J')→cS M n (fun c=>eval e c.env) ls J v J'
 evo:∀ {ls J e v J'},R.evo ls J e=some (v,J')→eG M n (fun c=>evalPart e c.env) ls J (kN M v) J'
 evs:∀ {ls J es vs J'},R.evs ls J es=some (vs,J')→((∀ e∈es,fJ e=true)∧es.length=vs.length)∧eG M n (fun c=>spliced (mX es c)) ls J (sb M vs) J'
 evk:∀ {ls J ks kw J'},R.evk ls J ks=some (kw,J')→ks.map (·.arg)=kw.map (fun q=>some q.1)∧∀ pos,eG M n (fun c=>evalAll (Af pos ks c)) ls J (sb M (kw.map (·.2))) J'
 bl:∀ {ls J op es v J'},R.bl ls J op es=some (v,J')→∀ pos,cS M n (fun c=>boolOp pos op (evalEach es c.env)) ls J v J'
 cc:∀ {ls J a ops rs b J'},R.cc ls J a ops rs=some (b,J')→∀ pos,Be M n pos ls J a ops rs b J'
 tst:∀ {ls J e b J'},R.tst ls J e=some (b,J')→eG M n (fun c=>isTrue e c.env (eval e c.env)) ls J (lu b) J'
 tb:∀ {ls J op es b J'},R.tb ls J op es=some (b,J')→eG M n (fun c=>allTrue op es c.env) ls J (lu b) J'
variable {Y:Pi}
def PG(I:aS M n R)(h:Ba Y R ls J e=some (v,J')):eG M n (fun c=>evalPart e c.env) ls J (kN M v) J':=by
 unfold Ba at h;induction e using oO with
 |none=>
  (apply r2 h;clear h);intro c A s m imm cs Q E C l R k;exact Wi (k s.heap s.toks imm cs _ R (aE.refl ..) rfl)
 |some e=>
  apply bK h;clear h;intro x σ1 h1 h;(apply r2 h;clear h);exact I.ev h1
def Fx(I:aS M n R)(h:Ar Y R ls J es=some (vs,J')):((∀ e∈es,fJ e=true)∧es.length=vs.length)∧eG M n (fun c=>spliced (mX es c)) ls J (sb M vs) J':=by
 induction es using oL with
 |nil=>
  (apply r2 h;clear h);refine⟨⟨et,rfl⟩,?_⟩;intro c A s m imm cs Q E C l R k;exact spliced_nil (k s.heap s.toks imm cs _ R (aE.refl ..) .nil)
 |cons e r=>
  apply bC h;clear h;intro hs h;apply bK h;clear h;intro x σ1 h1 h;apply bK h;clear h;intro xs σ2 h2 h;(apply r2 h;clear h);apply ay (I.evs h2);intro n2 g2;refine⟨⟨fun e' q=>(cI q).elim (fun q=>q▸hs) (n2.1 e'),congrArg (·+1) n2.2⟩,?_⟩;intro c A s m imm cs Q E C l R k;refine spliced_cons (I.ev h1 C l R fun h1 t1 i1 c1 va R1 x1 q1=>g2 C l R1 fun h2 t2 i2 c2 vb R2 x2 q2=>?_);exact k h2 t2 i2 c2 _ R2 (x1.trans x2) (.cons (q1.ext x2) q2)
def Tu(I:aS M n R)(h:E6 Y R ls J ks=some (kw,J')) :
  ks.map (·.arg)=kw.map (fun q=>some q.1)∧∀ pos,eG M n (fun c=>evalAll (Af pos ks c)) ls J (sb M (kw.map (·.2))) J':=by
 induction ks using oL with
 |nil=>
  (apply r2 h;clear h);refine⟨rfl,fun pos=>?_⟩;intro c A s m imm cs Q E C l R k;exact Wi (k s.heap s.toks imm cs _ R (aE.refl ..) .nil)
 |cons e r=>
  apply aG h;clear h;intro u hs h;apply bK h;clear h;intro x σ1 h1 h;apply bK h;clear h;intro xs σ2 h2 h;(apply r2 h;clear h);apply ay (I.evk h2);intro n2 g2;refine⟨by rw[WT,WT,n2,hs],fun pos=>?_⟩;intro c A s m imm cs Q E C l R k;refine evalAll_cons (Wg (I.ev h1 C l R fun h1 t1 i1 c1 va R1 x1 q1=>Wg (Wt (Wi ?_))));refine g2 pos C l R1 fun h2 t2 i2 c2 vb R2 x2 q2=>?_;exact k h2 t2 i2 c2 _ R2 (x1.trans x2) (.cons (q1.ext x2) q2)
def HD(hb:aU Y.B M.Z)(I:aS M n R)(h:qA Y R ls J op es=some (v,J'))(pos:Pos) :
  cS M n (fun c=>boolOp pos op (evalEach es c.env)) ls J v J':=by
 unfold qA at h;induction es using oL with
 |nil=>injection h
 |cons e r=>
  induction r using oL with
  |nil=>exact I.ev h
  |cons e2 r=>
   apply bK h;clear h;intro x σ1 h1 h;apply aG h;clear h;intro b h2 h;intro c A s m imm cs Q E C l R k;refine Wg (I.ev h1 C l R fun ha ta ia ca va Ra xa qa=>Wg (Wt (Wg (Wo ?_))));refine An hb h2 qa C Ra fun tk=>?_;cases hst:oK op b with
   |true=>
    rw[hst] at h;(apply j2 h;clear h;rintro rfl rfl);cases op<;>induction b using oB<;>first|(injection hst;done)|exact Wi (k ha tk ia ca va Ra xa qa)
   |false=>
    rw[hst] at h;have fin:wpAny (model ar M.w) A (boolOp pos op (evalEach (e2::r) c.env)) Q E (sU s ha tk) :=
     I.bl h pos C l Ra fun h2 t2 i2 c2 vb R2 x2 q2=>k h2 t2 i2 c2 vb R2 (xa.trans x2) q2
    cases op<;>induction b using oB<;>first|(injection hst;done)|exact fin
def Po(h:lh r=true)(t:Sem π):markedBehindIn op r t=t:=by
 refine markedBehindIn_of_false ?_;induction r using PySem.Expr.casesOn<;>first|rfl|(exact Bool.noConfusion h)
def Cv(pos:Pos)(va:π)(op:CmpOp)(t:Sem π)(ne:ops=[]→ts=[]→False) :
  testChain pos va (op::ops) (t::ts)=(do let rv ←holding [va] t;standAt pos;let q ←holding [va,rv] (compareOp op va rv);release [va,rv] [q];if ←holding [q,rv] (truthy q) then testChain pos rv ops ts else pure false) ∧
  compareChain pos va (op::ops) (t::ts)=(do let rv ←holding [va] t;standAt pos;let q ←holding [va,rv] (compareOp op va rv);release [va,rv] [q];if ←holding [q,rv] (truthy q) then compareChain pos rv ops ts else pure q):=by
 induction ops using oL with
 |nil=>
  induction ts using oL with
  |nil=>exact(ne rfl rfl).elim
  |cons=>exact⟨rfl,rfl⟩
 |cons=>exact⟨rfl,rfl⟩
def vx(hb:aU Y.B M.Z)(I:aS M n R){ls:ac}{J σ1:St}{a x:AV}{op:CmpOp}{r:Expr}{t:Bool}(h1:R.ev ls J r=some (x,σ1))(h2:cmp Y.B σ1 op a x=some t)
  {c:Cx} {A:Around} {s:χ} {m:ω} {imm:Δ} {cs:List CC} {va:π} {E:Θ} (C:aR M c A n) (l:bL c ls) (Rp:ai M c.h₀ c.L s.heap m ls.v J imm cs) (hv:VR M imm (ae cs) va a)
  {α:Type} {Q:α→χ→Prop} {pos:Pos} {P:π→Sem α}
  (k:∀ hx tx ix cx vb,ai M c.h₀ c.L hx m ls.v σ1 ix cx→aE imm cs ix cx→VR M ix (ae cx) vb x→(∀ {Q':Θ},(∀ tk,Q' (.bool t) (sU s hx tk))→wpAny (model ar M.w) A (compareOp op va vb) Q' E (sU s hx tx))→wpAny (model ar M.w) A (P vb) Q E (sU s hx tx)) :
  wpAny (model ar M.w) A (do let rv ←holding [va] (eval r c.env);standAt pos;P rv) Q E s :=
 Wg (Wo (I.ev h1 C l Rp fun hx tx ix cx vb Rx xx qx=>Wg (Wt (k hx tx ix cx vb Rx xx qx fun k=>Rs hb h2 (hv.ext xx) qx C Rx k))))
def Vv(hb:aU Y.B M.Z)(I:aS M n R)(h:Hx Y R ls J a ops rs=some (b,J'))(pos:Pos) :
  Be M n pos ls J a ops rs b J':=by
 induction ops using oL with
 |nil=>injection h
 |cons op ops=>
  induction rs using oL with
  |nil=>injection h
  |cons r rs=>
   apply bC h;clear h;intro hs h;apply bK h;clear h;intro x σ1 h1 h;apply aG h;clear h;intro t h2 h;have many:(bD ops&&bD rs)=false→(∀ c,markedEach (op::ops) (r::rs) (evalEach (r::rs) c)=eval r c::markedEach ops rs (evalEach rs c))→(∀ c,ops=[]→markedEach ops rs (evalEach rs c)=[]→False)→Be M n pos ls J a (op::ops) (r::rs) b J':=fun q mk ne=>by
    rw[q] at h;intro c A s m imm cs va E C l Rp hv;have ht:t=true→R.cc ls σ1 x ops rs=some (b,J'):=fun e=>by rw[e] at h;exact h
    have hf:t=false→false=b∧σ1=J':=fun e=>by rw[e] at h;exact Prod.mk.inj (bM h)
    clear h;exact⟨fun k=>uE ((congrArg (testChain pos va _) (mk _)).trans (Cv pos va op _ (ne _)).1) (vx hb I h1 h2 C l Rp hv fun hx tx ix cx vb Rx xx qx cm=>Wg (Wo (cm fun tk=>Wg (wpAny_release (Wg (Wo (wpAny_truthy_bool (GF
      (fun e=>(I.cc (ht e) pos C l Rx qx).1 fun h2 t2 i2 c2 R2 x2=>k h2 t2 i2 c2 R2 (xx.trans x2))
      fun e=>Wi ((hf e).1▸k hx tk ix cx ((hf e).2▸Rx) xx))))))))),
     fun k=>uE ((congrArg (compareChain pos va _) (mk _)).trans (Cv pos va op _ (ne _)).2) (vx hb I h1 h2 C l Rp hv fun hx tx ix cx vb Rx xx qx cm=>Wg (Wo (cm fun tk=>Wg (wpAny_release (Wg (Wo (wpAny_truthy_bool (GF
      (fun e=>(I.cc (ht e) pos C l Rx qx).2 fun h2 t2 i2 c2 R2 x2=>k h2 t2 i2 c2 R2 (xx.trans x2))
      fun e=>Wi (e▸(hf e).1▸k hx tk ix cx ((hf e).2▸Rx) xx)))))))))⟩
   induction ops using oL with
   |nil=>
    induction rs using oL with
    |nil=>
     apply ay (Prod.mk.inj (bM h));intro e0 e1;intro c A s m imm cs va E C l Rp hv;have mk:markedEach [op] [r] (evalEach [r] c.env)=[eval r c.env]:=congrArg (·::[]) (Po hs _);exact⟨fun k=>uE (congrArg (testChain pos va _) mk) <|vx hb I h1 h2 C l Rp hv fun hx tx ix cx vb Rx xx qx cm=>Wg (wpAny_operate' (cm fun tk=>Wo (wpAny_truthy_bool (e0▸k hx tk ix cx (e1▸Rx) xx)))),
      fun k=>uE (congrArg (compareChain pos va _) mk) <|vx hb I h1 h2 C l Rp hv fun hx tx ix cx vb Rx xx qx cm=>wpAny_operate' (cm fun tk=>e0▸k hx tk ix cx (e1▸Rx) xx)⟩
    |cons=>exact @many rfl (fun U=>rfl) fun U U e=>by injection e
   |cons=>exact @many rfl (fun U=>rfl) fun U e U=>by injection e
def DV(I:aS M n R)(h:pU Y R ls J op es=some (b,J')):eG M n (fun c=>allTrue op es c.env) ls J (lu b) J':=by
 unfold pU at h;induction es using oL with
 |nil=>injection h
 |cons e r=>
  induction r using oL with
  |nil=>
   intro c A s m imm cs Q E C l Rp k;cases op with
   |And=>
    refine wpAny_allTrue_And_cons (I.tst h C l Rp fun hx tx ix cx x Rx xx qx=>?_);cases qx;induction b using oB
    ·exact k hx tx ix cx _ Rx xx rfl
    ·exact wpAny_allTrue_And_nil (k hx tx ix cx _ Rx xx rfl)
   |Or=>
    refine wpAny_allTrue_Or_cons (I.tst h C l Rp fun hx tx ix cx x Rx xx qx=>?_);cases qx;induction b using oB
    ·exact wpAny_allTrue_Or_nil (k hx tx ix cx _ Rx xx rfl)
    ·exact k hx tx ix cx _ Rx xx rfl
  |cons e2 r=>
   apply bK h;clear h;intro x σ1 h1 h;intro c A s m imm cs Q E C l Rp k;cases op with
   |And=>
    refine wpAny_allTrue_And_cons (I.tst h1 C l Rp fun hx tx ix cx y Rx xx qx=>?_);cases qx;induction x using oB with
    |false=>(apply j2 h;clear h;rintro rfl rfl);exact k hx tx ix cx _ Rx xx rfl
    |true=>exact I.tb h C l Rx fun h2 t2 i2 c2 vb R2 x2 q2=>k h2 t2 i2 c2 vb R2 (xx.trans x2) q2
   |Or=>
    refine wpAny_allTrue_Or_cons (I.tst h1 C l Rp fun hx tx ix cx y Rx xx qx=>?_);cases qx;induction x using oB with
    |true=>(apply j2 h;clear h;rintro rfl rfl);exact k hx tx ix cx _ Rx xx rfl
    |false=>exact I.tb h C l Rx fun h2 t2 i2 c2 vb R2 x2 q2=>k h2 t2 i2 c2 vb R2 (xx.trans x2) q2
def FQ(hb:aU Y.B M.Z)(I:aS M n R)(h:Bj Y R ls J e=some (b,J')) :
  eG M n (fun c=>isTrue e c.env (eval e c.env)) ls J (lu b) J':=by
 intro c A s m imm cs Q E C l Rp k;have plain:He Y R ls J e=some (b,J')→(isTrue e c.env (eval e c.env)=do let v ←eval e c.env;standAt e.pos;holding [v] (truthy v))→wpAny (model ar M.w) A (isTrue e c.env (eval e c.env)) Q E s:=by
  intro h e2;apply bK h;clear h;intro x σ1 h1 h;apply aG h;clear h;intro t h2 h;(apply j2 h;clear h;rintro rfl rfl);refine wpAny_isTrue_value (I.ev h1 C l Rp fun hx tx ix cx vb Rx xx qx=>?_) e2;exact An hb h2 qx C Rx fun tk=>k hx tk ix cx _ Rx xx rfl
 induction e using PySem.Expr.casesOn with
 |BoolOp op vs pos=>exact wpAny_isTrue_BoolOp (I.tb h C l Rp k)
 |UnaryOp op e2 pos=>
  cases op with
  |Not=>
   apply bK (show (obp (R.tst ls J e2) fun b J=>some (!b,J))=some (b,J') from h);clear h;intro x σ1 h1 h;(apply j2 h;clear h;rintro rfl rfl);refine wpAny_isTrue_Not (I.tst h1 C l Rp fun hx tx ix cx vb Rx xx qx=>?_);cases qx;exact k hx tx ix cx _ Rx xx rfl
  |_=>injection h
 |Compare lx ops rs pos=>
  apply bK (show Dq R ls J lx ops rs=some (b,J') from h);clear h;intro x σ1 h1 h;refine Wg (I.ev h1 C l Rp fun hx tx ix cx vb Rx xx qx=>?_);exact(I.cc h pos C l Rx qx).1 fun h2 t2 i2 c2 R2 x2=>k h2 t2 i2 c2 _ R2 (xx.trans x2) rfl
 |IfExp=>injection h
 |_=>exact plain h rfl
end
section
structure dC (M:aF) (C:Addr) (c:CI):Prop where
 cls:ju M C
 meths:∀ x f,lk x c.meths=some f→findIn M.K (.ref C) x=some (some (.ref f))∧isFn M.K (.ref f)=true∧fnIn M.K f=true∧specialIn M.K (.ref f) "__get__"=some (some (.builtin "function.__get__"))∧takesIn M.K (.ref f)=some false∧copiedNames.contains x=false
 consts:∀ x v,lk x c.consts=some v→∃ a,findIn M.K (.ref C) x=some (some a)∧specialIn M.K a "__get__"=some none∧handedIn a=true∧copiedNames.contains x=false∧∀ imm ρ,VR M imm ρ a v
 flds:∀ x,ki x c.flds=true→findIn M.K (.ref C) x=some none∧takerIn M.K C x=some none
 isa:(∃ cd,clsIn M.K C=some cd∧cd.mro.isEmpty=false∧∀ D,cd.mro.contains (.ref D)=c.mro.any (Nat.beq D))∧typeIn M.K (.ref C)=some (.type "type")∧c.mro.any (Nat.beq C)=true
 kin:plainGet M.K C "__class__"=true∧findIn M.K (.ref C) "__class__"=some (some (.builtin "object.__class__"))∧specialIn M.K (.builtin "object.__class__") "__get__"=some (some (.builtin "getset_descriptor.__get__"))∧takesIn M.K (.builtin "object.__class__")=some true∧mroIn M.K C (.type "object")=some true
 init:∀ f,c.init=some f→findIn M.K (.ref C) "__init__"=some (some (.ref f))∧typeIn M.K (.ref f)=some (.type "function")∧makesIn M.K C=true
def aT.noRef(h:aT M imm ρ es fs):es.any (·.refKey)=false:=by
 induction h using aT.ind with
 |nil=>rfl
 |cons _ _ ih=>rw[List.any_cons,ih];rfl
set_option tactic.hygienic true in
def aT.get(hf:aT M imm ρ es fs):match lk x fs with
  |some v=>∃ val,getL x es=some (some val)∧VR M imm ρ val v
  |none=>es.find? (·.key.isStr x)=none:=by
 induction hf using aT.ind with
 |nil=>rfl
 |@cons h t n v y es fs a g ih=>
  rw[eU]
  by_cases q:n=x
  ·clear ih;subst q
   rw[if_pos rfl];refine⟨v,?_,a⟩;unfold getL;have:(⟨h,.str n t,v⟩::es:List DictEntry).find? (·.key.isStr n)=some ⟨h,.str n t,v⟩:=by rw[List.find?_cons];simp [Value.isStr]
   rw[this]
  ·rw[if_neg q]
   have ne:(Value.str n t).isStr x=false:=by simp [Value.isStr,q]
   have e:(⟨h,.str n t,v⟩::es:List DictEntry).find? (·.key.isStr x)=es.find? (·.key.isStr x):=by rw[List.find?_cons];simp [ne]
   cases z:lk x fs with
   |none=>rw[z] at ih;rw[e];exact ih
   |some u=>
    rw[z] at ih;apply af ih;intro val b1 b2;refine⟨val,?_,b2⟩;unfold getL at b1 ⊢;rw[e]
    split at b1
    ·rename_i w h1;first|exact b1|(rw[h1];exact b1)
    ·rename_i h1
     rw[if_neg (by rw[g.noRef];decide)] at b1;cases b1
def aT.miss(g:aT M imm ρ es fs)(h:lk x fs=none):getL x es=some none:=by
 have:=g.get (x:=x);rw[h] at this;unfold getL;rw[this,if_neg (by rw[g.noRef];decide)]
def iJ{α:Type}{x:Str}{v:α}:∀ {l:List (Str×α)},lk x l=some v→(x,v)∈l
 |(y,u)::r,h=>by
  rw[eU] at h
  by_cases q:y=x
  ·rw[if_pos q] at h;(apply r1 h;clear h);rw[q];exact .head _
  ·rw[if_neg q] at h;exact .tail _ (iJ h)
def wI(h:VR M imm ρ val v)(n:zA v=true):handedIn val=true:=by cases h<;>first|rfl|injection n
section
def PP(hy:∀ C c,Y.ci C=some c→dC M C c){i:Nat}(h:xB Y J i x=some r)(C:aR M c A n)(R:ai M c.h₀ c.L s.heap m ls J imm cs)(hv:VR M imm (ae cs) va (.cell i))
  (k:∀ h' tk imm' cs' val,ai M c.h₀ c.L h' m ls J imm' cs'→aE imm cs imm' cs'→VR M imm' (ae cs') val r→Q val (sU s h' tk)):wpAny (model ar M.w) A (getAttr va x expr) Q E s:=by
 apply bK h;clear h;intro D fs e1 h;apply af hv.cell_inv;intro a e0 ha;subst e0;apply cj (R.C.cell ha (pk e1));intro d pre post e0 l e2 cr;subst e0;apply dZ cr.inst_inv;intro b d es n' e0 hf hp hc;subst e0;(obtain e:=CC.same e2;subst e);have I:=XO R.N (R.has (.head _)) (R.has (.tail _ (.head _)));have g:=hf.get (x:=x);cases z:lk x fs with
 |some u=>
  rw[z] at h g;apply bC h;clear h;intro h1 h;(apply j1 h;clear h;rintro rfl);apply af g;intro val g1 g2;exact get_own R.F C.X I hc.ga hc.hd (hp _ (iJ z)) rfl g1 (wI g2 h1) (k s.heap _ imm _ val R (aE.refl ..) g2)
 |none=>
  rw[z] at h;apply aG h;clear h;intro ci h1 h;have ok:=hy _ _ h1;unfold xT at h;cases z2:lk x ci.meths with
  |some f=>
   rw[z2] at h;(apply j1 h;clear h;rintro rfl);apply j7 (ok.meths x f z2);intro m1 m2 m3 m4 m5 m6;refine(get_bind (C.X.keeps R.F.keep) I (plainGet_of hc.ga).1 (findObj_fn hc.hd m1 m4 m5 m6 (by show lookIn x (dictOf es n')=_;rw[lookIn_dict,hf.miss z])) (plainGet_of hc.ga).2) (wpAny_call (fn_get (C.X.keeps R.F.keep) (WB.mp m2) (handed_on rfl ?_)));exact k _ _ _ _ _ (R.newI (methodObj (.ref f) (.ref b)) rfl) (R.extI _) (.meth (.head _) (.cell ha))
  |none=>
   rw[z2] at h;apply pf (ok.consts x r h);intro a c1 c2 c3 c4 c5;exact get_cls R.F C.X I hc.ga hc.hd c1 c2 c3 c4 (hf.miss z) (k s.heap _ imm _ a R (aE.refl ..) (c5 ..))
def IK(hy:∀ C c,Y.ci C=some c→dC M C c){v:AV}(h:hY Y J v x=some r)(C:aR M c A n)(R:ai M c.h₀ c.L s.heap m ls J imm cs)(hv:VR M imm (ae cs) va v)
  (k:∀ h' tk imm' cs' val,ai M c.h₀ c.L h' m ls J imm' cs'→aE imm cs imm' cs'→VR M imm' (ae cs') val r→Q val (sU s h' tk)):wpAny (model ar M.w) A (getAttr va x expr) Q E s:=by
 induction v using AV.casesOn with
 |cell i=>exact PP hy h C R hv k
 |obj D fs=>
  apply aG h;clear h;intro u e1 h;apply bC h;clear h;intro h1 h;(apply j1 h;clear h;rintro rfl);apply nz hv.obj_inv;intro a d es n' e0 i1 i2 hf hp hc;clear hv;subst e0;have g:=hf.get (x:=x);rw[e1] at g;apply af g;intro val g1 g2;exact get_own R.F C.X (XO R.N (aK _ i1) (aK _ i2)) hc.ga hc.hd (hp _ (iJ e1)) rfl g1 (wI g2 h1) (k s.heap _ imm _ val R (aE.refl ..) g2)
 |_=>injection h
end
def y8(h:jk o=true):attributeBase o attr env whole=whole:=by
 induction o using PySem.Expr.casesOn<;>first|rfl|(exact Bool.noConfusion h)
def Vs{Y:Pi}(hy:∀ C c,Y.ci C=some c→dC M C c)(I:aS M n R)
  (h:Du Y R ls J o x=some (r,J')):cS M n (fun c=>eval (.Attribute o x pos) c.env) ls J r J':=by
 apply bC h;clear h;intro h0 h;apply bK h;clear h;intro v σ1 h1 h;apply aG h;clear h;intro r h2 h;(apply r2 h;clear h);intro c A s m imm cs Q E C l Rp k;refine Attribute_any_ (I.ev h1 C l Rp fun hx tx ix cx vb Rx xx qx=>?_) ?_
 ·exact IK hy h2 C Rx qx fun h2 t2 i2 c2 vb R2 x2 q2=>k h2 t2 i2 c2 vb R2 (xx.trans x2) q2
 ·show (do let o' ←attributeBase o x c.env (eval o c.env);standAt pos.atName;let r ←holding [o'] (getAttr o' x true);letTemporaryGo o o' r;pure r)=_
  rw[y8 h0]
def Vp(I:aS M n R)
  (h:CT R ls J t b o=some (r,J')):cS M n (fun c=>eval (.IfExp t b o pos) c.env) ls J r J':=by
 apply bK h;clear h;intro v σ1 h1 h;intro c A s m imm cs Q E C l Rp k;refine wpAny_IfExp (I.tst h1 C l Rp fun hx tx ix cx vb Rx xx qx=>?_);cases qx;induction v using oB with
 |true=>exact I.ev h C l Rx fun h2 t2 i2 c2 vb R2 x2 q2=>k h2 t2 i2 c2 vb R2 (xx.trans x2) q2
 |false=>exact I.ev h C l Rx fun h2 t2 i2 c2 vb R2 x2 q2=>k h2 t2 i2 c2 vb R2 (xx.trans x2) q2
def Cg(I:aS M n R)
  (h:HH R ls J e ops rs=some (r,J')):cS M n (fun c=>eval (.Compare e ops rs pos) c.env) ls J r J':=by
 apply bK h;clear h;intro v σ1 h1 h;apply bK h;clear h;intro b σ2 h2 h;(apply r2 h;clear h);intro c A s m imm cs Q E C l Rp k;refine Wg (I.ev h1 C l Rp fun hx tx ix cx vb Rx xx qx=>?_);exact(I.cc h2 pos C l Rx qx).2 fun h2 t2 i2 c2 R2 x2=>k h2 t2 i2 c2 _ R2 (xx.trans x2) (.bool _)
def m9{c:Cx}(pos:Pos):(∀ e∈es,fJ e=true)→backTo pos (starEach es c.env)=mX es c:=by
 induction es with
 |nil=>intro _;rfl
 |cons e r ih=>
  intro h;have e1:starEach (e::r) c.env=(false,eval e c.env)::starEach r c.env:=by
   have:=h e (.head _);clear h;induction e using PySem.Expr.casesOn<;>first|rfl|(exact Bool.noConfusion this)
  rw[e1];show (false,eval e c.env)::backTo pos (starEach r c.env)=_;rw[ih fun x hx=>h x (.tail _ hx)];rfl
def RP(I:aS M n R)
  (h:HT R ls J es=some (r,J')):cS M n (fun c=>eval (.Tuple es q pos) c.env) ls J r J':=by
 apply bK h;clear h;intro vs σ1 h1 h;apply bC h;clear h;intro h2 h;(apply r2 h;clear h);apply ay (I.evs h1);intro ns g;have hz:=nleT h2;rw[aZ] at hz;intro c A s m imm cs Q E C l Rp k;refine wpAny_Tuple ?_;rw[m9 pos ns.1];refine g C l Rp fun hx tx ix cx x Rx xx qx=>⟨by rw[qx.len,WS];exact W2 hz,?_⟩;exact k _ tx _ _ _ (Rx.newI _ rfl) (xx.trans (Rx.extI _)) (.tup (.inl (.head _)) (qx.ext (Rx.extI _)))
end
section
variable {α:Type}
def oS(f:α→B)(x:Str):∀ l:List (Str×α),lk x (l.map fun q=>(q.1,f q.2))=(lk x l).map f:=by
 intro L0;induction L0 with
 |nil=>
  exact rfl
 |cons x0 r ih=>
  obtain⟨y,u⟩:=x0;rw[WT,eU,eU,ih]
  by_cases e:y=x
  ·rw[if_pos e,if_pos e];rfl
  ·rw[if_neg e,if_neg e]
set_option smartUnfolding false in
def JS(f:α→B)(names:List Str):∀ (kw sl:List (Str×α)),l7 names (sl.map fun q=>(q.1,f q.2)) (kw.map fun q=>(q.1,f q.2))=l7 names sl kw:=by
 intro L0;induction L0 with
 |nil=>
  intro _;exact rfl
 |cons x0 r ih=>
  obtain⟨k,v⟩:=x0;intro sl;show Bool.rec false (Option.rec (l7 names (sl.map (fun q=>(q.1,f q.2))++[(k,f v)]) (r.map fun q=>(q.1,f q.2))) (fun U=>false) (lk k (sl.map fun q=>(q.1,f q.2)))) (ki k names)=Bool.rec (motive:=fun U=>Bool) false (Option.rec (l7 names (sl++[(k,v)]) r) (fun U=>false) (lk k sl)) (ki k names);rw[oS];cases ki k names with
  |false=>rfl
  |true=>
   cases lk k sl with
   |some _=>rfl
   |none=>
    have:=ih (sl++[(k,v)]);rw[Wl] at this;exact this
set_option smartUnfolding false in
def Vq(f:α→B):∀ (d sl:List (Str×α)),ik (sl.map fun q=>(q.1,f q.2)) (d.map fun q=>(q.1,f q.2))=(ik sl d).map fun q=>(q.1,f q.2):=by
 intro L0;induction L0 with
 |nil=>
  intro _;exact rfl
 |cons x0 r ih=>
  obtain⟨x,v⟩:=x0;intro sl;show Option.rec (ik (sl.map (fun q=>(q.1,f q.2))++[(x,f v)]) (r.map fun q=>(q.1,f q.2))) (fun U=>ik (sl.map fun q=>(q.1,f q.2)) (r.map fun q=>(q.1,f q.2))) (lk x (sl.map fun q=>(q.1,f q.2)))=(Option.rec (motive:=fun U=>List (Str×α)) (ik (sl++[(x,v)]) r) (fun U=>ik sl r) (lk x sl)).map fun q=>(q.1,f q.2);rw[oS];cases lk x sl with
  |some _=>exact ih sl
  |none=>
   have:=ih (sl++[(x,v)]);rw[Wl] at this;exact this
set_option smartUnfolding false in
def Re(f:α→B)(sl:List (Str×α)):∀ names,e8 (sl.map fun q=>(q.1,f q.2)) names=(e8 sl names).map fun q=>(q.1,f q.2):=by
 intro L0;induction L0 with
 |nil=>
  exact rfl
 |cons x r ih=>
  show Option.rec (e8 (sl.map fun q=>(q.1,f q.2)) r) (fun v=>(x,v)::e8 (sl.map fun q=>(q.1,f q.2)) r) (lk x (sl.map fun q=>(q.1,f q.2)))=List.map (fun q=>(q.1,f q.2)) (Option.rec (e8 sl r) (fun v=>(x,v)::e8 sl r) (lk x sl));rw[oS,ih];cases lk x sl<;>rfl
set_option smartUnfolding false in
def Ub(f:α→B)(sl:List (Str×α)):∀ names,lW (sl.map fun q=>(q.1,f q.2)) names=lW sl names:=by
 intro L0;induction L0 with
 |nil=>
  exact rfl
 |cons x r ih=>
  show Option.rec false (fun U=>lW (sl.map fun q=>(q.1,f q.2)) r) (lk x (sl.map fun q=>(q.1,f q.2)))=Option.rec (motive:=fun U=>Bool) false (fun U=>lW sl r) (lk x sl);rw[oS,ih];cases lk x sl<;>rfl
def Er(f:α→B)(names:List Str)(l:List α):names.zip (l.map f)=(names.zip l).map fun q=>(q.1,f q.2):=by
 rw[List.zip_map_right];rfl
def Ez(f:α→B)(names:List Str)(dflt pos:List α)(kw:List (Str×α)):fE names (dflt.map f) (pos.map f) (kw.map fun q=>(q.1,f q.2))=(fE names dflt pos kw).map fun l=>l.map fun q=>(q.1,f q.2):=by
 unfold fE;rw[Er,JS,←Wl,Ub,Er,Vq,Re];simp only [aZ,Wr];cases pos.length.ble names.length<;>cases dflt.length.ble names.length<;>cases l7 names (names.zip pos) kw<;>cases lW (names.zip pos++kw) (bN (names.length-dflt.length) names)<;>rfl
set_option smartUnfolding false in
def H8{sl:List (Str×α)}:∀ {names:List Str},∀ q∈e8 sl names,lk q.1 sl=some q.2:=by
 intro L0;induction L0 with
 |nil=>
  intro q h;cases h
 |cons x r ih=>
  intro q h;replace h:q∈Option.rec (motive:=fun U=>List (Str×α)) (e8 sl r) (fun v=>(x,v)::e8 sl r) (lk x sl):=h;cases e:lk x sl with
  |none=>rw[e] at h;exact ih q h
  |some v=>
   rw[e] at h;cases h with
   |head=>exact e
   |tail _ h=>exact ih q h
def PO{l:List (Str×α)}(h:l.lookup x=some v):(x,v)∈l:=by rw[←kt] at h;exact iJ h
def MC:∀ {l:List (Str×α)},(x,v)∈l→∃ u,l.lookup x=some u:=by
 intro l;induction l with
 |nil=>intro h;cases h
 |cons y r ih=>
  intro h;rw[←kt,show lk x (y::r)=_ from eU x y.1 y.2 r]
  by_cases e:y.1=x
  ·exact⟨_,if_pos e⟩
  ·rw[if_neg e,kt]
   cases h with
   |head=>exact absurd rfl e
   |tail _ q=>exact ih q
def M1(h:lk x (e8 sl names)=some v):(e8 sl names).reverse.lookup x=some v:=by
 have h1:=iJ h;apply bn (MC (List.mem_reverse.mpr h1));intro u hu;have h2:=H8 _ (List.mem_reverse.mp (PO hu));have h3:=H8 _ h1;rw[h3] at h2;rw[hu,←h2]
end
section
def Mw{γ δ:Type}{f:γ→List γ×δ→Sem (ForInStep (List γ×δ))}(e:δ):∀ (l acc:List γ),(∀ pre x post,l=pre++x::post→f x (acc++pre,e)=pure (.yield (acc++pre++[x],e)))→forIn l (acc,e) f=pure (acc++l,e):=by
 intro L0;induction L0 with
 |nil=>
  intro acc _;rw[List.forIn_nil,aX]
 |cons x r ih=>
  intro acc h;rw[List.forIn_cons];have h1:=h [] x r rfl;rw[aX] at h1;rw[h1,pure_bind];have:=ih (acc++[x]) fun pre y post q=>by
   simpa using (h (x::pre) y post (by rw[q];rfl))
  dsimp only;rw[this];simp
set_option smartUnfolding false in
def Le{α:Type}{names:List Str}:∀ {kw sl:List (Str×α)},l7 names sl kw=true→∀ pre x post,kw=pre++x::post→ki x.1 names=true∧lk x.1 (sl++pre)=none:=by
 intro kw;induction kw with
 |nil=>intro _ _ pre x post e;induction pre using List.casesOn<;>injection e
 |cons y r ih=>
  intro sl h pre x post e;replace h:Bool.rec (motive:=fun U=>Bool) false (Option.rec (motive:=fun U=>Bool) (l7 names (sl++[y]) r) (fun U=>false) (lk y.1 sl)) (ki y.1 names)=true:=h;cases q:ki y.1 names with
  |false=>rw[q] at h;injection h
  |true=>
   rw[q] at h;cases z:lk y.1 sl with
   |some _=>rw[z] at h;injection h
   |none=>
    rw[z] at h;induction pre using List.casesOn with
    |nil=>injection e with e1 e2;subst e1;exact⟨q,by rw[aX];exact z⟩
    |cons y pre=>
     injection e with e1 e2;subst e1;have:=ih h pre x post e2;rw[bP] at this;exact this
def BQ{x:Str}:∀ {l:List Str},ki x l=true→x∈l
 |y::r,h=>by
  replace h:Bool.rec (motive:=fun U=>Bool) (ki x r) true (seq y x)=true:=h;cases q:seq y x with
  |true=>rw[ii.mp q];exact .head _
  |false=>rw[q] at h;exact .tail _ (BQ h)
set_option smartUnfolding false in
def RI{α:Type}{g:Str×α→List (Str×α)→Sem (ForInStep (List (Str×α)))}(hg:∀ q sl,g q sl=(if (sl.lookup q.1).isNone then pure (.yield (sl++[(q.1,q.2)])) else pure (.yield sl))):∀ (d sl:List (Str×α)),forIn d sl g=pure (ik sl d):=by
 intro L0;induction L0 with
 |nil=>
  intro _;exact List.forIn_nil
 |cons x0 r ih=>
  obtain⟨x,v⟩:=x0;intro sl;rw[List.forIn_cons,hg];rw[show ik sl ((x,v)::r)=Option.rec (ik (sl++[(x,v)]) r) (fun U=>ik sl r) (lk x sl) from rfl];rw[←kt];cases lk x sl with
  |none=>exact ih _
  |some u=>exact ih _
set_option smartUnfolding false in
def Op{α:Type}(sl:List (Str×α)):∀ names:List Str,names.filterMap (fun n=>(sl.lookup n).map (n,·))=e8 sl names:=by
 intro L0;induction L0 with
 |nil=>
  exact rfl
 |cons x r ih=>
  show _=Option.rec (motive:=fun U=>List (Str×α)) (e8 sl r) (fun v=>(x,v)::e8 sl r) (lk x sl);rw[List.filterMap_cons,ih,←kt];cases lk x sl<;>rfl
set_option smartUnfolding false in
def Kl{α:Type}{sl:List (Str×α)}:∀ {l:List Str},lW sl l=true→l.filter (fun n=>(sl.lookup n).isNone)=[]:=by
 intro L0;induction L0 with
 |nil=>
  intro _;exact rfl
 |cons x r ih=>
  intro h;replace h:Option.rec (motive:=fun U=>Bool) false (fun U=>lW sl r) (lk x sl)=true:=h;rw[List.filter_cons,←kt];cases e:lk x sl with
  |none=>rw[e] at h;injection h
  |some v=>rw[e] at h;exact ih h
def J0{X7:Model}{A:Around}{α B γ δ:Type}{t:Sem α}{m:Sem B}{c d:α→B→Prop}[∀ r a,Decidable (c r a)][∀ r a,Decidable (d r a)]{x y:α→B→Sem δ}{u:α→B→Sem γ}{z:α→B→γ→Sem δ}{Q:δ→χ→Prop}{E:Θ}{s:χ}(r:α)(w:γ)(v:δ){P:B→Prop}
  (ht:t=pure r) (hm:wpAny X7 A m (fun a s'=>P a∧s'=s) E s) (k:Q v s) (hc:∀ a,P a→¬ c r a) (hd:∀ a,P a→¬ d r a) (hu:∀ a,P a→u r a=pure w) (hz:∀ a,P a→z r a w=pure v) :
  wpAny X7 A (t >>= fun r=>m >>= fun a=>if c r a then x r a else if d r a then y r a else u r a >>= z r a) Q E s:=by
 rw[ht,pure_bind];refine Wg (WQ hm (fun a s' h=>?_) fun U U x=>x);rw[if_neg (hc a h.1),if_neg (hd a h.1),hu a h.1,pure_bind,hz a h.1,h.2];exact Wi k
def zP{fd:FuncData}{as:List Arg}{ds:List PySem.Expr}{pos:List π}{kw binds:List (Str×π)}{items:List π}{s:χ}
  (hp:fd.params={posonlyargs:=[],args:=as,vararg:=none,kwonlyargs:=[],kw_defaults:=[],kwarg:=none,defaults:=ds})
  (hd:(fd.defaults=.none∧items=[])∨∃ t o q,fd.defaults=.ref t∧s.heap.get? t=some o∧o.data=.seq items.toArray q)
  (h:fE (as.map (·.arg)) items pos kw=some binds):BindsTo s fd ⟨pos,kw⟩ binds:=by
 intro X7 A E Q k;obtain⟨f1,f2,p,f4,f5,f6,f7,f8,f9,f10,f11,f12,f13,f14,f15⟩:=fd;obtain rfl:p=_:=hp;apply bC h;clear h;intro h1 h;apply bC h;clear h;intro h2 h;apply bC h;clear h;intro h3 h;apply bC h;clear h;intro h4 h;(apply j1 h;rintro rfl);clear h;have h1:=nleT h1;have h2:=nleT h2;rw[aZ] at h1 h2;rw[aZ] at h1 h2;rw[aZ,aZ,k8] at h4;rw[aZ,aZ,wD] at k;generalize hF:ik _ _=F at k;rw[←Op,←aX (as.map _)] at k;have D:∀ a:κ (Array π),a.getD #[]=items.toArray→(a.getD #[]).toList.drop ((a.getD #[]).toList.length-(as.map (·.arg)).length)=items:=fun a e=>by
  rw[e];rw[Nat.sub_eq_zero_of_le h2];rfl
 refine J0 (P:=fun a=>a.getD #[]=items.toArray) (_,[]) F _ (Mw (e:=([]:List (Str×π))) kw ((as.map (·.arg)).zip pos) ?_) ?_ k ?_ ?_ ?_ ?_
 ·intro pre x post e
  apply ay (Le h3 pre x post e);intro a b;rw[kt] at b;refine(if_pos (by rw[List.contains_iff_mem.mpr (BQ a)];rfl)).trans ?_;rw[b,if_neg (by decide)]
 ·rcases hd with ⟨a,rfl⟩|⟨t,o,q,a,b,c⟩
  ·rw[a];exact Wi ⟨rfl,rfl⟩
  ·rw[a];exact wpAny_seqItems b c ⟨rfl,rfl⟩
 ·intro a e h
  exact(Nat.not_lt.mpr h1) (WM (by rw[←Xv (decide _)];exact h))
 ·intro a e h
  have E:=(congrArg (fun n=>List.filter (fun n=>(List.lookup n ((as.map (·.arg)).zip pos++kw)).isNone) (List.take ((as.map (·.arg)).length-n) (as.map (·.arg)))) (congrArg List.length (D a e))).trans (Kl h4);exact XH ((congrArg (fun l:List Str=>!l.isEmpty) E).symm.trans h)
 ·intro a e
  exact(RI (fun q sl=>rfl) _ _).trans (congrArg pure ((congrArg (fun l=>ik _ (((as.map (·.arg)).drop (_-l.length)).zip l)) (D a e)).trans hF))
 ·intro a e
  rfl
end
section
inductive FR (M:aF) (imm:Δ) (cs:List CC):Flow→Fl→Prop
 |next:FR M imm cs .next .next
 |ret {val:π} {v:AV}:VR M imm (ae cs) val v→FR M imm cs (.ret val) (.ret v)
def Vf(M:aF)(imm:Δ)(cs:List CC)(fl:Flow)(f:Fl):Prop:=match f with
 |.next=>.next=fl
 |.ret v=>∃ val,fl=.ret val∧VR M imm (ae cs) val v
def FR.inv(h:FR M imm cs fl f):Vf M imm cs fl f:=FR.casesOn h rfl fun a=>⟨_,rfl,a⟩
def bG(M:aF)(n:Nat)(t:Cx→Sem Flow)(ls:ac)(J:St)(f:Fl)(ls':ac)(J':St):Prop :=
 ∀ {c A s m imm cs} {Q:Flow→χ→Prop} {E:Θ},aR M c A n→bL c ls→ai M c.h₀ c.L s.heap m ls.v J imm cs →
  (∀ h' tk m' imm' cs' fl,ai M c.h₀ c.L h' m' ls'.v J' imm' cs'→bL c ls'→aE imm cs imm' cs'→FR M imm' cs' fl f→Q fl (sU s h' tk))→wpAny (model ar M.w) A (t c) Q E s
def bV(M:aF)(n:Nat)(J:St)(f:Addr)(vs:List AV)(kw:List (Str×AV))(r:AV)(J':St):Prop :=
 ∀ {c A s m ls imm cs vals kwv} {Rq:Result→χ→Prop},aR M c A n→ai M c.h₀ c.L s.heap m ls J imm cs→aj M imm (ae cs) vals vs→kwv.map (·.1)=kw.map (·.1)→aj M imm (ae cs) (kwv.map (·.2)) (kw.map (·.2)) →
  (∀ h' tk imm' cs' val,ai M c.h₀ c.L h' m ls J' imm' cs'→aE imm cs imm' cs'→VR M imm' (ae cs') val r→Rq (.ok (.ret val)) (sU s h' tk)) →
  codeAny (model ar M.w) A (.call (.ref f) ⟨vals,kwv⟩) Rq s
inductive t7 (M:aF) (f:Addr) (fi:nJ):Prop
 |mk (name qual:Str) (as:List Arg) (ds:List PySem.Expr) (scope:Scope) (dV kV doc pm cdv ct oc:π) (an od:κ Addr) (osl:Array (κ π))
  (ho:M.K.lookup f=some ⟨oc,od,.func (fnOf name qual {posonlyargs:=[],args:=as,vararg:=none,kwonlyargs:=[],kw_defaults:=[],kwarg:=none,defaults:=ds} fi.body scope dV kV doc pm an cdv ct),osl⟩)
  (hcd:codeIn M.K cdv qual=true) (ha:as.map (·.arg)=fi.args) (hs:scope.names=fi.sc) (hk:scope.kind=.function) (hco:scope.isCoroutine=false) (hg:scope.isGenerator=false)
  (hc:∀ x∈scope.names,x.2≠.cell) (hl:∀ x∈fi.args,scope.names.lookup x=some .local) (nd:scope.names.lookup ("__debug__" : Str)=none)
  (hd:(dV=.none∧fi.dflt=[])∨∃ t o items q,dV=.ref t∧M.K.lookup t=some o∧o.data=.seq (List.toArray items) q∧∀ imm ρ,aj M imm ρ items fi.dflt)
def aj.pairs(h:aj M imm ρ vs xs):∃ l:List {q:π×AV // VR M imm ρ q.1 q.2},l.map (·.1.1)=vs∧l.map (·.1.2)=xs:=by
 induction h using aj.ind with
 |nil=>exact⟨[],rfl,rfl⟩
 |@cons v x _ _ a g ih=>
  apply af ih;intro l e1 e2;exact⟨⟨(v,x),a⟩::l,by rw[WT,e1],by rw[WT,e2]⟩
def KN{kwv:List (Str×π)}{kw:List (Str×AV)}(e:kwv.map (·.1)=kw.map (·.1))(h:aj M imm ρ (kwv.map (·.2)) (kw.map (·.2))) :
  ∃ l:List (Str×{q:π×AV // VR M imm ρ q.1 q.2}),l.map (fun q=>(q.1,q.2.1.1))=kwv∧l.map (fun q=>(q.1,q.2.1.2))=kw:=by
 induction kw generalizing kwv with
 |nil=>exact⟨[],(List.map_eq_nil_iff.mp e).symm,rfl⟩
 |cons y kw ih=>
  apply cD (List.map_eq_cons_iff.mp e);intro p r e0 e1 e2;subst e0;apply cD h.inv;intro _ _ q a g;injection q with q1 q2;subst q1 q2;apply af (ih e2 g);intro l i1 i2;replace e1:p.1=y.1:=e1;refine⟨(y.1,⟨(p.2,y.2),a⟩)::l,?_,?_⟩
  ·show (y.1,p.2)::List.map _ l=p::r
   rw[i1,←e1]
  ·show y::List.map _ l=y::kw
   rw[i2]
def Kt{α:Type}{names:List Str}{dflt pos:List α}{kw b:List (Str×α)}(h:fE names dflt pos kw=some b):∃ sl,b=e8 sl names:=by
 apply bC h;clear h;intro _ h;apply bC h;clear h;intro _ h;apply bC h;clear h;intro _ h;apply bC h;clear h;intro _ h;exact⟨_,(bM h).symm⟩
set_option smartUnfolding false in
def Eo{α:Type}{sl:List (Str×α)}{ns:List Str}:∀ q∈e8 sl ns,q.1∈ns:=by
 induction ns with
 |nil=>intro q h;cases h
 |cons x r ih=>
  intro q h;replace h:q∈Option.rec (motive:=fun U=>List (Str×α)) (e8 sl r) (fun v=>(x,v)::e8 sl r) (lk x sl):=h;cases e:lk x sl with
  |none=>rw[e] at h;exact .tail _ (ih q h)
  |some v=>
   rw[e] at h;cases h with
   |head=>exact .head _
   |tail _ h=>exact .tail _ (ih q h)
def zj{kwv:List (Str×π)}{kw:List (Str×AV)}(hd:aj M imm ρ dv dx)(hv:aj M imm ρ vals xs)
  (hk:kwv.map (·.1)=kw.map (·.1)) (hk2:aj M imm ρ (kwv.map (·.2)) (kw.map (·.2))) (h:fE names dx xs kw=some ls) :
  ∃ binds,fE names dv vals kwv=some binds∧(∀ x v,lk x ls=some v→∃ val,binds.reverse.lookup x=some val∧VR M imm ρ val v)∧(∀ q∈binds,q.1∈names)∧∀ x v,lk x ls=some v→x∈names:=by
 apply af hd.pairs;intro d e0 e01;subst e0;subst e01;apply af hv.pairs;intro a e0 e01;subst e0;subst e01;apply af (KN hk hk2);intro k e0 e01;subst e0;subst e01;have e1:=Ez (fun q:{q:π×AV // VR M imm ρ q.1 q.2}=>q.1.1) names d a k;have e2:=Ez (fun q:{q:π×AV // VR M imm ρ q.1 q.2}=>q.1.2) names d a k;rw[h] at e2;apply af (Option.map_eq_some_iff.mp e2.symm);intro b hb e0;subst e0;rw[hb] at e1;apply bn (Kt hb);intro sl e0;subst e0;refine⟨_,e1,fun x v hx=>?_,fun q hq=>?_,fun x v hx=>?_⟩
 ·rw[oS (fun q:{q:π×AV // VR M imm ρ q.1 q.2}=>q.1.2)] at hx
  apply af (Option.map_eq_some_iff.mp hx);intro y hy e0;subst e0;refine⟨y.1.1,?_,y.2⟩;have:=M1 hy;rw[←kt] at this ⊢;rw[←List.map_reverse,oS (fun q:{q:π×AV // VR M imm ρ q.1 q.2}=>q.1.1),this];rfl
 ·apply af (cC hq);intro q' h1 e0;subst e0
  exact Eo q' h1
 ·apply af (cC (iJ hx));intro q' h1 e
  (injection e with e1 e2;exact e1▸(Eo q' h1))
def aN.take(n:Nat){c:List CC}{x:List ak}(h:aN M imm ρ c x):aN M imm ρ (c.take n) (x.take n):=by
 induction h generalizing n with
 |nil=>rw[List.take_nil,List.take_nil];exact .nil
 |cons h _ ih=>
  cases n with
  |zero=>exact .nil
  |succ n=>exact .cons h (ih n)
def CR.few(hr:∀ k a,k<n→ao ρ k=some a→ao ρ' k=some a)(o:ew n x=true)(h:CR M imm ρ c x):CR M imm ρ' c x :=
 CR.casesOn h (fun h k o=>.list (h.few hr o) k) (fun h g k U=>.rows h g k) (fun h g k o=>.inst (h.few hr o) g k) (fun h U=>.any h) (fun e k h g o=>.spl e k (h.few hr o) g) (fun h g o=>.seg (h.few hr o) g) (fun e k h U=>.hd e k (h.few hr rfl)) o
set_option smartUnfolding false in
def F6(o:fH n (x::r)=true):ew n x=true∧fH n r=true:=by
 replace o:Bool.rec (motive:=fun U=>Bool) false (fH n r) (ew n x)=true:=o;cases q:ew n x with
 |true=>rw[q] at o;exact⟨rfl,o⟩
 |false=>rw[q] at o;injection o
def aN.few(hr:∀ k a,k<n→ao ρ k=some a→ao ρ' k=some a)(o:fH n x=true)(h:aN M imm ρ c x):aN M imm ρ' c x:=by
 revert o;induction h with
 |nil=>exact fun U=>.nil
 |cons h _ ih=>exact fun o=>.cons (h.few hr (F6 o).1) (ih (F6 o).2)
def rho_take(n:Nat)(cs:List CC):ae (cs.take n)=(ae cs).take n:=by simp [ae,Xu]
def yB{α:Type}{l:List α}{k n:Nat}{a:α}(hk:k<n)(h:ao l k=some a):ao (l.take n) k=some a:=by
 rw[cJ] at h ⊢;rw[List.getElem?_take,if_pos hk];exact h
def Sq(n:Nat)(cs:List CC):∀ q∈aQ (cs.take n),q∈aQ cs:=fun q h=>by
 apply af (List.mem_flatMap.mp h);intro c h1 h2;exact X4 ⟨c,List.mem_of_mem_take h1,h2⟩
def Su(n:Nat)(cs:List CC):(aQ (cs.take n)).Sublist (aQ cs):=by
 have:aQ cs=aQ (cs.take n)++aQ (cs.drop n):=by
  unfold aQ;rw[←XC,XX]
 rw[this];exact List.sublist_append_left _ _
def ai.take{h₀ h:Heap}{L:Addr}{m:ω}{ls:List (Str×AV)}{J:St}{imm:Δ}{cs:List CC}(R:ai M h₀ L h m ls J imm cs)(n:Nat)(ho:fH n (bN n J)=true)
  (hl:∀ x v,lk x ls=some v→∃ val,m x=some val∧VR M imm (ae (cs.take n)) val v):ai M h₀ L h m ls (bN n J) imm (cs.take n):=by
 rw[k8] at ho ⊢;refine⟨R.F,fun q hq=>R.N q ?_,?_,?_,hl⟩
 ·rcases cZ hq with a|a
  ·exact aK _ a
  ·exact bF _ (Sq n cs q a)
 ·exact R.nd.sublist (((List.Sublist.refl _).append (Su n cs)).map _)
 ·rw[rho_take]
  exact(R.C.take n).few (fun k a hk h=>yB hk h) ho
end
section
def ai.caller(R:ai M h₀ L h m ls J imm cs)(R':ai M g L' h' m' ls' J' imm' cs')(x:aE imm cs imm' cs')
 (F:Fr h₀ L h' m) (N:News h₀ L h' (imm'++aQ cs')):ai M h₀ L h' m ls J' imm' cs':=⟨F,N,R'.nd,R'.C,fun y v hy=>by
 apply af (R.l y v hy);intro val a b;exact⟨val,a,b.ext x⟩⟩
def NJ(n:Nat)(v:AV)(J:St):gN n v J=J∨(gN n v J=bN n J∧d6 n v=true∧fH n (bN n J)=true):=by
 unfold gN;cases Nat.beq (lenA J) n with
 |true=>exact .inl rfl
 |false=>
  cases h1:d6 n v with
  |false=>exact .inl rfl
  |true=>
   cases h2:fH n (bN n J) with
   |false=>exact .inl (by simp [h2])
   |true=>exact .inr ⟨by simp [h2],rfl,rfl⟩
def aE.rho_take(x:aE imm cs imm' cs'):ae (cs'.take cs.length)=ae cs:=by
 apply List.ext_getElem?;intro i;rw[Mine.rho_take];have hl:(ae cs).length=cs.length:=Wr ..
 by_cases hi:i<cs.length
 ·have h1:ao (ae cs) i=some ((ae cs)[i]'(Nat.lt_of_lt_of_eq hi hl.symm)):=by rw[cJ];simp [hl,hi]
  have:=x.r _ _ h1;rw[cJ] at h1 this;rw[List.getElem?_take,if_pos hi,this,h1]
 ·rw[List.getElem?_take,if_neg hi]
  symm;rw[List.getElem?_eq_none_iff];exact WZ (W7 hl) (Nat.le_of_not_lt hi)
def uF(hf:t7 M f fi)(hb:fE fi.args fi.dflt vs kw=some ls)(hn:n'+5≤n)(hr:fl=.ret r∨(fl=.next∧r=.none))
  (hx:bG M n' (fun c=>execs fi.body c.env) ⟨ls,fi.sc⟩ J fl ls' J'):bV M n J f vs kw r (gN (lenA J) r J'):=by
 intro c A s m lsC imm cs vals kwv Rq C Rp hv hk hk2 k;obtain⟨name,qual,as,ds,scope,dV,kV,doc,pm,cdv,ct,oc,an,od,osl,ho,hcd,ha,hs,hkd,hco,hg,hc,hl,nd,hd⟩:=hf;apply bn C.Yb;intro A₀ Yb;have X:=C.X.keeps Rp.F.keep;have hdv:∃ items,((dV=.none∧items=[])∨∃ t o q,dV=.ref t∧s.heap.get? t=some o∧o.data=.seq (List.toArray items) q)∧aj M imm (ae cs) items fi.dflt:=by
  rcases hd with ⟨a,b⟩|⟨t,o,items,q,a,b,d,e⟩
  ·exact⟨[],.inl ⟨a,rfl⟩,by rw[b];exact .nil⟩
  ·exact⟨items,.inr ⟨t,o,q,a,X _ _ b,d⟩,e _ _⟩
 apply af hdv;clear hdv;intro items hdv hdr;apply mV (zj hdr hv hk hk2 hb);intro binds b1 b2 b3 b4
 suffices go:∀ g L' h₁,Fr c.h₀ c.L g m→Fr g L' h₁ (fun y=>binds.reverse.lookup y)→News g L' h₁ (imm++aQ cs)→Below A c.base c.fr g→c.h₀.StaysIn g →
   wpAny (model ar M.w) (A.deeper (envOf qual scope L' f cdv)) (execs fi.body (envOf qual scope L' f cdv))
    (fun fl s'=>LeaveK c.h₀ c.L m g Rq (match fl with|.ret v=>v|_=>.none) s')
    (fun e s'=>wpAny (model ar M.w) (A.deeper (envOf qual scope L' f cdv)) (leaving (envOf qual scope L' f cdv) e) (fun U s''=>Rq (.error e) s'') (fun e' s''=>Rq (.error e') s'') s')
    (sU s h₁ (s.toks+binds.length)) by
  exact call_K Yb Rp.F Rp.N X C.T.nolimit C.fr ho hcd (W8 (WZ (W0 _ _) C.dp) (nleT rfl)) (zP rfl hdv (by rw[ha];exact b1)) (fun y hy=>hl _ (b3 _ hy)) go (hck:=C.k) (hco:=hco) (hgen:=hg) (hk:=hkd) (hcell:=hc)
 intro g L' h₁ hF hF' hN hB hst;have C':aR M ⟨c.base,g,c.fr,L',f,qual,scope,cdv⟩ (A.deeper (envOf qual scope L' f cdv)) n':=by
  refine⟨⟨A,hB⟩,C.X.keeps hst,C.T.keeps hst,hkd,?_,C.hd,?_,?_⟩
  ·show Option.map _ A.frames=_
   rw[C.fr];rfl
  ·exact xk (WZ (W1 (nleT rfl) _) hn) C.dp
  ·exact uy (WZ (W1 (nleT rfl) _) hn) C.un
 refine hx C' (⟨hs.symm,fun x v hx=>hl _ (b4 x v hx),nd⟩) ⟨hF',hN,Rp.nd,Rp.C,b2⟩ ?_;intro h' tk m' imm' cs' fl' R' _ x' hfl;have hval:VR M imm' (ae cs') (match (generalizing:=false) fl' with|.ret v=>v|_=>.none) r:=by
  rcases hr with rfl|⟨rfl,rfl⟩
  ·apply af (FR.inv hfl);intro _ e0 h;clear hfl;subst e0;exact h
  ·(obtain e:_=_:=FR.inv hfl;clear hfl;subst e);exact .none
 refine leaveK_ R'.F R'.N fun F N=>?_;have Rc:=Rp.caller R' x' F N;rcases NJ (lenA J) r J' with e|⟨e,o1,o2⟩
 ·rw[e] at k
  exact k h' tk imm' cs' _ Rc x' hval
 ·rw[e] at k
  have hlen:lenA J=cs.length:=by rw[aZ,Rp.C.len]
  have hrho:=x'.rho_take;rw[hlen] at o1 o2 k;refine k h' tk imm' (cs'.take cs.length) _ (Rc.take _ o2 fun y v hy=>?_) ⟨x'.i,fun q a hq=>by rw[hrho];exact hq⟩ ?_
  ·apply af (Rp.l y v hy);intro val q1 q2
   exact⟨val,q1,by rw[hrho];exact q2.mono x'.i fun U U h=>h⟩
  ·exact hval.few (fun k a hk h=>by rw[Mine.rho_take];exact yB hk h) o1
end
section
variable {Y:Pi}
def yc(M:aF)(fv:AV):Prop:=∀ {h:Heap} {imm:Δ} {ρ:List Addr} {fval:π},VR M imm ρ fval fv→M.K.In h→(∀ q∈imm,h.get? q.1=some q.2) →
 ∃ k,(k=Keeper.frame∨k=Keeper.machine∨k=Keeper.boundFrame)∧Looks (model ar M.w) h (keeperOf fval) k
def jU(M:aF)(n:Nat)(J:St)(fv:AV)(vs:List AV)(kw:List (Str×AV))(r:AV)(J':St):Prop :=
 ∀ {c A s m ls imm cs fval vals kwv} {Q E:Θ},aR M c A n→ai M c.h₀ c.L s.heap m ls J imm cs→VR M imm (ae cs) fval fv→aj M imm (ae cs) vals vs→kwv.map (·.1)=kw.map (·.1)→aj M imm (ae cs) (kwv.map (·.2)) (kw.map (·.2)) →
  (∀ h' tk imm' cs' val,ai M c.h₀ c.L h' m ls J' imm' cs'→aE imm cs imm' cs'→VR M imm' (ae cs') val r→Q val (sU s h' tk)) →
  wpAny (model ar M.w) A (call fval vals kwv) Q E s
def aR.le(h:n'≤n)(C:aR M c A n):aR M c A n':=⟨C.Yb,C.X,C.T,C.k,C.fr,C.hd,by have:=C.dp;exact WZ (W1 h _) this,WZ (W1 (W5 _ h) _) C.un⟩
set_option tactic.hygienic true in
def zM(h:fnIn M.K f=true):keepIn M.K (.ref f)=true:=by
 unfold fnIn at h;unfold keepIn
 split at h
 ·rename_i e
  simp only [e]
 ·injection h
set_option tactic.hygienic true in
def JO(h:makesIn M.K C=true):keepIn M.K (.ref C)=true:=by
 unfold makesIn at h;unfold keepIn
 split at h
 ·rename_i e
  simp only [e];simp only [Wj] at h;exact h.1.2
 ·injection h
def bV.le(h:n'≤n)(H:bV M n' J f vs kw r J'):bV M n J f vs kw r J':=by
 intro c A s m ls imm cs vals kwv Rq C;exact H (C.le h)
def ku(a b:List CC):ae (a++b)=ae a++ae b:=Wl ..
def jJ(a b:List CC):aQ (a++b)=aQ a++aQ b:=XC ..
def Bq{α:Type}(l:List α)(a:α):ao (l++[a]) l.length=some a:=by rw[cJ];simp
def O1(h:GT J σ1 D=some (r,J')){cs cs2:List CC}(hlen:lenA J=cs.length)
  (R2:ai M h₀ L g m ls σ1 imm2 cs2) (x3:aE imm cs imm2 cs2) (at2:ao (ae cs2) (lenA J)=some x) (hl:∀ y v,lk y ls=some v→∃ val,m y=some val∧VR M imm (ae cs) val v) :
  ∃ imm' cs',ai M h₀ L g m ls J' imm' cs'∧aE imm cs imm' cs'∧VR M imm' (ae cs') (.ref x) r:=by
 apply bK h;clear h;intro D' fs e1 h;apply bC h;clear h;intro e2 h;apply bC h;clear h;intro e3 h;apply bC h;clear h;intro e4 h;apply bC h;clear h;intro e5 h;(apply r2 h;clear h);replace e2:=aJ e2;replace e3:=aJ e3;subst e2;apply cj (R2.C.cell at2 (pk e1));intro d pre post e0 l e6 cr;subst e0;apply dZ cr.inst_inv;intro b d2 es n' e0 hfr hp hcl;subst e0;replace e6:=e6;subst e6;have hpost:post=[]:=by
  have:=R2.C.len;rw[aZ] at e3;simp at this;apply WJ;lia
 subst hpost;rw[hlen] at l e4 e5 ⊢;have tk1:(pre++[CC.inst b D' d2 es n']).take cs.length=pre:=by rw[←l];simp
 have hrho:ae pre=ae cs:=by rw[←tk1];exact x3.rho_take
 have fewer:∀ k a,k<cs.length→ao (ae (pre++[CC.inst b D' d2 es n'])) k=some a→ao (ae pre) k=some a:=fun k a hk h=>by
  rw[←tk1,Mine.rho_take];exact yB hk h
 have im:∀ q∈imm2,q∈(b,instObj D' d2)::(d2,dictOf es n')::imm2:=fun q h=>.tail _ (.tail _ h);have hC:=(R2.C.take cs.length);rw[tk1] at hC;rw[k8] at e5 ⊢;refine⟨(b,instObj D' d2)::(d2,dictOf es n')::imm2,pre,⟨R2.F,fun q hq=>R2.N q ?_,?_,(hC.few fewer e5).mono im fun U U h=>h,fun y v hy'=>?_⟩,⟨fun q h=>im q (x3.i q h),fun k a h=>by rw[hrho];exact h⟩,.obj (.head _) (.tail _ (.head _)) ((hfr.few fewer e4).mono im fun U U h=>h) hp hcl⟩
 ·rw[jJ]
  rcases cI hq with rfl|hq
  ·simp [aQ,CC.objs]
  ·rcases cI hq with rfl|hq
   ·simp [aQ,CC.objs]
   ·rcases cZ hq with a|a
    ·exact aK _ a
    ·exact bF _ (aK _ a)
 ·have nd:=R2.nd
  rw[jJ,←bP,Wl] at nd;have pm:=by
   show ([b,d2]++(imm2++aQ pre).map Prod.fst).Perm ((imm2++aQ pre).map Prod.fst++[b,d2]);exact List.perm_append_comm
  exact pm.nodup_iff.mpr nd
 ·apply af (hl y v hy');intro val a q
  exact⟨val,a,by rw[hrho];exact q.mono (fun q h=>im q (x3.i q h)) fun U U h=>h⟩
def ai.newC(R:ai M h₀ L h m ls J imm cs)(F':Fr h₀ L h' m)(N':News h₀ L h' ((x,instObj D dx)::(dx,dictOf [] 0)::(imm++aQ cs)))
  (hlt:∀ q∈imm++aQ cs,q.1<dx) (hdx:dx<x) (hc:ju M D):ai M h₀ L h' m ls (J++[.inst D []]) imm (cs++[.inst x D dx [] 0]):=by
 have mono1:∀ k a,ao (ae cs) k=some a→ao (ae (cs++[.inst x D dx [] 0])) k=some a:=fun k a h=>by rw[ku];exact oa h
 refine⟨F',fun q hq=>N' q ?_,?_,(R.C.mono (fun U h=>h) mono1).snoc (.inst .nil et hc),fun y v hy'=>?_⟩
 ·rw[jJ,←bP] at hq
  rcases cZ hq with a|a
  ·exact .tail _ (.tail _ a)
  ·replace a:q∈[(x,instObj D dx),(dx,dictOf [] 0)]:=by simpa [aQ,CC.objs] using a
   rcases cI a with rfl|a
   ·exact .head _
   ·rcases cI a with rfl|a
    ·exact .tail _ (.head _)
    ·cases a
 ·rw[jJ,←bP,Wl]
  refine List.nodup_append.mpr ⟨R.nd,?_,?_⟩
  ·exact WH.mpr ⟨fun q=>Nat.ne_of_gt hdx (bU q),WH.mpr ⟨WA,.nil⟩⟩
  ·intro a ha b hb
   apply af (cC ha);intro q hq e0;clear ha;subst e0;have:=hlt q hq;replace hb:b∈([x,dx]:List Addr):=by simpa [aQ,CC.objs] using hb
   rcases cI hb with rfl|hb
   ·exact WV (Nat.lt_trans this hdx)
   ·rcases cI hb with rfl|hb
    ·exact WV this
    ·cases hb
 ·apply af (R.l y v hy');intro val a b
  exact⟨val,a,b.mono (fun U h=>h) mono1⟩
section
variable {R:aM}(hy:∀ C c,Y.ci C=some c→dC M C c)(hcf:∀ {J f vs kw r J'},R.cf J f vs kw=some (r,J')→fnIn M.K f=true∧bV M n J f vs kw r J')
include hcf
theorem Vn(ok:dC M D ci)(h2:ci.init=some f)(h:BY R J D vs kw ci f=some (r,J')):jU M (n+3) J (.cls D) vs kw r J':=by
 apply bK h;clear h;intro r0 σ1 h3 h;apply bC h;clear h;intro h4 h;apply cw (ok.init f h2);intro i1 i2 i3;apply ay (hcf h3);intro hf H;intro c A s m ls imm cs fval vals kwv Q E C Rp hv ha hk hk2 k;(obtain e:_=_:=VR.inv hv;clear hv;subst e);refine wpAny_call (make_K Rp.F Rp.N (C.X.keeps Rp.F.keep) i3 i1 i2 ?_);intro x dx h' F' N' hlt hdx;have mono1:∀ k a,ao (ae cs) k=some a→ao (ae (cs++[.inst x D dx [] 0])) k=some a:=fun k a h=>by rw[ku];exact oa h
 have mono0:∀ q∈imm,q∈imm:=fun U h=>h;have hlen:lenA J=cs.length:=by rw[aZ,Rp.C.len]
 have selfAt:ao (ae (cs++[.inst x D dx [] 0])) (lenA J)=some x:=by rw[ku,hlen];have:=Bq (ae cs) x;rwa [show (ae cs).length=cs.length from Wr ..] at this
 refine H (⟨C.Yb,C.X,C.T,C.k,C.fr,C.hd,(by have:=C.dp;exact xk (W1 (nleT rfl) n) this),(by have:=C.un;exact WZ (W4 (W1 (nleT rfl) _) _) (uy (W1 (nleT rfl) n) this))⟩) (Rp.newC F' N' hlt hdx ok.cls) (.cons (.cell selfAt) (ha.mono mono0 mono1)) hk (hk2.mono mono0 mono1) ?_;intro h2 tk imm2 cs2 val R2 x2 q2;have x3:aE imm cs imm2 cs2:=⟨x2.i,fun k a h=>x2.r k a (mono1 k a h)⟩;have at2:=x2.r _ _ selfAt;refine⟨by induction r0 using AV.casesOn<;>first|(injection h4;done)|((obtain e:_=_:=VR.inv q2;clear q2;subst e);rfl),?_⟩;cases hfz:ci.frozen with
 |false=>
  rw[hfz] at h;(apply j2 h;clear h;rintro rfl rfl);exact k h2 tk imm2 cs2 _ R2 x3 (.cell at2)
 |true=>
  rw[hfz] at h;apply cD (O1 h hlen R2 x3 at2 Rp.l);intro imm' cs' R' x' q';exact k h2 tk imm' cs' _ R' x' q'
include hy
theorem yt(hbf:∀ {J v vs r J'},bf Y J v vs=some (r,J')→yc M (.bi v)∧jU M (n+3) J (.bi v) vs [] r J')
  (h:mD Y R J fv vs kw=some (r,J')):yc M fv∧jU M (n+3) J fv vs kw r J'∧∀ f self,fv=.meth f self→fnIn M.K f=true∧bV M (n+3) J f (self::vs) kw r J':=by
 induction fv using AV.casesOn with
 |fn f=>
  apply ay (hcf h);intro hf H;refine⟨fun hv X U=>?_,fun C Rp hv ha hk hk2 k=>?_,nofun⟩
  ·(obtain e:_=_:=VR.inv hv;clear hv;subst e)
   exact keeps_K (zM hf) _ X
  ·(obtain e:_=_:=VR.inv hv;clear hv;subst e)
   exact wpAny_call (H (C.le (W0 _ _)) Rp ha hk hk2 k)
 |meth f self=>
  apply ay (hcf h);intro hf H;refine⟨fun hv X hi=>?_,fun C Rp hv ha hk hk2 k=>?_,fun f' self' e=>by (injection e with e1 e2;subst e1;subst e2);exact⟨hf,H.le (W0 _ _)⟩⟩
  ·apply cD (VR.inv hv);intro _ _ e0 hm hs;clear hv;subst e0;exact keeps_M hf _ ⟨hi _ hm,X⟩
  ·apply cD (VR.inv hv);intro _ _ e0 hm hs;clear hv;subst e0
   exact call_meth Rp.N (aK _ hm) (H (C.le (W0 _ _)) Rp (.cons hs ha) hk hk2 k)
 |cls D=>
  apply aG h;clear h;intro ci h1 h;apply aG h;clear h;intro f h2 h;have ok:=hy _ _ h1;refine⟨fun hv X U=>?_,Vn hcf ok h2 h,nofun⟩;(obtain e:_=_:=VR.inv hv;clear hv;subst e);exact keeps_K (JO (ok.init f h2).2.2) _ X
 |bi v=>
  apply bC h;clear h;intro h1 h;induction kw using oL with
  |cons=>injection h1
  |nil=>exact⟨(hbf h).1,(hbf h).2,nofun⟩
 |_=>injection h
end
end
section
def ye(pos:Pos)(ks:List Keyword)(c:Cx):backToKw pos (keywordEach ks c.env)=ks.map fun k=>(k.arg,do let v ←eval k.value c.env;standAt pos;pure v):=by
 induction ks with
 |nil=>rfl
 |cons k r ih=>
  have e:backToKw pos (keywordEach (k::r) c.env)=(k.arg,do let v ←eval k.value c.env;standAt pos;pure v)::backToKw pos (keywordEach r c.env):=by cases k;rfl
  rw[e,ih];rfl
def uY(I:aS M n R)(h1:R.evs ls J as=some (vs,σ1))(h2:R.evk ls σ1 ks=some (kw,σ2))
  {c A s m imm cs} {Q E:Θ} (C:aR M c A n) (l:bL c ls) (Rp:ai M c.h₀ c.L s.heap m ls.v J imm cs)
  (hkeep:∀ h,M.K.In h→(∀ q∈imm,h.get? q.1=some q.2)→∃ k,(k=Keeper.frame∨k=Keeper.machine∨k=Keeper.boundFrame)∧Looks (model ar M.w) h (keeperOf f) k)
  (k:∀ h' tk imm' cs' vals kwv,ai M c.h₀ c.L h' m ls.v σ2 imm' cs'→aE imm cs imm' cs'→aj M imm' (ae cs') vals vs→kwv.map (·.1)=kw.map (·.1)→aj M imm' (ae cs') (kwv.map (·.2)) (kw.map (·.2))→wpAny (model ar M.w) A (call f (first++vals) kwv) Q E (sU s h' tk)) :
  wpAny (model ar M.w) A (callWith pos f first (backTo pos (starEach as c.env)) (backToKw pos (keywordEach ks c.env))) Q E s:=by
 apply ay (I.evs h1);intro n1 g1;apply ay (I.evk h2);intro n2 g2;rw[m9 pos n1.1,ye];have hall:((ks.map fun k=>(k.arg,do let v ←eval k.value c.env;standAt pos;pure v)):List (κ Str×Sem π)).all (·.1.isSome)=true:=by
  rw[List.all_map,XK];intro x hx;have:x.arg∈ks.map (·.arg):=Ws hx;rw[n2] at this;apply af (cC this);intro q _ e;show x.arg.isSome=true;rw[←e];rfl
 have hnone:(((ks.map fun k=>(k.arg,do let v ←eval k.value c.env;standAt pos;pure v)):List (κ Str×Sem π)).any (·.1.isNone))=false:=by
  rw[List.any_eq_false];intro x hx;have:=aV hall x hx;cases hh:x.1<;>rw[hh] at this<;>simp_all
 have hstar:(mX as c).any (·.1)=false:=by rw[mX,List.any_map];exact List.any_eq_false.mpr fun U U=>(by simp)
 have names:((ks.map fun k=>(k.arg,do let v ←eval k.value c.env;standAt pos;pure v)):List (κ Str×Sem π)).filterMap (·.1)=kw.map (·.1):=by
  rw[List.filterMap_map];have:ks.filterMap ((fun x=>x.1) ∘ fun k=>(k.arg,(do let v ←eval k.value c.env;standAt pos;pure v:Sem π)))=(ks.map (·.arg)).filterMap id:=by rw[List.filterMap_map];rfl
  rw[this,n2,List.filterMap_map];clear h2 k n2 g2;induction kw with
  |nil=>rfl
  |cons a r _=>simp
 have trees:((ks.map fun k=>(k.arg,do let v ←eval k.value c.env;standAt pos;pure v)):List (κ Str×Sem π)).map (·.2)=Af pos ks c:=by rw[Xi];rfl
 have fin:∀ {s1:χ} {i1 c1 vals},s1=(sU s s1.heap s1.toks)→ai M c.h₀ c.L s1.heap m ls.v σ1 i1 c1→aE imm cs i1 c1→aj M i1 (ae c1) vals vs →
   wpAny (model ar M.w) A (evalAll (((ks.map fun k=>(k.arg,do let v ←eval k.value c.env;standAt pos;pure v)):List (κ Str×Sem π)).map (·.2)))
    (fun kv s2=>(M.K.In s2.heap∧∀ q∈imm,s2.heap.get? q.1=some q.2)∧wpAny (model ar M.w) A (call f (first++vals) ((((ks.map fun k=>(k.arg,do let v ←eval k.value c.env;standAt pos;pure v)):List (κ Str×Sem π)).filterMap (·.1)).zip kv)) Q E s2) E s1:=by
  intro s1 i1 c1 vals es R1 x1 q1;rw[trees,names];refine g2 pos C l R1 fun h2 t2 i2 c2 kv R2 x2 q2=>?_;have hl:(kw.map (·.1)).length=kv.length:=by have:=q2.len;simp at this ⊢;exact this▸rfl
  refine⟨⟨C.X.keeps R2.F.keep,fun q hq=>(R2.N q (aK _ (x2.i q (x1.i q hq)))).1⟩,?_⟩;have:=k h2 t2 i2 c2 vals ((kw.map (·.1)).zip kv) R2 (x1.trans x2) (q1.ext x2) (by rw[List.map_fst_zip];exact hl▸Wm _) (by rw[List.map_snd_zip];exact q2;exact W7 hl.symm);rw[es];exact this
 refine callWith_of (P:=fun h=>M.K.In h∧∀ q∈imm,h.get? q.1=some q.2) (by rw[hstar,hnone];rfl) (fun h hp=>hkeep h hp.1 hp.2) ?_;clear hstar;induction as using oL with
 |nil=>
  have e:vs=[]:=WJ n1.2.symm;clear k h1 n1;subst e;refine Wg (m:=spliced (mX [] c)) (f:=fun U=>evalArgs f true [] (ks.map fun k=>(k.arg,do let v ←eval k.value c.env;standAt pos;pure v))) (g1 C l Rp fun h1 t1 i1 c1 vals R1 x1 q1=>?_);(obtain e:_=_:=aj.inv q1;subst e);exact evalArgs_kw_nil hall (fin (s1:=sU s h1 t1) rfl R1 x1 .nil)
 |cons e r=>
  refine evalArgs_kw hall (g1 C l Rp fun h1 t1 i1 c1 vals R1 x1 q1=>?_);exact fin (s1:=sU s h1 t1) rfl R1 x1 q1
end
section
structure nu (M:aF) (n:Nat) (R:aM):Prop where
 cf:∀ {J f vs kw r J'},R.cf J f vs kw=some (r,J')→fnIn M.K f=true∧bV M n J f vs kw r J'
 cl:∀ {J fv vs kw r J'},R.cl J fv vs kw=some (r,J')→yc M fv∧jU M n J fv vs kw r J'∧∀ f self,fv=.meth f self→fnIn M.K f=true∧bV M n J f (self::vs) kw r J'
def Da(I:aS M n R)(X8:nu M n R)
  (h:A9 R ls J x q as ks=some (r,J')) :
  cS M n (fun c=>eval (.Call (.Name x q) as ks pos) c.env) ls J r J':=by
 apply bK h;clear h;intro fv σ1 h1 h;apply bK h;clear h;intro vs σ2 h2 h;apply bK h;clear h;intro kw σ3 h3 h;apply cw (X8.cl h);intro kp cv _;intro c A s m imm cs Q E C l Rp k;refine wpAny_Call_Name_kw (I.ev h1 C l Rp fun hx tx ix cx fval Rx xx qx=>?_);refine uY I h2 h3 C l Rx (fun h X hi=>kp qx X hi) ?_;intro h' tk imm' cs' vals kwv R' x' v1 v2 v3;exact cv C R' (qx.ext x') v1 v2 v3 fun h2 t2 i2 c2 val R2 x2 q2=>k h2 t2 i2 c2 val R2 (xx.trans (x'.trans x2)) q2
def B5{n:Nat}{R:aM}(I:aS M n R){ls:ac}{J σ1:St}{as:List Expr}{vs:List AV}(h1:R.evs ls J as=some (vs,σ1))
  {c A s m imm cs} {Q E:Θ} {pos:Pos} {id:String} {first:List π} (C:aR M c A n) (l:bL c ls) (Rp:ai M c.h₀ c.L s.heap m ls.v J imm cs)
  (k:∀ h' tk imm' cs' vals,ai M c.h₀ c.L h' m ls.v σ1 imm' cs'→aE imm cs imm' cs'→aj M imm' (ae cs') vals vs→wpAny (model ar M.w) A (call (.builtin id) (first++vals) []) Q E (sU s h' tk)) :
  wpAny (model ar M.w) A (callWith pos (.builtin id) first (backTo pos (starEach as c.env)) []) Q E s:=by
 apply ay (I.evs h1);intro n1 g1;rw[m9 pos n1.1];have hstar:(mX as c).any (·.1)=false:=by rw[mX,List.any_map];exact List.any_eq_false.mpr fun U U=>(by simp)
 refine callWith_of (P:=fun U=>True) (by rw[hstar];rfl) (fun h U=>⟨.machine,.inr (.inl rfl),.of_pure rfl⟩) ?_;clear hstar;induction as using oL with
 |nil=>
  have e:=WJ n1.2.symm;clear h1 n1;subst e;refine Wg (f:=fun U=>evalArgs (.builtin id) true [] []) (g1 C l Rp fun h1 t1 i1 c1 vals R1 x1 q1=>?_);(obtain e:_=_:=aj.inv q1;clear q1;subst e);exact evalArgs_nil3 ⟨trivial,k h1 t1 i1 c1 [] R1 x1 .nil⟩
 |cons e r=>
  exact evalArgs_plain (g1 C l Rp fun h1 t1 i1 c1 vals R1 x1 q1=>⟨trivial,k h1 t1 i1 c1 vals R1 x1 q1⟩)
def xd(M:aF)(Y:Pi):Prop :=
 ∀ {J ov x id},zK Y J ov x=some id →
  (∀ {c A s m ls imm cs va pl} {n:Nat} {Q:π×List π→χ→Prop} {E:Θ},aR M c A n→ai M c.h₀ c.L s.heap m ls J imm cs→VR M imm (ae cs) va ov→Q (.builtin id.id,[va]) s→wpAny (model ar M.w) A (getMethod va x pl) Q E s) ∧
  (∀ {J vs r J'},bm Y J id ov vs=some (r,J')→∀ {c A s m ls imm cs va vals} {n:Nat} {Q E:Θ},aR M c A n→ai M c.h₀ c.L s.heap m ls J imm cs→VR M imm (ae cs) va ov→aj M imm (ae cs) vals vs →
   (∀ h' tk imm' cs' val,ai M c.h₀ c.L h' m ls J' imm' cs'→aE imm cs imm' cs'→VR M imm' (ae cs') val r→Q val (sU s h' tk))→wpAny (model ar M.w) A (call (.builtin id.id) (va::vals) []) Q E s)
def Gm(M:aF)(n:Nat)(ls:ac)(σ1:St)(ov:AV)(x:Str)(as:List Expr)(ks:List Keyword)(pos:Pos)(r:AV)(J':St):Prop :=
 ∀ {c A s m imm cs va pl} {Q E:Θ},aR M c A n→bL c ls→ai M c.h₀ c.L s.heap m ls.v σ1 imm cs→VR M imm (ae cs) va ov →
  (∀ h' tk imm' cs' x,ai M c.h₀ c.L h' m ls.v J' imm' cs'→aE imm cs imm' cs'→VR M imm' (ae cs') x r→Q x (sU s h' tk)) →
  wpAny (model ar M.w) A (getMethod va x pl) (fun fx s2=>wpAny (model ar M.w) A (callWith pos fx.1 fx.2 (backTo pos (starEach as c.env)) (backToKw pos (keywordEach ks c.env))) Q E s2) E s
section
def HA(I:aS M n R){apos:Pos}(h0:(jk o&&apos.endLine.beq pos.line&&Nat.blt (lenA as+lenA ks+1) 30)=true)(h1:R.ev ls J o=some (ov,σ1))
  (n1:∀ e∈as,fJ e=true) (n2:∀ y∈ks,y.arg.isSome=true) (hm:Gm M n ls σ1 ov x as ks pos r J'):cS M n (fun c=>eval (.Call (.Attribute o x apos) as ks pos) c.env) ls J r J':=by
 simp only [Wj] at h0;apply ay h0;intro hq6 g3;apply ay hq6;intro g1 g2;replace g2:=aJ g2;replace g3:=nleT g3;rw[aZ,aZ] at g3;intro c A s m imm cs Q E C l Rp k;have form:methodCallForm (as.length+ks.length) (backTo pos (starEach as c.env)) (backToKw pos (keywordEach ks c.env))=true:=by
  rw[m9 pos n1,ye];unfold methodCallForm;simp only [Wj,List.all_map,XK,decide_eq_true_eq];refine⟨⟨fun U U=>rfl,fun y hy=>n2 y hy⟩,?_⟩
  split<;>(first|exact Nat.lt_of_succ_lt g3|exact g3)
 show wpAny _ _ (do
  let ov ←attributeBase o x c.env (eval o c.env)
  standAt apos.atName
  methodCall o x apos pos c.env ov (as.length+ks.length) (backTo pos (starEach as c.env)) (backToKw pos (keywordEach ks c.env))) _ _ _
 rw[y8 g1];refine Wg (I.ev h1 C l Rp fun hx tx ix cx va Rx xx qx=>Wg (Wt ?_));unfold methodCall;rw[form];have hpos:methodCallPos true o c.env apos pos=pure pos:=by
  unfold methodCallPos;rw[if_pos (by simp [g2])]
 refine Wg (Wo (WQ (hm C l Rx qx fun h' tk i' c' v R' x' q'=>k h' tk i' c' v R' (xx.trans x') q') (fun fx s2 h2=>?_) fun U U z=>z));rw[hpos];exact Wg (Wi h2)
def Jb(h:Fv v=true):∃ f self,v=.meth f self:=by induction v using AV.casesOn<;>first|exact⟨_,_,rfl⟩|injection h
def DZ(I:aS M n R)(X8:nu M n R){ov:AV}(i1:R.evs ls σ1 as=some (vs,σ2))(i2:R.evk ls σ2 ks=some (kw,σ3))(h:R.cl σ3 (.meth f self) vs kw=some (r,J'))
  {s:χ} {Q E:Θ} (C:aR M c A n) (l:bL c ls) (Rx:ai M c.h₀ c.L s.heap m ls.v σ1 imm cs)
  (hI:InstAt s.heap b (instObj D d) D (some (dictOf es n'))) (hf:aT M imm (ae cs) es fs) (hp:∀ q∈fs,findIn M.K (.ref D) q.1=some none) (hc:ju M D) (z:lk x fs=some (.meth f self))
  (k:∀ h' tk imm' cs' x,ai M c.h₀ c.L h' m ls.v J' imm' cs'→aE imm cs imm' cs'→VR M imm' (ae cs') x r→Q x (sU s h' tk)) :
  wpAny (model ar M.w) A (getMethod (.ref b) x pl) (fun fx s2=>wpAny (model ar M.w) A (callWith pos fx.1 fx.2 (backTo pos (starEach as c.env)) (backToKw pos (keywordEach ks c.env))) Q E s2) E s:=by
 apply cw (X8.cl h);intro kp cv cm;have g:=hf.get (x:=x);rw[z] at g;apply af g;intro val g1 g2;have pg:=plainGet_of hc.ga;refine method_usual (C.X.keeps Rx.F.keep) hI pg.1 pg.2 (hp _ (iJ z)) rfl ?_;refine get_own Rx.F C.X hI hc.ga hc.hd (hp _ (iJ z)) rfl g1 (wI g2 rfl) ?_;refine uY I i1 i2 C l Rx (fun h X hi=>kp g2 X hi) ?_;intro h' tk imm' cs' vals kwv R' x' v1 v2 v3;exact cv C R' (g2.ext x') v1 v2 v3 fun h2 t2 i2 c2 val R2 x2 q2=>k h2 t2 i2 c2 val R2 (x'.trans x2) q2
def QA(hy:∀ C c,Y.ci C=some c→dC M C c)(I:aS M n R)(X8:nu M n R)(hg:hY Y σ1 ov x=some fv)(h:x9 R ls σ1 fv as ks=some (r,J')) :
  ((∀ e∈as,fJ e=true)∧∀ y∈ks,y.arg.isSome=true)∧Gm M n ls σ1 ov x as ks pos r J':=by
 apply bC h;clear h;intro i0 h;apply bK h;clear h;intro vs σ2 i1 h;apply bK h;clear h;intro kw σ3 i2 h;apply bJ (Jb i0);intro f self e0;subst e0;refine⟨⟨(I.evs i1).1.1,fun y hy=>?_⟩,?_⟩
 ·have:y.arg∈ks.map (·.arg):=Ws hy
  rw[(I.evk i2).1] at this;apply af (cC this);intro q _ e;rw[←e];rfl
 intro c A s m imm cs va pl Q E C l Rx qx k;induction ov using AV.casesOn with
 |cell i=>
  apply bK (show xB Y σ1 i x=some (.meth f self) from hg);clear hg;intro D fs e1 hg;apply af qx.cell_inv;intro a e0 ha;subst e0;apply cj (Rx.C.cell ha (pk e1));intro d pre post e0 ll e2 cr;subst e0;apply dZ cr.inst_inv;intro b d es n' e0 hf hp hc;subst e0;(obtain e:=CC.same e2;subst e);have hI:=XO Rx.N (Rx.has (.head _)) (Rx.has (.tail _ (.head _)));cases z:lk x fs with
  |some u=>
   rw[z] at hg;apply bC hg;clear hg;intro h1 hg;(apply j1 hg;clear hg;rintro rfl);exact DZ I X8 i1 i2 h (ov:=.cell i) C l Rx hI hf hp hc z k
  |none=>
   rw[z] at hg;apply aG hg;clear hg;intro ci h1 hg;have ok:=hy _ _ h1;unfold xT at hg;cases z2:lk x ci.meths with
   |some f'=>
    rw[z2] at hg;(injection hg with e;injection e with e1 e2;symm at e1;subst e1;symm at e2;subst e2);apply j7 (ok.meths x f z2);intro m1 m2 m3 m4 m5 m6;apply ay ((X8.cl h).2.2 f _ rfl);intro hf1 hrun;refine method_inst Rx.F C.X hI hc.ga m1 m2 (hf.miss z) ?_;refine uY I i1 i2 C l Rx (fun h X hi=>keeps_K (zM hf1) h X) ?_;intro h' tk imm' cs' vals kwv R' x' v1 v2 v3;exact wpAny_call (hrun C R' (.cons (qx.ext x') v1) v2 v3 fun h2 t2 i2 c2 val R2 x2 q2=>k h2 t2 i2 c2 val R2 (x'.trans x2) q2)
   |none=>
    rw[z2] at hg;apply pf (ok.consts x _ hg);intro a c1 c2 c3 c4 c5;apply cD ((c5 [] []).inv);intro _ _ _ hm _;exact(WA hm).elim
 |obj D fs=>
  apply aG hg;clear hg;intro u e1 hg;apply bC hg;clear hg;intro h1 hg;(apply j1 hg;clear hg;rintro rfl);apply nz qx.obj_inv;intro a d es n' e0 j1 j2 hf hp hc;subst e0;exact DZ I X8 i1 i2 h (ov:=.obj D fs) C l Rx (XO Rx.N (aK _ j1) (aK _ j2)) hf hp hc e1 k
 |_=>injection hg
def Lf(hbm:xd M Y)(I:aS M n R){σ1 J':St}{ov:AV}(h:xu Y R ls σ1 ov x as ks=some (r,J')) :
  ((∀ e∈as,fJ e=true)∧∀ y∈ks,y.arg.isSome=true)∧Gm M n ls σ1 ov x as ks pos r J':=by
 apply aG h;clear h;intro id i0 h;apply bK h;clear h;intro vs σ2 i1 h;apply bC h;clear h;intro i2 h;have hks:ks=[]:=by induction ks using oL with|nil=>rfl|cons=>injection i2
 clear i2;subst hks;apply ay (hbm i0);intro gm cb;refine⟨⟨(I.evs i1).1.1,et⟩,?_⟩;intro c A s m imm cs va pl Q E C l Rx qx k;refine gm C Rx qx ?_;refine B5 I i1 C l Rx ?_;intro h' tk imm' cs' vals R' x' v1;exact cb h C R' (qx.ext x') v1 fun h2 t2 i2 c2 val R2 x2 q2=>k h2 t2 i2 c2 val R2 (x'.trans x2) q2
def Cu(hy:∀ C c,Y.ci C=some c→dC M C c)(hbm:xd M Y)(I:aS M n R)(X8:nu M n R){J J':St}{o:Expr}{apos:Pos}(h:zn Y R ls J o x apos as ks pos=some (r,J')) :
  cS M n (fun c=>eval (.Call (.Attribute o x apos) as ks pos) c.env) ls J r J':=by
 apply bC h;clear h;intro h0 h;apply bK h;clear h;intro ov σ1 h1 h;cases hg:hY Y σ1 ov x with
 |some fv=>
  rw[hg] at h;apply ay (QA hy I X8 hg h);intro hq7 g;apply ay hq7;intro n1 n2;exact HA I h0 h1 n1 n2 g
 |none=>
  rw[hg] at h;apply ay (Lf hbm I h);intro hq8 g;apply ay hq8;intro n1 n2;exact HA I h0 h1 n1 n2 g
end
end
section
def oA:∀ {A:Δ},((A++(d,o)::Yb).map Prod.fst).Nodup→Upd d o o' (A++(d,o)::Yb) (A++(d,o')::Yb):=by
 intro L0;induction L0 with
 |nil=>
  intro h;replace h:=WH.mp h;exact .head fun p hp e=>h.1 (WY.mpr ⟨p,hp,e⟩)
 |cons q A ih=>
  intro h;replace h:=WH.mp h;refine .tail (fun e=>h.1 ?_) (ih h.2);rw[e];exact WY.mpr ⟨(d,o),bF _ (.head _),rfl⟩
def ai.put{d d':CC}(R:ai M h₀ L h m ls J imm (pre++d::post))(ha:d'.addr=d.addr)(hf:d'.objs.map Prod.fst=d.objs.map Prod.fst)
  (F:Fr h₀ L h' m) (N:News h₀ L h' (imm++aQ (pre++d'::post))) (hc:CR M imm (ae (pre++d::post)) d' y):ai M h₀ L h' m ls (dT J pre.length y) imm (pre++d'::post):=by
 refine⟨F,N,?_,?_,?_⟩
 ·have:=R.nd
  rw[k6,Wl,Wl,Wl] at this ⊢;rw[hf];exact this
 ·rw[r6 pre post d d' ha]
  exact R.C.set hc
 ·intro x v hx
  rw[r6 pre post d d' ha];exact R.l x v hx
def aE.put(imm:Δ)(pre post:List CC)(d d':CC)(ha:d'.addr=d.addr):aE imm (pre++d::post) imm (pre++d'::post):=⟨fun U h=>h,fun k a h=>by rw[r6 pre post d d' ha];exact h⟩
def aT.put(hv:VR M imm ρ v y)(hf:aT M imm ρ es fs):aT M imm ρ (putL x hsh (.str x tk) v es) (Mine.put x y fs):=by
 induction hf using aT.ind with
 |nil=>exact .cons hv .nil
 |@cons h t n v' y' es fs a g ih=>
  unfold putL;rw[yX]
  by_cases q:n=x
  ·clear ih;subst q
   rw[if_pos (by simp [Value.isStr]),if_pos rfl];exact .cons hv g
  ·rw[if_neg (by simp [Value.isStr,q]),if_neg q]
   exact .cons a ih
def J9(x:Str)(hsh:Int)(key v:π):∀ es:List DictEntry,(putL x hsh key v es).length≤es.length+1:=by
 intro L0;induction L0 with
 |nil=>
  exact Wm _
 |cons e r ih=>
  unfold putL
  split
  ·simp
  ·simp;exact ih
def aT.len(h:aT M imm ρ es fs):es.length=fs.length:=by
 induction h using aT.ind with
 |nil=>rfl
 |cons _ _ ih=>exact congrArg (·+1) ih
def V1:∀ {fs:List (Str×AV)},q∈Mine.put x y fs→q.1=x∨q∈fs∨∃ q'∈fs,q'.1=q.1:=by
 intro L0;induction L0 with
 |nil=>
  intro h;rcases cI h with rfl|h;exact .inl rfl;cases h
 |cons x0 fs ih=>
  obtain⟨z,u⟩:=x0;intro h;rw[yX] at h
  by_cases e:z=x
  ·rw[if_pos e] at h
   rcases cI h with rfl|h
   ·exact .inl e
   ·exact .inr (.inl (.tail _ h))
  ·rw[if_neg e] at h
   rcases cI h with rfl|h
   ·exact .inr (.inl (.head _))
   ·rcases ih h with e|e|⟨q',e1,e2⟩
    ·exact .inl e
    ·exact .inr (.inl (.tail _ e))
    ·exact .inr (.inr ⟨q',.tail _ e1,e2⟩)
def EM(hy:∀ C c,Y.ci C=some c→dC M C c)(h:yT Y J k x v=some J'){s:χ}
  {Q:Unit→χ→Prop} {E:Θ} (C:aR M c A n) (R:ai M c.h₀ c.L s.heap m ls J imm cs) (ho:VR M imm (ae cs) va (.cell k)) (hv:VR M imm (ae cs) val v)
  (kk:∀ h' tk imm' cs',ai M c.h₀ c.L h' m ls J' imm' cs'→aE imm cs imm' cs'→Q () (sU s h' tk)):wpAny (model ar M.w) A (setAttr va x val) Q E s:=by
 apply bK h;clear h;intro D fs e1 h;apply bC h;clear h;intro hcan h;apply bC h;clear h;intro hz h;(apply j1 h;clear h;rintro rfl);apply af ho.cell_inv;intro a e0 ha;subst e0;apply cj (R.C.cell ha (pk e1));intro d pre post e0 l e2 cr;subst e0;apply dZ cr.inst_inv;intro b d es n' e0 hf hp hc;clear ho;subst e0;(obtain e:=CC.same e2;clear e2 ha;subst e);have hx:findIn M.K (.ref D) x=some none∧takerIn M.K D x=some none:=by
  unfold Hl at hcan;cases z:lk x fs with
  |some v'=>
   have:=hp _ (iJ z);exact⟨this,by unfold takerIn;rw[this];rfl⟩
  |none=>
   rw[z] at hcan;cases q1:Y.ci D with
   |none=>rw[q1] at hcan;injection hcan
   |some ci=>rw[q1] at hcan;exact(hy _ _ q1).flds x hcan
 replace hz:=nleT hz;rw[aZ] at hz;have hl:(getL x es).isSome=true:=by
  have:=hf.get (x:=x);cases z:lk x fs with
  |some v'=>rw[z] at this;apply af this;intro val g1 _;rw[g1];rfl
  |none=>rw[hf.miss z];rfl
 have e:∀ z:List DictEntry×Nat,imm++aQ (pre++CC.inst b D d z.1 z.2::post)=(imm++aQ pre++[(b,instObj D d)])++(d,dictOf z.1 z.2)::aQ post:=fun z=>by rw[k6];simp [CC.objs]
 have N:=R.N;have nd:=R.nd;rw[e (es,n')] at N nd;refine set_dict R.F C.X N (XO R.N (R.has (.head _)) (R.has (.tail _ (.head _)))) rfl hc.sa hc.po hx.2 hc.hd hl rfl (oA nd) (WZ (J9 x (PyData.keyHash M.w.params x) (.str x (s.toks+1)) val es) (WZ (W9 (WZ (W7 hf.len) hz)) (nleT rfl))) ?_;intro h' F' N';refine kk h' _ imm (pre++CC.inst b D d (putL x (PyData.keyHash M.w.params x) (.str x (s.toks+1)) val es) (putN x es n')::post) ?_ (aE.put imm pre post _ _ rfl);rw[←l];refine R.put rfl rfl F' (by rw[e (putL x (PyData.keyHash M.w.params x) (.str x (s.toks+1)) val es,putN x es n')];exact N') (.inst (hf.put hv) (fun q hq=>?_) hc);rcases V1 hq with e|e|⟨q',e1,e2⟩
 ·rw[e];exact hx.1
 ·exact hp q e
 ·rw[←e2];exact hp q' e1
end
section
def sY{R:Result→χ→Prop}
  (h:wpAny (model ar M.w) A (isTrue test env (eval test env)) (fun b s₂=>
   if b then wpAny (model ar M.w) A (execs body env) (fun f s₃=>match f with
    |.next|.cont=>codeAny (model ar M.w) A (.whileLoop test body orelse env) R s₃
    |.brk=>R (.ok .next) s₃
    |.ret v=>R (.ok (.ret v)) s₃) (notedBy (model ar M.w) A env fun e s'=>R (.error e) s') s₂
   else wpAny (model ar M.w) A (execs orelse env) (fun f s₃=>R (.ok f) s₃) (notedBy (model ar M.w) A env fun e s'=>R (.error e) s') s₂)
   (notedBy (model ar M.w) A env fun e s'=>R (.error e) s') s):codeAny (model ar M.w) A (.whileLoop test body orelse env) R s:=by
 refine codeAny_of_tree ?_;refine wpAny_noted ?_;refine Wg (WQ h (fun b s₂ h₂=>?_) fun U U h'=>h');induction b using oB with
 |true=>
  refine Wg (WQ h₂ (fun f s₃ h₃=>?_) fun U U h'=>h');cases f with
  |next=>exact Wi ⟨rfl,h₃⟩
  |cont=>exact Wi ⟨rfl,h₃⟩
  |brk=>exact Wi h₃
  |ret v=>exact Wi h₃
 |false=>exact Wg (WQ h₂ (fun f s₃ h₃=>Wi h₃) fun U U h'=>h')
def kE{R:Result→χ→Prop}
  (h:wpAny (model ar M.w) A (pyNext it) (fun r s₁=>match r with
   |none=>wpAny (model ar M.w) A (execs orelse env) (fun f s₃=>R (.ok f) s₃) (notedBy (model ar M.w) A env fun e s'=>R (.error e) s') s₁
   |some v=>wpAny (model ar M.w) A (letOwnedTupleGo target it v) (fun U s₂=>wpAny (model ar M.w) A (assign target env v) (fun U s₂=>wpAny (model ar M.w) A (execs body env) (fun f s₃=>match f with
    |.next|.cont=>codeAny (model ar M.w) A (.forLoop target it body orelse env) R s₃
    |.brk=>R (.ok .next) s₃
    |.ret v=>R (.ok (.ret v)) s₃) (notedBy (model ar M.w) A env fun e s'=>R (.error e) s') s₂) (notedBy (model ar M.w) A env fun e s'=>R (.error e) s') s₂) (notedBy (model ar M.w) A env fun e s'=>R (.error e) s') s₁)
   (notedBy (model ar M.w) A env fun e s'=>R (.error e) s') s):codeAny (model ar M.w) A (.forLoop target it body orelse env) R s:=by
 refine codeAny_of_tree ?_;refine wpAny_noted ?_;refine Wg (Wt (Wg (wpAny_onRaise (WQ h (fun r s₁ h₁=>?_) fun U U h'=>Wt h'))));induction r using oO with
 |none=>exact Wi ⟨rfl,codeAny_block h₁⟩
 |some v=>
  refine Wg (WQ h₁ (fun U s₂ h₂=>?_) fun U U h'=>h');refine Wg (WQ h₂ (fun U s₂ h₂=>Wg (WQ h₂ (fun f s₃ h₃=>?_) fun U U h'=>h')) fun U U h'=>h');cases f with
  |next=>exact Wi ⟨rfl,h₃⟩
  |cont=>exact Wi ⟨rfl,h₃⟩
  |brk=>exact Wi h₃
  |ret v=>exact Wi h₃
def BE{α:Type}(M:aF)(n:Nat)(t:Cx→α→Sem Unit)(P:Δ→List CC→α→Prop)(ls:ac)(J:St)(ls':ac)(J':St):Prop :=
 ∀ {c A s m imm cs x} {Q:Unit→χ→Prop} {E:Θ},aR M c A n→bL c ls→ai M c.h₀ c.L s.heap m ls.v J imm cs→P imm cs x →
  (∀ h' tk m' imm' cs',ai M c.h₀ c.L h' m' ls'.v J' imm' cs'→bL c ls'→aE imm cs imm' cs'→Q () (sU s h' tk))→wpAny (model ar M.w) A (t c x) Q E s
def ai.store{h₀ h h':Heap}(R:ai M h₀ L h m ls J imm cs)(hv:VR M imm (ae cs) val v)
  (hn:h'.Ns L (fun y=>if y=x then some val else m y)) (hs:Heap.SameBut L h h'):ai M h₀ L h' (fun y=>if y=x then some val else m y) (Mine.put x v ls) J imm cs:=by
 refine⟨R.F.set hn hs,R.N.set hs,R.nd,R.C,fun y u hy=>?_⟩;rw[y5] at hy
 by_cases e:y=x
 ·rw[if_pos e] at hy
  (apply r1 hy;clear hy);exact⟨val,if_pos e,hv⟩
 ·rw[if_neg e] at hy
  apply af (R.l y u hy);intro val' a b;exact⟨val',by rw[if_neg e];exact a,b⟩
def EO(h:mZ ls x v=some ls'){s:χ}{Q:Unit→χ→Prop}{E:Θ}
  (C:aR M c A n) (l:bL c ls) (R:ai M c.h₀ c.L s.heap m ls.v J imm cs) (hv:VR M imm (ae cs) val v)
  (k:∀ h' tk m',ai M c.h₀ c.L h' m' ls'.v J imm cs→bL c ls'→Q () (sU s h' tk)):wpAny (model ar M.w) A (storeName c.env x val) Q E s:=by
 apply bC h;clear h;intro h1 h;(apply j1 h;clear h;rintro rfl);have hk:=by
  rw[l.sc] at h1;exact yG h1
 apply ej c.parts;intro p1 p2 p3 p4;refine wpAny_storeName_local (by unfold Env.kindOf;rw[p1];exact hk) (by rw[p2];exact R.F.ns) (fun h' hn hs=>?_) (by rw[p1,C.k];rfl);rw[p2] at hn hs;refine k h' _ _ (R.store hv hn hs) ⟨l.sc,fun y u hy=>?_,l.nd⟩;replace hy:=hy;rw[y5] at hy
 by_cases e:y=x
 ·rw[e];exact hk
 ·rw[if_neg e] at hy;exact l.lo y u hy
abbrev lj (M:aF) (n:Nat) (t:Cx→π→Sem Unit) (v:AV) (ls:ac) (J:St) (ls':ac) (J':St):Prop:=BE M n t (Gf M v) ls J ls' J'
structure iP (M:aF) (n:Nat) (R:aM):Prop where
 exs:∀ {ls J ss f ls' J'},R.exs ls J ss=some (f,ls',J')→bG M n (fun c=>execs ss c.env) ls J f ls' J'
 ex:∀ {ls J st f ls' J'},R.ex ls J st=some (f,ls',J')→bG M n (fun c=>exec st c.env) ls J f ls' J'
 asg:∀ {ls J v t ls' J'},R.asg ls J v t=some (ls',J')→lj M n (fun c=>assign t c.env) v ls J ls' J'
 asgs:∀ {ls J vs ts ls' J'},R.asgs ls J vs ts=some (ls',J')→(∀ t∈ts,fJ t=true)∧ts.length=vs.length∧BE M n (fun c vals=>assignInOrder (ts.map fun t=>assign t c.env) vals) (sb M vs) ls J ls' J'
 asgm:∀ {ls J v ts ls' J'},R.asgm ls J v ts=some (ls',J')→(∀ t∈ts,fJ t=true)∧lj M n (fun c val=>assignAll val (ts.map fun t=>assign t c.env)) v ls J ls' J'
 wh:∀ {ls J t b f ls' J'},R.wh ls J t b=some (f,ls',J')→∀ {c A s m imm cs} {Rq:Result→χ→Prop},aR M c A n→bL c ls→ai M c.h₀ c.L s.heap m ls.v J imm cs →
  (∀ h' tk m' imm' cs' fl,ai M c.h₀ c.L h' m' ls'.v J' imm' cs'→bL c ls'→aE imm cs imm' cs'→FR M imm' cs' fl f→Rq (.ok fl) (sU s h' tk))→codeAny (model ar M.w) A (.whileLoop t b [] c.env) Rq s
def Jt(S:iP M n R)(h:zN Y R ls J ss=some (f,ls',J')):bG M n (fun c=>execs ss c.env) ls J f ls' J':=by
 unfold zN at h;induction ss using oL with
 |nil=>
  (apply r3 h);intro c A s m imm cs Q E C l Rp k;exact wpAny_execs_nil (k s.heap s.toks m imm cs _ Rp l (aE.refl ..) .next)
 |cons st r=>
  apply xX h;clear h;intro f1 ls1 σ1 h1 h;intro c A s m imm cs Q E C l Rp k;refine WX (S.ex h1 C l Rp fun hx tx mx ix cx fl Rx lx xx fx=>?_);induction f1 using Fl.casesOn with
  |next=>
   (obtain e:_=_:=FR.inv fx;clear fx;subst e);exact S.exs h C lx Rx fun h2 t2 m2 i2 c2 fl R2 l2 x2 f2=>k h2 t2 m2 i2 c2 fl R2 l2 (xx.trans x2) f2
  |ret v=>(apply j3 h;rintro rfl rfl rfl);apply af (FR.inv fx);intro _ e0 hv;clear fx;subst e0;exact k hx tx mx ix cx _ Rx lx xx (.ret hv)
def VT(I:aS M n R)(S:iP M n R)(h:GE Y R ls J t b=some (f,ls',J')) :
  ∀ {c A s m imm cs} {Rq:Result→χ→Prop},aR M c A n→bL c ls→ai M c.h₀ c.L s.heap m ls.v J imm cs →
  (∀ h' tk m' imm' cs' fl,ai M c.h₀ c.L h' m' ls'.v J' imm' cs'→bL c ls'→aE imm cs imm' cs'→FR M imm' cs' fl f→Rq (.ok fl) (sU s h' tk))→codeAny (model ar M.w) A (.whileLoop t b [] c.env) Rq s:=by
 intro c A s m imm cs Rq C l Rp k;apply bK h;clear h;intro q σ1 h1 h;refine sY (I.tst h1 C l Rp fun hx tx ix cx x Rx xx qx=>?_);cases qx;induction q using oB with
 |false=>
  (apply j3 h;rintro rfl rfl rfl);exact wpAny_execs_nil (k hx tx m ix cx _ Rx l xx .next)
 |true=>
  apply xX h;clear h;intro f1 ls1 σ2 h2 h;refine S.exs h2 C l Rx fun hy ty my iy cy fl Ry ly xy fy=>?_;have again:R.wh ls1 σ2 t b=some (f,ls',J')→codeAny (model ar M.w) A (.whileLoop t b [] c.env) Rq (sU s hy ty):=fun h=>
   S.wh h C ly Ry fun h2 t2 m2 i2 c2 fl R2 l2 x2 f2=>k h2 t2 m2 i2 c2 fl R2 l2 (xx.trans (xy.trans x2)) f2
  induction f1 using Fl.casesOn with
  |next=>(obtain e:_=_:=FR.inv fy;clear fy;subst e);exact again h
  |ret v=>(apply j3 h;rintro rfl rfl rfl);apply af (FR.inv fy);intro _ e0 hv;clear fy;subst e0;exact k hy ty my iy cy _ Ry ly (xx.trans xy) (.ret hv)
end
section
def tq(M:aF):Prop :=
 ∀ {J k xs iv j pl v},ao J k=some (.list xs)→jN iv=some j→place (lenA xs) j=some pl →
  ∀ {c A s m ls imm cs va vi val} {n:Nat} {Q:Unit→χ→Prop} {E:Θ},aR M c A n→ai M c.h₀ c.L s.heap m ls J imm cs→VR M imm (ae cs) va (.cell k)→VR M imm (ae cs) vi iv→VR M imm (ae cs) val v →
   (∀ h' tk cs',ai M c.h₀ c.L h' m ls (dT J k (.list (dT xs pl v))) imm cs'→aE imm cs imm cs'→Q () (sU s h' tk))→wpAny (model ar M.w) A (setItem va vi val) Q E s
def zo(M:aF)(B:Bd):Prop :=
 ∀ {J v i r},mc B J v i=some r→∀ {c A s m ls imm cs va vi} {n:Nat} {Q E:Θ},aR M c A n→ai M c.h₀ c.L s.heap m ls J imm cs→VR M imm (ae cs) va v→VR M imm (ae cs) vi i →
  (∀ tk val,VR M imm (ae cs) val r→Q val {s with toks:=tk})→wpAny (model ar M.w) A (getItem va vi) Q E s
def Ae(hb:aU B M.Z)(ho:oH op=true)(h:lV B op a b=some r):jr M (inplaceOp op) a b r:=by
 cases op with
 |Add=>
  induction a using AV.casesOn with
  |int x=>
   apply aG h;intro y h1 h;(obtain e:=jR h1;clear h1;subst e);(apply r1 h);exact I8
  |str x=>
   apply aG h;intro y h1 h;(obtain e:=nA h1;clear h1;subst e);exact Qk hb h
  |_=>injection h
 |Sub=>
  apply aG h;intro x h1 h;apply aG h;intro y h2 h;(obtain e:=jR h1;clear h1;subst e);(obtain e:=jR h2;clear h2 h;subst e);(apply r1 h);exact Ua
 |_=>injection ho
def oU{c:Cx}:(∀ t∈ts,fJ t=true)→assignEach ts c.env=ts.map fun t=>(false,assign t c.env):=by
 induction ts with
 |nil=>intro _;rfl
 |cons t r ih=>
  intro h;have e:assignEach (t::r) c.env=(false,assign t c.env)::assignEach r c.env:=by
   have:=h t (.head _);clear h;induction t using PySem.Expr.casesOn<;>first|rfl|(exact Bool.noConfusion this)
  rw[e,ih fun x hx=>h x (.tail _ hx)];rfl
section
def SD:OB (Dw ls J v x) fun q=>lj M n (fun c=>assign (.Name x pos) c.env) v ls J q.1 q.2 :=
 OB.ob fun ls1 h1=>OB.pure fun {c A s m imm cs val Q E} C l Rp hv k=>wpAny_assign_Name (EO h1 C l Rp hv fun h' tk m' R' l'=>k h' tk m' imm cs R' l' (aE.refl ..))
def QS(hy:∀ C c,Y.ci C=some c→dC M C c)(I:aS M n R):OB (GQ Y R ls J v o x) fun q=>lj M n (fun c=>assign (.Attribute o x pos) c.env) v ls J q.1 q.2 :=
 OB.obp fun ov σ1 h1=>OB.ob fun kk h2=>OB.ob fun σ2 h3=>OB.pure fun {c A s m imm cs val Q E} C l Rp hv k=>by
  (obtain e:=ka h2;subst e);refine Wg (Wo (I.ev h1 C l Rp fun hx tx ix cx va Rx xx qx=>Wg (Wt (Wg (Wo ?_)))));refine EM hy h3 C Rx qx (hv.ext xx) fun h' tk i2 c2 R2 x2=>wpAny_release ?_;exact k h' tk m i2 c2 R2 l (xx.trans x2)
def Kf{E:Θ}(hne:l≠it):∀ (n i:Nat) (s:χ) (Q:List π→χ→Prop),s.heap.IsListIter it l i→s.heap.IsList l items→i+n≤items.size →
  (∀ h',h'.IsListIter it l (i+n)→Heap.SameBut it s.heap h'→Q ((items.toList.drop i).take n) {s with heap:=h'})→wpAny (model ar M.w) A (draw (.ref it) n) Q E s:=by
 intro n;induction n with
 |zero=>
  intro i s Q hit _ _ hQ;exact Wi (by simpa using hQ s.heap hit (Heap.SameBut.refl ..))
 |succ n ih=>
  intro i s Q hit ht hle hQ;have hlt:=W8 (W0 _ _) hle;refine Wg (wpAny_pyNext_list_item hit ht (x:=items[i]) (by simp [hlt]) fun h₁ hit₁ hs₁=>?_);have ht1:h₁.IsList l items:=by
   apply af ht;intro o ho r;exact⟨o,hs₁.extBut l o hne ho,r⟩
  refine Wg (Wo (ih (i+1) _ _ hit₁ ht1 (WZ (W7 (Xo _ _ _)) hle) fun h₂ hit₂ hs₂=>Wi ?_));have hd:items.toList.drop i=items[i]::items.toList.drop (i+1):=by simp [XM,hlt]
  have:=hQ h₂ (by rw[show i+(n+1)=i+1+n by lia];exact hit₂) (hs₁.trans hs₂);rw[hd,List.take_succ_cons] at this;exact this
def SL{A:Around}{E:Θ}{s:χ}{Q:Unit→χ→Prop}(hh:A.handled=none)(ht:s.heap.IsList l items)
  (hn:(assignEach elts env).length=items.size) (hstar:(assignEach elts env).findIdx? (·.1)=none)
  (h:∀ h',Heap.ExtBut s.heap.objs.size s.heap h'→wpAny (model ar M.w) A (assignInOrder ((assignEach elts env).map (·.2)) items.toList) Q E {s with heap:=h'}) :
  wpAny (model ar M.w) A (assign (.Tuple elts x1 pos) env (.ref l)) Q E s:=by
 rw[arm_assign_Tuple];refine Wg (Wt ?_);have hlt:=by apply af ht;intro o ho _;exact WV (WI ho)
 unfold unpack;rw[hn,hstar];refine Wg (Wo ?_);refine Wg ?_;refine Wg (wpAny_specialOf ht.typeIs F.slot_list_iter.lookup ?_);refine Wi ?_;refine Wg (Wo (wpAny_pyIter_list ht ?_));have htp:(s.heap.push {cls:=.type "list_iterator",data:=.fields #[.ref l,.int 0 0]}).IsList l items:=by
  apply af ht;intro o ho r;exact⟨o,Heap.get?_push_of_some _ ho,r⟩
 refine Wg (Wo (Kf hlt items.size 0 _ _ ⟨_,Heap.get?_push_size _ rfl,rfl,rfl⟩ htp (W7 (XS _)) fun h₁ hit₁ hs₁=>?_));have hall:List.take items.size (List.drop 0 items.toList)=items.toList:=by
  rw[List.drop_zero];exact WP (by simp)
 rw[hall,if_neg (by simp)];have ht₁:h₁.IsList l items:=by
  apply af htp;intro o ho r;exact⟨o,hs₁.extBut l o hlt ho,r⟩
 refine Wg (Wo (wpAny_pyNext_list_end hh hit₁ ht₁ (by simp) fun h₂ he₂=>?_));exact Wi (h h₂ fun b o hb e=>he₂ b o hb (hs₁.extBut b o hb (Heap.get?_push_of_some _ e)))
def Rk(S:iP M n R):OB (Id R ls J v ts) fun q'=>lj M n (fun c=>assign (.Tuple ts q pos) c.env) v ls J q'.1 q'.2:=by
 induction v using AV.casesOn with
 |tup vs=>
  intro q' h;apply cw (S.asgs h);intro n1 n2 g;intro c A s m imm cs val Q E C l Rp hv k;apply dj hv.tup_inv;intro a vals nn e0 hk hvs;subst e0;have hsz:(assignEach ts c.env).length=vals.toArray.size:=by rw[oU n1,Wr,n2,←hvs.len];simp
  refine wpAny_assign_Tuple C.hd ⟨_,(Rp.kn C.X hk),rfl,_,rfl⟩ hsz (by rw[oU n1];exact List.findIdx?_eq_none_iff.mpr (by intro x hx;apply af (cC hx);intro _ _ e0;clear hx;subst e0;rfl)) fun h' hx=>?_;have kp:=fun b o e=>hx b o (WV (WI e)) e;rw[oU n1,Xi];exact g C l (⟨Rp.F.after kp,fun q hq=>⟨kp _ _ (Rp.N q hq).1,(Rp.N q hq).2⟩,Rp.nd,Rp.C,Rp.l⟩) hvs fun h2 tk m2 i2 c2 R2 l2 x2=>k h2 tk m2 i2 c2 R2 l2 x2
 |cell kk=>
  refine OB.ob fun vs hx q' h=>?_;apply cw (S.asgs h);intro n1 n2 g;intro c A s m imm cs val Q E C l Rp hv k;apply af hv.cell_inv;intro a e0 ha;subst e0;apply cj (Rp.C.cell ha (kI hx));intro dd pre post e0 hl e2 cr;subst e0;apply dj cr.list_inv;intro a2 vals nn e0 hvs hsz';clear hv;subst e0;replace e2:=e2;clear ha;subst e2;have hsz:(assignEach ts c.env).length=vals.toArray.size:=by rw[oU n1,Wr,n2,←hvs.len];simp
  refine SL C.hd ⟨_,(Rp.N _ (Rp.has (.head _))).1,rfl,_,rfl⟩ hsz (by rw[oU n1];exact List.findIdx?_eq_none_iff.mpr (by intro x hx;apply af (cC hx);intro _ _ e0;subst e0;rfl)) fun h' hx=>?_;have kp:=fun b o e=>hx b o (WV (WI e)) e;rw[oU n1,Xi];exact g C l (⟨Rp.F.after kp,fun q hq=>⟨kp _ _ (Rp.N q hq).1,(Rp.N q hq).2⟩,Rp.nd,Rp.C,Rp.l⟩) hvs fun h2 tk m2 i2 c2 R2 l2 x2=>k h2 tk m2 i2 c2 R2 l2 x2
 |_=>exact OB.no
def Vh(hpi:tq M)(I:aS M n R):OB (Ib R ls J v o i) fun q=>lj M n (fun c=>assign (.Subscript o i pos) c.env) v ls J q.1 q.2 :=
 OB.gd fun h0=>OB.obp fun ov σ1 h1=>OB.obp fun iv σ2 h2=>OB.ob fun kk h3=>OB.ob fun xs h4=>OB.ob fun j h5=>OB.ob fun pl h6=>OB.pure fun {c A s m imm cs val Q E} C l Rp hv k=>by
  (obtain e:=ka h3;subst e);refine Wg (Wo (I.ev h1 C l Rp fun hx tx ix cx va Rx xx qx=>?_));refine Wg (Wo (I.ev h2 C l Rx fun hy' ty iy cy vi Ry xy qy=>Wg (Wt (Wg (Wo ?_)))));refine hpi (kI h4) h5 h6 C Ry (qx.ext xy) qy (hv.ext (xx.trans xy)) fun h' tk c2 R2 x2=>wpAny_release ?_;exact k h' tk m iy c2 R2 l (xx.trans (xy.trans x2))
def Rg(hy:∀ C c,Y.ci C=some c→dC M C c)(hpi:tq M)(I:aS M n R)(S:iP M n R)(h:Gs Y R ls J v t=some (ls',J')) :
  lj M n (fun c=>assign t c.env) v ls J ls' J':=by
 induction t using PySem.Expr.casesOn with
 |Name x pos=>exact SD _ h
 |Attribute o x pos=>exact QS hy I _ h
 |Tuple ts q pos=>exact Rk S _ h
 |Subscript o i pos=>exact Vh hpi I _ h
 |_=>injection h
end
set_option tactic.hygienic true in
def Vw(S:iP M n R)(h:DD Y R ls J vs ts=some (ls',J')) :
  (∀ t∈ts,fJ t=true)∧ts.length=vs.length∧BE M n (fun c vals=>assignInOrder (ts.map fun t=>assign t c.env) vals) (sb M vs) ls J ls' J':=by
 induction vs using oL<;>induction ts using oL<;>try (injection h;done)
 ·(apply r2 h;clear h)
  refine⟨et,rfl,?_⟩;intro c A s m imm cs vals Q E C l Rp hv k;(obtain e:_=_:=aj.inv hv;clear hv;subst e);exact Wi (k s.heap s.toks m imm cs Rp l (aE.refl ..))
 ·rename_i v vs t ts
  apply bC h;clear h;intro h0 h;apply bK h;clear h;intro ls1 σ1 h1 h;apply cw (S.asgs h);intro n1 n2 g;refine⟨fun e q=>(cI q).elim (fun q=>q▸h0) (n1 e),congrArg (·+1) n2,?_⟩;intro c A s m imm cs vals Q E C l Rp hv k;apply cD (aj.inv hv);intro _ _ e0 a1 b1;clear hv;subst e0;revert a1 b1;intro hv hvs;refine Wg (Wo (S.asg h1 C l Rp hv fun hx tx mx ix cx Rx lx xx=>?_));exact g C lx Rx (hvs.ext xx) fun h2 t2 m2 i2 c2 R2 l2 x2=>k h2 t2 m2 i2 c2 R2 l2 (xx.trans x2)
def IT(S:iP M n R)(h:GJ Y R ls J v ts=some (ls',J')) :
  (∀ t∈ts,fJ t=true)∧lj M n (fun c val=>assignAll val (ts.map fun t=>assign t c.env)) v ls J ls' J':=by
 induction ts using oL with
 |nil=>injection h
 |cons t ts=>
  apply bC h;clear h;intro h0 h;induction ts using oL with
  |nil=>
   refine⟨fun e q=>(cI q).elim (fun q=>q▸h0) fun q=>absurd q WA,?_⟩;exact S.asg h
  |cons t2 ts=>
   apply bK h;clear h;intro ls1 σ1 h1 h;apply ay (S.asgm h);intro n1 g;refine⟨fun e q=>(cI q).elim (fun q=>q▸h0) (n1 e),?_⟩;intro c A s m imm cs val Q E C l Rp hv k;refine Wg (Wo (S.asg h1 C l Rp hv fun hx tx mx ix cx Rx lx xx=>?_));exact g C lx Rx (hv.ext xx) fun h2 t2 m2 i2 c2 R2 l2 x2=>k h2 t2 m2 i2 c2 R2 l2 (xx.trans x2)
end
section
def wP(h:ke e=true)(t:κ Expr)(line:Nat)(env:Env):swapsWith e t line env=pure false:=by
 induction e using PySem.Expr.casesOn<;>first|rfl|(exact Bool.noConfusion h)
def J3(h:Ij ts e=true)(env:Env):swappedStores ts e env=pure none:=by
 have tup:∀ (us vs:List Expr),vs.all (foldedForSure 8)=true→(do
   if !(us.length == 2 ||us.length == 3) ||vs.length != us.length ||env.blockKind != .function then return none
   if vs.any fun|.Starred ..=>true|_=>false then return none
   let line:=(us.head?.map (·.pos.line)).getD 0
   let names:=us.filterMap fun
    |.Name id pos=>if env.kindOf id == some .local&&pos.line == line then some id else none
    |_=>none
   if names.length != us.length ||names.eraseDups.length != names.length then return none
   if vs.all (foldedForSure 8) then return none
   if vs.all (constantsAlone 8) then unsupported "assign.tuple-of-constant-expressions:order-of-the-stores"
   return some names:Sem (κ (List Str)))=pure none:=by
  intro us vs hv;dsimp only
  split
  ·rfl
  ·split
   ·rfl
   ·split
    ·rfl
    ·first|rfl|rw[if_pos hv]
 match ts with
 |[]=>rfl
 |t::_::_=>induction t using PySem.Expr.casesOn<;>first|rfl|(cases e<;>rfl)
 |[t]=>
  induction t using PySem.Expr.casesOn with
  |Tuple us q pos=>
   induction e using PySem.Expr.casesOn with
   |Tuple vs q2 pos2=>exact tup us vs h
   |_=>rfl
  |List=>exact Bool.noConfusion h
  |_=>rfl
def yj(M:aF)(n:Nat)(R:aM):Prop :=
 ∀ {ls J v it t b f ls' J'},yW J v=some it→R.fo ls J t it b=some (f,ls',J')→∀ {c A s m imm cs va ex} {Q:Flow→χ→Prop} {E:Θ},aR M c A n→bL c ls→ai M c.h₀ c.L s.heap m ls.v J imm cs→VR M imm (ae cs) va v→lh ex=true→jv t=true →
  (∀ h' tk m' imm' cs' fl,ai M c.h₀ c.L h' m' ls'.v J' imm' cs'→bL c ls'→aE imm cs imm' cs'→FR M imm' cs' fl f→Q fl (sU s h' tk)) →
  wpAny (model ar M.w) A (foldedSetIterable ex c.env va >>= fun x=>standAt ex.pos >>= fun U=>holding [x] (pyIter x) >>= fun i=>runOwn (.forLoop t i b [] c.env) c.env) Q E s
abbrev kC (M:aF) (n:Nat) (t:Cx→Sem Flow) (ls:ac) (J:St) (q:Fl×ac×St):Prop:=bG M n t ls J q.1 q.2.1 q.2.2
section
def DF(I:aS M n R):OB (zW R ls J e) (kC M n (fun c=>exec (.Expr e pos) c.env) ls J) :=
 OB.gd fun h0=>OB.obp fun v σ1 h1=>OB.pure fun {c A s m imm cs Q E} C l Rp k=>by
  have hint:interactive c.env=false:=by
   unfold interactive;rw[c.parts.1,C.k];rfl
  exact wpAny_Expr_any (I.ev h1 C l Rp fun hx tx ix cx va Rx xx qx=>k hx tx m ix cx _ Rx l xx .next) hint (wP h0 _ _ _)
def IA(I:aS M n R):OB (y9 R ls J e) (kC M n (fun c=>exec (.Return e pos) c.env) ls J):=by
 induction e using oO with
 |none=>exact OB.pure fun {c A s m imm cs Q E} C l Rp k=>wpAny_Return_none (k s.heap s.toks m imm cs _ Rp l (aE.refl ..) (.ret .none))
 |some e=>
  show OB (obp (R.ev ls J e) fun v J=>some (Fl.ret v,ls,J)) _;exact OB.obp fun v σ1 h1=>OB.pure fun {c A s m imm cs Q E} C l Rp k=>wpAny_Return_some (I.ev h1 C l Rp fun hx tx ix cx va Rx xx qx=>k hx tx m ix cx _ Rx l xx (.ret qx))
def Ru(h:ke e=true)(line:Nat)(env:Env):swapsWithSole ts e line env=pure false:=by
 cases ts with
 |nil=>rfl
 |cons t r=>
  cases r with
  |nil=>exact wP h _ _ _
  |cons=>rfl
def BX(I:aS M n R)(S:iP M n R):OB (y7 R ls J ts e) (kC M n (fun c=>exec (.Assign ts e pos) c.env) ls J) :=
 OB.gd fun h0=>OB.obp fun v σ1 h1=>OB.obp fun ls1 σ2 h2=>OB.pure fun {c A s m imm cs Q E} C l Rp k=>by
  replace h0:=aw h0;apply ay (S.asgm h2);intro n1 g;refine wpAny_Assign_stores (I.ev h1 C l Rp fun hx tx ix cx va Rx xx qx=>?_) ?_ (J3 h0.2 _)
  ·rw[oU n1,Xi]
   exact g C l Rx qx fun h' tk m' i2 c2 R2 l2 x2=>k h' tk m' i2 c2 _ R2 l2 (xx.trans x2) .next
  ·exact Ru h0.1 _ _
def Cc(hb:aU Y.B M.Z)(I:aS M n R):OB (Au Y R ls J x op e) (kC M n (fun c=>exec (.AugAssign (.Name x q) op e pos) c.env) ls J) :=
 OB.gd fun h0=>OB.ob fun a h1=>OB.obp fun b σ1 h2=>OB.ob fun r h3=>OB.ob fun ls1 h4=>OB.pure fun {c A s m imm cs Q E} C l Rp k=>by
  replace h0:=aw h0;apply af (Rp.l x a h1);intro val v1 v2;apply ej c.parts;intro p1 p2 p3 p4;refine wpAny_AugAssign_Name (wpAny_loadName_local (by rw[p1];exact C.k) (by unfold Env.kindOf;rw[p1];exact l.lo x a h1) (by rw[p2];exact Rp.F.ns) v1 ?_);refine I.ev h2 C l Rp fun hx tx ix cx va Rx xx qx=>?_;refine Ae hb h0.2 h3 (v2.ext xx) qx fun tk val2 q2=>?_;exact EO h4 C l Rx q2 fun h' tk' m' R' l'=>k h' tk' m' ix cx _ R' l' xx .next
def R0(hb:aU Y.B M.Z)(hy:∀ C c,Y.ci C=some c→dC M C c)(I:aS M n R):OB (Hu Y R ls J o x op e) (kC M n (fun c=>exec (.AugAssign (.Attribute o x q) op e pos) c.env) ls J) :=
 OB.gd fun h0=>OB.obp fun ov σ1 h1=>OB.ob fun kk h2=>OB.ob fun a h3=>OB.obp fun b σ2 h4=>OB.ob fun r h5=>OB.ob fun σ3 h6=>OB.pure fun {c A s m imm cs Q E} C l Rp k=>by
  (obtain e:=ka h2;subst e);refine wpAny_AugAssign_AttributeAny (I.ev h1 C l Rp fun hx tx ix cx va Rx xx qx=>?_);refine IK hy h3 C Rx qx fun ha ta ia ca vo Ra xa qa=>?_;refine I.ev h4 C l Ra fun hz tz iz cz vb Rz xz qz=>?_;refine Ae hb h0 h5 (qa.ext xz) qz fun tk val2 q2=>?_;refine EM hy h6 C Rz (qx.ext (xa.trans xz)) q2 fun h' tk' i2 c2 R2 x2=>?_;exact k h' tk' m i2 c2 _ R2 l (xx.trans (xa.trans (xz.trans x2))) .next
def UE(hb:aU Y.B M.Z)(hpi:tq M)(hgi:zo M Y.B)(I:aS M n R):OB (F1 Y R ls J o i op e) (kC M n (fun c=>exec (.AugAssign (.Subscript o i q) op e pos) c.env) ls J) :=
 OB.gd fun h0=>OB.obp fun ov σ1 h1=>OB.obp fun iv σ2 h2=>OB.ob fun kk h3=>OB.ob fun xs h4=>OB.ob fun j h5=>OB.ob fun pl h6=>OB.ob fun a h7=>OB.obp fun b σ3 h8=>OB.ob fun r h9=>OB.ob fun ys h10=>OB.ob fun q2 h11=>OB.pure fun {c A s m imm cs Q E} C l Rp k=>by
  (obtain e:=ka h3;subst e);replace h0:=aw h0;have h02:=aw h0.2;refine wpAny_AugAssign_Subscript_any (I.ev h1 C l Rp fun hx tx ix cx va Rx xx qx=>?_) (fun ov iv new=>by
   induction i using PySem.Expr.casesOn<;>first|rfl|(exact Bool.noConfusion h02.1)|(exact Bool.noConfusion h02.2))
  refine I.ev h2 C l Rx fun hy' ty iy cy vi Ry xy qy=>?_;have hsub:mc Y.B σ2 (.cell kk) iv=some a:=by
   apply af (lK h5);intro li e0 hl;subst e0;show xe σ2 kk li=some a;unfold xe;rw[kI h4];show (ob li.conc _)=_;rw[hl];show (ob (place (lenA xs) j) _)=_;rw[h6];exact h7
  refine hgi hsub C Ry (qx.ext xy) qy fun to vo qo=>?_;refine I.ev h8 C l Ry fun hz tz iz cz vb Rz xz qz=>?_;refine Ae hb h0.1 h9 (qo.ext xz) qz fun tk val2 qq=>?_;refine hpi (kI h10) h5 h11 C Rz (qx.ext (xy.trans xz)) (qy.ext xz) qq fun h' tk' c2 R2 x2=>?_;exact k h' tk' m iz c2 _ R2 l (xx.trans (xy.trans (xz.trans x2))) .next
def Pw(I:aS M n R)(S:iP M n R):OB (HS R ls J t b o) (kC M n (fun c=>exec (.If t b o pos) c.env) ls J) :=
 OB.obp fun q σ1 h1 z h=>by
  intro c A s m imm cs Q E C l Rp k;refine wpAny_If (I.tst h1 C l Rp fun hx tx ix cx x Rx xx qx=>?_);cases qx;induction q using oB with
  |true=>exact S.exs h C l Rx fun h2 t2 m2 i2 c2 fl R2 l2 x2 f2=>k h2 t2 m2 i2 c2 fl R2 l2 (xx.trans x2) f2
  |false=>exact S.exs h C l Rx fun h2 t2 m2 i2 c2 fl R2 l2 x2 f2=>k h2 t2 m2 i2 c2 fl R2 l2 (xx.trans x2) f2
def PE(S:iP M n R):OB (B6 R ls J t b o) (kC M n (fun c=>exec (.While t b o pos) c.env) ls J) :=
 OB.gd fun h0 z h=>by
  have ho:o=[]:=by induction o using oL with|nil=>rfl|cons=>injection h0
  clear h0;subst ho;intro c A s m imm cs Q E C l Rp k;exact wpAny_While (S.wh h C l Rp k)
def JP(I:aS M n R)(hfo:yj M n R):OB (Ik R ls J t it b o) (kC M n (fun c=>exec (.For t it b o pos) c.env) ls J) :=
 OB.gd fun h0=>OB.obp fun v σ1 h1=>OB.ob fun i h2 z h=>by
  simp only [Wj] at h0;apply ay h0;intro hq10 g3;apply ay hq10;intro g1 g2;have ho:o=[]:=by induction o using oL with|nil=>rfl|cons=>injection g1
  clear h0 hq10 g1;subst ho;intro c A s m imm cs Q E C l Rp k;show wpAny _ _ (exec (.For t it b [] pos) c.env) _ _ _;rw[exec_For];refine Wg (Wt (Wg (I.ev h1 C l Rp fun hx tx ix cx va Rx xx qx=>?_)));exact hfo h2 h C l Rx qx g2 g3 fun h' tk m' i2 c2 fl R2 l2 x2 f2=>k h' tk m' i2 c2 fl R2 l2 (xx.trans x2) f2
def M4(hb:aU Y.B M.Z)(hy:∀ C c,Y.ci C=some c→dC M C c)(hpi:tq M)(hgi:zo M Y.B)(I:aS M n R)(S:iP M n R)
  (hfo:yj M n R) {ls':ac} {J':St} {st:Stmt} {f:Fl} (h:GH Y R ls J st=some (f,ls',J')):bG M n (fun c=>exec st c.env) ls J f ls' J':=by
 induction st using PySem.Stmt.casesOn with
 |Expr e pos=>exact DF I _ h
 |Pass pos=>(apply r3 h);exact fun {c A s m imm cs Q E} C l Rp k=>wpAny_Pass (k s.heap s.toks m imm cs _ Rp l (aE.refl ..) .next)
 |Return e pos=>exact IA I _ h
 |Assign ts e pos=>exact BX I S _ h
 |AugAssign t op e pos=>
  induction t using PySem.Expr.casesOn with
  |Name x q=>exact Cc hb I _ h
  |Attribute o x q=>exact R0 hb hy I _ h
  |Subscript o i q=>exact UE hb hpi hgi I _ h
  |_=>injection h
 |If t b o pos=>exact Pw I S _ h
 |While t b o pos=>
  have D:kC M n (fun c=>exec (.While t b o pos) c.env) ls J (f,ls',J'):=PE S _ h;exact @D
 |For t it b o pos=>
  have D:kC M n (fun c=>exec (.For t it b o pos) c.env) ls J (f,ls',J'):=JP I hfo _ h;exact @D
 |_=>injection h
end
end
section
variable {imm imm':Δ}
section
variable (hi:∀ p∈imm,cF p.2=false→p∈imm')
include hi
theorem VR.drop:VR M imm ρ v x→VR M imm' ρ v x:=VR.all (n:=0) (q:=false) hi (fun U U U h=>h) (fun h=>Bool.noConfusion h)
theorem aj.drop:aj M imm ρ v x→aj M imm' ρ v x:=aj.all (n:=0) (q:=false) hi (fun U U U h=>h) (fun h=>Bool.noConfusion h)
theorem aT.drop:aT M imm ρ v x→aT M imm' ρ v x:=aT.all (n:=0) (q:=false) hi (fun U U U h=>h) (fun h=>Bool.noConfusion h)
theorem CR.drop(h:CR M imm ρ c x):CR M imm' ρ c x :=
 CR.casesOn h (fun h k=>.list (h.drop hi) k) (fun h g k=>.rows h g k) (fun h g k=>.inst (h.drop hi) g k) .any (fun e k h g=>.spl e k (h.drop hi) g) (fun h g=>.seg (h.drop hi) g) fun e k h=>.hd e k (h.drop hi)
theorem aN.drop(h:aN M imm ρ c x):aN M imm' ρ c x:=by
 induction h with
 |nil=>exact .nil
 |cons h _ ih=>exact .cons (h.drop hi) ih
end
noncomputable def k7(S:List Addr)(imm:Δ):Δ:=imm.filter fun q=>!S.contains q.1
def iN:q∈k7 S imm↔q∈imm∧q.1 ∉ S:=by
 unfold k7;rw[List.mem_filter];simp
variable {I:Addr}
abbrev sX (S:List Addr) (imm:Δ):Prop:=∀ I∈S,∃ o,(I,o)∈imm∧cF o=true
def sX.one(hI:(I,o)∈imm)(ho:cF o=true):sX [I] imm:=fun U h=>bU h▸⟨o,hI,ho⟩
def nK(h:b≠I):b ∉ [I]:=fun q=>h (bU q)
def ai.keepsIters(R:ai M h₀ L h m ls J imm cs)(hS:sX S imm):∀ p∈imm,cF p.2=false→p∈k7 S imm:=fun p hp q=>by
 refine iN.mpr ⟨hp,fun e=>?_⟩;apply af (hS _ e);intro o hI ho;have h1:=(R.N p (aK _ hp)).1;rw[(R.N _ (aK _ hI)).1] at h1;(apply j1 h1;clear h1;rintro rfl);rw[ho] at q;injection q
def ai.keepsIter(R:ai M h₀ L h m ls J imm cs)(hI:(I,o)∈imm)(ho:cF o=true):∀ p∈imm,cF p.2=false→p∈k7 [I] imm:=R.keepsIters (.one hI ho)
def ai.dropIters(R:ai M h₀ L h m ls J imm cs)(hS:sX S imm)(hx:∀ b x,b ∉ S→h.get? b=some x→h'.get? b=some x):ai M h₀ L h' m ls J (k7 S imm) cs:=by
 have hd:=R.keepsIters hS;have nd:=R.nd;rw[Wl] at nd;refine⟨⟨?_,fun b x e=>hx b x (fun z=>?_) (R.F.keep b x e),R.F.above⟩,fun q hq=>?_,?_,R.C.drop hd,fun x v hv=>?_⟩
 ·apply jo R.F.ns;intro oL es ep hL r
  refine⟨oL,es,ep,hx L oL (fun z=>?_) hL,r⟩;apply af (hS _ z);intro o hI _;exact(R.N _ (aK _ hI)).2.1 rfl
 ·apply af (hS _ z);intro o hI _
  rw[(R.N _ (aK _ hI)).2.2] at e;injection e
 ·rcases cZ hq with a|a
  ·have:=iN.mp a
   have N:=R.N q (aK _ this.1);exact⟨hx _ _ this.2 N.1,N.2⟩
  ·have N:=R.N q (bF _ a)
   refine⟨hx _ _ (fun z=>?_) N.1,N.2⟩;apply af (hS _ z);intro o hI _;exact(List.nodup_append.mp nd).2.2 q.1 (WY.mpr ⟨_,hI,rfl⟩) q.1 (Ws a) rfl
 ·exact R.nd.sublist ((List.filter_sublist.append (List.Sublist.refl _)).map _)
 ·apply af (R.l x v hv);intro val a b
  exact⟨val,a,b.drop hd⟩
def ai.dropIter(R:ai M h₀ L h m ls J imm cs)(hI:(I,o)∈imm)(ho:cF o=true)(hx:Heap.ExtBut I h h'):ai M h₀ L h' m ls J (k7 [I] imm) cs:=R.dropIters (.one hI ho) fun b x hb=>hx b x fun e=>hb (e▸.head _)
def ai.addI(R:ai M h₀ L h m ls J imm cs)(hg:h.get? I=some o)(hL:I≠L)(h0:h₀.get? I=none)(hn:I ∉ (imm++aQ cs).map Prod.fst):ai M h₀ L h m ls J ((I,o)::imm) cs:=by
 refine⟨R.F,fun q hq=>?_,WH.mpr ⟨hn,R.nd⟩,R.C.mono (fun U h=>.tail _ h) fun U U h=>h,fun x v hv=>?_⟩
 ·rcases cI hq with rfl|hq
  ·exact⟨hg,hL,h0⟩
  ·exact R.N q hq
 ·apply af (R.l x v hv);intro val a b
  exact⟨val,a,b.mono (fun U h=>.tail _ h) fun U U h=>h⟩
def ai.gone(R:ai M h₀ L h m ls J imm cs)(hI:(I,o)∈imm)(hs:I∈S):I ∉ (k7 S imm++aQ cs).map Prod.fst:=fun hq=>by
 have nd:=R.nd;rw[Wl] at nd;apply af (cC hq);intro q h1 h2;rcases cZ h1 with a|a
 ·exact(iN.mp a).2 (h2▸hs)
 ·exact(List.nodup_append.mp nd).2.2 I (WY.mpr ⟨_,hI,rfl⟩) q.1 (Ws a) h2.symm
def ai.putIter(R:ai M h₀ L h m ls J imm cs)(hI:(I,o)∈imm)(ho:cF o=true)(hx:Heap.ExtBut I h h')(hg:h'.get? I=some o'):ai M h₀ L h' m ls J ((I,o')::k7 [I] imm) cs:=by
 have NI:=R.N _ (aK _ hI);exact(R.dropIter hI ho hx).addI hg NI.2.1 NI.2.2 (R.gone hI (.head _))
structure tv (I:Addr) (imm:Δ) (cs:List CC) (imm':Δ) (cs':List CC):Prop where
 i:∀ p∈imm,p.1≠I→p∈imm'
 r:∀ k a,ao (ae cs) k=some a→ao (ae cs') k=some a
noncomputable def dW(i n:Nat):Obj:={cls:=.type "range_iterator",data:=.fields #[rawInt (i:Int),rawInt (n:Int),rawInt 1]}
inductive iX (imm:Δ) (ρ:List Addr) (I:Addr):It→Prop
 |lst {l k i:Nat} {o:Obj}:(I,o)∈imm→ao ρ k=some l→o.cls=.type "list_iterator"→o.data=.fields #[.ref l,.int i 0]→iX imm ρ I (.lst k i)
 |str {x:Str} {t:Tok} {i:Nat} {ty:String} {o:Obj}:(I,o)∈imm→(ty="str_iterator"∨ty="str_ascii_iterator")→o.cls=.type ty→o.data=.fields #[.str x t,.int i 0]→iX imm ρ I (.vals ((x.cps.toList.drop i).map fun c=>.str [.lit [c]]))
 |rng {i n:Nat}:(I,dW i n)∈imm→iX imm ρ I (.vals (wy i n))
def iX.ext(e:aE imm cs imm' cs'):iX imm (ae cs) I it→iX imm' (ae cs') I it
 |.lst a b c d=>.lst (e.i _ a) (e.r _ _ b) c d
 |.str a b c d=>.str (e.i _ a) b c d
 |.rng a=>.rng (e.i _ a)
noncomputable def lE(o:Obj):Bool:=match o.cls with|.type n=>n == "enumerate"|_=>false
def iX.obj(h:iX imm ρ I it):∃ o,(I,o)∈imm∧(cF o=true∧lE o=false):=by
 cases h with
 |lst a b c d=>exact⟨_,a,by unfold cF lE;rw[c];decide⟩
 |str a b c d=>exact⟨_,a,by unfold cF lE;rw[c];rcases b with rfl|rfl<;>decide⟩
 |rng a=>exact⟨_,a,by dsimp only [cF,lE,dW];decide⟩
def nF{E:Θ}{s:χ}{Q:Unit→χ→Prop}(ht:jv t=true)(ho:s.heap.get? I=some o)(hi:cF o=true∧lE o=false)(k:Q () s):wpAny (model ar M.w) A (letOwnedTupleGo t (.ref I) v) Q E s:=by
 have go:∀ es q p,wpAny (model ar M.w) A (letOwnedTupleGo (.Tuple es q p) (.ref I) v) Q E s:=fun es q p=>by
  unfold letOwnedTupleGo;cases v with
  |ref a=>
   refine Wg (wpAny_load ho ?_);obtain⟨oc,od,odt,osl⟩:=o;dsimp only;unfold cF lE at hi;dsimp only at hi;cases oc with
   |type n=>
    cases odt with
    |fields vs=>
     dsimp only at hi ⊢;have hn:(["enumerate","zip","dict_itemiterator","dict_reverseitemiterator","odict_iterator","itertools.zip_longest","itertools.pairwise"].contains n)=false:=by
      rw[hi.2,Bool.false_or] at hi;replace hi:=hi.1;simp only [Bool.or_eq_true,WB] at hi;rcases hi with rfl|(((rfl|rfl)|rfl)|rfl)<;>decide
     rw[if_neg (by rw[hn,Bool.false_and];exact XH)];exact Wi k
    |_=>exact Wi k
   |_=>injection hi.1
  |_=>exact Wi k
 induction t using PySem.Expr.casesOn with
 |Name x p=>exact Wi k
 |Tuple es q p=>exact go es q p
 |_=>exact Bool.noConfusion ht
def CM(h:ty="str_iterator"∨ty="str_ascii_iterator"){o:Obj}(hc:o.cls=.type ty):cF o=true:=by
 unfold cF;rw[hc];rcases h with rfl|rfl<;>decide
end
section
def aj.item(h:aj M imm ρ vs xs)(i:Nat):match ao xs i with
  |some v=>∃ val,vs[i]?=some val∧VR M imm ρ val v
  |none=>vs[i]?=none:=by
 induction h using aj.ind generalizing i with
 |nil=>rfl
 |cons a _ ih=>
  cases i with
  |zero=>exact⟨_,rfl,a⟩
  |succ i=>exact ih i
def Tx{A:Around}{E:Θ}{s:χ}{Q:κ π→χ→Prop}(hh:A.handled=none)(hty:ty="str_iterator"∨ty="str_ascii_iterator")(hit:s.heap.IsStrIter it ty x t i)
  (h1:∀ c h',x.cps[i]?=some c→h'.IsStrIter it ty x t (i+1)→Heap.SameBut it s.heap h'→Q (some (.str ⟨#[c]⟩ s.toks)) (sU s h' (s.toks+1)))
  (h2:∀ h',x.cps[i]?=none→Heap.ExtBut it s.heap h'→Q none {s with heap:=h'}):wpAny (model ar M.w) A (pyNext (.ref it)) Q E s:=by
 rcases hty with rfl|rfl
 ·cases e:x.cps[i]? with
  |some c=>exact wpAny_pyNext_wide_item hit e fun h' a b=>h1 c h' e a b
  |none=>exact wpAny_pyNext_wide_end hh hit e fun h' a=>h2 h' e a
 ·cases e:x.cps[i]? with
  |some c=>exact wpAny_pyNext_ascii_item hit e fun h' a b=>h1 c h' e a b
  |none=>exact wpAny_pyNext_ascii_end hh hit e fun h' a=>h2 h' e a
def xh(M:aF)(c:Cx)(m:ω)(ls:List (Str×AV))(J:St)(imm:Δ)(cs:List CC)(I:Addr)(s:χ)(Q:κ π→χ→Prop):κ (AV×It)→Prop
 |none=>∀ h' tk imm',ai M c.h₀ c.L h' m ls J imm' cs→(∀ q∈imm,q.1≠I→q∈imm')→Q none (sU s h' tk)
 |some (v,it')=>∀ h' tk imm' val,ai M c.h₀ c.L h' m ls J imm' cs→(∀ q∈imm,q.1≠I→q∈imm')→iX imm' (ae cs) I it'→VR M imm' (ae cs) val v→Q (some val) (sU s h' tk)
section
variable {s:χ}
 (C:aR M c A n) (R:ai M c.h₀ c.L s.heap m ls J imm cs) (a:(I,o)∈imm)
include C R a
def Wc{l:Addr}{kk i:Nat}{xs:List AV}(hx:ao J kk=some (.list xs))(b:ao (ae cs) kk=some l)(c1:o.cls=.type "list_iterator")(d:o.data=.fields #[.ref l,.int i 0])(k:xh M c m ls J imm cs I s Q (pQ kk i xs)):wpAny (model ar M.w) A (pyNext (.ref I)) Q E s:=by
 have ho:cF o=true:=by unfold cF;rw[c1];decide
 apply cj (R.C.cell b hx);intro dd pre post e0 hl e2 cr;subst e0;apply dj cr.list_inv;intro a2 vs nn e0 hvs hsz;subst e0;replace e2:=e2;subst e2;have hL:s.heap.IsList a2 vs.toArray:=⟨_,(R.N _ (R.has (.head _))).1,rfl,_,rfl⟩;have hit:s.heap.IsListIter I a2 i:=⟨o,(R.N _ (aK _ a)).1,c1,d⟩;have hrel:=hvs.item i;unfold pQ at k;cases hv:ao xs i with
 |some v=>
  rw[hv] at hrel k;apply af hrel;intro val g1 g2;refine wpAny_pyNext_list_item hit hL (by rw[Ww];exact g1) fun h' hit' hs=>?_;apply db hit';intro o' ho' hc' hd';refine k h' s.toks _ val (R.putIter a ho hs.extBut ho') (fun q hq hn=>.tail _ (iN.mpr ⟨hq,nK hn⟩)) (.lst (.head _) b hc' hd') ?_;exact(g2.drop (R.keepsIter a ho)).mono (fun U h=>.tail _ h) fun U U h=>h
 |none=>
  rw[hv] at hrel k;refine wpAny_pyNext_list_end C.hd hit hL (by rw[Ww];exact hrel) fun h' hs=>?_;exact k h' s.toks _ (R.dropIter a ho hs) fun q hq hn=>iN.mpr ⟨hq,nK hn⟩
def Og{x:Str}{t:Tok}{i:Nat}{ty:String}(b:ty="str_iterator"∨ty="str_ascii_iterator")(c1:o.cls=.type ty)(d:o.data=.fields #[.str x t,.int i 0])(k:xh M c m ls J imm cs I s Q (z7 ((x.cps.toList.drop i).map fun c=>.str [.lit [c]]))):wpAny (model ar M.w) A (pyNext (.ref I)) Q E s:=by
 have ho:=CM b c1;refine Tx C.hd b (⟨o,(R.N _ (aK _ a)).1,c1,d⟩) (fun cc h' hc hit' hs=>?_) fun h' hc hs=>?_
 ·apply db hit';intro o' ho' hc' hd'
  have e:x.cps.toList.drop i=cc::x.cps.toList.drop (i+1):=by
   have:x.cps.toList[i]?=some cc:=by rw[Array.getElem?_toList];exact hc
   obtain⟨hlt,hv⟩:=Wy.mp this;rw[XM hlt,hv]
  rw[e] at k;refine k h' _ _ _ (R.putIter a ho hs.extBut ho') (fun q hq hn=>.tail _ (iN.mpr ⟨hq,nK hn⟩)) (.str (.head _) b hc' hd') ?_;exact .str rfl (kL [cc]) (show 1≤16777216 by decide)
 ·have e:=by
   have:x.cps.toList[i]?=none:=by rw[Array.getElem?_toList];exact hc
   exact List.drop_eq_nil_iff.mpr (List.getElem?_eq_none_iff.mp this)
  rw[e] at k;exact k h' s.toks _ (R.dropIter a ho hs) fun q hq hn=>iN.mpr ⟨hq,nK hn⟩
end
def OO{s:χ}{Q:κ π→χ→Prop}{E:Θ}
  (C:aR M c A nn) (R:ai M c.h₀ c.L s.heap m ls J imm cs) (a:(I,dW i n)∈imm) (k:xh M c m ls J imm cs I s Q (z7 (wy i n))):wpAny (model ar M.w) A (pyNext (.ref I)) Q E s:=by
 have ho:cF (dW i n)=true:=by dsimp only [cF,dW];decide
 have hg:=(R.N _ (aK _ a)).1;cases n with
 |zero=>exact wpAny_pyNext_range_end C.hd hg (bO _) fun h' hs=>k h' s.toks _ (R.dropIter a ho hs) fun q hq hn=>iN.mpr ⟨hq,nK hn⟩
 |succ n=>
  refine wpAny_pyNext_range_item hg (Int.ofNat_lt.mpr (Xy _)) fun h' hit' hs=>?_;have hit':=by
   have e2:(i:Int)+1=((i+1:Nat):Int):=Int.natCast_add _ _;replace hit':=hit';rw[sS _,e2] at hit';exact hit'
  exact k h' _ _ _ (R.putIter a ho hs.extBut hit') (fun q hq hn=>.tail _ (iN.mpr ⟨hq,nK hn⟩)) (.rng (.head _)) (.int (bH _).symm)
def uX(h:mN J it=some r){s:χ}{Q:κ π→χ→Prop}{E:Θ}
  (C:aR M c A n) (R:ai M c.h₀ c.L s.heap m ls J imm cs) (hi:iX imm (ae cs) I it) (k:xh M c m ls J imm cs I s Q r):wpAny (model ar M.w) A (pyNext (.ref I)) Q E s:=by
 cases hi with
 |lst a b c1 d=>
  apply aG h;clear h;intro xs hx h;rw[←bM h] at k;exact Wc C R a (kI hx) b c1 d k
 |str a b c1 d=>rw[←bM h] at k;exact Og C R a b c1 d k
 |rng a=>rw[←bM h] at k;exact OO C R a k
end
section
def sQ(M:aF)(n:Nat)(fo:ac→St→Expr→It→List Stmt→κ (Fl×ac×St)):Prop :=
 ∀ {ls J it t b f ls' J'},fo ls J t it b=some (f,ls',J')→jv t=true→∀ {c A s m imm cs I} {Rq:Result→χ→Prop},aR M c A n→bL c ls→ai M c.h₀ c.L s.heap m ls.v J imm cs→iX imm (ae cs) I it →
  (∀ h' tk m' imm' cs' fl,ai M c.h₀ c.L h' m' ls'.v J' imm' cs'→bL c ls'→tv I imm cs imm' cs'→FR M imm' cs' fl f→Rq (.ok fl) (sU s h' tk))→codeAny (model ar M.w) A (.forLoop t (.ref I) b [] c.env) Rq s
def V2(S:iP M n R)(F:sQ M n R.fo):sQ M n (Gv Y R):=by
 intro ls J it t b f ls' J' h hn c A s m imm cs I Rq C l Rp hi k;apply aG h;clear h;intro r h1 h;refine kE (uX h1 C Rp hi ?_);induction r using oO with
 |none=>
  (apply j3 h;rintro rfl rfl rfl);intro h' tk imm' R' x';exact wpAny_execs_nil (k h' tk m imm' cs _ R' l ⟨x',fun U U h=>h⟩ .next)
 |some q=>
  obtain⟨v,it'⟩:=q;apply bK h;clear h;intro ls1 σ1 h2 h;apply xX h;clear h;intro f1 ls2 σ2 h3 h;intro h' tk imm' val R' x' i' hv;apply af i'.obj;intro o1 o2 o3;refine nF hn (R'.N _ (aK _ o2)).1 o3 ?_;refine S.asg h2 C l R' hv fun ha ta ma ia ca Ra la xa=>?_;refine S.exs h3 C la Ra fun hz tz mz iz cz fl Rz lz xz fz=>?_;have xt:=xa.trans xz;have xI:tv I imm cs iz cz:=⟨fun q hq hne=>xt.i q (x' q hq hne),xt.r⟩;have again:R.fo ls2 σ2 t it' b=some (f,ls',J')→codeAny (model ar M.w) A (.forLoop t (.ref I) b [] c.env) Rq (sU s hz tz):=fun h=>
   F h hn C lz Rz (i'.ext xt) fun h2 t2 m2 i2 c2 fl R2 l2 x2 f2=>k h2 t2 m2 i2 c2 fl R2 l2 ⟨fun q hq hne=>x2.i q (xI.i q hq hne) hne,fun k a h=>x2.r k a (xI.r k a h)⟩ f2
  induction f1 using Fl.casesOn with
  |next=>(obtain e:_=_:=FR.inv fz;clear fz;subst e);exact again h
  |ret v=>(apply j3 h;rintro rfl rfl rfl);apply af (FR.inv fz);intro _ e0 hv;clear fz;subst e0;exact k hz tz mz iz cz _ Rz lz xI (.ret hv)
def tT{s:SS}(h:s.conc=some l):s.val M.Z=l:=by rw[ji h]
def AE(a j:Nat):Builtin.Range.rangeSize (a:Int) ((a+j:Nat):Int) 1=(j:Int):=by
 rw[rangeSize_one]
 split<;>lia
set_option tactic.hygienic true in
def EG{R:aM}(F:sQ M n R.fo):yj M n R:=by
 intro ls J v it t b f ls' J' hi h c A s m imm cs va ex Q E C l Rp hv hs hn k;have hfold:foldedSetIterable ex c.env va=pure va:=by
  induction ex using PySem.Expr.casesOn<;>first|rfl|(exact Bool.noConfusion hs)
 refine Wg (uE hfold (Wi (Wg (Wt (Wg (Wo ?_))))));have go:∀ {o:Obj},cF o=true→o.isFreed=false→iX ((s.heap.objs.size,o)::imm) (ae cs) s.heap.objs.size it→wpAny (model ar M.w) A (runOwn (.forLoop t (.ref s.heap.objs.size) b [] c.env) c.env) Q E {s with heap:=s.heap.push o}:=by
  intro o ho hfr hit;refine wpAny_runOwn (F h hn C l (Rp.newI o hfr) hit fun h' tk m' imm' cs' fl R' l' x' f'=>?_);refine k h' tk m' imm' cs' fl R' l' ⟨fun q hq=>x'.i q (.tail _ hq) fun e=>?_,x'.r⟩ f';have:=WI (Rp.N q (aK _ hq)).1;rw[e] at this;exact X0 _ this
 induction v using AV.casesOn with
 |cell kk=>
  apply aG hi;clear hi;intro xs hx hi;(apply j1 hi;clear hi;rintro rfl);apply af hv.cell_inv;intro a e0 ha;subst e0;apply cj (Rp.C.cell ha (kI hx));intro dd pre post e0 hl e2 cr;subst e0;apply dj cr.list_inv;intro a2 vs nn e0 hvs hsz;clear hvs;subst e0;replace e2:=e2;subst e2;refine wpAny_pyIter_list ⟨_,(Rp.N _ (Rp.has (.head _))).1,rfl,_,rfl⟩ ?_;exact go (by dsimp only [cF];decide) rfl (.lst (.head _) ha rfl rfl)
 |str ss=>
  apply aG hi;clear hi;intro q hq hi;(apply j1 hi;clear hi;rintro rfl);apply af hv.str_inv;intro tt e0 hok;clear hfold hv;subst e0;have e:(ba (ss.val M.Z)).cps.toList.drop 0=q:=by rw[List.drop_zero,tT hq];rfl
  have go2:∀ ty,(ty="str_iterator"∨ty="str_ascii_iterator")→wpAny (model ar M.w) A (runOwn (.forLoop t (.ref s.heap.objs.size) b [] c.env) c.env) Q E {s with heap:=s.heap.push {cls:=.type ty,data:=.fields #[.str (ba (ss.val M.Z)) tt,.int 0 0]}}:=fun ty hty=>by
   refine go (CM hty rfl) rfl ?_;have:=iX.str (imm:=(s.heap.objs.size,({cls:=.type ty,data:=.fields #[.str (ba (ss.val M.Z)) tt,.int 0 0]}:Obj))::imm) (ρ:=ae cs) (.head _) hty rfl rfl;rw[e] at this;exact this
  cases ha:(ba (ss.val M.Z)).cps.all (·<128) with
  |true=>exact wpAny_pyIter_ascii ha (go2 _ (.inr rfl))
  |false=>exact wpAny_pyIter_wide ha (go2 _ (.inl rfl))
 |rng i n=>
  (apply j1 hi;clear hi;rintro rfl);apply lw hv.inv;intro aa tt uu vv e0 hb hle;clear hfold hv;subst e0
  ·have hsz:=AE i n
   refine wpAny_pyIter_range ((Rp.N _ (aK _ hb)).1) ?_ ?_
   ·exact small_one (cT _) (Xe (bw (WZ (W0 _ _) hle)) (by decide)) (cT _) (Xe (X5 hle) (by decide))
   ·rw[hsz]
    exact go (by dsimp only [cF];decide) rfl (.rng (.head _))
 |_=>injection hi
end
section
def aE.snoc(imm:Δ)(cs:List CC)(d:CC):aE imm cs imm (cs++[d]):=⟨fun U h=>h,fun k a h=>by rw[ku];exact oa h⟩
def ai.newL(R:ai M h₀ L h m ls J imm cs)(hv:aj M imm (ae cs) vs xs)(hn:xs.length≤200000) :
  ai M h₀ L (h.push (listOf vs.toArray 0)) m ls (J++[.list xs]) imm (cs++[.list h.objs.size vs 0]):=by
 have e:=aE.snoc imm cs (.list h.objs.size vs 0);refine⟨R.F.push _,fun q hq=>?_,?_,(R.C.mono e.i e.r).snoc (.list (hv.ext e) hn),fun x v hx=>?_⟩
 ·have hq':q∈(h.objs.size,listOf vs.toArray 0)::(imm++aQ cs):=by
   rw[jJ,←bP] at hq;rcases cZ hq with a|a
   ·exact .tail _ a
   ·have:q∈[(h.objs.size,listOf vs.toArray 0)]:=by simpa [aQ,CC.objs] using a
    rw[bU this];exact .head _
  exact(R.N.push R.F (listOf vs.toArray 0)) q hq'
 ·rw[jJ,←bP,Wl]
  refine List.nodup_append.mpr ⟨R.nd,WH.mpr ⟨WA,.nil⟩,fun a ha b hb=>?_⟩;replace hb:=bU hb;rw[hb];exact WV (R.lt ha)
 ·apply af (R.l x v hx);intro val a b
  exact⟨val,a,b.ext e⟩
def DS{h:Heap}(C:aN M imm ρ cs J):VR M imm (ae (cs++[.list h.objs.size vs 0])) (.ref h.objs.size) (.cell (lenA J)):=by
 refine .cell ?_;rw[ku,aZ,←C.len];have:=Bq (ae cs) h.objs.size
 rwa [show (ae cs).length=cs.length from Wr ..] at this
def Pg(I:aS M n R)
  (h:Eu R ls J es=some (r,J')):cS M n (fun c=>eval (.List es pos) c.env) ls J r J':=by
 apply bK h;clear h;intro vs σ1 h1 h;apply bC h;clear h;intro h2 h;(apply r2 h;clear h);apply ay (I.evs h1);intro ns g;have hz:=nleT h2;rw[aZ] at hz;intro c A s m imm cs Q E C l Rp k;refine Wg (Wt (Wg ?_));rw[m9 pos ns.1];refine g C l Rp fun hx tx ix cx x Rx xx qx=>wpAny_newList ?_ (by rw[qx.len,WS];exact W2 hz);exact k _ tx _ _ _ (Rx.newL qx (W2 hz)) (xx.trans (aE.snoc ..)) (DS Rx.C)
def aj.app(g:aj M imm ρ vs xs)(h:aj M imm ρ us ys):aj M imm ρ (vs++us) (xs++ys):=by
 induction g using aj.ind with
 |nil=>exact h
 |cons a _ ih=>exact .cons a ih
def IN(hx:ao J k=some (.list xs))(hz:lenA xs≤100000){s:χ}{Q E:Θ}
  (_C:aR M c A n) (R:ai M c.h₀ c.L s.heap m ls J imm cs) (ho:VR M imm (ae cs) va (.cell k)) (hv:VR M imm (ae cs) val v)
  (kk:∀ h' imm' cs',ai M c.h₀ c.L h' m ls (dT J k (.list (xs++[v]))) imm' cs'→aE imm cs imm' cs'→Q .none {s with heap:=h'}):wpAny (model ar M.w) A (call (.builtin "list.append") [va,val] []) Q E s:=by
 apply af ho.cell_inv;intro a e0 ha;subst e0;apply cj (R.C.cell ha hx);intro d pre post e0 l e2 cr;subst e0;apply dj cr.list_inv;intro b vs nn e0 hvs hsz;subst e0;(obtain e:=CC.same e2;subst e);rw[aZ] at hz;have e:∀ z:List π×Nat,imm++aQ (pre++CC.list b z.1 z.2::post)=(imm++aQ pre)++(b,listOf z.1.toArray z.2)::aQ post:=fun z=>by rw[k6];simp [CC.objs]
 have N:=R.N;have nd:=R.nd;rw[e (vs,nn)] at N nd;refine append_K R.F N (oA nd) (fun h' F' N'=>?_) (by rw[Wv,hvs.len,WS];exact W2 hz);refine kk h' imm (pre++CC.list b (vs++[val]) (nn+1)::post) ?_ (aE.put imm pre post _ _ rfl);rw[←l];refine R.put rfl rfl F' (by have z:=e (vs++[val],nn+1);rw[z];rw[List.push_toArray] at N';exact N') (.list (hvs.app (.cons hv .nil)) (by rw[aB,Xq];exact W8 hz (nleT rfl)))
def TA(hx:ao J k=some (.spl i xs))(hz:lenA xs≤10000){s:χ}{Q E:Θ}
  (_C:aR M c A n) (R:ai M c.h₀ c.L s.heap m ls J imm cs) (ho:VR M imm (ae cs) va (.cell k)) (hv:VR M imm (ae cs) val v)
  (kk:∀ h' imm' cs',ai M c.h₀ c.L h' m ls (dT J k (.spl i (xs++[v]))) imm' cs'→aE imm cs imm' cs'→Q .none {s with heap:=h'}):wpAny (model ar M.w) A (call (.builtin "list.append") [va,val] []) Q E s:=by
 apply af ho.cell_inv;intro a e0 ha;subst e0;apply cj (R.C.cell ha hx);intro d pre post e0 l e2 cr;subst e0;apply kb cr.spl_inv;intro b us vs nn e0 hi hu hvs hsz;subst e0;(obtain e:=CC.same e2;subst e);rw[aZ] at hz;have e:∀ z:List π×Nat,imm++aQ (pre++CC.list b z.1 z.2::post)=(imm++aQ pre)++(b,listOf z.1.toArray z.2)::aQ post:=fun z=>by rw[k6];simp [CC.objs]
 have N:=R.N;have nd:=R.nd;rw[e (us++vs,nn)] at N nd;refine append_K R.F N (oA nd) (fun h' F' N'=>?_) (by rw[Wv,aB,hvs.len,WS];exact WZ (Xb hu hz) (nleT rfl));refine kk h' imm (pre++CC.list b (us++(vs++[val])) (nn+1)::post) ?_ (aE.put imm pre post _ _ rfl);rw[←l];refine R.put rfl rfl F' (by have z:=e (us++(vs++[val]),nn+1);rw[z,←bP us];rw[List.push_toArray] at N';exact N') (.spl hi hu (hvs.app (.cons hv .nil)) (by rw[aB,Xq];exact W8 hz (nleT rfl)))
def PT(hx:ao J k=some (.rows t q))(hz:q.val M.Z≤1000000){s:χ}{Q E:Θ}
  (_C:aR M c A n) (R:ai M c.h₀ c.L s.heap m ls J imm cs) (ho:VR M imm (ae cs) va (.cell k)) (hv:VR M imm (ae cs) val (.str r))
  (kk:∀ h' imm' cs',ai M c.h₀ c.L h' m ls (dT J k (.rows (t.app r) (q.add (.k 1)))) imm' cs'→aE imm cs imm' cs'→Q .none {s with heap:=h'}):wpAny (model ar M.w) A (call (.builtin "list.append") [va,val] []) Q E s:=by
 apply af ho.cell_inv;intro a e0 ha;subst e0;apply cj (R.C.cell ha hx);intro d pre post e0 l e2 cr;subst e0;apply cj cr.rows_inv;intro b vs nn e0 hvs hok hsz;clear ho;subst e0;(obtain e:=CC.same e2;clear e2 ha;subst e);apply af hv.str_inv;intro tt e0 hro;clear hv;subst e0;have e:∀ z:List π×Nat,imm++aQ (pre++CC.list b z.1 z.2::post)=(imm++aQ pre)++(b,listOf z.1.toArray z.2)::aQ post:=fun z=>by rw[k6];simp [CC.objs]
 have N:=R.N;have nd:=R.nd;rw[e (vs,nn)] at N nd;refine append_K R.F N (oA nd) (fun h' F' N'=>?_) (by rw[Wv,WS];exact WZ ((Int.ofNat_le).mp (W3 hsz hz)) (nleT rfl));refine kk h' imm (pre++CC.list b (vs++[.str (ba (r.val M.Z)) tt]) (nn+1)::post) ?_ (aE.put imm pre post _ _ rfl);rw[←l];refine R.put rfl rfl F' (by have z:=e (vs++[.str (ba (r.val M.Z)) tt],nn+1);rw[z];rw[List.push_toArray] at N';exact N') (.rows ?_ (kW hok hro) (by rw[aB,Xq,du,bH];exact Int.add_le_add_right hsz _));rw[cE];exact .snoc hvs
end
section
def zx(h:pe i=true):i.natAbs≤1000001:=Nat.le_succ_of_le (nleT h)
set_option tactic.hygienic true in
def Jr(h:pe i=true):Builtin.Int.intBits i≤64:=by
 have:=zx h;unfold Builtin.Int.intBits
 split
 ·exact WK _
 ·rename_i q
  have hz:i.natAbs≠0:=by simpa using q
  have:i.natAbs.log2<63:=(Nat.log2_lt hz).mpr (W8 this (nleT rfl));exact Nat.lt_add_left _ this
def JJ(m:Int):∀ l:List (Nat×Int),cg Z (l.map fun p=>(p.1,p.2*m))=cg Z l*m:=by
 intro L0;induction L0 with
 |nil=>
  exact(Int.zero_mul m).symm
 |cons x0 r ih=>
  obtain⟨v,a⟩:=x0;show a*m*Z.iv v+cg Z (r.map _)=(a*Z.iv v+cg Z r)*m;rw[ih,Int.add_mul,Int.mul_assoc,Int.mul_comm m,←Int.mul_assoc]
def MQ(x:aD)(m:Int):(x.smul m).val Z=x.val Z*m:=by
 show x.c*m+cg Z (x.l.map _)=(x.c+cg Z x.l)*m;rw[JJ,Int.add_mul]
def Jo{x y:aD}(hy:y.conc=some j)(hs:pe j=true):jr M (binaryOp .Mult) (.int x) (.int y) (.int (x.smul j)):=by
 intro A s Q E imm ρ va vb ha hb k;apply bn ha.int_inv;intro t e0;clear ha;subst e0;apply bn hb.int_inv;intro u e0;clear hb;subst e0;rw[gZ hy];exact mul_int (k _ _ (.int (MQ _ _).symm)) (.of_right (Jr hs))
def wC(n:Nat)(l:ξ):(kz n l).length=n*l.length:=by
 induction n with
 |zero=>exact(Nat.zero_mul _).symm
 |succ n ih=>show (l++kz n l).length=_;rw[aB,ih,Nat.succ_mul];exact XA _ _
def C5(l:ξ):∀ (n:Nat) (acc:Array Nat),((List.replicate n l.toArray).foldl (·++·) acc).toList=acc.toList++kz n l
 |0,acc=>(aX _).symm
 |n+1,acc=>by
  rw[List.replicate_succ,List.foldl_cons,C5 l n,Array.toList_append,bP];rfl
set_option tactic.hygienic true in
def FH(l:ξ)(n:Nat):Txt.mul (ba l) (Int.ofNat n)=ba (kz n l):=by
 unfold Txt.mul
 by_cases h1:Int.ofNat n<1
 ·rw[if_pos h1]
  have:=by have:=h1;exact Nat.sub_eq_zero_of_le (Int.ofNat_lt.mp h1)
  clear h1;subst this;rfl
 ·rw[if_neg h1]
  split
  ·rename_i h2
   rcases X6 h2 with h2|h2
   ·have:=Int.ofNat.inj (WB.mp h2)
    clear h1 h2;subst this;show ba l=ba (l++[]);rw[aX]
   ·have:=WB.mp h2
    rw[ft] at this;have:=WJ this;clear h2;subst this;have e:∀ n,kz n ([]:ξ)=[]:=fun n=>by induction n with|zero=>rfl|succ n ih=>exact ih
    rw[e]
  ·show (⟨_⟩ : Str)=⟨_⟩
   congr 1
   apply Array.toList_inj.mp;show ((List.replicate n l.toArray).foldl (·++·) #[]).toList=_;rw[C5 l n #[]];simp
set_option tactic.hygienic true in
def Ed{l:ξ}(h:n*l.length≤1000000)(hn:n≤1000001):MulOk (ba l) (Int.ofNat n):=by
 refine⟨?_,fun _ _=>?_,fun _ _=>?_⟩
 ·have h2:¬ ((n:Int) < -(2 ^ 63)):=Int.not_lt.mpr (W3 (by decide) (cT _))
  simp;exact Xe (X5 hn) (by decide)
 ·rename_i h1 _
  have hn0:=by have:=h1;exact(Int.not_lt.mp h1)
  have:(((ba l).length:Nat):Int)≤(2 ^ 63-1) / (n:Int):=by
   refine Int.le_ediv_of_mul_le hn0 ?_;rw[ft];have:(l.length:Int)*(n:Int)=((n*l.length:Nat):Int):=by rw[Int.natCast_mul,Int.mul_comm]
   rw[this];exact X5 (WZ h (nleT rfl))
  exact Int.not_lt.mpr this
 ·show decide (_>sizeLine)=false
  rw[ft,WS,Wq];have:l.length*(Int.ofNat n).toNat=n*l.length:=by rw[Nat.mul_comm];rfl
  rw[this];exact Nat.not_lt_of_le (WZ h (nleT rfl))
def GR(ch:Nat):∀ n,kz n [ch]=List.replicate n ch
 |0=>rfl
 |n+1=>by show ch::kz n [ch]=_;rw[GR ch n];rfl
def Pb(hb:aU B M.Z)(h:Fq B s b=some r):jr M (binaryOp .Mult) (.str s) b r:=by
 apply aG h;clear h;intro l hl h;apply aG h;intro n e hj;(obtain e:=jR e;subst e);clear h;have put:∀ {ss:SS} {m:Int},n.val M.Z=m→dw M.Z ss→(ss.val M.Z).length≤16777216→MulOk (ba l) m→Txt.mul (ba l) m=ba (ss.val M.Z)→jr M (binaryOp .Mult) (.str s) (.int n) (.str ss):=fun e1 e2 e3 e4 e5=>by
  intro A st Q E imm ρ va vb ha hb' k;apply af ha.str_inv;intro t e0 o1;clear ha;subst e0;apply bn hb'.int_inv;intro u e0;clear hb';subst e0;rw[tT hl,e1];refine SB.mul e4 fun t' k'=>?_;rw[e5];exact k k' _ (.str rfl e2 e3)
 cases hn:n.conc with
 |some m=>
  rw[hn] at hj;cases m with
  |ofNat m=>
   apply bC hj;intro g h;have hz:=uB hb (kL _) h;apply ay (si h);intro e0 _;subst e0;rw[fT,wC] at hz;exact @put (SS.k (kz m l)) _ (gZ hn) (kL _) (by rw[fT,wC];exact W2 hz) (Ed hz (zx g)) (by rw[FH,fT])
  |negSucc m=>injection hj
 |none=>
  rw[hn] at hj;apply aG hj;intro ch h1 h;apply aG h;clear h;intro neg h2 h;apply bC h;clear h;intro h3 h;(obtain e:=rI h1;subst e);have hneg:neg=false:=by induction neg using oB<;>first|rfl|injection h3
  subst hneg;have h0:=by
   have:=vL hb h2;rw[bH 0] at this;simpa using this
  have hso:dw M.Z [.rep ch n]:=fun q hq=>by rw[bU hq];exact h0
  have hz:=uB hb hso h;apply ay (si h);intro e0 _;subst e0;apply bn (Int.eq_ofNat_of_zero_le h0);intro m hm;have hv:SS.val M.Z [.rep ch n]=kz m [ch]:=by
   rw[GR];show List.replicate (n.val M.Z).toNat ch++[]=_;rw[hm,aX];rfl
  rw[hv,wC] at hz;exact @put [.rep ch n] (Int.ofNat m) hm hso (by rw[hv,wC];exact W2 hz) (Ed hz (by simp at hz;exact W2 hz)) (by rw[FH,hv])
end
section
def Mf(h:Dt i=some m):i=Int.ofNat m∧0<m:=by
 cases i with
 |ofNat n=>
  cases n with
  |zero=>injection h
  |succ n=>exact bM h▸⟨rfl,Xy _⟩
 |negSucc n=>injection h
abbrev B2 (M:aF) (op:Operator) (a b r:AV):Prop:=jr M (binaryOp op) a b r
section
def Px(hb:aU B M.Z):OB (C6 B a b) (B2 M .Add a b):=by
 induction a using AV.casesOn with
 |int x=>exact OB.ob fun y h1=>by (obtain e:=jR h1;clear h1;subst e);exact OB.pure fun ha hb2 k=>Qc ha hb2 k
 |str x=>exact OB.ob fun y h1 r h=>by (obtain e:=nA h1;clear h1;subst e);exact fun ha hb2 k=>(OE hb h) ha hb2 k
 |_=>exact OB.no
def Qx:OB (FU a b) (B2 M .Sub a b):=OB.ob fun x h1=>OB.ob fun y h2=>by (obtain e:=jR h1;clear h1;subst e);(obtain e:=jR h2;clear h2;subst e);exact OB.pure fun ha hb2 k=>Tm ha hb2 k
def RJ(hb:aU B M.Z):OB (EU B a b) (B2 M .Mult a b):=by
 induction a using AV.casesOn with
 |int x=>
  exact OB.ob fun j h2=>OB.gd fun h3=>by
   apply af (lK h2);intro y e0 hy;clear h2;subst e0;exact OB.pure fun ha hb2 k=>Jo hy h3 ha hb2 k
 |str s=>exact fun r h=>Pb hb h
 |_=>exact OB.no
def Li:OB (vI a b) (B2 M .Mod a b):=by
 induction a using AV.casesOn with
 |int x=>
  exact OB.ob fun j h2=>OB.ob fun m h4=>OB.gd fun h1=>by
   apply af (lK h2);intro y e0 hy;clear h2;subst e0;apply ay (Mf h4);intro e0 hm;clear h4;subst e0;exact OB.pure fun ha hb2 k=>U9 h1 hy hm ha hb2 k
 |_=>exact OB.no
def Q5(hb:aU B M.Z)(h:lV B op a b=some r):B2 M op a b r:=by
 cases op with
 |Add=>exact Px hb r h
 |Sub=>exact Qx r h
 |Mult=>exact RJ hb r h
 |Mod=>exact Li r h
 |_=>injection h
end
def HX(M:aF):Prop :=
 ∀ {J i j xs ys},ao J i=some (.list xs)→ao J j=some (.list ys)→lenA xs+lenA ys≤100000→∀ {c A s m ls imm cs va vb} {n:Nat} {Q E:Θ},aR M c A n→ai M c.h₀ c.L s.heap m ls J imm cs→VR M imm (ae cs) va (.cell i)→VR M imm (ae cs) vb (.cell j) →
  (∀ h' tk cs' val,ai M c.h₀ c.L h' m ls (J++[.list (xs++ys)]) imm cs'→aE imm cs imm cs'→VR M imm (ae cs') val (.cell (lenA J))→Q val (sU s h' tk))→wpAny (model ar M.w) A (binaryOp .Add va vb) Q E s
def J6(hb:aU Y.B M.Z)(hl:HX M)(I:aS M n R)
  (h:Gx Y R ls J el op er=some (r,J')):cS M n (fun c=>eval (.BinOp el op er pos) c.env) ls J r J':=by
 apply bK h;clear h;intro a σ1 h1 h;apply bK h;clear h;intro b σ2 h2 h;cases q:il a with
 |none=>
  rw[q] at h;apply aG h;clear h;intro r' h3 h;(apply r2 h;clear h);exact VU (I.ev h1) (I.ev h2) (Q5 hb h3)
 |some i=>
  rw[q] at h;(obtain e:=ka q;clear q;subst e);cases op with
  |Add=>
   apply aG h;clear h;intro j h3 h;apply aG h;clear h;intro x h4 h;apply aG h;clear h;intro y h5 h;apply bC h;clear h;intro h7 h;(apply r2 h;clear h);(obtain e:=ka h3;clear h3;subst e);intro c A s m imm cs Q E C l Rp k;refine wpAny_BinOp (I.ev h1 C l Rp fun hx tx ix cx va Rx xx qx=>I.ev h2 C l Rx fun hy ty iy cy vb Ry xy qy=>?_);exact hl (kI h4) (kI h5) (nleT h7) C Ry (qx.ext xy) qy fun h' tk cs' val R' x' q'=>k h' tk iy cs' val R' (xx.trans (xy.trans x')) q'
  |_=>injection h
end
section
def ai.newAt(R:ai M h₀ L h m ls J imm cs){vs:List π}(F:Fr h₀ L h' m)(N:News h₀ L h' ((a,listOf vs.toArray nn)::(imm++aQ cs)))
  (ha:a ∉ (imm++aQ cs).map Prod.fst) (hv:aj M imm (ae cs) vs xs) (hn:xs.length≤200000):ai M h₀ L h' m ls (J++[.list xs]) imm (cs++[.list a vs nn]):=by
 have e:=aE.snoc imm cs (.list a vs nn);refine⟨F,fun q hq=>?_,?_,(R.C.mono e.i e.r).snoc (.list (hv.ext e) hn),fun x v hx=>?_⟩
 ·refine N q ?_
  rw[jJ,←bP] at hq;rcases cZ hq with a2|a2
  ·exact .tail _ a2
  ·have:q∈[(a,listOf vs.toArray nn)]:=by simpa [aQ,CC.objs] using a2
   rw[bU this];exact .head _
 ·rw[jJ,←bP,Wl]
  refine List.nodup_append.mpr ⟨R.nd,WH.mpr ⟨WA,.nil⟩,fun a' ha' b hb=>?_⟩;replace hb:b=a:=bU hb;rw[hb];exact fun e=>ha (e▸ha')
 ·apply af (R.l x v hx);intro val q1 q2
  exact⟨val,q1,q2.ext e⟩
def NW(C:aN M imm ρ cs J):VR M imm2 (ae (cs++[d])) (.ref d.addr) (.cell (lenA J)):=by
 refine .cell ?_;rw[ku,aZ,←C.len];have:=Bq (ae cs) d.addr
 rwa [show (ae cs).length=cs.length from Wr ..] at this
def HU:HX M:=by
 intro J i j xs ys hi hj hz c A s m ls imm cs va vb n Q E C R ha hb k;apply lG (R.lst ha hi);intro a vs n1 pre post e0 e1 _ g1 v1 z1;clear ha;subst e0;apply lG (R.lst hb hj);intro b us n2 pre2 post2 e0 e2 _ g2 v2 z2;clear hb;subst e0;rw[aZ,aZ] at hz;refine add_lists R.F R.N ⟨_,g1,rfl,_,rfl⟩ ⟨_,g2,rfl,_,rfl⟩ (fun h' F' N'=>?_) (by rw[v1.len,v2.len,WS];exact W2 hz);refine k h' s.toks (cs++[.list s.heap.objs.size (vs++us) 0]) _ (R.newAt F' N' (fun q=>X0 _ (R.lt q)) (v1.app v2) (by rw[aB];exact W2 hz)) (aE.snoc ..) (NW R.C)
def M5(hb:aU Y.B M.Z)(I:aS M n R)
  (h:ED Y R ls J e=some (r,J')):cS M n (fun c=>eval (.UnaryOp .Not e pos) c.env) ls J r J':=by
 apply bK h;clear h;intro v σ1 h1 h;apply aG h;clear h;intro b h2 h;(apply r2 h;clear h);intro c A s m imm cs Q E C l Rp k;refine Wg (I.ev h1 C l Rp fun hx tx ix cx va Rx xx qx=>Wg (Wt (Wo ?_)));refine Wo ?_;refine Wg ?_;exact An hb h2 qx C Rx fun tk=>Wi (k hx tk ix cx _ Rx xx (.bool _))
def RR:cS M n (fun c=>eval (.UnaryOp .USub (.Constant (.int i) q p2) pos) c.env) ls J (.int (.k (-i))) J:=by
 intro c A s m imm cs Q E C l Rp k;refine Wg (wpAny_Constant_int (Wg (Wt (Wo (PyProof.Rows.neg_int ?_)))));exact k s.heap _ imm cs _ Rp (aE.refl ..) (.int (bH _).symm)
end
section
def oJ(h:place n j=some q):q<n∧((0≤j∧j=(q:Int))∨(j<0∧-(n:Int)≤j∧j+(n:Int)=(q:Int))):=by
 unfold place seqIndex? at h;rw[Option.ite_none_right_eq_some,Wj,decide_eq_true_iff,decide_eq_true_iff] at h;apply ay h;intro hq13 h3;apply ay hq13;intro h1 h2;injection h3 with h3;replace h3:=h3▸(Int.toNat_of_nonneg h1).symm;rw[h3] at h2;refine⟨Int.ofNat_lt.mp h2,?_⟩
 by_cases h0:j<0
 ·rw[if_pos h0] at h1 h3;exact .inr ⟨h0,Int.add_nonneg_iff_neg_le.mp h1,h3⟩
 ·rw[if_neg h0] at h3;exact .inl ⟨Int.not_lt.mp h0,h3⟩
def JW{n:aD}(hx:ao J k=some (.list xs))(hj:n.conc=some j)(hq:place (lenA xs) j=some q)(hr:ao xs q=some r){s:χ}{Q E:Θ}
  (_C:aR M c A d) (R:ai M c.h₀ c.L s.heap m ls J imm cs) (ha:VR M imm (ae cs) va (.cell k)) (hi:VR M imm (ae cs) vi (.int n)) (kk:∀ tk val,VR M imm (ae cs) val r→Q val {s with toks:=tk}):wpAny (model ar M.w) A (getItem va vi) Q E s:=by
 apply lG (R.lst ha hx);intro a vs nn pre post e0 e1 _ g1 v1 z1;clear ha;subst e0;apply bn hi.int_inv;intro t e0;clear hi;subst e0;rw[gZ hj];rw[aZ] at hq;apply ay (oJ hq);intro hlt hcase;have hit:=v1.item q;rw[hr] at hit;apply af hit;intro val i1 i2;have hsz:vs.toArray.size=xs.length:=by rw[Wv,v1.len]
 rcases hcase with ⟨h0,rfl⟩|⟨h0,h1,h2⟩
 ·exact wpAny_getItem_list ⟨_,g1,rfl,_,rfl⟩ h0 (Int.lt_of_lt_of_le (Int.ofNat_lt.mpr hlt) (W3 (X5 z1) (by decide))) (by rw[Ww];exact i1) (kk s.toks val i2)
 ·exact wpAny_getItem_list_neg ⟨_,g1,rfl,_,rfl⟩ h0 (by rw[hsz];exact h1) (by lia) (by rw[hsz,h2,Ww];exact i1) (kk s.toks val i2)
def zE(h:place n (-1)=some q):q+1=n:=by
 apply ay (oJ h);intro hlt hcase;rcases hcase with ⟨h0,h1⟩|⟨h0,h1,h2⟩<;>lia
def Uh(m:Nat):(-1+((m+1:Nat):Int)).toNat=m:=by
 rw[X1];exact congrArg Int.toNat (Int.add_neg_cancel_right m 1)
def Jf{n:aD}(hx:ao J k=some (.spl i xs))(hj:n.conc=some (-1))(hq:place (lenA xs) (-1)=some q)(hr:ao xs q=some r){s:χ}{Q E:Θ}
  (_C:aR M c A d) (R:ai M c.h₀ c.L s.heap m ls J imm cs) (ha:VR M imm (ae cs) va (.cell k)) (hi:VR M imm (ae cs) vi (.int n)) (kk:∀ tk val,VR M imm (ae cs) val r→Q val {s with toks:=tk}):(∃ T id,s.TypeIs va T∧typeLookup (.type T) "__getitem__"=pure (some (.builtin id)))∧wpAny (model ar M.w) A (getItem va vi) Q E s:=by
 apply af ha.cell_inv;intro a e0 hk;subst e0;apply cj (R.C.cell hk hx);intro dd pre post e0 l e2 cr;subst e0;apply kb cr.spl_inv;intro b us vs nn e0 hu hul v1 z1;subst e0;replace e2:=e2;subst e2;have g1:=(R.N _ (R.has (.head _))).1;apply bn hi.int_inv;intro t e0;subst e0;rw[gZ hj];rw[aZ] at hq;apply ay (oJ hq);intro hlt hcase;have hit:=v1.item q;rw[hr] at hit;apply af hit;intro val i1 i2;have hsz:(us++vs).toArray.size=us.length+xs.length:=by rw[Wv,aB,v1.len]
 have hq1:=zE hq;refine⟨⟨"list",_,⟨_,g1,rfl⟩,slot_list_getitem.lookup⟩,?_⟩;refine wpAny_getItem_list_neg ⟨_,g1,rfl,_,rfl⟩ (by decide) (by rw[hsz,←hq1];exact Int.neg_le_neg (X5 (Xy (us.length+q)))) (cT _) ?_ (kk s.toks val i2);have e:(-1+((us++vs).toArray.size:Int)).toNat=us.length+q:=by rw[hsz,←hq1];exact Uh (us.length+q)
 rw[e,Ww,List.getElem?_append_right (W0 ..),WD];exact i1
def Tv{n:aD}(hx:ao J k=some (.hd i C0 h0))(hj:n.conc=some 0){s:χ}{Q E:Θ}
  (_C:aR M c A d) (R:ai M c.h₀ c.L s.heap m ls J imm cs) (ha:VR M imm (ae cs) va (.cell k)) (hi:VR M imm (ae cs) vi (.int n)) (kk:∀ tk val,VR M imm (ae cs) val (.evx C0 h0)→Q val {s with toks:=tk}):(∃ T id,s.TypeIs va T∧typeLookup (.type T) "__getitem__"=pure (some (.builtin id)))∧wpAny (model ar M.w) A (getItem va vi) Q E s:=by
 apply af ha.cell_inv;intro a e0 hk;subst e0;apply cj (R.C.cell hk hx);intro dd pre post e0 l e2 cr;subst e0;apply dZ cr.inv;intro b v vs nn e0 hu hul v1;clear ha;subst e0;replace e2:=e2;clear hk;subst e2;have g1:=(R.N _ (R.has (.head _))).1;apply bn hi.int_inv;intro t e0;clear hi;subst e0;rw[gZ hj];exact⟨⟨"list",_,⟨_,g1,rfl⟩,slot_list_getitem.lookup⟩,wpAny_getItem_list ⟨_,g1,rfl,_,rfl⟩ (by decide) (by decide) rfl (kk s.toks v v1)⟩
def SI{n:Nat}{j:Int}{q:Nat}(hlt:q<n)(hcase:(0≤j∧j=(q:Int))∨(j<0∧-(n:Int)≤j∧j+(n:Int)=(q:Int))):seqIndex? j n=some q:=by
 rcases hcase with ⟨h0,rfl⟩|⟨h0,h1,h2⟩
 ·exact PySem.seqIndex_of h0 (Int.ofNat_lt.mpr hlt)
 ·rw[PySem.seqIndex_neg h0 h1,h2];rfl
def seqIndex_of(h:place n j=some q):seqIndex? j n=some q:=h
def I9{ss:SS}{n:aD}(hlt:q<(ss.val M.Z).length)(hcase:(0≤n.val M.Z∧n.val M.Z=(q:Int))∨(n.val M.Z<0∧-((ss.val M.Z).length:Int)≤n.val M.Z∧n.val M.Z+((ss.val M.Z).length:Int)=(q:Int)))(hr:(ss.val M.Z)[q]?=some ch){Q E:Θ}
  (ha:VR M imm ρ va (.str ss)) (hi:VR M imm ρ vi (.int n)) (kk:∀ tk val,VR M imm ρ val (.str [.lit [ch]])→Q val {s with toks:=tk}):wpAny (model ar M.w) A (getItem va vi) Q E s:=by
 apply af ha.str_inv;intro t e0 _;subst e0;have hz:=ha.str_len;apply bn hi.int_inv;intro u e0;subst e0;refine P.getItem_str ?_ ?_ (kk _ _ (.str rfl (kL [ch]) (show 1≤16777216 by decide)))
 ·rw[Bool.or_eq_false_iff,Wq,Wq]
  rcases hcase with ⟨h0,h1⟩|⟨h0,h1,h2⟩<;>constructor<;>lia
 ·rw[ft,SI hlt hcase]
  show (ss.val M.Z).toArray[q]?=some ch;rw[Ww];exact hr
def OV(h:FT ss n=some r){Q E:Θ}
  (ha:VR M imm ρ va (.str ss)) (hi:VR M imm ρ vi (.int n)) (kk:∀ tk val,VR M imm ρ val r→Q val {s with toks:=tk}):wpAny (model ar M.w) A (getItem va vi) Q E s:=by
 apply aG h;clear h;intro l q h;apply aG h;intro j e2 hj;apply aG hj;clear hj;intro i hq hj;apply aG hj;clear hj;intro ch e3 hj;(apply j1 hj;clear hj;rintro rfl);rw[aZ] at hq;apply ay (oJ hq);intro hlt hcase;have e:=ji (Z:=M.Z) q;rw[cJ] at e3;exact I9 (by rw[e];exact hlt) (by rw[e,gZ e2];exact hcase) (by rw[e];exact e3) ha hi kk
def UN{n:aD}(hj:n.conc=some j)(hq:place (lenA xs) j=some q)(hr:ao xs q=some r){s:χ}{Q E:Θ}
  (C:aR M c A d) (R:ai M c.h₀ c.L s.heap m ls J imm cs) (hs:pe j=true) (ha:VR M imm (ae cs) va (.tup xs)) (hi:VR M imm (ae cs) vi (.int n)) (kk:∀ tk val,VR M imm (ae cs) val r→Q val {s with toks:=tk}):wpAny (model ar M.w) A (getItem va vi) Q E s:=by
 apply dj ha.tup_inv;intro a vs nn e0 hk v1;clear ha;subst e0;apply bn hi.int_inv;intro t e0;clear hi;subst e0;rw[gZ hj];rw[aZ] at hq;have hit:=v1.item q;rw[hr] at hit;apply af hit;intro val i1 i2;have hsz:vs.toArray.size=xs.length:=by rw[Wv,v1.len]
 have:=zx hs;exact P.getItem_tuple (hk.elim (fun z=>(R.N _ (aK _ z)).1) (fun z=>C.X.keeps R.F.keep _ _ z)) (W3 (by decide) (Int.neg_le_of_neg_le (W3 (Int.natAbs_neg j▸Int.le_natAbs) (bw this)))) (Xe Int.le_natAbs (Xe (bw this) (by decide))) (by rw[hsz];exact seqIndex_of hq) (by rw[Ww];exact i1) (kk s.toks val i2)
end
section
def JQ{Q:Unit→χ→Prop}(hl:s.heap.IsList l items)
  (h0:k<0) (h1 : -(items.size:Int)≤k) (hfit : -(2 ^ 63)≤k) (hx:items[(k+items.size).toNat]?=some x)
  (hQ:∀ h',h'=s.heap.update l (Obj.mapSeq (·.setIfInBounds (k+items.size).toNat v))→Q () {s with heap:=h'}):wpAny (model prog w) A (setItem (.ref l) (.int k t) v) Q E s:=by
 apply Gn (id hl);intro o ho hc ne hd;unfold setItem
 try with_reducible refine Wo ?_
 first|refine Wg (Wi ?_)|skip
 refine Wg (wpAny_sequenceKey hl.typeIs (by decide) ?_);refine Wg (wpAny_callSpecial?_slot hl.typeIs slot_list_setitem
  (wpAny_call_entry slot_list_setitem hl.typeIs entry_list_setitem ?_ (args_list_setitem _ _ _)))
 show wpAny _ _ (Builtin.List.listSubscript? (.int k t) >>= _) _ _ s;refine Wg (wpAny_listSubscript_int (fitsIndex_neg h0 hfit) ?_);clear hfit;have hidx:=seqIndex_neg h0 h1;generalize hq:(k+(items.size)).toNat=q at *
 obtain⟨j,rfl⟩ : ∃ j:Nat,k=Int.negSucc j:=by
  clear h1 hq hidx;cases k with
  |ofNat n=>exact absurd h0 (Int.not_lt.mpr (cT n))
  |negSucc n=>exact⟨n,rfl⟩
 refine Wg (Wg ?_);refine Wg (wpAny_seqItems ho hd (Wi (Wi ?_)));rw[hidx];simp only [Option.bind_some,hx,Option.map_some];refine Wg (wpAny_setSeqItemAt ho hd ?_)
 first
  |exact Wg (Wi (Wi ⟨.none,rfl,Wi (hQ _ rfl)⟩))
  |exact Wi ⟨.none,rfl,Wi (hQ _ rfl)⟩
def Sw{Q:Unit→χ→Prop}(hl:s.heap.IsList l items)
  (h0:0≤k) (hfit:k<2 ^ 63) (hx:items[k.toNat]?=some x)
  (hQ:∀ h',h'=s.heap.update l (Obj.mapSeq (·.setIfInBounds k.toNat v))→Q () {s with heap:=h'}):wpAny (model prog w) A (setItem (.ref l) (.int k t) v) Q E s:=by
 apply Gn (id hl);intro o ho hc ne hd;unfold setItem
 try with_reducible refine Wo ?_
 first|refine Wg (Wi ?_)|skip
 refine Wg (wpAny_sequenceKey hl.typeIs (by decide) ?_);refine Wg (wpAny_callSpecial?_slot hl.typeIs slot_list_setitem
  (wpAny_call_entry slot_list_setitem hl.typeIs entry_list_setitem ?_ (args_list_setitem _ _ _)))
 show wpAny _ _ (Builtin.List.listSubscript? (.int k t) >>= _) _ _ s;refine Wg (wpAny_listSubscript_int (fitsIndex_of h0 hfit) ?_);clear hfit;apply bn (Int.eq_ofNat_of_zero_le h0);intro j e0;clear h0;subst e0;replace hx:items[j]?=some x:=hx;refine Wg (Wg (wpAny_seqItemAt ho hd (Wi ?_)));rw[hx];refine Wg (wpAny_setSeqItemAt ho hd ?_)
 first
  |exact Wg (Wi (Wi ⟨.none,rfl,Wi (hQ _ rfl)⟩))
  |exact Wi ⟨.none,rfl,Wi (hQ _ rfl)⟩
end
section
def aj.set(h:VR M imm ρ v x)(g:aj M imm ρ vs xs)(q:Nat):aj M imm ρ (vs.set q v) (dT xs q x):=by
 induction g using aj.ind generalizing q with
 |nil=>exact .nil
 |cons a g ih=>
  cases q with
  |zero=>exact .cons h g
  |succ q=>exact .cons a (ih q)
def Dk{α:Type}(x:α):∀ (l:List α) (q:Nat),(dT l q x).length=l.length
 |[],_=>rfl
 |_::_,0=>rfl
 |_::r,q+1=>congrArg (·+1) (Dk x r q)
def CZ:tq M:=by
 intro J k xs iv j pl v hx hj hp c A s m ls imm cs va vi val n Q E C R ha hi hv kk;apply lG (R.lst ha hx);intro a vs nn pre post e0 e01 l g1 v1 z1;subst e0;subst e01;apply af (lK hj);intro li e0 hl;subst e0;apply bn hi.int_inv;intro t e0;subst e0;rw[gZ hl];rw[aZ] at hp;apply ay (oJ hp);intro hlt hcase;have hsz:vs.toArray.size=xs.length:=by rw[Wv,v1.len]
 have hlt2:pl<vs.length:=by rw[v1.len];exact hlt
 have hget:vs.toArray[pl]?=some vs[pl]:=by rw[Ww];exact List.getElem?_eq_getElem hlt2
 have e:∀ z:List π×Nat,imm++aQ (pre++CC.list a z.1 z.2::post)=(imm++aQ pre)++(a,listOf z.1.toArray z.2)::aQ post:=fun z=>by rw[k6];simp [CC.objs]
 have N:=R.N;have nd:=R.nd;rw[e (vs,nn)] at N nd;have fin:∀ h',h'=s.heap.update a (Obj.mapSeq (·.setIfInBounds pl val))→Q () {s with heap:=h'}:=fun h' eh=>by
  subst eh;have nd':=nd;rw[Wl] at nd';apply cw (List.nodup_append.mp nd');intro _ nd2 nd3;have ef:∃ n',Obj.mapSeq (·.setIfInBounds pl val) (listOf vs.toArray nn)=listOf (vs.set pl val).toArray n':=by
   refine⟨if (vs.toArray.setIfInBounds pl val).size == vs.toArray.size then nn else nn+1,?_⟩;rw[←(List.setIfInBounds_toArray ..)];rfl
  apply bn ef;clear ef;intro n' ef;apply ay (news_upd R.F N (fun p hp=>nd3 p.1 (Ws hp) a (.head _)) (fun p hp e=>(WH.mp nd2).1 (WY.mpr ⟨p,hp,e⟩)) ef rfl);intro F' N';refine kk _ s.toks (pre++CC.list a (vs.set pl val) n'::post) ?_ (aE.put imm pre post _ _ rfl);rw[←l];refine R.put rfl rfl F' (by have z:=e (vs.set pl val,n');rw[z];exact N') (.list (v1.set hv pl) (by rw[Dk];exact z1))
 rcases hcase with ⟨h0,rfl⟩|⟨h0,h1,h2⟩
 ·exact Sw ⟨_,g1,rfl,_,rfl⟩ h0 (Int.lt_of_lt_of_le (Int.ofNat_lt.mpr hlt) (W3 (X5 z1) (by decide))) hget fin
 ·have hk:(j+(vs.toArray.size:Int)).toNat=pl:=by rw[hsz,h2];rfl
  exact JQ ⟨_,g1,rfl,_,rfl⟩ h0 (by rw[hsz];exact h1) (by lia) (by rw[hk];exact hget) (by rw[hk];exact fin)
end
section
def Om(hj:xe J k nn=some r){s:χ}{Q E:Θ}
  (C:aR M c A n) (R:ai M c.h₀ c.L s.heap m ls J imm cs) (ha:VR M imm (ae cs) va (.cell k)) (hi:VR M imm (ae cs) vi (.int nn)) (kk:∀ tk val,VR M imm (ae cs) val r→Q val {s with toks:=tk}) :
  (∃ T id,s.TypeIs va T∧typeLookup (.type T) "__getitem__"=pure (some (.builtin id)))∧wpAny (model ar M.w) A (getItem va vi) Q E s:=by
 apply aG hj;clear hj;intro cc e1 hj;induction cc using ak.casesOn with
 |list xs=>
  replace hj:=hj;apply aG hj;intro j e2 hj;apply aG hj;intro q hq hj;apply rT (R.lst ha e1);intro a vs n1 pre post e0 _ _ g1 _;exact⟨⟨"list",_,e0▸⟨_,g1,rfl⟩,slot_list_getitem.lookup⟩,JW e1 e2 hq hj C R ha hi kk⟩
 |spl i xs=>
  replace hj:=hj;apply aG hj;clear hj;intro j e2 hj;apply bC hj;clear hj;intro hj1 hj;apply aG hj;clear hj;intro q hq hj;rw[pv] at hj1;replace hj1:=WM hj1;subst hj1;exact Jf e1 e2 hq hj C R ha hi kk
 |hd i C0 h0=>
  replace hj:=hj;apply aG hj;clear hj;intro j e2 hj;apply bC hj;clear hj;intro hj1 hj;(apply j1 hj;clear hj;rintro rfl);rw[pv] at hj1;replace hj1:=WM hj1;subst hj1;exact Tv e1 e2 C R ha hi kk
 |_=>injection hj
def Ce(h:mc B J v i=some r){s:χ}{Q E:Θ}
  (C:aR M c A n) (R:ai M c.h₀ c.L s.heap m ls J imm cs) (ha:VR M imm (ae cs) va v) (hi:VR M imm (ae cs) vi i) (kk:∀ tk val,VR M imm (ae cs) val r→Q val {s with toks:=tk}) :
  (∃ T id,s.TypeIs va T∧typeLookup (.type T) "__getitem__"=pure (some (.builtin id)))∧wpAny (model ar M.w) A (getItem va vi) Q E s:=by
 induction v using AV.casesOn with
 |str ss=>
  apply aG h;intro nn q1 hj;clear h;(obtain e:=jR q1;clear q1;subst e);apply af ha.str_inv;intro t e0 _;exact⟨⟨"str",_,e0▸typeIs_str _ _ _,F.slot_str_getitem.lookup⟩,OV hj ha hi kk⟩
 |cell k=>
  apply aG h;intro nn q1 hj;clear h;(obtain e:=jR q1;clear q1;subst e);exact Om hj C R ha hi kk
 |tup xs=>
  apply aG h;intro nn q1 hj;clear h;apply aG hj;intro j e2 hj;apply bC hj;intro hs hj;apply aG hj;intro q hq hj;(obtain e:=jR q1;clear q1;subst e);apply dj ha.tup_inv;intro a vs nn e0 hk v1;exact⟨⟨"tuple",_,e0▸⟨_,R.kn C.X hk,rfl⟩,F.slot_tuple_getitem.lookup⟩,UN e2 hq hj C R hs ha hi kk⟩
 |_=>injection h
def Pk:zo M B:=fun h=>fun C R ha hi kk=>(Ce h C R ha hi kk).2
set_option tactic.hygienic true in
def ER{E:Θ}{Q:Θ}
  (h:wpAny (model ar M.w) A (eval value env) (fun o s₁=>wpAny (model ar M.w) A (eval slice env) (fun i s₂=>(∃ T id,s₂.TypeIs o T∧typeLookup (.type T) "__getitem__"=pure (some (.builtin id)))∧wpAny (model ar M.w) A (getItem o i) Q E s₂) E s₁) E s) :
  wpAny (model ar M.w) A (eval (.Subscript value slice pos) env) Q E s:=by
 refine Subscript_ (WQ h (fun o s₁ h₁=>WQ h₁ (fun i s₂ h₂=>?_) fun _ _ x=>x) fun _ _ x=>x);apply ay h₂;intro hq14 h3;apply gF hq14;intro T id h1 h2;have hs:∃ ops,subscripted slice false o i=operate ops (getItem o i):=by
  induction slice using PySem.Expr.casesOn<;>first|exact⟨_,rfl⟩|(rename_i q _;induction q using oO<;>exact⟨_,rfl⟩)
 apply bn hs;clear hs;intro ops hs;exact tail_any h1 h2 h3 hs
end
def cutA(n:Nat):κ Int→Nat
 |some i=>clip n i
 |none=>0
def cutB(n:Nat):κ Int→Nat
 |some i=>clip n i
 |none=>n
def Fy(n:Nat)(i:Int):max 0 (min (if i<0 then i+(n:Int) else i) (n:Int))=(clip n i:Int):=(Int.toNat_of_nonneg (Int.le_max_left ..)).symm
def KP(n:Nat)(i:Int):clip n i≤n:=Int.toNat_le.mpr (Int.max_le.mpr ⟨cT _,Int.min_le_right ..⟩)
def Pr(n:Nat)(i:κ Int):cutB n i≤n:=by
 induction i using oO with
 |none=>exact Wm _
 |some i=>exact KP n i
def ms{α:Type}(l:List α)(lo hi:κ Int):cut l lo hi=(l.drop (cutA l.length lo)).take (cutB l.length hi-cutA l.length lo):=by
 unfold cut;rw[aZ];rw[k8,wD];induction lo using oO<;>induction hi using oO<;>rfl
def Bo{α:Type}(l:List α)(lo hi:κ Int):(cut l lo hi).length≤l.length:=by
 rw[ms];exact WZ (List.length_take_le' ..) (length_drop_le_self ..)
def Ih{α γ:Type}(f:α→γ)(l:List α)(lo hi:κ Int):cut (l.map f) lo hi=(cut l lo hi).map f:=by
 rw[ms,ms,Wr,Xu,XQ]
def M6(lo hi:κ Int)(n:Nat):sliceBounds lo hi none n=((cutA n lo:Int),(cutB n hi:Int),1):=by
 unfold sliceBounds;induction lo using oO<;>induction hi using oO<;>simp only [cutA,cutB,Fy]<;>rfl
def OA(items:Array π)(lo hi:κ Int):slicePick items lo hi none=(cut items.toList lo hi).toArray:=by
 unfold slicePick;rw[M6];rw[sliceRange_one,pick_run,ms,Array.length_toList]
def Vg(lo hi:κ Int)(n:Nat):Builtin.Str.strSliceIndices lo hi 1 n=(List.range (cutB n hi-cutA n lo)).map (cutA n lo+·):=by
 rw[←sliceRange_one];unfold Builtin.Str.strSliceIndices;induction lo using oO<;>induction hi using oO<;>simp only [cutA,cutB,Fy]<;>rfl
section
def vh(h:tU v=some b)(hv:kN M v imm cs val):∃ q:κ (Int×Tok),val=partValue q∧q.map (·.1)=b:=by
 induction v using oO with
 |none=>(apply r1 h);exact⟨none,hv,rfl⟩
 |some v=>
  apply aG h;intro i h1 h;(apply r1 h);apply af (lK h1);intro l e0 h1;subst e0;apply bn (VR.int_inv hv);intro t e0;subst e0;exact⟨some (l.val M.Z,t),rfl,by rw[gZ h1];rfl⟩
def kN.ext(e:aE i1 c1 i2 c2)(h:kN M v i1 c1 val):kN M v i2 c2 val:=by
 induction v using oO with
 |none=>exact h
 |some v=>exact VR.ext e h
def L4{l:ξ}(h:(l.length=cutB l.length b-cutA l.length a)):cut l a b=l:=by
 rw[ms];have h1:=Pr l.length b;have h2:cutA l.length a=0∨l.length=0:=by lia
 rcases h2 with h2|h2
 ·rw[h2,List.drop_zero,WP (h2▸(W7 h))]
 ·have:=WJ h2
  clear h h1 h2;subst this;simp
def aj.cut(h:aj M imm ρ vs xs)(a b:κ Int):aj M imm ρ (Mine.cut vs a b) (Mine.cut xs a b):=by
 apply af h.pairs;intro l e0 e01;subst e0;subst e01;rw[Ih,Ih];generalize Mine.cut l a b=l;induction l with
 |nil=>exact .nil
 |cons q r ih=>exact .cons q.2 ih
def HQ(q:κ (Int×Tok)):IsPart (partValue q) (q.map (·.1)):=by
 induction q using oO with
 |none=>exact .none
 |some q=>exact .int _ _
set_option tactic.hygienic true in
def S3{ss r:SS}(hrv:r.val M.Z=cut (ss.val M.Z) a b)(hro:dw M.Z r){s:χ}{Q E:Θ}(_C:aR M c A n)(R:ai M c.h₀ c.L s.heap m ls J imm cs)
  (hv:VR M imm (ae cs) va (.str ss)) {qa qb:κ (Int×Tok)} (ea:qa.map (·.1)=a) (eb:qb.map (·.1)=b)
  (k:∀ h' tk imm' cs' x,ai M c.h₀ c.L h' m ls J imm' cs'→aE imm cs imm' cs'→VR M imm' (ae cs') x (.str r)→Q x (sU s h' tk)) :
  (∃ T id,({s with heap:=s.heap.push {cls:=.type "slice",data:=.fields #[partValue qa,partValue qb,.none]}}:χ).TypeIs va T∧typeLookup (.type T) "__getitem__"=pure (some (.builtin id))) ∧
   wpAny (model ar M.w) A (getItem va (.ref s.heap.objs.size)) Q E {s with heap:=s.heap.push {cls:=.type "slice",data:=.fields #[partValue qa,partValue qb,.none]}}:=by
 apply af hv.str_inv;intro t e0 ok;subst e0;have hlen:=hv.str_len;generalize ss.val M.Z=q at hrv hlen ⊢;refine⟨⟨"str",_,typeIs_str _ _ _,F.slot_str_getitem.lookup⟩,wpAny_getItem_str_slice (st:=none) ⟨_,Heap.get?_push_size _ rfl,rfl,rfl⟩ rfl ?_⟩;have fin:∀ tk t',Q (.str (ba (cut q a b)) t') {s with heap:=s.heap.push {cls:=.type "slice",data:=.fields #[partValue qa,partValue qb,.none]},toks:=tk}:=fun tk t'=>
  k _ tk _ _ _ (R.newI {cls:=.type "slice",data:=.fields #[partValue qa,partValue qb,.none]} rfl) (R.extI {cls:=.type "slice",data:=.fields #[partValue qa,partValue qb,.none]}) (.str (by rw[hrv]) hro (by rw[hrv];exact WZ (Bo q a b) hlen))
 have e1:slicePicked (ba q) qa qb none=(List.range (cutB q.length b-cutA q.length a)).map (cutA q.length a+·):=by
  unfold slicePicked;rw[ea,eb,ft];exact Vg a b q.length
 have e2:((List.range (cutB q.length b-cutA q.length a)).map (cutA q.length a+·)).filterMap ((ba q).cps[·]?)=cut q a b:=by
  rw[pick_run,ms];rfl
 unfold sliceMade;rw[e1,e2,ft]
 split
 ·rename_i hh
  replace hh:=(aw hh).2;replace hh:=WB.mp hh;rw[Wr,XV] at hh;have f:=fin s.toks t;rw[L4 hh.symm] at f;exact f
 ·refine⟨?_,fin _ _⟩
  show (ba (cut q a b)).length≤_;rw[ft,WS];exact WZ (Bo q a b) hlen
def KM(h:zz v a b J=some (r,J')){s:χ}{Q E:Θ}(C:aR M c A n)(R:ai M c.h₀ c.L s.heap m ls J imm cs)
  (hv:VR M imm (ae cs) va v) (ha:kN M a imm cs pa) (hb:kN M b imm cs pb)
  (k:∀ h' tk imm' cs' x,ai M c.h₀ c.L h' m ls J' imm' cs'→aE imm cs imm' cs'→VR M imm' (ae cs') x r→Q x (sU s h' tk)) :
  (∃ T id,({s with heap:=s.heap.push {cls:=.type "slice",data:=.fields #[pa,pb,.none]}}:χ).TypeIs va T∧typeLookup (.type T) "__getitem__"=pure (some (.builtin id))) ∧
   wpAny (model ar M.w) A (getItem va (.ref s.heap.objs.size)) Q E {s with heap:=s.heap.push {cls:=.type "slice",data:=.fields #[pa,pb,.none]}}:=by
 apply aG h;clear h;intro ss h1 h;(obtain e:=nA h1;clear h1;subst e);apply aG h;clear h;intro l q h;apply aG h;clear h;intro x h2 h;apply aG h;clear h;intro y h3 h;(apply j2 h;clear h;rintro rfl rfl);apply af (vh h2 ha);intro qa e0 ea;clear ha;subst e0;apply af (vh h3 hb);intro qb e0 eb;clear hb;subst e0;exact S3 (by rw[fT,ji q]) (kL _) C R hv ea eb k
def V4(h:yR kk av bv J=some (r,J')){s:χ}{Q E:Θ}(_C:aR M c A n)(R:ai M c.h₀ c.L s.heap m ls J imm cs)
  (hv:VR M imm (ae cs) va (.cell kk)) (ha:kN M av imm cs pa) (hb:kN M bv imm cs pb)
  (k:∀ h' tk imm' cs' x,ai M c.h₀ c.L h' m ls J' imm' cs'→aE imm cs imm' cs'→VR M imm' (ae cs') x r→Q x (sU s h' tk)) :
  (∃ T id,({s with heap:=s.heap.push {cls:=.type "slice",data:=.fields #[pa,pb,.none]}}:χ).TypeIs va T∧typeLookup (.type T) "__getitem__"=pure (some (.builtin id))) ∧
   wpAny (model ar M.w) A (getItem va (.ref s.heap.objs.size)) Q E {s with heap:=s.heap.push {cls:=.type "slice",data:=.fields #[pa,pb,.none]}}:=by
 apply aG h;clear h;intro a h6 h;apply aG h;clear h;intro b h7 h;apply af (vh h6 ha);intro qa e0 ea;clear ha;subst e0;apply af (vh h7 hb);intro qb e0 eb;clear hb;subst e0;apply aG h;clear h;intro xs h8 h;(apply j2 h;clear h;rintro rfl rfl);have Rn:=R.newI {cls:=.type "slice",data:=.fields #[partValue qa,partValue qb,.none]} rfl;have xn:=R.extI {cls:=.type "slice",data:=.fields #[partValue qa,partValue qb,.none]};apply lG (R.lst hv (kI h8));intro ad vs nn pre post e0 e1 _ g1 v1 z1;clear hv;subst e0;have hL:s.heap.IsList ad vs.toArray:=⟨_,g1,rfl,_,rfl⟩;have hL':Heap.IsList (s.heap.push {cls:=.type "slice",data:=.fields #[partValue qa,partValue qb,.none]}) ad vs.toArray:=hL.push _;refine⟨⟨"list",_,hL'.typeIs,slot_list_getitem.lookup⟩,wpAny_getItem_list_slice hL' (Heap.IsSliceOf.new ..) (HQ qa) (HQ qb) .none (by simp) ?_ (by rw[Wv,v1.len,WS];exact W2 z1)⟩;rw[ea,eb,OA];exact k _ s.toks _ _ _ (Rn.newL ((v1.ext xn).cut a b) (WZ (Bo xs a b) z1)) (xn.trans (aE.snoc ..)) (DS Rn.C)
def TP{n:Nat}{R:aM}(I:aS M n R){ls:ac}{J J':St}{o:Expr}{lo hi st:κ Expr}{p2 pos:Pos}{r:AV}
  (h:FY R ls J o lo hi st=some (r,J')):cS M n (fun c=>eval (.Subscript o (.Slice lo hi st p2) pos) c.env) ls J r J':=by
 apply bK h;clear h;intro v σ1 h1 h;apply bC h;clear h;intro h2 h;apply bK h;clear h;intro a0 σ2 h3 h;apply bK h;intro b0 σ3 h4 hj;have hst:st=none:=by induction st using oO with|none=>rfl|some=>injection h2
 clear h2;subst hst;clear h;intro c A s m imm cs Q E C l Rp k;refine ER (I.ev h1 C l Rp fun hx tx ix cx va Rx xx qx=>?_);refine wpAny_Slice (I.evo h3 C l Rx fun hy ty iy cy pa Ry xy qy=>I.evo h4 C l Ry fun hz tz iz cz pb Rz xz qz=>?_);rw[evalPart_none];refine Wi ?_;have qx':=qx.ext (xy.trans xz);have kf:=fun h' tk i' c' x R' x' q'=>k h' tk i' c' x R' (xx.trans (xy.trans (xz.trans x'))) q';cases q:il v with
 |none=>rw[q] at hj;exact KM hj C Rz qx' (qy.ext xz) qz kf
 |some kk=>rw[q] at hj;(obtain e:=ka q;clear h1 qx q;subst e);exact V4 hj C Rz qx' (qy.ext xz) qz kf
def G5(I:aS M n R)
  (h:z5 Y R ls J o i=some (r,J')):cS M n (fun c=>eval (.Subscript o i pos) c.env) ls J r J':=by
 apply bK h;clear h;intro v σ1 h1 h;apply bK h;clear h;intro iv σ2 h2 h;intro c A s m imm cs Q E C l Rp k;refine ER (I.ev h1 C l Rp fun hx tx ix cx va Rx xx qx=>I.ev h2 C l Rx fun hy ty iy cy vi Ry xy qy=>?_);apply aG h;clear h;intro r' h3 h;(apply j2 h;clear h;rintro rfl rfl);exact Ce h3 C Ry (qx.ext xy) qy fun tk val q=>k hy tk iy cy val Ry (xx.trans xy) q
end
section
def aj.take(n:Nat)(h:aj M imm ρ vs xs):aj M imm ρ (vs.take n) (xs.take n):=by
 apply af h.pairs;intro l e0 e01;subst e0;subst e01;rw[←Xu,←Xu];generalize l.take n=l;induction l with
 |nil=>exact .nil
 |cons q r ih=>exact .cons q.2 ih
def G9:∀ (l:List π) (y:π),kl_last (l++[y])=some (l,y):=by
 intro L0;induction L0 with
 |nil=>
  intro _;exact rfl
 |cons x r ih=>
  intro y;show (match kl_last (r++[y]) with|some (p,y)=>some (x::p,y)|none=>some ([],x))=_;rw[ih y]
def VN(hx:ao J k=some (.list xs))(hq:place (lenA xs) (-1)=some q)(hv:ao xs q=some v){s:χ}{Q E:Θ}
  (_C:aR M c A n) (R:ai M c.h₀ c.L s.heap m ls J imm cs) (ho:VR M imm (ae cs) va (.cell k))
  (kk:∀ h' imm' cs' val,ai M c.h₀ c.L h' m ls (dT J k (.list (bN q xs))) imm' cs'→aE imm cs imm' cs'→VR M imm' (ae cs') val v→Q val {s with heap:=h'}):wpAny (model ar M.w) A (call (.builtin "list.pop") [va] []) Q E s:=by
 apply lG (R.lst ho hx);intro a vs nn pre post e0 e01 l g1 v1 z1;subst e0;subst e01;rw[aZ] at hq;apply ay (oJ hq);intro hlt hcase;have it:=v1.item q;rw[hv] at it;apply af it;intro y y1 y2;have hvl:=v1.len;have evs:=by
  have h1:vs.drop q=[y]:=by
   obtain⟨hl,hy⟩:=Wy.mp y1;rw[XM hl,hy,List.drop_eq_nil_of_le (W7 (hvl.trans (zE hq).symm))]
  have:=XX q vs;rw[h1] at this;exact this.symm
 have e:∀ z:List π×Nat,imm++aQ (pre++CC.list a z.1 z.2::post)=(imm++aQ pre)++(a,listOf z.1.toArray z.2)::aQ post:=fun z=>by rw[k6];simp [CC.objs]
 have N:=R.N;have nd:=R.nd;rw[e (vs,nn)] at N nd;refine kl_pop R.F N (by have:=G9 (vs.take q) y;rw[←evs] at this;exact this) (oA nd) (by rw[hvl,WS];exact W2 z1) fun h' F' N'=>?_;refine kk h' imm (pre++CC.list a (vs.take q) (nn+1)::post) y ?_ (aE.put imm pre post _ _ rfl) (by rw[r6 pre post (CC.list a vs nn) (CC.list a (vs.take q) (nn+1)) rfl];exact y2);rw[←l,k8];exact R.put rfl rfl F' (by have z:=e (vs.take q,nn+1);rw[z];exact N') (.list (v1.take q) (by rw[Xk];exact WZ (Nat.min_le_right _ _) z1))
def OR(hx:ao J k=some (.spl i xs))(hq:place (lenA xs) (-1)=some q)(hv:ao xs q=some v){s:χ}{Q E:Θ}
  (_C:aR M c A n) (R:ai M c.h₀ c.L s.heap m ls J imm cs) (ho:VR M imm (ae cs) va (.cell k))
  (kk:∀ h' imm' cs' val,ai M c.h₀ c.L h' m ls (dT J k (.spl i (bN q xs))) imm' cs'→aE imm cs imm' cs'→VR M imm' (ae cs') val v→Q val {s with heap:=h'}):wpAny (model ar M.w) A (call (.builtin "list.pop") [va] []) Q E s:=by
 apply af ho.cell_inv;intro a e0 hk;subst e0;apply cj (R.C.cell hk hx);intro dd pre post e0 l e2 cr;subst e0;apply kb cr.spl_inv;intro b us vs nn e0 hu hul v1 z1;subst e0;replace e2:=e2;subst e2;rw[aZ] at hq;apply ay (oJ hq);intro hlt hcase;have it:=v1.item q;rw[hv] at it;apply af it;intro y y1 y2;have hvl:=v1.len;have evs:=by
  have h1:vs.drop q=[y]:=by
   obtain⟨hl,hy⟩:=Wy.mp y1;rw[XM hl,hy,List.drop_eq_nil_of_le (W7 (hvl.trans (zE hq).symm))]
  have:=XX q vs;rw[h1] at this;exact this.symm
 have e:∀ z:List π×Nat,imm++aQ (pre++CC.list b z.1 z.2::post)=(imm++aQ pre)++(b,listOf z.1.toArray z.2)::aQ post:=fun z=>by rw[k6];simp [CC.objs]
 have N:=R.N;have nd:=R.nd;rw[e (us++vs,nn)] at N nd;refine kl_pop R.F N (by have:=G9 (us++vs.take q) y;rw[bP,←evs] at this;exact this) (oA nd) (by rw[aB,hvl,WS];exact WZ (Xb hul z1) (nleT rfl)) fun h' F' N'=>?_;refine kk h' imm (pre++CC.list b (us++vs.take q) (nn+1)::post) y ?_ (aE.put imm pre post _ _ rfl) (by rw[r6 pre post (CC.list b (us++vs) nn) (CC.list b (us++vs.take q) (nn+1)) rfl];exact y2);rw[←l,k8];exact R.put rfl rfl F' (by have z:=e (us++vs.take q,nn+1);rw[z];exact N') (.spl hu hul (v1.take q) (by rw[Xk];exact WZ (Nat.min_le_right _ _) z1))
def PX(hx:ao J k=some (.list (v::xs))){s:χ}{Q E:Θ}
  (_C:aR M c A n) (R:ai M c.h₀ c.L s.heap m ls J imm cs) (ho:VR M imm (ae cs) va (.cell k))
  (kk:∀ h' imm' cs' val,ai M c.h₀ c.L h' m ls (dT J k (.list xs)) imm' cs'→aE imm cs imm' cs'→VR M imm' (ae cs') val v→Q val {s with heap:=h'}):wpAny (model ar M.w) A (call (.builtin "list.pop") [va,.int 0 t] []) Q E s:=by
 apply lG (R.lst ho hx);intro a vs nn pre post e0 e01 l g1 v1 z1;subst e0;subst e01;have hvl:=v1.len;have e:∀ z:List π×Nat,imm++aQ (pre++CC.list a z.1 z.2::post)=(imm++aQ pre)++(a,listOf z.1.toArray z.2)::aQ post:=fun z=>by rw[k6];simp [CC.objs]
 have N:=R.N;have nd:=R.nd;rw[e (vs,nn)] at N nd;cases v1 with
 |@cons y _ vs' _ y2 v2=>
  refine kl_popAt (k:=0) R.F N (by decide) (by rw[Wv];unfold seqIndex?;simp) rfl (oA nd) (by rw[hvl,WS];exact Nat.lt_add_left _ z1) fun h' F' N'=>?_;refine kk h' imm (pre++CC.list a vs' (nn+1)::post) y ?_ (aE.put imm pre post _ _ rfl) (by rw[r6 pre post (CC.list a (y::vs') nn) (CC.list a vs' (nn+1)) rfl];exact y2);rw[←l];exact R.put rfl rfl F' (by have z:=e (vs',nn+1);rw[z];exact N') (.list v2 (by have:=z1;simp at this;exact W2 this))
noncomputable def kH(sep:ξ):List ξ→ξ
 |[]=>[]
 |[x]=>x
 |x::y::r=>x++(sep++kH sep (y::r))
def Hr(sep:ξ):∀ ys:List ξ,Str.join (ba sep) (ys.map ba)=ba (kH sep ys)
 |[]=>rfl
 |[x]=>rfl
 |x::y::r=>by
  show ba x++ba sep++Str.join (ba sep) ((y::r).map ba)=ba (x++(sep++kH sep (y::r)));rw[Hr sep (y::r),wu,wu,bP]
def Ir(sep:ξ):∀ ys:List ξ,(ys.map List.length).sum+ys.length*sep.length≤(kH sep ys).length+sep.length
 |[]=>by show 0+0*sep.length≤_;rw[Nat.zero_mul];exact WK _
 |[x]=>by show x.length+0+1*sep.length≤x.length+sep.length;rw[Nat.one_mul];exact Wm _
 |x::y::r=>by
  have ih:=Ir sep (y::r);have e:kH sep (x::y::r)=x++(sep++kH sep (y::r)):=rfl;rw[e,aB,aB,WT,List.sum_cons,dH,Nat.succ_mul];lia
def UP{sep:SS}(hs:sep.val M.Z=l)(hso:dw M.Z sep)(g:aj M imm ρ vs xs):zh sep xs=some t →
  ∃ ys:List ξ,StrsAre vs (ys.map ba)∧t.val M.Z=kH l ys∧dw M.Z t:=by
 induction g using aj.ind generalizing t with
 |nil=>intro h;(apply r1 h;clear h);exact⟨[],.nil,rfl,et⟩
 |cons hv hr ih=>
  intro h;apply aG h;intro s e hj;apply aG hj;clear hj;intro t' h1 hj;(obtain e:=nA e;subst e);apply af hv.str_inv;intro tt e0 o;subst e0;apply db (ih h1);intro ys y1 y2 y3;cases hr with
  |nil=>
   induction ys using oL with
   |cons=>cases y1
   |nil=>exact⟨[s.val M.Z],.cons _ _ .nil,by rw[←bM hj];rfl,by rw[←bM hj];exact o⟩
  |cons a b=>
   have ht:s.app (sep.app t')=t:=bM hj;refine⟨s.val M.Z::ys,.cons _ _ y1,?_,by rw[←ht];exact kW o (kW hso y3)⟩;rw[←ht,cE,cE,hs,y2];induction ys using oL with
   |nil=>cases y1
   |cons y ys=>rfl
def Fb:∀ {vs:List π} {l:ξ},jV M.Z vs l→∃ ys:List ξ,StrsAre vs (ys.map ba)∧l=kH [] ys∧vs.length=ys.length
 |_,_,.nil=>⟨[],.nil,rfl,rfl⟩
 |_,_,.snoc (r:=r) (t:=t) h=>by
  apply db (Fb h);intro ys y1 e0 y3;subst e0;refine⟨ys++[r],?_,?_,by simp [y3]⟩
  ·rw[Wl]
   have app:∀ {a b:List π} {x y:List Str},StrsAre a x→StrsAre b y→StrsAre (a++b) (x++y):=by
    intro a b x y h1 h2;induction h1 with
    |nil=>exact h2
    |cons i t _ ih=>exact .cons i t ih
   exact app y1 (.cons _ _ .nil)
  ·clear y1 y3 h
   induction ys with
   |nil=>rfl
   |cons a ys ih=>
    induction ys using oL with
    |nil=>rfl
    |cons b ys=>
     show a++([]++kH [] (b::ys))++r=a++([]++kH [] ((b::ys)++[r]));rw[←ih,WW,WW,bP]
def LH(x y:ξ):Txt.startswith (ba x) (ba y)=nH y x:=by
 have h1:=by
  have e:=StrLaws.subAt_eq (ba x) (ba y) 0;rw[ft] at e;exact e
 unfold Txt.startswith;rw[h1,ft,ft];have:∀ y x:ξ,(decide (0+y.length≤x.length)&&(x.take y.length == y))=nH y x:=by
  intro y;induction y with
  |nil=>intro x;show _=true;simp
  |cons b y ih=>
   intro x;induction x using oL with
   |nil=>show _=false;simp
   |cons a x=>
    have e:nH (b::y) (a::x)=(b.beq a&&nH y x):=by
     show Bool.rec (motive:=fun U=>Bool) false (nH y x) (b.beq a)=_;cases b.beq a<;>rfl
    rw[e,←ih x,yM]
    by_cases hb:b=a
    ·clear e;subst hb;simp
    ·simp [hb,Ne.symm hb]
 exact this y x
end
section
variable {Y:Pi}
def ai.kept{h₀ h h':Heap}(R:ai M h₀ L h m ls J imm cs)(kp:∀ b x,h.get? b=some x→h'.get? b=some x)(hs:h.objs.size≤a)(hg:h'.get? a=some o) :
  ai M h₀ L h' m ls J ((a,o)::imm) cs:=by
 have e:∀ p∈imm,p∈(a,o)::imm:=fun p hp=>.tail _ hp;refine⟨R.F.after kp,R.N.kept_cons R.F kp hs hg,?_,R.C.mono e fun U U h=>h,fun x v hx=>?_⟩
 ·exact WH.mpr ⟨fun q=>X0 _ (Xa (R.lt q) hs),R.nd⟩
 ·apply af (R.l x v hx);intro val a b
  exact⟨val,a,b.mono e fun U U h=>h⟩
def IB{h₀ h:Heap}(g:h₀.Ns mainGlobals mg)(kp:∀ b x,h₀.get? b=some x→h.get? b=some x):(h.objs.size == sysModules)=false:=by
 apply jo g;intro o _ _ hL _;have h2:(sysModules:Nat)<mainGlobals:=by decide
 have h3:=Nat.ne_of_gt (Nat.lt_trans h2 (WI (kp _ _ hL)));cases q:h.objs.size == sysModules with
 |false=>rfl
 |true=>exact absurd (WB.mp q) h3
def mu(M:aF)(id:BM)(ov:AV)(vs:List AV)(J:St)(q:AV×St):Prop :=
 ∀ {c A s m ls imm cs va vals} {n:Nat} {Q E:Θ},aR M c A n→ai M c.h₀ c.L s.heap m ls J imm cs→VR M imm (ae cs) va ov→aj M imm (ae cs) vals vs →
  (∀ h' tk imm' cs' val,ai M c.h₀ c.L h' m ls q.2 imm' cs'→aE imm cs imm' cs'→VR M imm' (ae cs') val q.1→Q val (sU s h' tk))→wpAny (model ar M.w) A (call (.builtin id.id) (va::vals) []) Q E s
def aj.one(h:aj M imm ρ vals [v]):∃ val,vals=[val]∧VR M imm ρ val v:=by
 apply cD (aj.inv h);intro _ _ e0 a b;clear h;subst e0;(obtain e:_=_:=aj.inv b;clear b;subst e);exact⟨_,rfl,a⟩
def aj.none(h:aj M imm ρ vals []):vals=[]:=by (obtain e:_=_:=aj.inv h;clear h;subst e);rfl
section
def Se(hb:aU Y.B M.Z)(hx:ao J k=some c):OB (HB Y.B J k v c) (mu M .append (.cell k) [v] J):=by
 induction c using ak.casesOn with
 |list xs=>
  exact OB.gd fun h2=>OB.pure fun {c A s m ls imm cs va vals n Q E} C R hv hvs kk=>by
   apply af hvs.one;intro val e0 hv1;subst e0;exact IN hx (nleT h2) C R hv hv1 fun h' imm' cs' R' x'=>kk h' s.toks imm' cs' _ R' x' .none
 |rows t q=>
  exact OB.ob fun r h1=>OB.ob fun z h0=>OB.gd fun h2=>OB.pure fun {c A s m ls imm cs va vals n Q E} C R hv hvs kk=>by
   apply af hvs.one;intro val e0 hv1;subst e0;(obtain e:=nA h1;clear h1;subst e);exact PT hx (by have:=wK hb h0;rw[h2,bH] at this;exact WM this.symm) C R hv hv1 fun h' imm' cs' R' x'=>kk h' s.toks imm' cs' _ R' x' .none
 |hd=>exact OB.no
 |spl i xs=>
  exact OB.gd fun h2=>OB.pure fun {c A s m ls imm cs va vals n Q E} C R hv hvs kk=>by
   apply af hvs.one;intro val e0 hv1;clear hvs;subst e0;exact TA hx (nleT h2) C R hv hv1 fun h' imm' cs' R' x'=>kk h' s.toks imm' cs' _ R' x' .none
 |seg=>exact OB.no
 |inst=>exact OB.no
 |any=>exact OB.no
def Th(hb:aU Y.B M.Z):OB (GB Y.B J o as) (mu M .append o as J):=OB.ob fun k h1=>OB.ob fun v h2=>OB.ob fun c h3=>by
 (obtain e:=ka h1;clear h1;subst e);(obtain e:=rI h2;clear h2;subst e);exact Se hb h3
def Kg(h2:ao J k=some (.list xs)):OB (HY J k xs as) (mu M .pop (.cell k) as J):=by
 match as with
 |[]=>
  exact OB.ob fun p h3=>OB.ob fun v h4=>OB.pure fun {c A s m ls imm cs va vals n Q E} C R hv hvs kk=>by
   have eq9:=hvs.none;clear hvs;subst eq9;exact VN h2 h3 h4 C R hv fun h' imm' cs' val R' x' q'=>kk h' s.toks imm' cs' val R' x' q'
 |[i]=>
  refine OB.ob fun j h3=>OB.gd fun h4=>?_;rw[pv] at h4;replace h4:=WM h4;subst h4;induction xs using oL with
  |nil=>exact OB.no
  |cons v r=>
   exact OB.pure fun {c A s m ls imm cs va vals n Q E} C R hv hvs kk=>by
    apply af hvs.one;intro val e0 hv1;clear hvs;subst e0;apply af (lK h3);intro l e0 e2;subst e0;apply bn hv1.int_inv;intro t e0;clear hv1;subst e0;rw[gZ e2];exact PX h2 C R hv fun h' imm' cs' val R' x' q'=>kk h' s.toks imm' cs' val R' x' q'
 |_::_::_=>exact OB.no
def Oj(h2:ao J k=some (.spl i xs)):OB (AW J k (.spl i) xs) (mu M .pop (.cell k) [] J) :=
 OB.ob fun p h3=>OB.ob fun v h4=>OB.pure fun {c A s m ls imm cs va vals n Q E} C R hv hvs kk=>by
  have eq9:=hvs.none;clear hvs;subst eq9;exact OR h2 h3 h4 C R hv fun h' imm' cs' val R' x' q'=>kk h' s.toks imm' cs' val R' x' q'
def S7:OB (GD J o as) (mu M .pop o as J):=OB.ob fun k h1=>OB.ob fun cc h2=>by
 (obtain e:=ka h1;clear h1;subst e);induction cc using ak.casesOn with
 |list xs=>exact Kg h2
 |spl i xs=>
  refine OB.gd fun h3=>?_;(obtain e:=qY h3;clear h3;subst e);exact Oj h2
 |_=>exact OB.no
section
variable (hb:aU Y.B M.Z)
include hb
theorem Im{l:ξ}{vs:List π}{ys:List ξ}{tx:SS}{s:χ}{Q E:Θ}
  (hl:l.length≤1000) (_C:aR M c A n) (R:ai M c.h₀ c.L s.heap m ls J imm cs) (hg:s.heap.get? a=some (listOf vs.toArray nn)) (hs:StrsAre vs (ys.map ba)) (ht:tx.val M.Z=kH l ys) (ho:dw M.Z tx) (hm:i7 Y.B tx=some r)
  (kk:∀ h' tk imm' cs' val,ai M c.h₀ c.L h' m ls J imm' cs'→aE imm cs imm' cs'→VR M imm' (ae cs') val r→Q val (sU s h' tk)) :
  wpAny (model ar M.w) A (call (.builtin "str.join") [.str (ba l) t,.ref a] []) Q E s:=by
 have hz:=uB hb ho hm;apply ay (si hm);intro e0 _;clear hm;subst e0;have hlen:=Ir l ys;rw[←ht] at hlen;refine join_list ⟨_,hg,rfl,_,rfl⟩ hs ?_ fun t' tk=>?_
 ·rw[Xi,Wr,ft]
  have:(ys.map (Str.length ∘ ba))=ys.map List.length:=Xr fun y U=>ft y;rw[this];exact WZ hlen (WZ (Xb hz hl) (nleT rfl))
 ·rw[show Txt.join (ba l) (ys.map ba)=Str.join (ba l) (ys.map ba) from StrLaws.glued_eq_join _ _,Hr,←ht]
  exact kk s.heap tk imm cs _ R (aE.refl ..) (.str rfl ho (by lia))
theorem Ui{ss:SS}(h1:ss.conc=some l)(hl:l.length≤1000)(hx:ao J k=some c):OB (DH Y J l c) (mu M .join (.str ss) [.cell k] J):=by
 induction c using ak.casesOn with
 |list xs=>
  exact OB.ob fun tx h3=>OB.ob fun r h4=>OB.pure fun {c A s m ls imm cs va vals n Q E} C R hv hvs kk=>by
   apply af hvs.one;intro val e0 hv1;subst e0;apply af hv.str_inv;intro t e0 _;subst e0;rw[tT h1];apply lG (R.lst hv1 hx);intro a vs nn pre post e0 _ _ g1 v1 z1;subst e0;apply db (UP (fT l) (kL l) v1 h3);intro ys y1 y2 y3;exact Im hb hl C R g1 y1 y2 y3 h4 kk
 |rows tx q=>
  exact OB.gd fun h2=>OB.ob fun r h4=>OB.pure fun {c A s m ls imm cs va vals n Q E} C R hv hvs kk=>by
   have eq9:=qY h2;subst eq9;apply af hvs.one;intro val e0 hv1;subst e0;apply af hv.str_inv;intro t e0 _;subst e0;rw[tT h1];apply af hv1.cell_inv;intro a e0 ha;subst e0;apply cj (R.C.cell ha hx);intro d pre post e0 lq e2 cr;subst e0;apply cj cr.rows_inv;intro b vs nn e0 hvs2 hok hsz;subst e0;(obtain e:=CC.same e2;subst e);apply db (Fb hvs2);intro ys y1 y2 y3;exact Im hb hl C R (R.N _ (R.has (.head _))).1 y1 y2 hok h4 kk
 |_=>exact OB.no
theorem Pe:OB (BV Y J o as) (mu M .join o as J):=OB.ob fun l h1=>OB.gd fun h2=>OB.ob fun a h3=>OB.ob fun k h4=>OB.ob fun c h5=>by
 apply af (vf h1);clear h1;intro ss e0 h1;subst e0;(obtain e:=rI h3;clear h3;subst e);(obtain e:=ka h4;clear h4;subst e);replace h2:=nleT h2;rw[aZ] at h2;exact Ui hb h1 h2 h5
end
def Dd:∀ {p l r:ξ} {e b:Bool},z9 p l e=some b→(e=true→r=[])→nH p (l++r)=b
 |[],_,_,_,_,h,_=>bM h
 |x::p,[],r,e,b,h,g=>by
  cases e with
  |false=>injection h
  |true=>rw[g rfl];exact bM h
 |x::p,a::l,r,e,b,h,g=>by
  replace h:Bool.rec (motive:=fun U=>κ Bool) (some false) (z9 p l e) (x.beq a)=some b:=h;show Bool.rec (motive:=fun U=>Bool) false (nH p (l++r)) (x.beq a)=b;cases q:Nat.beq x a with
  |false=>rw[q] at h;exact bM h
  |true=>rw[q] at h;exact Dd h g
def Kb(h:Cn p s=some b):nH p (s.val M.Z)=b:=by
 induction s using oL with
 |nil=>have h:=bM h;subst h;cases p<;>rfl
 |cons q r=>
  induction q using Pc.casesOn with
  |lit l=>exact Dd h fun e=>by cases r with|nil=>rfl|cons=>injection e
  |var i=>injection h
  |rep _ _=>injection h
def Uf:OB (IM J o as) (mu M .starts o as J):=OB.ob fun ss h1=>OB.ob fun p h2=>OB.ob fun q h3=>OB.ob fun b h4=>OB.pure fun {c A s m ls imm cs va vals n Q E} C R hv hvs kk=>by
 (obtain e:=nA h1;clear h1;subst e);(obtain e:=rI h2;subst e);apply af (vf h3);clear h3;intro s2 e0 h3;subst e0;apply af hvs.one;intro val e0 hv1;subst e0;apply af hv.str_inv;intro t e0 _;clear hv;subst e0;apply af hv1.str_inv;intro u e0 _;clear hv1 hvs;subst e0;rw[tT h3];refine SC.startswith ?_;rw[LH,Kb h4];exact kk s.heap s.toks imm cs _ R (aE.refl ..) (.bool _)
def Np:OB (DJ J o as) (mu M .copy o as J):=by
 induction o using AV.casesOn with
 |dict=>
  exact OB.gd fun h2=>OB.pure fun {c A s m ls imm cs va vals n Q E} C R hv hvs kk=>by
   have eq9:=qY h2;subst eq9;have eq9:=hvs.none;subst eq9;apply cj hv.dict_inv;intro a es' nn e0 hk lo hr1;apply mV hr1;intro kvs d1 d2 d3 d4;subst e0;have hD:s.heap.DictOf (strKind ar M.w) a kvs:=⟨_,es'.toArray,nn,R.kn C.X hk,⟨rfl,rfl,rfl⟩,rfl,d1,by simpa using d2,d3⟩;refine call_meetsIn F.slot_dict_copy hD.typeIs F.entry_dict_copy (F.args_dict_copy_1 _) (meets_dict_copy (strKind ar M.w) a lo) ⟨kvs,hD,by rw[WS];exact W2 d4,?_⟩;intro h' hnew _ kp;apply cj hnew;intro hq34 es3 ep3 ho3 hq35 hdt3 hr1;apply cw hr1;intro hk3 hp3 hn3;obtain⟨c1,d1,dt1,sl1⟩:=hq34;apply cw hq35;intro e0 e01 e02;subst e0;subst e01;subst e02;replace hdt3:=hdt3;subst hdt3;obtain⟨es3⟩:=es3;exact kk h' s.toks _ _ (.ref s.heap.objs.size) (R.kept kp (Wm _) ho3) ⟨fun U h=>.tail _ h,fun U U h=>h⟩ (.dict (.inl (.head _)) (IB C.T.g R.F.keep) ⟨kvs,hk3,hp3,hn3,d4⟩)
 |_=>exact OB.no
end
def rZ(Y:Pi):Prop:=Y.nm 0=Str.ofString "append"∧Y.nm 1=Str.ofString "pop"∧Y.nm 2=Str.ofString "join"∧Y.nm 3=Str.ofString "startswith"∧Y.nm 4=Str.ofString "copy"
def tK{α:Type}{b:Bool}{x y:κ α}{r:α}(h:(Bool.rec (motive:=fun U=>κ α) x y b)=some r):(b=true∧y=some r)∨(b=false∧x=some r):=by
 induction b using oB with
 |true=>exact .inl ⟨rfl,h⟩
 |false=>exact .inr ⟨rfl,h⟩
def wR(M:aF)(J:St)(ov:AV)(x:Str)(id:BM):Prop :=
 ∀ {c A s m ls imm cs va pl} {n:Nat} {Q:π×List π→χ→Prop} {E:Θ},aR M c A n→ai M c.h₀ c.L s.heap m ls J imm cs→VR M imm (ae cs) va ov→Q (.builtin id.id,[va]) s→wpAny (model ar M.w) A (getMethod va x pl) Q E s
section
variable {id:BM}
def Lj(hnm:rZ Y){k:Nat}{c:ak}(hx:ao J k=some c)(hc:IJ c=true)(h:CK Y x=some id):wR M J (.cell k) x id:=by
 apply cw hnm;intro n0 n1 _;have hh:(x=Str.ofString "append"∧id=.append)∨(x=Str.ofString "pop"∧id=.pop):=by
  rcases tK h with ⟨q,h⟩|⟨_,h⟩
  ·(apply r1 h;clear h);exact .inl ⟨by rw[←ii.mp q] at n0;exact n0,rfl⟩
  ·rcases tK h with ⟨q,h⟩|⟨_,h⟩
   ·(apply r1 h;clear h);exact .inr ⟨by rw[←ii.mp q] at n1;exact n1,rfl⟩
   ·injection h
 intro c' A s m ls imm cs va pl n Q E C R hv kk;apply af hv.cell_inv;intro a e0 ha;subst e0;apply cj (R.C.cell ha hx);intro d pre post e0 l e2 cr;subst e0;have:∃ vs nn,s.heap.get? a=some (listOf vs nn):=by
  induction c using ak.casesOn with
  |list=>apply jo cr.list_inv;intro b vs nn e0 _;clear hv a_1;subst e0;(obtain e:=CC.same e2;subst e);exact⟨_,_,(R.N _ (R.has (.head _))).1⟩
  |rows=>apply jo cr.rows_inv;intro b vs nn e0 _;clear hv;subst e0;(obtain e:=CC.same e2;subst e);exact⟨_,_,(R.N _ (R.has (.head _))).1⟩
  |spl=>apply bJ cr.spl_inv;intro b us hr1;apply gF hr1;intro vs nn e0 _;subst e0;(obtain e:=CC.same e2;subst e);exact⟨_,_,(R.N _ (R.has (.head _))).1⟩
  |_=>injection hc
 apply bJ this;intro vs nn hg;rcases hh with ⟨rfl,rfl⟩|⟨rfl,rfl⟩<;>dsimp only [BM.id] at kk
 ·exact getMethod_builtin ⟨_,hg,rfl⟩ F.plainAttrs_list F.slot_list_append F.type_list_append (fun a e=>by (injection e with e;subst e);exact⟨_,hg,rfl⟩) kk
 ·exact getMethod_builtin ⟨_,hg,rfl⟩ F.plainAttrs_list F.slot_list_pop F.type_list_pop (fun a e=>by (injection e with e;subst e);exact⟨_,hg,rfl⟩) kk
def UI(hnm:rZ Y){ss:SS}(h:Ek Y x=some id):wR M J (.str ss) x id:=by
 apply mq hnm;intro _ _ n2 n3 _;intro c' A s m ls imm cs va pl n Q E C R hv kk;apply af hv.str_inv;intro t e0 _;clear hv;subst e0;rcases tK h with ⟨q,h⟩|⟨_,h⟩
 ·(apply j1 h;clear h;rintro rfl)
  have e:=by rw[←ii.mp q] at n2;exact n2
  clear q h;subst e;exact @getMethod_builtin (model ar M.w) A E s (.str (ba (ss.val M.Z)) t) "str" (Str.ofString "join") "str.join" pl Q (typeIs_str s (ba (ss.val M.Z)) t) F.plainAttrs_str F.slot_str_join F.type_str_join (fun a e=>by injection e) kk
 ·rcases tK h with ⟨q,h⟩|⟨_,h⟩
  ·(apply j1 h;clear h;rintro rfl)
   have e:=by rw[←ii.mp q] at n3;exact n3
   clear left q h;subst e;exact @getMethod_builtin (model ar M.w) A E s (.str (ba (ss.val M.Z)) t) "str" (Str.ofString "startswith") "str.startswith" pl Q (typeIs_str s (ba (ss.val M.Z)) t) F.plainAttrs_str F.slot_str_startswith F.type_str_startswith (fun a e=>by injection e) kk
  ·injection h
def Mk(hnm:rZ Y)(h:DK Y x=some id):wR M J .dict x id:=by
 apply mq hnm;intro _ _ _ _ n4;intro c' A s m ls imm cs va pl n Q E C R hv kk;apply cj hv.dict_inv;intro a es' nn e0 hk _ _;clear hv;subst e0;have hg:=R.kn C.X hk;rcases tK h with ⟨q,h⟩|⟨_,h⟩
 ·(apply j1 h;clear h;rintro rfl)
  have e:=by rw[←ii.mp q] at n4;exact n4
  clear q h;subst e;exact getMethod_builtin ⟨_,hg,rfl⟩ F.plainAttrs_dict F.slot_dict_copy F.type_dict_copy (fun a e=>by (injection e with e;subst e);exact⟨_,hg,rfl⟩) kk
 ·injection h
def Tb(hnm:rZ Y)(h:zK Y J ov x=some id):wR M J ov x id:=by
 induction ov using AV.casesOn with
 |cell k=>
  apply aG h;intro c h1 h;apply bC h;intro h2 h;exact Lj hnm h1 h2 h
 |str s=>exact UI hnm h
 |dict=>exact Mk hnm h
 |_=>injection h
end
def F3(hb:aU Y.B M.Z)(hnm:rZ Y):xd M Y:=by
 intro σ0 ov x id hid;refine⟨Tb hnm hid,?_⟩;intro J vs r J' h;cases id with
 |append=>exact Th hb _ h
 |pop=>exact S7 _ h
 |join=>exact Pe hb _ h
 |starts=>exact Uf _ h
 |copy=>exact Np _ h
end
section
variable {Y:Pi}
def ET(hy:∀ C c,Y.ci C=some c→dC M C c)(h:qB Y D C=some b):kitOne M.K (.ref D) (.ref C)=some b:=by
 apply aG h;clear h;intro c h1 h;apply aG h;clear h;intro c' h2 h;(apply r1 h;clear h);have o2:=(hy _ _ h2).isa;apply cw ((hy _ _ h1).isa);intro hq19 _ e4;apply db hq19;intro cd e1 e2 e3;apply cw o2;intro hq20 f2 _;apply db hq20;intro cd' f1 _ _;unfold kitOne
 by_cases q:(Value.ref D == Value.ref C)=true
 ·rw[if_pos q]
  have:=Value.ref.inj (WB.mp q);clear h2 o2 hq20 f2 a_1 f1 q;subst this;rw[e4]
 ·rw[if_neg q]
  unfold kitCls;dsimp only;rw[if_pos (by rw[f1,f2];rfl)];show mroIn M.K D (.ref C)=_;unfold mroIn;rw[e1];show (if cd.mro.isEmpty then none else some (cd.mro.contains (.ref C)))=_;rw[e2,if_neg (by decide),e3]
def Gc(h:qB Y D C=some b):∃ c,Y.ci D=some c:=by
 apply aG h;intro c h1 _;exact⟨c,h1⟩
def GU(hy:∀ C c,Y.ci C=some c→dC M C c)(h:Y.ci D=some c):KitX M.K (.ref x) (.ref D) (fun h=>InstAt h x (instObj D d) D (some od)):=by
 have ok:=hy _ _ h;apply mq ok.kin;intro k1 k2 k3 k4 k5;exact kitx_own k1 ok.cls.hd k2 k3 k4 k5
def HZ(hy:∀ C c,Y.ci C=some c→dC M C c)(h:q7 Y J v C=some b)(R:ai M h₀ L hp m ls J imm cs)(hv:VR M imm (ae cs) va v) :
  ∃ x D d od,va=.ref x∧InstAt hp x (instObj D d) D (some od)∧KitX M.K (.ref x) (.ref D) (fun h=>InstAt h x (instObj D d) D (some od))∧∀ C b,q7 Y J v C=some b→kitOne M.K (.ref D) (.ref C)=some b:=by
 induction v using AV.casesOn with
 |obj D fs=>
  apply nz hv.obj_inv;intro a d es n e0 h1 h2 hf hp hc;subst e0;apply bn (Gc h);intro ci hci;exact⟨a,_,d,_,rfl,XO R.N (aK _ h1) (aK _ h2),GU hy hci,fun C b h=>ET hy h⟩
 |cell k=>
  apply bK (show (obp (ny J k) fun D U=>qB Y D C)=some b from h);intro D fs e h0;apply bn (Gc h0);intro ci hci;apply af hv.cell_inv;intro a e0 ha;subst e0;apply cj (R.C.cell ha (pk e));intro d pre post e0 l e2 cr;subst e0;apply dZ cr.inst_inv;intro b' d es n e0 hf hp hc;clear hv hf;subst e0;(obtain e:=CC.same e2;subst e);refine⟨_,D,d,_,rfl,XO R.N (R.has (.head _)) (R.has (.tail _ (.head _))),GU hy hci,fun C b h=>ET hy ?_⟩;have h:(obp (ny J k) fun D U=>qB Y D C)=some b:=h;rw[e] at h;exact h
 |evx E g=>
  apply bJ hv.inv;intro a D hr1;apply cj hr1;intro d es n e0 h1 h2 ek;clear hv hr1;subst e0;apply mq ek.kin;intro k1 k2 k3 k4 k5;refine⟨a,D,d,_,rfl,XO R.N (aK _ h1) (aK _ h2),kitx_own k1 ek.hd k2 k3 k4 k5,fun C b h=>?_⟩;apply bC h;clear h;intro q h;rw[←aJ q];exact ek.one.trans h
 |_=>injection h
def Nt(hy:∀ C c,Y.ci C=some c→dC M C c)(hD:∀ C b,q7 Y J v C=some b→kitOne M.K (.ref D) (.ref C)=some b)(g:aj M imm ρ vs xs):xS Y J v xs=some b→kitAny M.K (.ref D) vs=some b:=by
 induction g using aj.ind generalizing b with
 |nil=>intro h;(apply r1 h;clear h);rfl
 |cons hv hr ih=>
  intro h;apply aG h;intro C e hj;apply aG hj;clear hj;intro q e2 hj;(obtain e:=I4 e;clear h;subst e);(obtain e:_=_:=VR.inv hv;subst e);unfold kitAny;rw[hD _ _ e2];induction q using oB with
  |true=>(injection hj with e;subst e);rfl
  |false=>exact ih hj
def To(h:xS Y J v xs=some b)(hne:xs≠[]):∃ C b',q7 Y J v C=some b':=by
 induction xs using oL with
 |nil=>exact absurd rfl hne
 |cons x xs=>
  apply aG h;clear h;intro C e h;apply aG h;clear h;intro q e2 h;exact⟨_,_,e2⟩
end
section
def Uc(h:Dl J v=some l){s:χ}{Q E:Θ}
  (C:aR M c A n) (R:ai M c.h₀ c.L s.heap m ls J imm cs) (hv:VR M imm (ae cs) va v) (k:∀ tk val,VR M imm (ae cs) val (.int l)→Q val {s with toks:=tk}):wpAny (model ar M.w) A (call (.builtin "len") [va] []) Q E s:=by
 induction v using AV.casesOn with
 |str ss=>
  (apply j1 h;rintro rfl);have hl:=hv.str_len;apply af hv.str_inv;intro t e0 o;clear hv;subst e0;refine PySem.P.len_str (by rw[ft];exact Int.not_le.mpr (Xe (bw hl) (by decide))) ?_;rw[ft];exact k _ _ (.int (mi M.he o).symm)
 |cell kk=>
  apply aG h;intro xs e h;(apply j1 h;rintro rfl);apply lG (R.lst hv (kI e));intro a vs' nn pre post e0 _ _ g1 v1 z1;clear hv;subst e0;refine call_len_list ⟨_,g1,rfl,_,rfl⟩ (by rw[Wv,v1.len];exact Xe (X5 z1) (by decide)) ?_;refine k _ _ (.int ?_);rw[Wv,v1.len,bH,aZ];rfl
 |_=>injection h
abbrev pT (M:aF) (n:Nat) (f:BF) (vs:List AV) (J:St) (q:AV×St):Prop:=jU M n J (.bi f) vs [] q.1 q.2
def uW{kwv:List (Str×π)}{kw:List (Str×AV)}(h:kwv.map (·.1)=kw.map (·.1))(e:kw=[]):kwv=[]:=by subst e;induction kwv using oL with|nil=>rfl|cons=>injection h
section
def Jl:OB (Eh J vs) (pT M n .len vs J):=OB.ob fun v h1=>OB.ob fun l h2=>OB.pure fun {c A s m ls imm cs fval vals kwv Q E} C R hv ha hk hk2 k=>by
 have eq9:=uW hk rfl;clear hk hk2;subst eq9;(obtain e:=rI h1;subst e);apply af ha.one;intro val e0 hv1;subst e0;(obtain e:_=_:=VR.inv hv;clear hv;subst e);exact Uc h2 C R hv1 fun tk val q=>k s.heap tk imm cs val R (aE.refl ..) q
def VZ(hy:∀ C c,Y.ci C=some c→dC M C c):OB (HK Y J v t) (pT M n .isi [v,t] J):=by
 induction t using AV.casesOn with
 |cls D=>
  exact OB.ob fun b h1=>OB.pure fun {c A s m ls imm cs fval vals kwv Q E} C R hv ha hk hk2 k=>by
   have eq9:=uW hk rfl;clear hk hk2;subst eq9;(obtain e:_=_:=VR.inv hv;clear hv;subst e);apply cD (aj.inv ha);intro _ _ e0 hv hn;clear ha;subst e0;apply af hn.one;intro val e0 hc;clear hn;subst e0;(obtain e:_=_:=VR.inv hc;clear hc;subst e);apply dZ (HZ hy h1 R hv);intro x D' d od e0 I kx e;clear hv;subst e0;exact kia_one kx (C.X.keeps R.F.keep) I (e _ _ h1) (by intro z;injection z) fun tk=>k s.heap tk imm cs _ R (aE.refl ..) (.bool _)
 |tup xs=>
  exact OB.gd fun h0=>OB.ob fun b h1=>OB.pure fun {c A s m ls imm cs fval vals kwv Q E} C R hv ha hk hk2 k=>by
   have eq9:=uW hk rfl;clear hk hk2;subst eq9;(obtain e:_=_:=VR.inv hv;clear hv;subst e);apply cD (aj.inv ha);intro _ _ e0 hv hn;clear ha;subst e0;apply af hn.one;intro val e0 hc;clear hn;subst e0;apply dj hc.tup_inv;intro a vs' nn e0 hk v1;clear hc;subst e0;have hne:xs≠[]:=by rintro rfl;injection h0
   apply bJ (To h1 hne);intro C0 b0 hh;apply dZ (HZ hy hh R hv);intro x D' d od e0 I kx e;clear hv;subst e0;exact kia_tup kx (C.X.keeps R.F.keep) I (R.kn C.X hk) (Nt hy e v1 h1) (by intro z;injection z) fun tk=>k s.heap tk imm cs _ R (aE.refl ..) (.bool _)
 |_=>exact OB.no
def Lh(hy:∀ C c,Y.ci C=some c→dC M C c):OB (D7 Y J vs) (pT M n .isi vs J):=by
 match vs with
 |[v,t]=>exact VZ hy
 |[]=>exact OB.no
 |[_]=>exact OB.no
 |_::_::_::_=>exact OB.no
def Sc:OB (EJ J v) (pT M n .range [v] J):=OB.ob fun i h2=>OB.ob fun j h3=>OB.gd fun h4=>OB.pure fun {c A s m ls imm cs fval vals kwv Q E} C R hv ha hk hk2 k=>by
 have eq9:=uW hk rfl;subst eq9;apply af (lK h2);intro l e0 e;subst e0;have hi:i=Int.ofNat j:=by cases i<;>(first|apply r1 h3|injection h3);rfl
 subst hi;apply af ha.one;intro val e0 hv1;subst e0;(obtain e:_=_:=VR.inv hv;clear hv;subst e);apply bn hv1.int_inv;intro t e0;clear hv1 ha;subst e0;rw[gZ e];have e2:lF 0 j s.toks t (s.toks+1)={cls:=.type "range",data:=.fields #[.int 0 s.toks,.int (j:Int) t,.int 1 (s.toks+1)]}:=by unfold lF;rw[XS];rfl
 have K:=k (s.heap.push (lF 0 j s.toks t (s.toks+1))) (s.toks+1+1) _ _ (.ref s.heap.objs.size) (R.newI (lF 0 j s.toks t (s.toks+1)) rfl) (R.extI _) (.rng (.head _) (W1 (nleT h4) _));rw[e2] at K;exact call_range_1 K
def D4(h:vM i=some j):i=(j:Int):=by cases i<;>(first|(apply r1 h;rfl)|injection h)
def LK:OB (E2 J v w) (pT M n .range [v,w] J):=OB.ob fun i h2=>OB.ob fun a h3=>OB.ob fun j h4=>OB.ob fun b h5=>OB.gd fun h6=>OB.gd fun h7=>OB.pure fun {c A s m ls imm cs fval vals kwv Q E} C R hv ha hk hk2 k=>by
 have eq9:=uW hk rfl;subst eq9;apply af (lK h2);intro l e0 e;subst e0;apply af (lK h4);intro l2 e0 e2;subst e0;(obtain e0:=D4 h3;subst e0);(obtain e0:=D4 h5;subst e0);apply cD (aj.cons_inv ha);intro v1 r1 e0 hv1 hr1;subst e0;apply af hr1.one;intro v2 e0 hv2;subst e0;(obtain e:_=_:=VR.inv hv;subst e);apply bn hv1.int_inv;intro t e0;subst e0;apply bn hv2.int_inv;intro u e0;subst e0;rw[gZ e,gZ e2];replace h6:=nleT h6;replace h7:=nleT h7;have q:lF a (b-a) t u s.toks={cls:=.type "range",data:=.fields #[.int (a:Int) t,.int (b:Int) u,.int 1 s.toks]}:=by unfold lF;rw[Nat.add_sub_cancel' h7]
 have K:=k (s.heap.push (lF a (b-a) t u s.toks)) (s.toks+1) _ _ (.ref s.heap.objs.size) (R.newI (lF a (b-a) t u s.toks) rfl) (R.extI _) (.rng (.head _) (WZ (W7 (Nat.add_sub_of_le h7)) h6));rw[q] at K;exact call_range_2 K
def NM:OB (Cz J vs) (pT M n .range vs J):=by
 match vs with
 |[v]=>exact Sc
 |[v,w]=>exact LK
 |[]=>exact OB.no
 |_::_::_::_=>exact OB.no
end
def Ap(hb:aU Y.B M.Z)(hy:∀ C c,Y.ci C=some c→dC M C c)(h:bf Y J f vs=some (r,J')):yc M (.bi f)∧jU M n J (.bi f) vs [] r J':=by
 refine⟨fun hv X hi=>by (obtain e:_=_:=VR.inv hv;clear hv;subst e);cases f<;>exact⟨.machine,.inr (.inl rfl),.of_pure rfl⟩,?_⟩;cases f with
 |len=>exact Jl _ h
 |isi=>exact Lh hy _ h
 |range=>exact NM _ h
end
section
end
section
section
def NU(hg:∀ x v,Y.glob x=some v→te M x v)(h:yE Y ls J x=some (v,J')):cS M n (fun c=>eval (.Name x pos) c.env) ls J v J':=by
 unfold yE at h;cases q:lk x ls.v with
 |some u=>rw[q] at h;(apply r2 h;clear h);exact Uj q
 |none=>
  rw[q] at h;apply bC h;clear h;intro h1 h;apply aG h;clear h;intro v' h2 h;(apply r2 h;clear h);exact FF h1 (hg _ _ h2)
def L7(hb:aU Y.B M.Z)(I:aS M n R)(h:Ie Y R ls J op e=some (v,J')):cS M n (fun c=>eval (.UnaryOp op e pos) c.env) ls J v J':=by
 cases op with
 |USub=>
  induction e using PySem.Expr.casesOn with
  |Constant c q p=>
   cases c with
   |int i=>(apply r2 h;clear h);exact RR
   |_=>injection h
  |_=>injection h
 |Not=>exact M5 hb I h
 |_=>injection h
def SQ(hb:aU Y.B M.Z)(hy:∀ C c,Y.ci C=some c→dC M C c)(hbm:xd M Y)(hg:∀ x v,Y.glob x=some v→te M x v)
  (I:aS M n R) (S:iP M n R) (X8:nu M n R) (h:FD Y R ls J e=some (v,J')) :
  cS M n (fun c=>eval e c.env) ls J v J':=by
 induction e using PySem.Expr.casesOn with
 |Constant c q pos=>
  apply aG h;intro v' h1 h2;(apply r2 h2;clear h2);exact Hg h1
 |Name x pos=>exact NU hg h
 |Attribute o x pos=>exact Vs hy I h
 |BoolOp op vs pos=>exact I.bl h pos
 |UnaryOp op e pos=>exact L7 hb I h
 |IfExp t b o pos=>exact Vp I h
 |BinOp l op r pos=>exact J6 hb HU I h
 |Compare l ops rs pos=>exact Cg I h
 |Tuple es q pos=>exact RP I h
 |List es pos=>exact Pg I h
 |Subscript o s pos=>
  induction s using PySem.Expr.casesOn with
  |Slice lo hi st p2=>exact TP I h
  |_=>exact G5 I h
 |Call f as ks pos=>
  induction f using PySem.Expr.casesOn with
  |Attribute o x apos=>exact Cu hy hbm I X8 h
  |Name x q=>exact Da I X8 h
  |_=>injection h
 |_=>injection h
end
end
structure jB (M:aF) (b:Nat) (Y:Pi):Prop where
 hb:aU Y.B M.Z
 hy:∀ C c,Y.ci C=some c→dC M C c
 hg:∀ x v,Y.glob x=some v→te M x v
 hf:∀ f fi,Y.fn f=some fi→fnIn M.K f=true∧t7 M f fi
 hs:∀ J f vs kw p,Y.spec J f vs kw=some p→fnIn M.K f=true∧bV M (b+25) J f vs kw p.1 p.2
 nm:rZ Y
structure uO (M:aF) (b d:Nat) (R:aM):Prop where
 E:aS M (10*d+b+30) R
 C:nu M (10*d+b+30) R
 S:iP M (10*d+b+30) R
 F:sQ M (10*d+b+30) R.fo
 cf:∀ {J f vs kw r J'},R.cf J f vs kw=some (r,J')→fnIn M.K f=true∧bV M (10*d+b+25) J f vs kw r J'
section
def U7(d:Nat):uO M b d .bot where
 E:=⟨fun h=>fW h,fun h=>fW h,fun h=>fW h,fun h=>fW h,fun h=>fW h,fun h=>fW h,fun h=>fW h,fun h=>fW h⟩
 C:=⟨fun h=>fW h,fun h=>fW h⟩
 S:=⟨fun h=>fW h,fun h=>fW h,fun h=>fW h,fun h=>fW h,fun h=>fW h,fun h=>fW h⟩
 F:=fun h=>fW h
 cf:=fun h=>fW h
def jU.le(h:n'≤n)(H:jU M n' J fv vs kw r J'):jU M n J fv vs kw r J':=by
 intro c A s m ls imm cs fval vals kwv Q E C;exact H (C.le h)
def PK(P:jB M b Y)(H:∀ {ls J ss f ls' J'},(C ()).exs ls J ss=some (f,ls',J')→bG M (10*d+b+20) (fun c=>execs ss c.env) ls J f ls' J')
  (h:x7 Y C J f vs kw=some (r,J')):fnIn M.K f=true∧bV M (10*d+b+25) J f vs kw r J':=by
 have go:Hi Y C J f vs kw=some (r,J')→fnIn M.K f=true∧bV M (10*d+b+25) J f vs kw r J':=fun h=>by
  apply aG h;clear h;intro fi h1 h;apply aG h;clear h;intro ls h2 h;apply xX h;clear h;intro fl ls' σ1 h3 h;apply ay (P.hf _ _ h1);intro g1 g2;refine⟨g1,?_⟩;induction fl using Fl.casesOn with
  |ret v=>(apply r2 h;clear h);exact uF g2 h2 (Nat.lt_succ_self _) (.inl rfl) (H h3)
  |next=>(apply r2 h;clear h);exact uF g2 h2 (Nat.lt_succ_self _) (.inr ⟨rfl,rfl⟩) (H h3)
 unfold x7 at h;cases e:Y.spec J f vs kw with
 |none=>rw[e] at h;exact go h
 |some p=>
  rw[e] at h;injection h with q;subst q;apply ay (P.hs _ _ _ _ _ e);intro h1 h2;exact⟨h1,bV.le (Xn _ _) h2⟩
def RY(P:jB M b Y)(I:uO M b d R)(H:∀ {ls J ss f ls' J'},(C ()).exs ls J ss=some (f,ls',J')→bG M (10*d+b+20) (fun c=>execs ss c.env) ls J f ls' J') :
  uO M b d (.step Y R C):=by
 have cf5:∀ {J f vs kw r J'},x7 Y C J f vs kw=some (r,J')→fnIn M.K f=true∧bV M (10*d+b+25) J f vs kw r J':=fun h=>PK P H h;refine⟨⟨?_,?_,?_,?_,?_,?_,?_,?_⟩,⟨?_,?_⟩,⟨?_,?_,?_,?_,?_,?_⟩,?_,cf5⟩
 ·exact fun h=>SQ P.hb P.hy (F3 P.hb P.nm) P.hg I.E I.S I.C h
 ·exact fun h=>PG (Y:=Y) I.E h
 ·exact fun h=>Fx (Y:=Y) I.E h
 ·exact fun h=>Tu (Y:=Y) I.E h
 ·exact fun h pos=>HD P.hb I.E h pos
 ·exact fun h pos=>Vv P.hb I.E h pos
 ·exact fun h=>FQ P.hb I.E h
 ·exact fun h=>DV (Y:=Y) I.E h
 ·exact fun h=>⟨(cf5 h).1,bV.le (W1 (nleT rfl) _) (cf5 h).2⟩
 ·intro J fv vs kw r J' h
  apply cw (yt P.hy I.cf (fun h=>Ap P.hb P.hy h) h);intro a b c;exact⟨a,jU.le (W1 (nleT rfl:28≤30) _) b,fun f self e=>⟨(c f self e).1,bV.le (W1 (nleT rfl:28≤30) _) (c f self e).2⟩⟩
 ·exact fun h=>Jt (Y:=Y) I.S h
 ·exact fun h=>M4 P.hb P.hy CZ (Pk) I.E I.S (EG I.F) h
 ·exact fun h=>Rg P.hy CZ I.E I.S h
 ·exact fun h=>Vw (Y:=Y) I.S h
 ·exact fun h=>IT (Y:=Y) I.S h
 ·exact fun h=>VT (Y:=Y) I.E I.S h
 ·exact V2 (Y:=Y) I.S I.F
def cU(P:jB M b Y):∀ n d:Nat,uO M b d (mk Y n d)
 |0,d=>U7 d
 |n+1,d=>by
  show uO M b d (.step Y (mk Y n d) (fun U=>Nat.rec .bot (fun d' U=>mk Y n d') d));refine RY P (cU P n d) ?_;cases d with
  |zero=>exact fun h=>by injection h
  |succ d=>
   intro ls J ss f ls' J' h;rw[show 10*(d+1)+b+20=10*d+b+30 by lia];exact(cU P n d).S.exs h
end
end
section
set_option backward.match.sparseCases false
variable {M:aF}
def S6:fastLookup "function" "__get__"=some (some (.builtin "function.__get__")):=by kernel_rfl
def RN:fastLookup "function" "__set__"=some none:=by kernel_rfl
def Ur:fastLookup "function" "__delete__"=some none:=by kernel_rfl
def GN{K:Frag}{f:Addr}(h:isFn K (.ref f)=true):specialIn K (.ref f) "__get__"=some (some (.builtin "function.__get__"))∧takesIn K (.ref f)=some false:=by
 have e1:∀ x,specialIn K (.ref f) x=fastLookup "function" x:=fun x=>by unfold specialIn;rw[WB.mp h];rfl
 refine⟨by rw[e1,S6],?_⟩;unfold takesIn;rw[e1,RN];rw[e1,Ur];rfl
noncomputable def gt{α:Type}(a:Addr):List (Addr×α)→κ α
 |[]=>none
 |p::r=>match Nat.beq p.1 a with|true=>some p.2|false=>gt a r
set_option smartUnfolding false in
def Gl{α:Type}{a:Addr}{v:α}:∀ {l:List (Addr×α)},gt a l=some v→(a,v)∈l:=by
 intro L0;induction L0 with
 |nil=>
  intro h;injection h
 |cons p r ih=>
  intro h;replace h:Bool.rec (motive:=fun U=>κ α) (gt a r) (some p.2) (Nat.beq p.1 a)=some v:=h;cases q:Nat.beq p.1 a with
  |true=>rw[q] at h;rw[←bM h,←aJ q];exact .head _
  |false=>rw[q] at h;exact .tail _ (ih h)
noncomputable def Ao:π→Bool
 |.ref _=>false
 |_=>true
noncomputable def ya:List π→List Addr→Bool
 |.ref a::r,b::s=>a.beq b&&ya r s
 |l,[]=>l.all Ao
 |_,_=>false
def Cm{l:List π}(h:l.all Ao=true)(D:Addr):l.contains (.ref D)=false:=by
 induction l with
 |nil=>rfl
 |cons v r ih=>
  rw[List.all_cons,Wj] at h;rw[List.contains_cons,ih h.2,Bool.or_false];cases v<;>first|rfl|cases h.1
def La:∀ {l:List π} {m:List Addr},ya l m=true→∀ D,l.contains (.ref D)=m.any (Nat.beq D):=by
 intro l;induction l with
 |nil=>
  intro m h D;induction m using oL with
  |nil=>rw[Cm rfl];rfl
  |cons=>injection h
 |cons v r ih=>
  intro m h D;induction m using oL with
  |nil=>
   have h:(v::r).all Ao=true:=by cases v<;>exact h
   rw[Cm h];rfl
  |cons b s=>
   cases v with
   |ref a=>
    replace h:(a.beq b&&ya r s)=true:=h;rw[Wj] at h;have:=aJ h.1;subst this;rw[List.contains_cons,List.any_cons,ih h.2 D]
    congr 1
    cases q:Nat.beq D a with
    |true=>rw[aJ q];simp
    |false=>
     simp [W6 q]
   |_=>injection h
noncomputable def zt(K:Frag)(C:Addr)(p:Str×Addr):Bool:=findIn K (.ref C) p.1 == some (some (.ref p.2))&&isFn K (.ref p.2)&&fnIn K p.2&&!copiedNames.contains p.1
noncomputable def FI(K:Frag)(C:Addr)(x:Str):Bool:=findIn K (.ref C) x == some none
def zY(K:Frag)(C:Addr)(c:CI):Bool :=
 plainGet K C ""&&hasDictIn K C&&findIn K (.ref C) "__setattr__" == some (some (.builtin "object.__setattr__"))&&plainOver K C&&findIn K (.ref C) "__bool__" == some none&&findIn K (.ref C) "__len__" == some none &&
 (match c.init with|some f=>findIn K (.ref C) "__init__" == some (some (.ref f))&&typeIn K (.ref f) == some (.type "function")&&makesIn K C|none=>true) &&
 (match clsIn K C with|some cd=>!cd.mro.isEmpty&&ya cd.mro c.mro|none=>false)&&typeIn K (.ref C) == some (.type "type")&&c.mro.any (Nat.beq C) &&
 plainGet K C "__class__"&&findIn K (.ref C) "__class__" == some (some (.builtin "object.__class__"))&&mroIn K C (.type "object") == some true
noncomputable def FM(v:π):Bool:=match v with|.none=>true|_=>false
noncomputable def H5(v:π)(b:Bool):Bool:=match v with|.bool a=>a == b|_=>false
noncomputable def FN(v:π)(i:Int):Bool:=match v with|.int j _=>decide (j=i)|_=>false
def Ff(v:π)(l:ξ):Bool:=match v with|.str x _=>gy x.cps.toList l|_=>false
def F4(v:π)(l:κ ξ):Bool:=match l with|some l=>Ff v l&&Nat.ble (lenA l) 1000|none=>false
def zO(v:π)(x:AV):Bool:=match x with
 |.none=>FM v
 |.bool b=>H5 v b
 |.int l=>bD l.l&&FN v l.c
 |.str s=>F4 v s.conc
 |_=>false
def TZ(h:FM v=true):v=.none:=by cases v<;>first|rfl|injection h
def MG(h:H5 v b=true):v=.bool b:=by
 cases v with
 |bool a=>rw[WB.mp h]
 |_=>injection h
def IY(h:FN v i=true):∃ t,v=.int i t:=by
 cases v with
 |int j t=>exact⟨t,by rw[WM h]⟩
 |_=>injection h
def Va(h:Ff v l=true):∃ t,v=.str (ba l) t:=by
 cases v with
 |str x t=>exact⟨t,by rw[←jf.mp h];rfl⟩
 |_=>injection h
noncomputable def wZ:List π→List AV→Bool
 |[],[]=>true
 |v::vs,x::xs=>zO v x&&wZ vs xs
 |_,_=>false
def Jk(h:zO v x=true):VR M imm ρ v x:=by
 induction x using AV.casesOn with
 |none=>rw[TZ h];exact .none
 |bool b=>rw[MG h];exact .bool _
 |int l=>
  replace h:=aw h;apply bn (IY h.2);intro t e0;subst e0;refine .int ?_;unfold aD.val;cases e:l.l with
  |nil=>exact(XL _).symm
  |cons=>rw[e] at h;cases h.1
 |str s=>
  replace h:F4 v s.conc=true:=h;cases e:s.conc with
  |none=>rw[e] at h;injection h
  |some l=>
   rw[e] at h;replace h:=aw h;apply bn (Va h.1);intro t e0;subst e0;have h2:=nleT h.2;rw[aZ] at h2;have hs:dw M.Z s:=by
    induction s using oL with
    |nil=>exact fun U h=>absurd h WA
    |cons p r=>
     induction p using Pc.casesOn<;>induction r using oL<;>try (injection e;done)
     intro p hp;rw[bU hp];trivial
   exact .str (by rw[ji e]) hs (by rw[ji e];exact W2 h2)
 |_=>injection h
def Fn:∀ {vs:List π} {xs:List AV},wZ vs xs=true→aj M imm ρ vs xs
 |[],[],_=>.nil
 |[],_::_,h=>by injection h
 |_::_,[],h=>by injection h
 |v::vs,x::xs,h=>by
  replace h:(zO v x&&wZ vs xs)=true:=h;rw[Wj] at h;exact .cons (Jk h.1) (Fn h.2)
noncomputable def wx:List Arg→List Str→Bool
 |[],[]=>true
 |a::r,x::xs=>seq a.arg x&&wx r xs
 |_,_=>false
def FJ:∀ {l:List Arg} {m:List Str},wx l m=true→l.map (·.arg)=m
 |[],[],_=>rfl
 |[],_::_,h=>by injection h
 |_::_,[],h=>by injection h
 |a::r,x::xs,h=>by
  replace h:(seq a.arg x&&wx r xs)=true:=h;rw[Wj] at h;rw[WT,ii.mp h.1,FJ h.2]
noncomputable def RQ:NameKind→Bool
 |.cell=>true
 |_=>false
def ES(K:Frag)(st:Stmt)(args:List Str)(cd:π)(qual:Str):Bool :=
 codeIn K cd qual&&(fA st).posonlyargs.isEmpty&&(fA st).vararg.isNone&&(fA st).kwonlyargs.isEmpty&&(fA st).kw_defaults.isEmpty&&(fA st).kwarg.isNone&&wx (fA st).args args &&
 (fS st).kind == .function&&!(fS st).isCoroutine&&!(fS st).isGenerator&&(fS st).names.all (fun x=>!RQ x.2)&&args.all (fun x=>lr x (fS st).names)&&(lk ("__debug__" : Str) (fS st).names).isNone
def GZ(dflt:List AV)(o:κ Obj):Bool:=match o with
 |some ⟨_,_,.seq xs _,_⟩=>wZ xs.toList dflt
 |_=>false
def y0(K:Frag)(dV:π)(dflt:List AV):Bool:=match dV with
 |.none=>dflt.isEmpty
 |.ref t=>GZ dflt (K.lookup t)
 |_=>false
def Hk(K:Frag)(a:Addr)(fi:nJ):Prop:=∃ (st:Stmt) (name qual:Str) (dV kV doc pm:π) (an:κ Addr) (cd ct:π),
 K.lookup a=some ⟨.type "function",none,.func (fnOf name qual (fA st) (fB st) (fS st) dV kV doc pm an cd ct),#[]⟩∧fi.body=fB st∧fi.sc=(fS st).names∧ES K st fi.args cd qual=true∧y0 K dV fi.dflt=true
def JH{dV:π}{dflt:List AV}(h:y0 M.K dV dflt=true):(dV=.none∧dflt=[])∨∃ t o items q,dV=.ref t∧M.K.lookup t=some o∧o.data=.seq (List.toArray items) q∧∀ imm ρ,aj M imm ρ items dflt:=by
 induction dV using Value.casesOn with
 |none=>exact .inl ⟨rfl,List.isEmpty_iff.mp h⟩
 |ref t=>
  replace h:GZ dflt (M.K.lookup t)=true:=h;cases e:M.K.lookup t with
  |none=>rw[e] at h;injection h
  |some o=>
   rw[e] at h;obtain⟨_,_,d,_⟩:=o;induction d using Data.casesOn with
   |seq xs q=>exact .inr ⟨t,_,xs.toList,q,rfl,e,rfl,fun _ _=>Fn h⟩
   |_=>injection h
 |_=>injection h
set_option tactic.hygienic true in
def RT(h:Hk M.K a fi):fnIn M.K a=true∧t7 M a fi:=by
 apply bJ h;intro st name hr1;apply bJ hr1;intro qual dV hr2;apply bJ hr2;intro kV doc hr3;apply kb hr3;intro pm an cd ct ho hb hs hc hd;have a1:=aw hc;have a2:=aw a1.1;have a3:=aw a2.1;have a4:=aw a3.1;have a5:=aw a4.1;have a6:=aw a5.1;have a7:=aw a6.1;have a8:=aw a7.1;have a9:=aw a8.1;have a10:=aw a9.1;have a11:=aw a10.1;have a12:=aw a11.1;have eta:∀ a:Arguments,a.posonlyargs=[]→a.vararg=none→a.kwonlyargs=[]→a.kw_defaults=[]→a.kwarg=none→a={posonlyargs:=[],args:=a.args,vararg:=none,kwonlyargs:=[],kw_defaults:=[],kwarg:=none,defaults:=a.defaults}:=fun ⟨_,_,_,_,_,_,_⟩ h1 h2 h3 h4 h5=>by
  dsimp only at h1 h2 h3 h4 h5;rw[h1,h2,h3,h4,h5]
 rw[eta (fA st) (List.isEmpty_iff.mp a12.2) (Option.isNone_iff_eq_none.mp a11.2) (List.isEmpty_iff.mp a10.2) (List.isEmpty_iff.mp a9.2) (Option.isNone_iff_eq_none.mp a8.2),←hb] at ho;refine⟨by unfold fnIn;rw[ho],.mk name qual (fA st).args (fA st).defaults (fS st) dV kV doc pm cd ct (.type "function") an none #[] ho a12.1 (FJ a7.2) hs.symm (by
   have c8:=a6.2;revert c8;cases (fS st).kind<;>intro c8<;>first|rfl|injection c8) (Bool.not_eq_true' _▸a5.2) (Bool.not_eq_true' _▸a4.2) ?_ ?_ ?_ ?_⟩
 ·intro x hx e
  have:=aV a3.2 x hx;rw[e] at this;injection this
 ·intro x hx
  exact yG (aV a2.2 x hx)
 ·exact Option.isNone_iff_eq_none.mp (kt _ _▸a1.2)
 ·exact JH hd
def KJ:(fun P:Params=>mI.all fun p=>zY (bY P) p.1 p.2)=fun U=>true:=by kernel_rfl
def QG:(fun P:Params=>mI.all fun p=>p.2.meths.all (zt (bY P) p.1))=fun U=>true:=by kernel_rfl
def Lm:(fun P:Params=>mI.all fun p=>p.2.flds.all (FI (bY P) p.1))=fun U=>true:=by kernel_rfl
def PQ:List Stmt:=[tS 0,mS 4 0,mS 4 1,mS 5 0,mS 6 0,mS 8 0,mS 10 0,mS 11 0,mS 13 0,mS 20 0,mS 21 1,mS 21 2,mS 21 3,mS 21 4,mS 21 5,mS 21 6,mS 21 7,mS 21 8,mS 21 9,mS 21 10,mS 21 11,mS 21 12,mS 21 13,mS 21 14,mS 21 15,mS 21 16,mS 21 17,mS 21 18,mS 21 19,mS 21 20,mS 21 21,mS 21 22,mS 21 23,mS 21 24,mS 21 25,mS 21 26,mS 21 27,mS 21 28,mS 21 29,mS 21 30,mS 21 31,mS 21 32,mS 21 33,mS 21 34,mS 21 35,mS 21 36,mS 21 37,mS 21 38,mS 21 39,mS 21 40,mS 21 41,mS 21 42,mS 21 43,mS 21 44,mS 21 45,mS 21 46,mS 21 47,mS 21 48,mS 21 49,mS 21 50,mS 21 51,mS 21 52,mS 21 53,mS 21 54,mS 21 56,mS 21 57,mS 21 58,mS 21 59,mS 21 60,mS 22 0,mS 22 1,mS 22 2,tS 24,tS 25,tS 26,tS 27,tS 28,tS 29,tS 30,tS 31]
def ux:List ((Addr×nJ)×Stmt):=jb.zip PQ
structure CY where
 name:Str
 qual:Str
 dV:π
 kV:π
 doc:π
 pm:π
 an:κ Addr
 cd:π
 ct:π
def wN(o:κ Obj):CY:=match o with
 |some ⟨_,_,.func f,_⟩=>⟨f.name,f.qualname,f.defaults,f.kwdefaults,f.doc,f.pyModule,f.annotations,f.code,f.closureTuple⟩
 |_=>⟨n0,n0,.none,.none,.none,.none,none,.none,.none⟩
def U6(st:Stmt)(d:CY):κ Obj:=some ⟨.type "function",none,.func (fnOf d.name d.qual (fA st) (fB st) (fS st) d.dV d.kV d.doc d.pm d.an d.cd d.ct),#[]⟩
def Vu:jb=ux.map Prod.fst:=by kernel_rfl
def MF(P:Params):∀ q∈ux,(bY P).lookup q.1.1=U6 q.2 (wN ((bY P).lookup q.1.1)):=X3 (by kernel_rfl)
def OY:∀ q∈ux,q.1.2.body=fB q.2:=X3 (by kernel_rfl)
def LV:∀ q∈ux,q.1.2.sc=(fS q.2).names:=X3 (by kernel_rfl)
def N4(P:Params):(ux.all fun q=>ES (bY P) q.2 q.1.2.args (wN ((bY P).lookup q.1.1)).cd (wN ((bY P).lookup q.1.1)).qual&&y0 (bY P) (wN ((bY P).lookup q.1.1)).dV q.1.2.dflt)=true:=by kernel_rfl
def UK(P:Params)(p:Addr×nJ)(hp:p∈jb):Hk (bY P) p.1 p.2:=by
 rw[Vu] at hp;apply af (cC hp);intro q hq e0;clear hp;subst e0;have h:=aw (aV (N4 P) q hq);exact⟨q.2,_,_,_,_,_,_,_,_,_,MF P q hq,OY q hq,LV q hq,h.1,h.2⟩
noncomputable def rx:Nat→Str
 |0=>⟨#[97,112,112,101,110,100]⟩
 |1=>⟨#[112,111,112]⟩
 |2=>⟨#[106,111,105,110]⟩
 |3=>⟨#[115,116,97,114,116,115,119,105,116,104]⟩
 |_=>⟨#[99,111,112,121]⟩
abbrev pC:=St→Addr→List AV→List (Str×AV)→κ (AV×St)
def eY(B:Bd)(sp:pC):Pi:={B,fn:=fun a=>gt a jb,ci:=fun a=>gt a mI,glob:=fun x=>lk x Cq,spec:=sp,nm:=rx}
def Lq(B:Bd):Pi:=eY B fun U U U U=>none
def Vc:rx 0=Str.ofString "append"∧rx 1=Str.ofString "pop"∧rx 2=Str.ofString "join"∧rx 3=Str.ofString "startswith"∧rx 4=Str.ofString "copy" :=
 ⟨by kernel_rfl,by kernel_rfl,by kernel_rfl,by kernel_rfl,by kernel_rfl⟩
def E4(K:Frag)(p:Str×AV):Bool:=match p.2 with
 |.cls a=>nsIn K mainGlobals p.1 == some (some (.ref a))
 |.fn a=>nsIn K mainGlobals p.1 == some (some (.ref a))
 |.bi k=>nsIn K mainGlobals p.1 == some none&&bootBuiltins p.1 == some k.val&&p.1 != "__name__"
 |_=>false
def D6:(fun P:Params=>Cq.all (E4 (bY P)))=fun U=>true:=by kernel_rfl
def FW(h:E4 M.K p=true):te M p.1 p.2:=by
 obtain⟨x,v⟩:=p;induction v using AV.casesOn<;>try (injection h;done)
 ·exact⟨_,fun U U=>.cls,.inl (WB.mp h)⟩
 ·exact⟨_,fun U U=>.fn,.inl (WB.mp h)⟩
 ·replace h:=aw h
  have g:=aw h.1;exact⟨_,fun U U=>.bi,.inr ⟨WB.mp g.1,WB.mp g.2,bne_iff_ne.mp h.2⟩⟩
set_option tactic.hygienic true in
def Kj(h:zY M.K C c=true)(hm:c.meths.all (zt M.K C)=true)(hf:c.flds.all (FI M.K C)=true)
  (hc:∀ x v,lk x c.consts=some v→∃ a,findIn M.K (.ref C) x=some (some a)∧specialIn M.K a "__get__"=some none∧handedIn a=true∧copiedNames.contains x=false∧∀ imm ρ,VR M imm ρ a v)
  (hk:specialIn M.K (.builtin "object.__class__") "__get__"=some (some (.builtin "getset_descriptor.__get__"))∧takesIn M.K (.builtin "object.__class__")=some true):dC M C c:=by
 unfold zY at h;simp only [Wj] at h;apply ay h;intro hq37 h13;apply ay hq37;intro hq38 h12;apply ay hq38;intro hq39 h11;apply ay hq39;intro hq40 h10;apply ay hq40;intro hq41 h9;apply ay hq41;intro hq42 h8;apply ay hq42;intro hq43 h7;apply ay hq43;intro hq44 h6;apply ay hq44;intro hq45 h5;apply ay hq45;intro hq46 h4;apply ay hq46;intro hq47 h3;apply ay hq47;intro h1 h2;refine⟨⟨h1,h2,WB.mp h3,h4,WB.mp h5,WB.mp h6⟩,?_,hc,?_,?_,⟨h11,WB.mp h12,hk.1,hk.2,WB.mp h13⟩,?_⟩
 ·intro x f hx
  have:=aV hm (x,f) (iJ hx);unfold zt at this;simp only [Wj] at this;apply ay this;intro hq48 a4;apply ay hq48;intro hq49 a3;apply ay hq49;intro a1 a2;exact⟨WB.mp a1,a2,a3,(GN a2).1,(GN a2).2,by simpa using a4⟩
 ·intro x hx
  replace hx:=BQ hx;have:=WB.mp (aV hf x hx);exact⟨this,by unfold takerIn;rw[this];rfl⟩
 ·refine⟨?_,WB.mp h9,h10⟩
  split at h8
  ·rename_i cd e
   rw[Wj] at h8;exact⟨cd,e,by simpa using h8.1,fun D=>La h8.2 D⟩
  ·injection h8
 ·intro f hf
  rw[hf] at h7;simp only [Wj] at h7;exact⟨WB.mp h7.1.1,WB.mp h7.1.2,h7.2⟩
def Rv(P:Params):specialIn (bY P) (.builtin "object.__class__") "__get__"=some (some (.builtin "getset_descriptor.__get__"))∧takesIn (bY P) (.builtin "object.__class__")=some true:=⟨by kernel_rfl,by kernel_rfl⟩
def P6:vB M (xi M.w.params) :=
 ⟨[(xb,.str xb 634),(Em,.str FK 636)],fun e he=>by
  rcases cI (show e∈xi M.w.params by simpa using he) with rfl|he
  ·exact⟨_,strKind_is ar M.w _ _,rfl⟩
  ·rw[bU he];exact⟨_,strKind_is ar M.w _ _,rfl⟩,.cons (strKind_is ar M.w _ _) rfl (.cons (strKind_is ar M.w _ _) rfl .nil),(by decide +kernel),(by decide)⟩
def PM(P:Params):(bY P).lookup 308=some (dictOf (xi P) 2):=by kernel_rfl
def T8(P:Params):findIn (bY P) (.ref 736) uw=some (some (.ref 308))∧specialIn (bY P) (.ref 308) "__get__"=some none∧copiedNames.contains uw=false:=⟨by kernel_rfl,by kernel_rfl,by kernel_rfl⟩
def Qi:(mI.all fun p=>p.2.consts.isEmpty ||Nat.beq p.1 736)=true:=by kernel_rfl
def H4:CI:=(gt 736 mI).getD ⟨none,false,[],[],[],[]⟩
def K5:H4.consts=[(uw,.dict)]:=by kernel_rfl
def Lv:gt 736 mI=some H4:=by kernel_rfl
def Un:∀ C c,gt C mI=some c→dC M C c:=fun C c h=>by
 have hm:=Gl h;have c1:=aV (congrFun KJ M.w.params) _ hm;have c2:=aV (congrFun QG M.w.params) _ hm;have c3:=aV (congrFun Lm M.w.params) _ hm;refine Kj c1 c2 c3 (fun x v hx=>?_) (Rv M.w.params);have c4:=aV Qi _ hm;rw[Bool.or_eq_true] at c4;rcases c4 with c4|c4
 ·rw[List.isEmpty_iff.mp c4] at hx;injection hx
 ·have:=aJ c4
  clear hm c1 c2 c3 c4;subst this;rw[Lv] at h;(apply j1 h;clear h;rintro rfl);rw[K5] at hx;replace hx:=iJ hx;(injection bU hx with e1 e2;subst e1;subst e2);apply cw (T8 M.w.params);intro f1 f2 f3;exact⟨.ref 308,f1,f2,rfl,f3,fun imm ρ=>.dict (.inr (PM M.w.params)) (by decide) P6⟩
def B1{α:Type}{x:Str}{v:α}{l:List (Str×α)}{f:Str×α→Bool}(h:l.all f=true)(hx:lk x l=some v):f (x,v)=true:=aV h _ (iJ hx)
def mJ(M:aF)(b:Nat)(sp:pC):Prop:=∀ J f vs kw p,sp J f vs kw=some p→fnIn M.K f=true∧bV M (b+25) J f vs kw p.1 p.2
def q8(hb:aU B M.Z)(hs:mJ M b sp):jB M b (eY B sp) where
 hb:=hb
 hy:=Un
 hg:=fun x v h=>FW (M:=M) (p:=(x,v)) (B1 (congrFun D6 M.w.params) h)
 hf:=fun f fi h=>RT (M:=M) (UK M.w.params _ (Gl h))
 hs:=hs
 nm:=Vc
def yC(hb:aU B M.Z):jB M 0 (Lq B):=q8 hb fun U U U U U h=>by injection h
abbrev Sp:=pC
noncomputable def aq:Sp:=fun U U U U=>none
def lX:mJ M b aq:=fun U U U U U h=>by injection h
def tn{α:Type}(d:α)(l:List α)(k:Nat):α:=(ao l k).getD d
def tO{α:Type}(o:Nat→α)(i:Nat)(l:List (κ α))(k:Nat):α:=Bool.rec (o k) (((ao l (k-i)).getD none).getD (o k)) (i.ble k)
def Gz(h:k<i):Nat.ble i k=false:=by
 cases e:Nat.ble i k with
 |false=>rfl
 |true=>exact absurd (nleT e) (Nat.not_le.mpr h)
def QI{α:Type}{o:Nat→α}{i:Nat}{l:List (κ α)}{k:Nat}(h:k<i):tO o i l k=o k:=by
 unfold tO;rw[Gz h]
def Sd{α:Type}{o:Nat→α}{i:Nat}{l:List (κ α)}{k:Nat}(h:i+l.length≤k):tO o i l k=o k:=by
 unfold tO;rw[cJ,WR (Nat.le_sub_of_add_le' h)];cases i.ble k<;>rfl
def AV.ind{p:AV→Prop}(none:p .none)(bool:∀ b,p (.bool b))(int:∀ l,p (.int l))(str:∀ s,p (.str s))(cell:∀ k,p (.cell k))(tup:∀ xs,(∀ x∈xs,p x)→p (.tup xs))
  (obj:∀ C fs,(∀ q∈fs,p q.2)→p (.obj C fs)) (dict:p .dict) (cls:∀ a,p (.cls a)) (fn:∀ a,p (.fn a)) (bi:∀ k,p (.bi k))
  (meth:∀ f v,p v→p (.meth f v)) (any:∀ i,p (.any i)) (rng:∀ i n,p (.rng i n)) (evx:∀ C h,p (.evx C h)):∀ x,p x :=
 AV.rec
  none bool int str cell tup obj dict cls fn bi meth any rng evx
  (fun x h=>by cases h) (fun U U a b=>List.forall_mem_cons.mpr ⟨a,b⟩) (fun x h=>by cases h) (fun U U a b=>List.forall_mem_cons.mpr ⟨a,b⟩) (fun U U h=>h)
structure cP where
 L:aD→aD
 S:SS→SS
 v:Nat→AV
 z:Nat→ak
 c:Nat→Nat
def flA(φ:cP):AV→AV :=
 AV.rec (motive_1:=fun U=>AV) (motive_2:=fun U=>List AV) (motive_3:=fun U=>List (Str×AV)) (motive_4:=fun U=>Str×AV)
  .none .bool (fun l=>.int (φ.L l)) (fun s=>.str (φ.S s)) (fun k=>.cell (φ.c k)) (fun U h=>.tup h) (fun C U h=>.obj C h) .dict .cls .fn .bi (fun f U h=>.meth f h) (fun i=>φ.v i) .rng .evx
  [] (fun U U a b=>a::b) [] (fun U U a b=>a::b) (fun x U h=>(x,h))
def aH(φ:cP)(xs:List AV):List AV:=xs.map (flA φ)
def fQ{α:Type}(φ:cP)(xs:List (α×AV)):List (α×AV):=xs.map fun q=>(q.1,flA φ q.2)
def lv:AV→List AV :=
 AV.rec (motive_1:=fun U=>List AV) (motive_2:=fun U=>List AV) (motive_3:=fun U=>List AV) (motive_4:=fun U=>List AV)
  [] (fun U=>[]) (fun U=>[]) (fun s=>[.str s]) (fun k=>[.cell k]) (fun U h=>h) (fun U U h=>h) [] (fun U=>[]) (fun U=>[]) (fun U=>[]) (fun U U h=>h) (fun i=>[.any i]) (fun U U=>[]) (fun U U=>[])
  [] (fun U U a b=>a++b) [] (fun U U a b=>a++b) (fun U U h=>h)
def bt(xs:List AV):List AV:=xs.flatMap lv
def dK{α:Type}(xs:List (α×AV)):List AV:=xs.flatMap fun q=>lv q.2
section
variable (φ:cP)
theorem xL:∀ xs,flA φ (.tup xs)=.tup (aH φ xs):=by
 intro L0;induction L0 with
 |nil=>
  exact rfl
 |cons a r ih=>
  exact congrArg (fun v=>match v with|.tup l=>AV.tup (flA φ a::l)|v=>v) (ih)
theorem zZ(C:Addr):∀ xs,flA φ (.obj C xs)=.obj C (fQ φ xs):=by
 intro L0;induction L0 with
 |nil=>
  exact rfl
 |cons a r ih=>
  exact congrArg (fun v=>match v with|.obj C l=>AV.obj C ((a.1,flA φ a.2)::l)|v=>v) (ih)
end
def xg:∀ xs,lv (.tup xs)=bt xs:=by
 intro L0;induction L0 with
 |nil=>
  exact rfl
 |cons a r ih=>
  exact congrArg (lv a++·) (ih)
def zU(C:Addr):∀ xs,lv (.obj C xs)=dK xs:=by
 intro L0;induction L0 with
 |nil=>
  exact rfl
 |cons a r ih=>
  exact congrArg (lv a.2++·) (ih)
noncomputable def yn(x:AV):ξ:=match x with
 |.any i=>[i]
 |_=>[]
def eM(l:List AV):ξ:=l.flatMap yn
noncomputable def S0(x:AV):ξ:=match x with
 |.cell k=>[k]
 |_=>[]
def bX(l:List AV):ξ:=l.flatMap S0
def mH(a b:List AV):eM (a++b)=eM a++eM b:=XC ..
def pc(a b:List AV):bX (a++b)=bX a++bX b:=XC ..
def ze(B:Bd)(p:Pc):Bool:=match p with
 |.rep _ n=>match n.lo B with|some (.ofNat _)=>true|_=>false
 |_=>true
def dD(B:Bd)(x:AV):Bool:=match x with
 |.str s=>s.all (ze B)
 |_=>true
noncomputable def Ev.wO(Z:Ev)(ov:Nat→π)(cv:Nat→CC):Ev:={Z with ov:=ov,cv:=cv}
def aF.wE(M:aF)(Z:Ev)(p:Z.P=M.Z.P∧Z.Ok)(ov:Nat→π)(cv:Nat→CC):aF:=⟨M.w,M.mg,M.mb,Z.wO ov cv,p.1.trans M.hw,p.2⟩
section
def VA:∀ l,cg (Z.wO ov cv) l=cg Z l:=by
 intro L0;induction L0 with
 |nil=>
  exact rfl
 |cons p r ih=>
  show p.2*Z.iv p.1+cg (Z.wO ov cv) r=_;rw[ih];rfl
def ox(l:aD):l.val (Z.wO ov cv)=l.val Z:=by unfold aD.val;rw[VA]
def ME:∀ p:Pc,p.val (Z.wO ov cv)=p.val Z
 |.lit _=>rfl
 |.var _=>rfl
 |.rep c n=>by show List.replicate (n.val (Z.wO ov cv)).toNat c=_;rw[ox];rfl
def pY:∀ s:SS,s.val (Z.wO ov cv)=s.val Z:=by
 intro L0;induction L0 with
 |nil=>
  exact rfl
 |cons p r ih=>
  show p.val (Z.wO ov cv)++SS.val (Z.wO ov cv) r=_;rw[ME,ih];rfl
def xZ:dw (Z.wO ov cv) s↔dw Z s:=by
 constructor<;>intro h p hp<;>have:=h p hp
 ·clear hp;induction p using Pc.casesOn with
  |rep c n=>have h2:0≤n.val (Z.wO ov cv):=this;rw[ox] at h2;exact h2
  |_=>trivial
 ·clear hp;induction p using Pc.casesOn with
  |rep c n=>show 0≤n.val (Z.wO ov cv);rw[ox];exact this
  |_=>trivial
def G4{p:Z.P=M.Z.P∧Z.Ok}(h:ju M C):ju (M.wE Z p ov cv) C:=⟨h.ga,h.hd,h.sa,h.po,h.tb,h.tl⟩
def Ee{p:Z.P=M.Z.P∧Z.Ok}(h:ju (M.wE Z p ov cv) C):ju M C:=⟨h.ga,h.hd,h.sa,h.po,h.tb,h.tl⟩
end
structure gD (M:aF) (B:Bd) (Z:Ev) (φ:cP):Prop where
 p:Z.P=M.Z.P∧Z.Ok
 hb:aU B Z
 L:∀ l,(φ.L l).val M.Z=l.val Z
 S:∀ s,(φ.S s).val M.Z=s.val Z
 O:∀ s,dw Z s→dw M.Z (φ.S s)
def BU{α:Type}{f:α→Bool}{a b:List α}(h:(a++b).all f=true):a.all f=true∧b.all f=true:=by
 rw[XR,Wj] at h;exact h
section
def yr(hb:aU B Z){s:SS}(h:s.all (ze B)=true):dw Z s:=by
 intro p hp;have:=aV h p hp;induction p using Pc.casesOn with
 |rep c n=>
  have this:(match n.lo B with|some (.ofNat _)=>true|_=>false)=true:=this;cases e:n.lo B with
  |none=>rw[e] at this;injection this
  |some t=>
   rw[e] at this;cases t with
   |ofNat t=>exact W3 (cT t) (ua hb e)
   |negSucc t=>injection this
 |_=>trivial
def xP{α:Type}(fs:List (α×AV)):(fQ φ fs).map Prod.fst=fs.map Prod.fst:=by unfold fQ;rw[Xi];rfl
def xN{C:Addr}{K:Frag}{fs gs:List (Str×AV)}(e:fs.map Prod.fst=gs.map Prod.fst)(h:∀ p∈fs,findIn K (.ref C) p.1=some none):∀ p∈gs,findIn K (.ref C) p.1=some none:=fun p hp=>by
 apply af (cC (e▸Ws hp));intro q h1 h2;rw[←h2];exact h q h1
section
abbrev ni (M:aF) (imm:Δ) (ρ:List Addr) (θ:Nat→AV) (as:List (Nat×π)):Prop:=∀ p∈as,VR M imm ρ p.2 (θ p.1)
abbrev ky (ov:Nat→π) (as:List (Nat×π)):Prop:=∀ p∈as,ov p.1=p.2
def ni.app(h:ni M imm ρ θ as)(g:ni M imm ρ θ bs):ni M imm ρ θ (as++bs):=fun p hp=>(cZ hp).elim (h p) (g p)
def ky.l{ov:Nat→π}{as bs:List (Nat×π)}(h:ky ov (as++bs)):ky ov as:=fun p hp=>h p (aK _ hp)
def ky.r{ov:Nat→π}{as bs:List (Nat×π)}(h:ky ov (as++bs)):ky ov bs:=fun p hp=>h p (bF _ hp)
def Dn(M:aF)(B:Bd)(φ:cP)(imm:Δ)(ρ:List Addr)(l:List AV)(X:(Nat→π)→(Nat→CC)→Prop):Prop :=
 l.all (dD B)=true→∃ as,as.map Prod.fst=eM l∧ni M imm ρ φ.v as∧∀ ov cv,ky ov as→X ov cv
def Dn.nil{X:(Nat→π)→(Nat→CC)→Prop}(h:∀ ov cv,X ov cv):Dn M B φ imm ρ [] X:=fun U=>⟨[],rfl,fun U h=>absurd h WA,fun U U U=>h _ _⟩
def Dn.to{X X':(Nat→π)→(Nat→CC)→Prop}(h:Dn M B φ imm ρ l X)(f:∀ ov cv,X ov cv→X' ov cv):Dn M B φ imm ρ l X':=fun g=>by
 apply db (h g);intro as e s t;exact⟨as,e,s,fun ov cv k=>f _ _ (t ov cv k)⟩
def Dn.app{l l':List AV}{X X' X9:(Nat→π)→(Nat→CC)→Prop}(h:Dn M B φ imm ρ l X)(h':Dn M B φ imm ρ l' X')(f:∀ ov cv,X ov cv→X' ov cv→X9 ov cv):Dn M B φ imm ρ (l++l') X9:=fun g=>by
 apply ay (BU g);intro g1 g2;apply db (h g1);intro as e s t;apply db (h' g2);intro bs e' s' t';exact⟨as++bs,by rw[Wl,e,e',mH],s.app s',fun ov cv k=>f _ _ (t ov cv k.l) (t' ov cv k.r)⟩
def Dn.letter{X:(Nat→π)→(Nat→CC)→Prop}(hx:yn x=[i])(h:VR M imm ρ v (φ.v i))(f:dD B x=true→∀ ov cv,ov i=v→X ov cv):Dn M B φ imm ρ [x] X:=fun g=>
 ⟨[(i,v)],by show _=yn x++[];rw[hx];rfl,fun p hp=>by rw[bU hp];exact h,fun ov cv k=>f (by simpa using g) ov cv (k (i,v) (.head _))⟩
def aj.dn{p:Z.P=M.Z.P∧Z.Ok}(H:∀ x∈xs,∀ v,VR M imm ρ v (flA φ x)→Dn M B φ imm ρ (lv x) fun ov cv=>VR (M.wE Z p ov cv) imm ρ v x):∀ vs,aj M imm ρ vs (aH φ xs)→Dn M B φ imm ρ (bt xs) fun ov cv=>aj (M.wE Z p ov cv) imm ρ vs xs:=by
 induction xs with
 |nil=>exact fun vs h=>by (obtain e:_=_:=aj.inv h;clear h;subst e);exact .nil fun U U=>.nil
 |cons x r ih=>exact fun vs h=>by apply cD (aj.inv h);intro _ _ e0 a b;clear h;subst e0;exact(H _ (.head _) _ a).app (ih (fun y hy=>H y (.tail _ hy)) _ b) fun U U=>.cons
def aT.dn{p:Z.P=M.Z.P∧Z.Ok}(H:∀ q∈xs,∀ v,VR M imm ρ v (flA φ q.2)→Dn M B φ imm ρ (lv q.2) fun ov cv=>VR (M.wE Z p ov cv) imm ρ v q.2):∀ vs,aT M imm ρ vs (fQ φ xs)→Dn M B φ imm ρ (dK xs) fun ov cv=>aT (M.wE Z p ov cv) imm ρ vs xs:=by
 induction xs with
 |nil=>exact fun vs h=>by cases h;exact .nil fun U U=>.nil
 |cons x r ih=>exact fun vs h=>by apply lw (aT.inv h);intro _ _ _ _ e0 a b;clear h;subst e0;exact(H _ (.head _) _ a).app (ih (fun y hy=>H y (.tail _ hy)) _ b) fun U U=>.cons
def VR.dn(F:gD M B Z φ)(hc:φ.c=id):∀ (x:AV) (v:π),VR M imm ρ v (flA φ x)→Dn M B φ imm ρ (lv x) fun ov cv=>VR (M.wE Z F.p ov cv) imm ρ v x:=by
 refine AV.ind ?_ ?_ ?_ ?_ ?_ ?_ ?_ ?_ ?_ ?_ ?_ ?_ ?_ ?_ ?_
 ·exact fun v h=>h.inv▸.nil fun U U=>.none
 ·exact fun b v h=>h.inv▸.nil fun U U=>.bool b
 ·exact fun l v h=>by apply bn h.inv;intro t e0;clear h;subst e0;exact .nil fun U U=>.int (by rw[F.L];exact(ox l).symm)
 ·exact fun s v h g=>by
   have g:=by
    have:(dD B (.str s)&&true)=true:=g;rw[Xv] at this;exact this
   apply db h.inv;intro t e0 o k;clear h;subst e0;rw[F.S] at k ⊢;exact⟨[],rfl,et,fun U U U=>.str (congrArg ba (pY s).symm) (xZ.mpr (yr F.hb g)) (by rw[show (M.wE Z F.p _ _).Z=Z.wO _ _ from rfl,pY];exact k)⟩
 ·exact fun l v h U=>by
   apply af h.inv;intro a e0 e;clear h;subst e0;rw[hc] at e;exact⟨[],rfl,et,fun U U U=>.cell e⟩
 ·exact fun xs ih v h=>by
   rw[xL] at h;rw[xg];apply dj h.inv;intro _ _ _ e0 a b;clear h;subst e0;exact(aj.dn ih _ b).to fun U U=>.tup a
 ·exact fun C fs ih v h=>by
   rw[zZ] at h;rw[zU];apply nz h.inv;intro _ _ _ _ e0 a b c d e;clear h;subst e0;exact(aT.dn ih _ c).to fun U U r=>.obj a b r (xN (xP fs) d) (G4 e)
 ·exact fun v h=>by apply cj h.inv;intro _ _ _ e0 a b c;clear h;subst e0;exact .nil fun U U=>.dict a b c
 ·exact fun U v h=>h.inv▸.nil fun U U=>.cls
 ·exact fun U v h=>h.inv▸.nil fun U U=>.fn
 ·exact fun U v h=>h.inv▸.nil fun U U=>.bi
 ·exact fun f x ih v h=>by
   apply cD h.inv;intro _ _ e0 a b;clear h;subst e0;exact(ih _ b).to fun U U=>.meth a
 ·exact fun i v h=>.letter rfl h fun U ov cv k=>.any k
 ·exact fun i n v h=>by apply lw h.inv;intro _ _ _ _ e0 a b;clear h;subst e0;exact .nil fun U U=>.rng a b
 ·exact fun C g v h=>by apply bJ h.inv;intro _ _ hr1;apply cj hr1;intro _ _ _ e0 a b c;clear h hr1;subst e0;exact .nil fun U U=>.evx a b c
def eE(M:aF)(φ:cP)(imm:Δ)(ρ ρ':List Addr)(ov:Nat→π)(l:List AV):Prop:=(∀ i∈eM l,VR M imm ρ' (ov i) (φ.v i))∧∀ k∈bX l,∀ a,ao ρ k=some a→ao ρ' (φ.c k)=some a
section
def eE.l{l l':List AV}(h:eE M φ imm ρ ρ' ov (l++l')):eE M φ imm ρ ρ' ov l:=by
 unfold eE at h ⊢;rw[mH,pc] at h;exact⟨fun i hi=>h.1 i (aK _ hi),fun i hi=>h.2 i (aK _ hi)⟩
def eE.r{l l':List AV}(h:eE M φ imm ρ ρ' ov (l++l')):eE M φ imm ρ ρ' ov l':=by
 unfold eE at h ⊢;rw[mH,pc] at h;exact⟨fun i hi=>h.1 i (bF _ hi),fun i hi=>h.2 i (bF _ hi)⟩
def aj.up'{p:Z.P=M.Z.P∧Z.Ok}{xs:List AV}(H:∀ x∈xs,∀ v,eE M φ imm ρ ρ' ov (lv x)→VR (M.wE Z p ov cv) imm ρ v x→VR M imm ρ' v (flA φ x)):∀ vs,eE M φ imm ρ ρ' ov (bt xs)→aj (M.wE Z p ov cv) imm ρ vs xs→aj M imm ρ' vs (aH φ xs):=by
 induction xs with
 |nil=>exact fun vs U h=>by (obtain e:_=_:=aj.inv h;clear h;subst e);exact .nil
 |cons x r ih=>exact fun vs o h=>by apply cD (aj.inv h);intro _ _ e0 a b;clear h;subst e0;exact .cons (H _ (.head _) _ o.l a) (ih (fun y hy=>H y (.tail _ hy)) _ o.r b)
def aT.up'{p:Z.P=M.Z.P∧Z.Ok}{xs:List (Str×AV)}(H:∀ q∈xs,∀ v,eE M φ imm ρ ρ' ov (lv q.2)→VR (M.wE Z p ov cv) imm ρ v q.2→VR M imm ρ' v (flA φ q.2)):∀ vs,eE M φ imm ρ ρ' ov (dK xs)→aT (M.wE Z p ov cv) imm ρ vs xs→aT M imm ρ' vs (fQ φ xs):=by
 induction xs with
 |nil=>exact fun vs U h=>by cases h;exact .nil
 |cons x r ih=>exact fun vs o h=>by apply lw (aT.inv h);intro _ _ _ _ e0 a b;clear h;subst e0;exact .cons (H _ (.head _) _ o.l a) (ih (fun y hy=>H y (.tail _ hy)) _ o.r b)
def VR.up(F:gD M B Z φ):∀ (x:AV) (v:π),eE M φ imm ρ ρ' ov (lv x)→VR (M.wE Z F.p ov cv) imm ρ v x→VR M imm ρ' v (flA φ x):=by
 refine AV.ind ?_ ?_ ?_ ?_ ?_ ?_ ?_ ?_ ?_ ?_ ?_ ?_ ?_ ?_ ?_
 ·exact fun v U h=>h.inv▸.none
 ·exact fun b v U h=>h.inv▸.bool b
 ·exact fun l v U h=>by apply bn h.inv;intro t e0;clear h;subst e0;exact .int ((ox l).trans (F.L _).symm)
 ·exact fun s v U h=>by apply db h.inv;intro t e0 g k;clear h;subst e0;exact .str (congrArg ba ((pY s).trans (F.S _).symm)) (F.O _ (xZ.mp g)) (by rw[F.S,←pY];exact k)
 ·exact fun k v o h=>by apply af h.inv;intro a e0 e;clear h;subst e0;exact .cell (o.2 k (.head _) _ e)
 ·exact fun xs ih v o h=>by
   rw[xg] at o;rw[xL];apply dj h.inv;intro _ _ _ e0 a b;clear h;subst e0;exact .tup a (aj.up' ih _ o b)
 ·exact fun C fs ih v o h=>by
   rw[zU] at o;rw[zZ];apply nz h.inv;intro _ _ _ _ e0 a b c d e;clear h;subst e0;exact .obj a b (aT.up' ih _ o c) (xN (xP fs).symm d) (Ee e)
 ·exact fun v U h=>by apply cj h.inv;intro _ _ _ e0 a b c;clear h;subst e0;exact .dict a b c
 ·exact fun U v U h=>h.inv▸.cls
 ·exact fun U v U h=>h.inv▸.fn
 ·exact fun U v U h=>h.inv▸.bi
 ·exact fun f x ih v o h=>by
   apply cD h.inv;intro _ _ e0 a b;clear h;subst e0;exact .meth a (ih _ o b)
 ·exact fun i v o h=>by
   have:=o.1 i (.head _);rw[show ov i=v from h.inv] at this;exact this
 ·exact fun i n v U h=>by apply lw h.inv;intro _ _ _ _ e0 a b;clear h;subst e0;exact .rng a b
 ·exact fun C g v U h=>by apply bJ h.inv;intro _ _ hr1;apply cj hr1;intro _ _ _ e0 a b c;clear h hr1;subst e0;exact .evx a b c
def aj.up(F:gD M B Z φ)(xs:List AV)(vs:List π):eE M φ imm ρ ρ' ov (bt xs)→aj (M.wE Z F.p ov cv) imm ρ vs xs→aj M imm ρ' vs (aH φ xs):=aj.up' (fun x U=>VR.up F x) vs
def aT.up(F:gD M B Z φ)(xs:List (Str×AV))(vs:List DictEntry):eE M φ imm ρ ρ' ov (dK xs)→aT (M.wE Z F.p ov cv) imm ρ vs xs→aT M imm ρ' vs (fQ φ xs):=aT.up' (fun x U=>VR.up F x.2) vs
end
end
end
noncomputable def kY:ξ→Bool
 |[]=>true
 |a::r=>!dB a r&&kY r
def AN(a b:ξ):Bool:=a.all fun i=>dB i b
noncomputable def nV:List (Str×AV)→Bool
 |[]=>true
 |p::r=>match lk p.1 r with
  |none=>nV r
  |some _=>false
def mt:∀ {l:ξ},dB i l=true↔i∈l:=by
 intro L0;induction L0 with
 |nil=>
  exact⟨fun h=>(Bool.noConfusion h),fun h=>absurd h WA⟩
 |cons b r ih=>
  have e:dB i (b::r)=(i.beq b ||dB i r):=by
   show Bool.rec (motive:=fun U=>Bool) (dB i r) true (i.beq b)=_;cases i.beq b<;>rfl
  rw[e,Bool.or_eq_true,ih,Xf];exact or_congr_left ⟨aJ,fun h=>by rw[h];exact Xz _⟩
set_option smartUnfolding false in
def yF:∀ {l:ξ},kY l=true→l.Nodup:=by
 intro L0;induction L0 with
 |nil=>
  intro _;exact .nil
 |cons a r ih=>
  intro h;replace h:=aw h;refine WH.mpr ⟨fun q=>?_,ih h.2⟩;rw[mt.mpr q] at h;cases h.1
def FP(h:AN a b=true):∀ i∈a,i∈b:=fun i hi=>mt.mp (aV h i hi)
def dq(c:ak)(b:List AV):ak:=match c with
 |.seg ys=>Bool.rec (.rows [] (.k (-1))) (.list (ys++b)) (Nat.ble (lenA ys) 50000&&Nat.ble (lenA b) 50000)
 |.any j=>.spl j b
 |_=>.rows [] (.k (-1))
def dk{ys b:List AV}(h:ys.length≤50000)(g:b.length≤50000):dq (.seg ys) b=.list (ys++b):=by
 show Bool.rec (motive:=fun U=>ak) _ _ (Nat.ble (lenA ys) 50000&&Nat.ble (lenA b) 50000)=_;rw[aZ,aZ,Wn h,Wn g];rfl
noncomputable def AK(z:ak)(C:Addr)(h:Bool):ak:=match z with
 |.any j=>.hd j C h
 |z=>z
def fC(φ:cP)(c:ak):ak:=match c with
 |.list xs=>.list (aH φ xs)
 |.rows t n=>.rows (φ.S t) (φ.L n)
 |.inst C fs=>.inst C (fQ φ fs)
 |.any i=>φ.z i
 |.spl i xs=>dq (φ.z i) (aH φ xs)
 |.seg xs=>.seg (aH φ xs)
 |.hd i C h=>AK (φ.z i) C h
def bE(φ:cP)(J:St):St:=J.map (fC φ)
def fF(φ:cP)(f:Fl):Fl:=match f with
 |.ret v=>.ret (flA φ v)
 |.next=>.next
def b6(φ:cP)(ls:ac):ac:=⟨fQ φ ls.v,ls.sc⟩
def fP(c:ak):List AV:=match c with
 |.list xs=>bt xs
 |.rows t _=>[.str t]
 |.inst _ fs=>dK fs
 |.any _=>[]
 |.spl _ xs=>bt xs
 |.seg xs=>bt xs
 |.hd _ _ _=>[]
def fG(J:St):List AV:=J.flatMap fP
def FX(f:Fl):List AV:=match f with
 |.ret v=>lv v
 |_=>[]
noncomputable def zl(c:ak):ξ:=match c with|.any i=>[i]|.spl i _=>[i]|.hd i _ _=>[i]|_=>[]
noncomputable def xR(c:ak):Bool:=match c with|.hd _ _ _=>false|_=>true
def nf(J:St):ξ:=J.flatMap zl
section
def rz(x:Str)(ls:List (Str×AV)):lk x (fQ φ ls)=(lk x ls).map (flA φ):=oS (flA φ) x ls
section
abbrev Gg (M:aF) (imm:Δ) (ρ:List Addr) (ζ:Nat→ak) (as:List (Nat×CC)):Prop:=∀ p∈as,CR M imm ρ p.2 (ζ p.1)
abbrev Bv (cv:Nat→CC) (as:List (Nat×CC)):Prop:=∀ p∈as,cv p.1=p.2
def mC(M:aF)(B:Bd)(φ:cP)(imm:Δ)(ρ:List Addr)(l:List AV)(z:ξ)(X:(Nat→π)→(Nat→CC)→Prop):Prop :=
 l.all (dD B)=true→∃ as cas,as.map Prod.fst=eM l∧ni M imm ρ φ.v as∧cas.map Prod.fst=z∧Gg M imm ρ φ.z cas∧∀ ov cv,ky ov as→Bv cv cas→X ov cv
def mC.of{X:(Nat→π)→(Nat→CC)→Prop}(h:Dn M B φ imm ρ l X):mC M B φ imm ρ l [] X:=fun g=>by
 apply db (h g);intro as e s t;exact⟨as,[],e,s,rfl,et,fun ov cv k U=>t ov cv k⟩
def mC.app{X X' X9:(Nat→π)→(Nat→CC)→Prop}(h:mC M B φ imm ρ l z X)(h':mC M B φ imm ρ l' z' X')(f:∀ ov cv,X ov cv→X' ov cv→X9 ov cv):mC M B φ imm ρ (l++l') (z++z') X9:=fun g=>by
 apply ay (BU g);intro g1 g2;apply m7 (h g1);intro as ca e s d u t;apply m7 (h' g2);intro bs cb e' s' d' u' t';exact⟨as++bs,ca++cb,by rw[Wl,e,e',mH],s.app s',by rw[Wl,d,d'],fun p hp=>(cZ hp).elim (u p) (u' p),
  fun ov cv k j=>f _ _ (t ov cv k.l fun p hp=>j p (aK _ hp)) (t' ov cv k.r fun p hp=>j p (bF _ hp))⟩
def jV.mv(h:jV Z vs l):jV Z' vs l:=by
 induction h with
 |nil=>exact .nil
 |snoc _ ih=>exact .snoc ih
def aj.split(h:aj M imm ρ vs (xs++ys)):∃ us ws,vs=us++ws∧aj M imm ρ us xs∧aj M imm ρ ws ys:=by
 induction xs generalizing vs with
 |nil=>exact⟨[],vs,rfl,.nil,h⟩
 |cons x r ih=>
  apply cD (aj.inv h);intro _ _ e0 a b;clear h;subst e0;apply cD (ih b);intro us ws e h1 h2;exact⟨_::us,ws,by rw[e];rfl,.cons a h1,h2⟩
def GK(e:x=.rows [] (.k (-1)))(h:CR M imm ρ c x):False:=by
 subst e;apply cj (CR.rows_inv h);intro a vs n e0 b d f;subst e0;rw[bH] at f;lia
def VE(h:CR M imm ρ c (dq z b)):∃ a us vs n,c=.list a (us++vs) n∧us.length≤50000∧CR M imm ρ (.seg us) z∧aj M imm ρ vs b∧b.length≤50000:=by
 induction z using ak.casesOn with
 |any j=>
  apply kb (CR.spl_inv h);intro a us vs n e0 h1 h2 h3 h4;exact⟨a,us,vs,n,e0,h2,.any h1,h3,h4⟩
 |seg ys=>
  cases q:Nat.ble (lenA ys) 50000&&Nat.ble (lenA b) 50000 with
  |false=>exact(GK (show Bool.rec _ _ (Nat.ble (lenA ys) 50000&&Nat.ble (lenA b) 50000)=_ by rw[q]) h).elim
  |true=>
   replace q:=aw q;have q2:=nleT q.2;replace q:=nleT q.1;rw[aZ] at q q2;rw[dk q q2] at h;apply dj (CR.list_inv h);intro a vs n e0 g l;subst e0;apply cD g.split;intro us ws e1 g1 g2;clear g;subst e1;exact⟨a,us,ws,n,rfl,by rw[g1.len];exact q,.seg g1 q,g2,q2⟩
 |_=>exact(GK rfl h).elim
def Us(hz:CR M imm ρ (.seg us) z)(hu:us.length≤50000)(hv:aj M imm ρ vs b)(hb:b.length≤50000):CR M imm ρ (.list a (us++vs) n) (dq z b):=by
 induction z using ak.casesOn with
 |any j=>exact .spl hz.inv hu hv hb
 |seg ys=>
  apply db hz.inv;intro ws e0 g l;injection e0 with e0;subst e0;rw[dk l hb];exact .list (g.app hv) (by rw[aB];exact WZ (Xb l hb) (nleT rfl))
 |list=>apply jo hz.inv;intro _ _ _ e _;injection e
 |rows=>apply jo hz.inv;intro _ _ _ e _;injection e
 |inst=>apply bJ hz.inv;intro _ _ hr1;apply gF hr1;intro _ _ e _;injection e
 |spl=>apply bJ hz.inv;intro _ _ hr1;apply gF hr1;intro _ _ e _;injection e
 |hd=>apply bJ hz.inv;intro _ _ hr1;apply gF hr1;intro _ _ e _;injection e
def NP(M:aF)(z:ak)(C:Addr)(h:Bool):Prop:=(∃ j,z=.any j)∨∃ D fs r,z=.list (.obj D fs::r)∧qC M.K D C h
def oW(M:aF)(φ:cP)(x:ak):Prop:=match x with|.hd i C h=>NP M (φ.z i) C h|_=>True
abbrev kB (M:aF) (φ:cP) (P:St):Prop:=∀ x∈P,oW M φ x
def re{P:St}(h:P.all xR=true):kB M φ P:=fun x hx=>by
 have:=aV h x hx;induction x using ak.casesOn with
 |hd=>injection this
 |_=>trivial
def CR.dn(F:gD M B Z φ)(hc:φ.c=id)(x:ak)(gh:oW M φ x)(h:CR M imm ρ c (fC φ x)):mC M B φ imm ρ (fP x) (zl x) fun ov cv=>CR (M.wE Z F.p ov cv) imm ρ c x:=by
 induction x using ak.casesOn with
 |list xs=>
  apply dj (CR.list_inv h);intro _ _ _ e0 a b;clear h;subst e0;exact .of ((aj.dn (fun x U=>VR.dn F hc x) _ a).to fun U U r=>.list r (by unfold aH at b;rw[Wr] at b;exact b))
 |rows tx n=>
  apply cj (CR.rows_inv h);intro _ _ _ e0 a b d;clear h;subst e0;rw[F.S] at a;intro g;have g:=by
   have:(dD B (.str tx)&&true)=true:=g;rw[Xv] at this;exact this
  exact⟨[],[],rfl,et,rfl,et,fun ov cv U U=>.rows (by show jV (Z.wO ov cv) _ (SS.val (Z.wO ov cv) tx);rw[pY];exact a.mv) (xZ.mpr (yr F.hb g)) (by rw[F.L] at d;show _≤n.val (Z.wO ov cv);rw[ox];exact d)⟩
 |inst C fs=>
  apply dZ (CR.inst_inv h);intro _ _ _ _ e0 a b d;clear h;subst e0;exact .of ((aT.dn (fun x U=>VR.dn F hc x.2) _ a).to fun U U r=>.inst r (xN (xP fs) b) (G4 d))
 |any i=>exact fun U=>⟨[],[(i,c)],rfl,et,rfl,fun p hp=>by rw[bU hp];exact h,fun ov cv U k=>.any (k (i,c) (.head _))⟩
 |seg xs=>
  apply db h.inv;intro _ e0 a b;clear h;subst e0;exact .of ((aj.dn (fun x U=>VR.dn F hc x) _ a).to fun U U r=>.seg r (by unfold aH at b;rw[Wr] at b;exact b))
 |spl i xs=>
  intro g;replace h:=h;apply kb (VE h);intro a us vs n e0 hu hz hv hl;clear h;subst e0;rw[show (aH φ xs).length=xs.length from Wr ..] at hl;apply db (aj.dn (fun x U=>VR.dn F hc x) _ hv g);intro as e s t;exact⟨as,[(i,.seg us)],e,s,rfl,fun p hp=>by rw[bU hp];exact hz,fun ov cv k j=>.spl (j (i,.seg us) (.head _)) hu (t ov cv k) hl⟩
 |hd i C g=>
  have key:∃ a v vs n,c=.list a (v::vs) n∧vs.length≤200000∧(∃ b D d es m,v=.ref b∧(b,instObj D d)∈imm∧(d,dictOf es m)∈imm∧qC M.K D C g)∧CR M imm ρ c (φ.z i):=by
   replace h:CR M imm ρ c (AK (φ.z i) C g):=h;rcases gh with ⟨j,e⟩|⟨D,fs,r,e,ek⟩
   ·rw[e] at h ⊢
    apply dZ (CR.inv h);intro a v vs n e0 e1 e2 e3;exact⟨a,v,vs,n,e0,e2,e3.inv,.any (e1.trans e0.symm)⟩
   ·rw[e] at h ⊢
    replace h:=h;apply dj h.list_inv;intro a vs n e0 e1 e2;apply cD e1.cons_inv;intro v t e3 e4 e5;clear e1;subst e3;apply dZ e4.obj_inv;intro b d es m f0 f1 f2 _;exact⟨a,v,t,n,e0,by rw[e5.len];rw[dH] at e2;exact WZ (Xh _) e2,⟨b,D,d,es,m,f0,f1,f2,ek⟩,h⟩
  apply dZ key;intro a v vs n e0 e1 hq50 hz;apply bJ hq50;intro b D hr1;apply cj hr1;intro d es m f0 f1 f2 ek;subst e0 f0;exact fun U=>⟨[],[(i,.list a (.ref b::vs) n)],rfl,et,rfl,fun p hp=>by rw[bU hp];exact hz,fun ov cv U k=>.hd (k (i,_) (.head _)) e1 (.evx f1 f2 ek)⟩
def aN.dn(F:gD M B Z φ)(hc:φ.c=id):∀ (x:St) {cs:List CC},kB M φ x→aN M imm ρ cs (bE φ x)→mC M B φ imm ρ (fG x) (nf x) fun ov cv=>aN (M.wE Z F.p ov cv) imm ρ cs x:=by
 intro L0;induction L0 with
 |nil=>
  intro _ _ h;cases h;exact fun U=>⟨[],[],rfl,et,rfl,et,fun U U U U=>.nil⟩
 |cons x r ih=>
  intro _ gh h;cases h with|cons a b=>exact(CR.dn F hc x (gh x (.head _)) a).app (ih (fun y hy=>gh y (.tail _ hy)) b) fun U U=>.cons
def CR.up(F:gD M B Z φ)(x:ak)(o:eE M φ imm ρ ρ' ov (fP x))(oc:∀ i∈zl x,CR M imm ρ' (cv i) (φ.z i))(h:CR (M.wE Z F.p ov cv) imm ρ c x):CR M imm ρ' c (fC φ x):=by
 induction x using ak.casesOn with
 |list xs=>
  apply dj (CR.list_inv h);intro _ _ _ e0 a b;subst e0;exact .list (aj.up F xs _ o a) (by unfold aH;rw[Wr];exact b)
 |rows tx n=>
  apply cj (CR.rows_inv h);intro _ _ _ e0 a b d;subst e0;exact .rows (by
   rw[F.S];replace a:jV (Z.wO ov cv) _ (SS.val (Z.wO ov cv) tx):=a;rw[pY] at a;exact a.mv) (F.O _ (xZ.mp b)) (by rw[F.L,←ox];exact d)
 |inst C fs=>
  apply dZ (CR.inst_inv h);intro _ _ _ _ e0 a b d;subst e0;exact .inst (aT.up F fs _ o a) (xN (xP fs).symm b) (Ee d)
 |any i=>
  have:=oc i (.head _);have e:cv i=c:=h.inv;rw[e] at this;exact this
 |seg xs=>
  apply db h.inv;intro _ e0 a b;subst e0;exact .seg (aj.up F xs _ o a) (by unfold aH;rw[Wr];exact b)
 |spl i xs=>
  have:=oc i (.head _);apply kb (CR.spl_inv h);intro a us vs n e0 hu hl hv hb;subst e0;rw[show cv i=_ from hu] at this;exact Us this hl (aj.up F xs _ o hv) (by unfold aH;rw[Wr];exact hb)
 |hd i C g=>
  have k:=oc i (.head _);apply dZ (CR.inv h);intro a v vs n e0 hu hl hv;subst e0;rw[show cv i=_ from hu] at k;apply bJ hv.inv;intro b D hr1;apply cj hr1;intro d es m f0 f1 f2 ek;show CR M imm ρ' _ (AK (φ.z i) C g);cases q:φ.z i with
  |any j=>rw[q] at k;clear hu hv hr1;subst f0;exact .hd k.inv hl (.evx f1 f2 ek)
  |_=>rw[q] at k;exact k
def aN.up(F:gD M B Z φ):∀ (x:St) {cs:List CC},eE M φ imm ρ ρ' ov (fG x)→(∀ i∈nf x,CR M imm ρ' (cv i) (φ.z i))→aN (M.wE Z F.p ov cv) imm ρ cs x→aN M imm ρ' cs (bE φ x):=by
 intro L0;induction L0 with
 |nil=>
  intro _ _ _ h;cases h;exact .nil
 |cons x r ih=>
  intro _ o oc h;replace o:=o;replace oc:=oc;cases h with|cons a b=>exact .cons (CR.up F x o.l (fun i hi=>oc i (aK _ hi)) a) (ih o.r (fun i hi=>oc i (bF _ hi)) b)
abbrev tY (M:aF) (imm:Δ) (ρ:List Addr) (m:ω) (ls:List (Str×AV)):Prop:=∀ x v,lk x ls=some v→∃ val,m x=some val∧VR M imm ρ val v
set_option tactic.hygienic true in
def BZ(F:gD M B Z φ)(hc:φ.c=id):∀ (ls:List (Str×AV)),nV ls=true→tY M imm ρ m (fQ φ ls)→Dn M B φ imm ρ (dK ls) fun ov cv=>tY (M.wE Z F.p ov cv) imm ρ m ls:=by
 intro L0;induction L0 with
 |nil=>
  intro _ _;exact .nil fun _ _ x v h=>by injection h
 |cons x0 r ih=>
  obtain⟨y,u⟩:=x0;intro n h;unfold nV at n
  split at n
  ·rename_i e
   apply af (h y (flA φ u) (by rw[rz,eU,if_pos rfl];rfl));intro val m1 r1;refine(VR.dn F hc u _ r1).app (ih n fun x v hx=>h x v ?_) fun ov cv a b x v hx=>?_
   ·rw[rz] at hx ⊢
    rw[eU]
    by_cases q:y=x
    ·subst q;rw[e] at hx;injection hx
    ·rw[if_neg q];exact hx
   ·rw[eU] at hx
    by_cases q:y=x
    ·subst q;rw[if_pos rfl] at hx;(apply j1 hx;clear hx;rintro rfl);exact⟨val,m1,a⟩
    ·rw[if_neg q] at hx;exact b x v hx
  ·injection n
def Q8:∀ {ls:List (Str×AV)},lk x ls=some u→∃ a b,dK ls=a++(lv u++b):=by
 intro L0;induction L0 with
 |nil=>
  intro h;injection h
 |cons x0 r ih=>
  obtain⟨y,v⟩:=x0;intro h;rw[eU] at h
  by_cases e:y=x
  ·rw[if_pos e] at h;(apply r1 h;clear h);exact⟨[],dK r,rfl⟩
  ·rw[if_neg e] at h
   apply bJ (ih h);intro a b q;exact⟨lv v++a,b,by show lv v++dK r=_;rw[q,bP]⟩
def AX(F:gD M B Z φ)(o:eE M φ imm ρ ρ' ov (dK ls))(h:tY (M.wE Z F.p ov cv) imm ρ m ls):tY M imm ρ' m (fQ φ ls):=fun x v hx=>by
 rw[rz] at hx;cases q:lk x ls with
 |none=>rw[q] at hx;injection hx
 |some u=>
  rw[q] at hx;(apply r1 hx;clear hx);apply af (h x u q);intro val a b;apply bJ (Q8 q);intro l r e;rw[e] at o;exact⟨val,a,VR.up F u _ o.r.l b⟩
end
noncomputable def iU(x:AV):Bool:=match x with|.bool _=>true|_=>false
noncomputable def og(x:AV):π:=match x with|.bool b=>.bool b|_=>.none
def nv(fr:ξ)(θ:Nat→AV)(ov:Nat→π):Prop:=∀ i∈fr,∃ b,θ i=.bool b∧ov i=.bool b
def pn(fr:ξ)(B:Bd)(θ:Nat→AV)(L:List AV)(P:St):Bool:=L.all (dD B)&&((fG P).all (dD B)&&(kY (eM (L++fG P)++fr)&&(kY (nf P)&&fr.all fun i=>iU (θ i))))
def lB(fr:ξ)(θ:Nat→AV)(L:List AV)(P:St):ξ:=fr++(eM (L++fG P)).filter fun i=>iU (θ i)
def kA(fr:ξ)(L:List AV)(P:St)(L':List AV)(P':St):Bool:=AN (eM (L'++fG P')) (eM (L++fG P)++fr)&&AN (nf P') (nf P)
def EY{fr:ξ}(h:(fr.all fun i=>iU (θ i))=true)(hi:i∈lB fr θ L P):iU (θ i)=true:=(cZ hi).elim (aV h i) fun g=>(List.mem_filter.mp g).2
noncomputable def wq(as:List (Nat×π))(i:Nat):π:=(as.lookup i).getD .none
noncomputable def AL(as:List (Nat×CC))(i:Nat):CC:=(as.lookup i).getD (.list 0 [] 0)
def Gu{α:Type}{as:List (Nat×α)}(h:(as.map Prod.fst).Nodup){p:Nat×α}(hp:p∈as):as.lookup p.1=some p.2:=by
 induction as with
 |nil=>cases hp
 |cons q r ih=>
  obtain⟨i,a⟩:=q;apply ay (WH.mp h);intro h1 h2;rw[List.lookup_cons];rcases cI hp with rfl|hp
  ·simp
  ·have:(p.1 == i)=false:=by
    rw[beq_eq_false_iff_ne];intro e;exact h1 (by rw[←e];exact WY.mpr ⟨p,hp,rfl⟩)
   rw[this];exact ih h2 hp
def Rm{as:List (Nat×π)}(h:(as.map Prod.fst).Nodup):ky (wq as) as:=fun p hp=>by unfold wq;rw[Gu h hp];rfl
def UD{as:List (Nat×CC)}(h:(as.map Prod.fst).Nodup):Bv (AL as) as:=fun p hp=>by unfold AL;rw[Gu h hp];rfl
structure oV (M:aF) (φ:cP) (fr:ξ) (imm:Δ) (cs:List CC) (L:List AV) (P:St) (ov:Nat→π) (cv:Nat→CC):Prop where
 v:∀ i∈eM (L++fG P)++fr,VR M imm (ae cs) (ov i) (φ.v i)
 c:∀ i∈nf P,CR M imm (ae cs) (cv i) (φ.z i)
def oV.ext(h:oV M φ fr imm cs L P ov cv)(x:aE imm cs imm' cs'):oV M φ fr imm' cs' L P ov cv :=
 ⟨fun i hi=>(h.v i hi).ext x,fun i hi=>(h.c i hi).mono x.i x.r⟩
def oV.upL(h:oV M φ fr imm cs L P ov cv)(g:kA fr L P L' P'=true)(hc:φ.c=id) :
  eE M φ imm (ae cs) (ae cs) ov (L'++fG P')∧∀ i∈nf P',CR M imm (ae cs) (cv i) (φ.z i):=by
 unfold kA at g;rw[Wj] at g;exact⟨⟨fun i hi=>h.v i (FP g.1 i hi),fun k U a e=>by rw[hc];exact e⟩,fun i hi=>h.c i (FP g.2 i hi)⟩
def zf(F:gD M B Z φ)(hc:φ.c=id)(gh:kB M φ P)(g:pn fr B φ.v L P=true){X:(Nat→π)→(Nat→CC)→Prop}
  (hL:Dn M B φ imm (ae cs) L X) (hC:aN M imm (ae cs) cs (bE φ P)) :
  ∃ ov cv,oV M φ fr imm cs L P ov cv∧nv (lB fr φ.v L P) φ.v ov∧X ov cv∧aN (M.wE Z F.p ov cv) imm (ae cs) cs P:=by
 unfold pn at g;simp only [Wj] at g;apply mq g;intro g1 g2 g3 g4 g5;apply db (hL g1);intro as e1 s1 t1;apply m7 (aN.dn F hc P gh hC g2);intro bs ca e2 s2 e3 s3 t2;have ef:(fr.map fun i=>(i,og (φ.v i))).map Prod.fst=fr:=by rw[Xi];exact(Xr fun U U=>rfl).trans (List.map_id fr)
 have nd:(((as++bs)++fr.map fun i=>(i,og (φ.v i))).map Prod.fst).Nodup:=by rw[Wl,Wl,e1,e2,ef,←mH];exact yF g3
 have nc:(ca.map Prod.fst).Nodup:=by rw[e3];exact yF g4
 have k:=Rm nd;have kc:=UD nc;have bo:∀ i∈fr,∃ b,φ.v i=.bool b∧wq ((as++bs)++fr.map fun i=>(i,og (φ.v i))) i=.bool b:=fun i hi=>by
  have h1:=aV g5 i hi;have h2:=k (i,og (φ.v i)) (bF _ (WY.mpr ⟨i,hi,rfl⟩));cases q:φ.v i with
  |bool b=>rw[q] at h2;exact⟨b,rfl,h2⟩
  |_=>rw[q] at h1;injection h1
 have fo:oV M φ fr imm cs L P (wq ((as++bs)++fr.map fun i=>(i,og (φ.v i)))) (AL ca):=⟨fun i hi=>?_,fun i hi=>?_⟩
 ·refine⟨_,_,fo,fun i hi=>?_,t1 _ _ k.l.l,t2 _ _ k.l.r kc⟩
  rcases cZ hi with hi|hi
  ·exact bo i hi
  ·apply ay (List.mem_filter.mp hi);intro h1 h2
   have h3:=fo.v i (aK _ h1);cases q:φ.v i with
   |bool b=>rw[q] at h3;exact⟨b,rfl,h3.inv⟩
   |_=>rw[q] at h2;injection h2
 ·rcases cZ hi with hi|hi
  ·rw[mH,←e1,←e2,←Wl] at hi
   apply af (cC hi);intro p hp e0;clear hi;subst e0;rw[k p (aK _ hp)];exact(s1.app s2) p hp
  ·apply af (bo i hi);intro b q1 q2
   rw[q1,q2];exact .bool b
 ·rw[←e3] at hi
  apply af (cC hi);intro p hp e0;clear hi;subst e0;rw[kc p hp];exact s3 p hp
def aR.wE{p:Z.P=M.Z.P∧Z.Ok}(C:aR M c A n):aR (M.wE Z p ov cv) c A n:=⟨C.Yb,C.X,C.T,C.k,C.fr,C.hd,C.dp,C.un⟩
def bL.down(h:bL c (b6 φ ls)):bL c ls:=⟨h.sc,fun x v hx=>h.lo x (flA φ v) (by show lk x (fQ φ ls.v)=_;rw[rz,hx];rfl),h.nd⟩
def bL.up(h:bL c ls):bL c (b6 φ ls):=⟨h.sc,fun x v hx=>by
 replace hx:lk x (fQ φ ls.v)=_:=hx;rw[rz] at hx;cases q:lk x ls.v with
 |none=>rw[q] at hx;injection hx
 |some u=>exact h.lo x u q,h.nd⟩
def bG.fill(F:gD M B Z φ)(hc:φ.c=id){ls ls':ac}(nl:nV ls.v=true)(gh:kB M φ P)(g:pn fr B φ.v (dK ls.v) P=true)(g':kA fr (dK ls.v) P (FX f++dK ls'.v) P'=true)
  (H:∀ ov cv,nv (lB fr φ.v (dK ls.v) P) φ.v ov→bG (M.wE Z F.p ov cv) n t ls P f ls' P'):bG M n t (b6 φ ls) (bE φ P) (fF φ f) (b6 φ ls') (bE φ P'):=by
 intro c A s m imm cs Q E C l R k;apply t9 (zf F hc gh g (BZ F hc ls.v nl R.l) R.C);intro ov cv fo fk hl hcc;refine H ov cv fk C.wE l.down ⟨R.F,R.N,R.nd,hcc,hl⟩ fun h' tk m' imm' cs' fl R' l' x' f'=>?_;apply ay ((fo.ext x').upL g' hc);intro u uc;refine k h' tk m' imm' cs' fl ⟨R'.F,R'.N,R'.nd,aN.up F P' u.r uc R'.C,AX F u.l.r R'.l⟩ l'.up x' ?_;cases f' with
 |next=>exact .next
 |ret h=>exact .ret (VR.up F _ _ u.l.l h)
def aj.nil_of(h:aj M imm ρ l []):l=[]:=by (obtain e:_=_:=aj.inv h;clear h;subst e);rfl
def bV.fill(F:gD M B Z φ)(hc:φ.c=id)(gh:kB M φ P)(g:pn fr B φ.v (bt vs) P=true)(g':kA fr (bt vs) P (lv r) P'=true)
  (H:∀ ov cv,nv (lB fr φ.v (bt vs) P) φ.v ov→bV (M.wE Z F.p ov cv) n P f vs [] r P'):bV M n (bE φ P) f (aH φ vs) [] (flA φ r) (bE φ P'):=by
 intro c A s m ls imm cs vals kwv Rq C R hv hk hk2 k;apply t9 (zf F hc gh g (aj.dn (fun x U=>VR.dn F hc x) _ hv) R.C);intro ov cv fo fk hl hcc;have hk2':aj (M.wE Z F.p ov cv) imm (ae cs) (kwv.map (·.2)) (([]:List (Str×AV)).map (·.2)):=by rw[aj.nil_of hk2];exact .nil
 refine H ov cv fk (ls:=[]) C.wE ⟨R.F,R.N,R.nd,hcc,fun x v hx=>by injection hx⟩ hl hk hk2' fun h' tk imm' cs' val R' x' hx=>?_;apply ay ((fo.ext x').upL g' hc);intro u uc;refine k h' tk imm' cs' val ⟨R'.F,R'.N,R'.nd,aN.up F P' u.r uc R'.C,fun x v hx=>?_⟩ x' (VR.up F r _ u.l hx);apply af (R.l x v hx);intro val a b;exact⟨val,a,b.ext x'⟩
end
def jC{α:Type}(f:α→α→Bool)(a:List α):List α→Bool:=List.rec (fun b=>bD b) (fun x U ih b=>List.rec false (fun y r U=>Bool.rec false (ih r) (f x y)) b) a
def j6{α:Type}{f:α→α→Bool}:∀ {a b:List α},(∀ x∈a,∀ y,f x y=true→x=y)→jC f a b=true→a=b
 |[],[],_,_=>rfl
 |[],_::_,_,h=>Bool.noConfusion (show false=true from h)
 |_::_,[],_,h=>Bool.noConfusion (show false=true from h)
 |x::a,y::b,H,h=>by
  replace h:Bool.rec (motive:=fun U=>Bool) false (jC f a b) (f x y)=true:=h;cases e:f x y with
  |false=>rw[e] at h;injection h
  |true=>rw[e] at h;rw[H x (.head _) y e,j6 (fun z hz=>H z (.tail _ hz)) h]
def B3(p q:Nat×Int):Bool:=Nat.beq p.1 q.1&&jM p.2 q.2
def kZ(a b:aD):Bool:=jM a.c b.c&&jC B3 a.l b.l
def D9(p q:Pc):Bool:=match p with
 |.lit a=>match q with|.lit b=>gy a b|_=>false
 |.var i=>match q with|.var j=>i.beq j|_=>false
 |.rep c n=>match q with|.rep d m=>c.beq d&&kZ n m|_=>false
def yS(a b:SS):Bool:=jC D9 a b
def qj(a b:Bool):Bool:=Bool.rec (Bool.rec true false b) b a
noncomputable def DN(a b:BF):Bool:=a.ctorIdx.beq b.ctorIdx
noncomputable def Qn(n:Nat):BF:=[BF.len,.isi,.range].getD n .len
def Gb(h:jM a b=true):a=b:=by rw[pv] at h;exact WM h
def sB{a b:aD}(h:kZ a b=true):a=b:=by
 unfold kZ at h;rw[Wj] at h;cases a;cases b;have h1:=Gb h.1;have h2:=j6 (fun x U y e=>by
  unfold B3 at e;rw[Wj] at e;exact Prod.ext (aJ e.1) (Gb e.2)) h.2
 dsimp only at h1 h2;rw[h1,h2]
def Nh(h:D9 p q=true):p=q:=by
 induction p using Pc.casesOn with
 |lit a=>induction q using Pc.casesOn with
  |lit b=>rw[jf.mp h]
  |_=>injection h
 |var i=>induction q using Pc.casesOn with
  |var j=>rw[aJ h]
  |_=>injection h
 |rep c n=>induction q using Pc.casesOn with
  |rep d m=>
   replace h:(c.beq d&&kZ n m)=true:=h;rw[Wj] at h;rw[aJ h.1,sB h.2]
  |_=>injection h
def Ck{a b:SS}(h:yS a b=true):a=b:=j6 (fun U U U e=>Nh e) h
def sO{a b:Bool}(h:qj a b=true):a=b:=by induction a using oB<;>induction b using oB<;>first|rfl|injection h
def Gi(a:BF):Qn a.ctorIdx=a:=by cases a<;>rfl
def MB{a b:BF}(h:DN a b=true):a=b:=by rw[←Gi a,←Gi b,aJ h]
def c7:AV→AV→Bool :=
 AV.rec (motive_1:=fun U=>AV→Bool) (motive_2:=fun U=>List AV→Bool) (motive_3:=fun U=>List (Str×AV)→Bool) (motive_4:=fun U=>Str×AV→Bool)
  (fun y=>match y with|.none=>true|_=>false)
  (fun b y=>match y with|.bool c=>qj b c|_=>false)
  (fun l y=>match y with|.int m=>kZ l m|_=>false)
  (fun l y=>match y with|.str m=>yS l m|_=>false)
  (fun l y=>match y with|.cell m=>l.beq m|_=>false)
  (fun U h y=>match y with|.tup m=>h m|_=>false)
  (fun C U h y=>match y with|.obj D m=>Bool.rec false (h m) (C.beq D)|_=>false)
  (fun y=>match y with|.dict=>true|_=>false)
  (fun l y=>match y with|.cls m=>l.beq m|_=>false)
  (fun l y=>match y with|.fn m=>l.beq m|_=>false)
  (fun l y=>match y with|.bi m=>DN l m|_=>false)
  (fun f U h y=>match y with|.meth g m=>Bool.rec false (h m) (f.beq g)|_=>false)
  (fun l y=>match y with|.any m=>l.beq m|_=>false)
  (fun i l y=>match y with|.rng j m=>i.beq j&&l.beq m|_=>false)
  (fun i l y=>match y with|.evx j m=>i.beq j&&qj l m|_=>false)
  (fun b=>bD b) (fun U U h t b=>List.rec false (fun y r U=>Bool.rec false (t r) (h y)) b)
  (fun b=>bD b) (fun U U h t b=>List.rec false (fun y r U=>Bool.rec false (t r) (h y)) b)
  (fun x U h y=>seq x y.1&&h y.2)
def rq(p q:Str×AV):Bool:=seq p.1 q.1&&c7 p.2 q.2
def Fo:∀ xs ys,c7 (.tup xs) (.tup ys)=jC c7 xs ys
 |[],_=>rfl
 |_::_,[]=>rfl
 |a::r,b::s=>congrArg (fun t=>Bool.rec (motive:=fun U=>Bool) false t (c7 a b)) (Fo r s)
def GV:∀ xs ys,c7 (.obj 0 xs) (.obj 0 ys)=jC rq xs ys
 |[],_=>rfl
 |_::_,[]=>rfl
 |a::r,b::s=>congrArg (fun t=>Bool.rec (motive:=fun U=>Bool) false t (rq a b)) (GV r s)
def Sh(C D:Addr)(xs ys:List (Str×AV)):c7 (.obj C xs) (.obj D ys)=Bool.rec (motive:=fun U=>Bool) false (jC rq xs ys) (C.beq D):=by
 rw[←GV];rfl
def dY:∀ x y,c7 x y=true→x=y:=by
 refine AV.ind ?_ ?_ ?_ ?_ ?_ ?_ ?_ ?_ ?_ ?_ ?_ ?_ ?_ ?_ ?_
 ·intro y h;induction y using AV.casesOn<;>first|rfl|injection h
 ·intro b y h;induction y using AV.casesOn<;>first|exact congrArg _ (sO h)|injection h
 ·intro b y h;induction y using AV.casesOn<;>first|exact congrArg _ (sB h)|injection h
 ·intro b y h;induction y using AV.casesOn<;>first|exact congrArg _ (Ck h)|injection h
 ·intro b y h;induction y using AV.casesOn<;>first|exact congrArg _ (aJ h)|injection h
 ·intro xs ih y h;induction y using AV.casesOn<;>first|(rw[Fo] at h;exact congrArg _ (j6 ih h))|injection h
 ·intro C fs ih y h
  induction y using AV.casesOn with
  |obj D gs=>
   rw[Sh] at h;cases q:Nat.beq C D with
   |false=>rw[q] at h;injection h
   |true=>
    rw[q] at h;rw[aJ q];refine congrArg _ (j6 (fun x hx y e=>?_) h);replace e:=aw e;exact Prod.ext (ii.mp e.1) (ih x hx y.2 e.2)
  |_=>injection h
 ·intro y h;induction y using AV.casesOn<;>first|rfl|injection h
 ·intro b y h;induction y using AV.casesOn<;>first|exact congrArg _ (aJ h)|injection h
 ·intro b y h;induction y using AV.casesOn<;>first|exact congrArg _ (aJ h)|injection h
 ·intro b y h;induction y using AV.casesOn<;>first|exact congrArg _ (MB h)|injection h
 ·intro f v ih y h
  induction y using AV.casesOn with
  |meth g w=>
   cases q:Nat.beq f g with
   |false=>
    replace h:Bool.rec (motive:=fun U=>Bool) false _ (f.beq g)=true:=h;rw[q] at h;injection h
   |true=>
    replace h:Bool.rec (motive:=fun U=>Bool) false (c7 v w) (f.beq g)=true:=h;rw[q] at h;rw[aJ q,ih w h]
  |_=>injection h
 ·intro b y h;induction y using AV.casesOn<;>first|exact congrArg _ (aJ h)|injection h
 ·intro i b y h
  induction y using AV.casesOn with
  |rng j m=>
   replace h:=aw h;rw[aJ h.1,aJ h.2]
  |_=>injection h
 ·intro i b y h
  induction y using AV.casesOn with
  |evx j m=>
   replace h:=aw h;rw[aJ h.1,sO h.2]
  |_=>injection h
def Ig(c d:ak):Bool:=match c with
 |.list xs=>match d with|.list ys=>jC c7 xs ys|_=>false
 |.rows t n=>match d with|.rows u m=>yS t u&&kZ n m|_=>false
 |.inst C fs=>match d with|.inst D gs=>C.beq D&&jC rq fs gs|_=>false
 |.any i=>match d with|.any j=>i.beq j|_=>false
 |.spl i xs=>match d with|.spl j ys=>i.beq j&&jC c7 xs ys|_=>false
 |.seg _=>false
 |.hd i C h=>match d with|.hd j D g=>i.beq j&&(C.beq D&&qj h g)|_=>false
def gI(a b:St):Bool:=jC Ig a b
def Nz{c d:ak}(h:Ig c d=true):c=d:=by
 induction c using ak.casesOn with
 |list xs=>induction d using ak.casesOn with
  |list ys=>exact congrArg _ (j6 (fun x U=>dY x) h)
  |_=>injection h
 |rows t n=>induction d using ak.casesOn with
  |rows u m=>have h:=aw h;rw[Ck h.1,sB h.2]
  |_=>injection h
 |inst C fs=>induction d using ak.casesOn with
  |inst D gs=>
   replace h:=aw h;rw[aJ h.1];refine congrArg _ (j6 (fun x U y e=>?_) h.2);replace e:=aw e;exact Prod.ext (ii.mp e.1) (dY _ _ e.2)
  |_=>injection h
 |any i=>induction d using ak.casesOn with
  |any j=>rw[aJ h]
  |_=>injection h
 |spl i xs=>induction d using ak.casesOn with
  |spl j ys=>
   replace h:=aw h;rw[aJ h.1,j6 (fun x U=>dY x) h.2]
  |_=>injection h
 |seg=>injection h
 |hd i C g=>induction d using ak.casesOn with
  |hd j D k=>
   replace h:=aw h;have h2:=aw h.2;rw[aJ h.1,aJ h2.1,sO h2.2]
  |_=>injection h
def nZ(h:gI a b=true):a=b:=j6 (fun U U U e=>Nz e) h
section
def bG.nil:bG M n (fun c=>execs [] c.env) ls J .next ls J:=by
 intro c A s m imm cs Q E C l R k;exact wpAny_execs_nil (k s.heap s.toks m imm cs _ R l (aE.refl ..) .next)
def bG.cons{st:Stmt}{r:List Stmt}{ls ls1 ls2:ac}{J σ1 σ2:St}{f:Fl}(h1:bG M n (fun c=>exec st c.env) ls J .next ls1 σ1)(h2:bG M n (fun c=>execs r c.env) ls1 σ1 f ls2 σ2):bG M n (fun c=>execs (st::r) c.env) ls J f ls2 σ2:=by
 intro c A s m imm cs Q E C l Rp k;refine WX (h1 C l Rp fun hx tx mx ix cx fl Rx lx xx fx=>?_);(obtain e:_=_:=FR.inv fx;clear fx;subst e);exact h2 C lx Rx fun h2 t2 m2 i2 c2 fl R2 l2 x2 f2=>k h2 t2 m2 i2 c2 fl R2 l2 (xx.trans x2) f2
def bG.ret{st:Stmt}{r:List Stmt}{ls ls1:ac}{J σ1:St}{v:AV}(h1:bG M n (fun c=>exec st c.env) ls J (.ret v) ls1 σ1):bG M n (fun c=>execs (st::r) c.env) ls J (.ret v) ls1 σ1:=by
 intro c A s m imm cs Q E C l Rp k;refine WX (h1 C l Rp fun hx tx mx ix cx fl Rx lx xx fx=>?_);apply af (FR.inv fx);intro _ e0 hv;clear fx;subst e0;exact k hx tx mx ix cx _ Rx lx xx (.ret hv)
def bG.post{ls ls' ls1:ac}(hs:ls1.sc=ls.sc)(h:∀ x v,lk x ls1.v=some v→lk x ls'.v=some v)(H:bG M n t ls J f ls' J'):bG M n t ls J f ls1 J':=by
 intro c A s m imm cs Q E C l R k;exact H C l R fun h' tk m' imm' cs' fl R' l' x' f'=>k h' tk m' imm' cs' fl ⟨R'.F,R'.N,R'.nd,R'.C,fun x v hx=>R'.l x v (h x v hx)⟩ ⟨hs▸l.sc,fun x v hx=>l'.lo x v (h x v hx),l'.nd⟩ x' f'
def bG.le(hn:n'≤n)(H:bG M n' t ls J f ls' J'):bG M n t ls J f ls' J':=by
 intro c A s m imm cs Q E C;exact H (C.le hn)
def eG.le{α:Type}{n':Nat}{t:Cx→Sem α}{ls:ac}{J J':St}{P:Δ→List CC→α→Prop}(hn:n'≤n)(H:eG M n' t ls J P J'):eG M n t ls J P J':=by
 intro c A s m imm cs Q E C;exact H (C.le hn)
def l6(M:aF)(n:Nat)(t:Expr)(b:List Stmt)(ls:ac)(J:St)(ls':ac)(J':St):Prop :=
 ∀ {c A s m imm cs} {Rq:Result→χ→Prop},aR M c A n→bL c ls→ai M c.h₀ c.L s.heap m ls.v J imm cs →
  (∀ h' tk m' imm' cs' fl,ai M c.h₀ c.L h' m' ls'.v J' imm' cs'→bL c ls'→aE imm cs imm' cs'→FR M imm' cs' fl .next→Rq (.ok fl) (sU s h' tk))→codeAny (model ar M.w) A (.whileLoop t b [] c.env) Rq s
def l6.stop(h:eG M n (fun c=>isTrue t c.env (eval t c.env)) ls J (lu false) J'):l6 M n t b ls J ls J':=by
 intro c A s m imm cs Rq C l R k;refine sY (h C l R fun hx tx ix cx x Rx xx qx=>?_);cases qx;exact wpAny_execs_nil (k hx tx m ix cx _ Rx l xx .next)
def l6.go(h:eG M n (fun c=>isTrue t c.env (eval t c.env)) ls J (lu true) σ1)(hb:bG M n (fun c=>execs b c.env) ls σ1 .next ls1 σ2)(hr:l6 M n t b ls1 σ2 ls2 σ3):l6 M n t b ls J ls2 σ3:=by
 intro c A s m imm cs Rq C l R k;refine sY (h C l R fun hx tx ix cx x Rx xx qx=>?_);cases qx;refine hb C l Rx fun hy ty my iy cy fl Ry ly xy fy=>?_;(obtain e:_=_:=FR.inv fy;clear fy;subst e);exact hr C ly Ry fun h2 t2 m2 i2 c2 fl R2 l2 x2 f2=>k h2 t2 m2 i2 c2 fl R2 l2 (xx.trans (xy.trans x2)) f2
def bG.while_(h:l6 M n t b ls J ls' J'):bG M n (fun c=>exec (.While t b [] pos) c.env) ls J .next ls' J':=by
 intro c A s m imm cs Q E C l Rp k;exact wpAny_While (h C l Rp k)
def bG.if_(h:eG M n (fun c=>isTrue t c.env (eval t c.env)) ls J (lu q) σ1)(hb:bG M n (fun c=>execs (Bool.rec o b q) c.env) ls σ1 f ls' J'):bG M n (fun c=>exec (.If t b o pos) c.env) ls J f ls' J':=by
 intro c A s m imm cs Q E C l Rp k;refine wpAny_If (h C l Rp fun hx tx ix cx x Rx xx qx=>?_);cases qx;induction q using oB with
 |true=>exact hb C l Rx fun h2 t2 m2 i2 c2 fl R2 l2 x2 f2=>k h2 t2 m2 i2 c2 fl R2 l2 (xx.trans x2) f2
 |false=>exact hb C l Rx fun h2 t2 m2 i2 c2 fl R2 l2 x2 f2=>k h2 t2 m2 i2 c2 fl R2 l2 (xx.trans x2) f2
def qL(a b:List Stmt)(env:Env):execs (a++b) env=execs a env >>= fun f=>match f with|.next=>execs b env|f=>pure f:=by
 induction a with
 |nil=>show execs b env=(pure Flow.next) >>= _;rw[pure_bind]
 |cons s r ih=>
  rw[WO,execs_cons,execs_cons,bind_assoc]
  congr 1
  funext f
  cases f<;>first|exact ih|rw[pure_bind]
def bG.append(h1:bG M n (fun c=>execs a c.env) ls J .next ls1 σ1)(h2:bG M n (fun c=>execs b c.env) ls1 σ1 f ls2 σ2):bG M n (fun c=>execs (a++b) c.env) ls J f ls2 σ2:=by
 intro c A s m imm cs Q E C l R k;show wpAny _ _ (execs (a++b) c.env) _ _ _;rw[qL];refine Wg (h1 C l R fun hx tx mx ix cx fl Rx lx xx fx=>?_);(obtain e:_=_:=FR.inv fx;clear fx;subst e);exact h2 C lx Rx fun h2 t2 m2 i2 c2 fl R2 l2 x2 f2=>k h2 t2 m2 i2 c2 fl R2 l2 (xx.trans x2) f2
structure Dz (M:aF) (n:Nat) (t:Cx→Sem Flow) (ls:ac) (J:St) (f:Fl) (ls':ac) (J':St):Prop where
 h:bG M n t ls J f ls' J'
structure Tz (M:aF) (n:Nat) (e:Expr) (ls:ac) (J:St) (b:Bool) (J':St):Prop where
 h:eG M n (fun c=>isTrue e c.env (eval e c.env)) ls J (lu b) J'
structure Wz (M:aF) (n:Nat) (t:Expr) (b:List Stmt) (ls:ac) (J:St) (ls':ac) (J':St):Prop where
 h:l6 M n t b ls J ls' J'
abbrev bc (M:aF) (n:Nat) (ss:List Stmt) (ls:ac) (J:St) (f:Fl) (ls':ac) (J':St):Prop:=Dz M n (fun c=>execs ss c.env) ls J f ls' J'
abbrev jt (M:aF) (n:Nat) (s:Stmt) (ls:ac) (J:St) (f:Fl) (ls':ac) (J':St):Prop:=Dz M n (fun c=>exec s c.env) ls J f ls' J'
section
def Dz.nil:bc M n [] ls J .next ls J:=⟨bG.nil⟩
def Dz.cons{st:Stmt}{r:List Stmt}(h1:jt M n st ls J .next ls1 σ1)(h2:bc M n r ls1 σ1 f ls2 σ2):bc M n (st::r) ls J f ls2 σ2:=⟨bG.cons h1.h h2.h⟩
def Dz.one{st:Stmt}(h1:jt M n st ls J .next ls1 σ1):bc M n [st] ls J .next ls1 σ1:=h1.cons .nil
def Dz.append(h1:bc M n a ls J .next ls1 σ1)(h2:bc M n b ls1 σ1 f ls2 σ2):bc M n (a++b) ls J f ls2 σ2:=⟨bG.append h1.h h2.h⟩
def Dz.le(hn:n'≤n)(h:Dz M n' t ls J f ls1 σ1):Dz M n t ls J f ls1 σ1:=⟨bG.le hn h.h⟩
def Tz.le(hn:n'≤n)(h:Tz M n' e ls J b σ1):Tz M n e ls J b σ1:=⟨eG.le hn h.h⟩
def Dz.post{ls0:ac}(hs:ls0.sc=ls.sc)(h:∀ x v,lk x ls0.v=some v→lk x ls1.v=some v)(H:Dz M n t ls J f ls1 σ1):Dz M n t ls J f ls0 σ1:=⟨bG.post hs h H.h⟩
def Wz.stop(h:Tz M n t ls J false σ1):Wz M n t b ls J ls σ1:=⟨l6.stop h.h⟩
def Wz.go(h:Tz M n t ls J true σ1)(hb:bc M n b ls σ1 .next ls1 σ2)(hr:Wz M n t b ls1 σ2 ls2 σ3):Wz M n t b ls J ls2 σ3:=⟨l6.go h.h hb.h hr.h⟩
def Dz.while_(h:Wz M n t b ls J ls1 σ1):jt M n (.While t b [] pos) ls J .next ls1 σ1:=⟨bG.while_ h.h⟩
def Dz.if_(h:Tz M n t ls J q σ1)(hb:bc M n (Bool.rec o b q) ls σ1 f ls1 σ2):jt M n (.If t b o pos) ls J f ls1 σ2:=⟨bG.if_ h.h hb.h⟩
def Dz.ret{st:Stmt}{r:List Stmt}{v:AV}(h1:jt M n st ls J (.ret v) ls1 σ1):bc M n (st::r) ls J (.ret v) ls1 σ1:=⟨bG.ret h1.h⟩
end
structure Rz (M:aF) (n:Nat) (J:St) (f:Addr) (vs:List AV) (r:AV) (J':St):Prop where
 h:bV M n J f vs [] r J'
end
def I(i:Int):AV:=.int (.k i)
noncomputable def V(i:Nat):aD:=⟨0,[(i,1)]⟩
noncomputable def ff:AV:=.bool false
noncomputable def tr:AV:=.bool true
def bR(a:Addr):nJ:=match gt a jb with|some f=>f|none=>⟨[],[],[],[]⟩
def aA(B:Bd)(sp:Sp)(d:Nat):aM:=mk (eY B sp) 300 d
def am(Z:Ev)(v:Nat→AV)(z:Nat→ak):cP:=⟨fun l=>.k (l.val Z),fun s=>.k (s.val Z),v,z,id⟩
def Bz{Z:Ev}(hP:Z.P=M.Z.P)(he:Z.Ok)(hb:aU B Z)(v:Nat→AV)(z:Nat→ak):gD M B Z (am Z v z):=⟨⟨hP,he⟩,hb,fun U=>bH _,fun U=>fT _,fun U U=>kL _⟩
def mO(fr:ξ)(B:Bd)(L:List AV)(P:St):Bool:=L.all (dD B)&&((fG P).all (dD B)&&(kY (eM (L++fG P)++fr)&&kY (nf P)))
def Ax(h:mO fr B L P=true)(hf:(fr.all fun i=>iU (θ i))=true):pn fr B θ L P=true:=by
 unfold mO at h;unfold pn;simp only [Wj] at h ⊢;exact⟨h.1,h.2.1,h.2.2.1,h.2.2.2,hf⟩
def oG:∀ {a:List (Str×AV)},lk x a=some v→lk x (a++b)=some v:=by
 intro L0;induction L0 with
 |nil=>
  intro h;injection h
 |cons x0 a ih=>
  obtain⟨y,w⟩:=x0;intro h;replace h:Bool.rec (motive:=fun U=>κ AV) (lk x a) (some w) (seq y x)=some v:=h;show Bool.rec (lk x (a++b)) (some w) (seq y x)=some v;cases q:seq y x with
  |true=>rw[q] at h;exact h
  |false=>rw[q] at h;exact ih h
structure jT where
 B:Bd
 sp:Sp
 d:Nat
 fr:ξ
 ls:ac
 P:St
 ss:List Stmt
 f:Fl
 k:Nat
 out:List (Str×AV)
 Q:St
def Iv(f g:Fl):Bool:=match f,g with
 |.next,.next=>true
 |.ret a,.ret b=>c7 a b
 |_,_=>false
def QD(h:Iv f g=true):f=g:=by
 induction f using Fl.casesOn<;>induction g using Fl.casesOn<;>first|rfl|(injection h;done)|exact congrArg Fl.ret (dY _ _ h)
def jT.chk(j:jT):Bool:=(match (aA j.B j.sp j.d).exs j.ls j.P j.ss with
 |some (f,ls,J)=>Iv f j.f&&(jC rq (bN j.k ls.v) j.out&&gI J j.Q)
 |none=>false)&&((nV j.ls.v&&j.P.all xR)&&(mO j.fr j.B (dK j.ls.v) j.P&&kA j.fr (dK j.ls.v) j.P (FX j.f++dK j.out) j.Q))
def Nn(y:Str×AV)(h:rq x y=true):x=y:=by
 obtain⟨a,u⟩:=x;obtain⟨b,w⟩:=y;replace h:=aw h;exact Prod.ext (ii.mp h.1) (dY _ _ h.2)
def Ct{α:Type}(n:Nat)(l:List α):l=bN n l++bT n l:=by rw[k8,wD];exact(XX n l).symm
def TV{Z:Ev}(hP:Z.P=M.Z.P)(he:Z.Ok)(j:jT)(hb:aU j.B Z)(hs:∀ ov cv,nv (lB j.fr v (dK j.ls.v) j.P) v ov→mJ (M.wE Z ⟨hP,he⟩ ov cv) b j.sp)
  (hf:(j.fr.all fun i=>iU (v i))=true) (hc:j.chk=true) :
  bc M (10*j.d+b+30) j.ss (b6 (am Z v z) j.ls) (bE (am Z v z) j.P) (fF (am Z v z) j.f) (b6 (am Z v z) ⟨j.out,j.ls.sc⟩) (bE (am Z v z) j.Q):=by
 replace hc:=aw hc;have c2:=aw hc.2;have c3:=aw c2.2;have c1:=hc.1;cases q:(aA j.B j.sp j.d).exs j.ls j.P j.ss with
 |none=>rw[q] at c1;injection c1
 |some p=>
  obtain⟨f,ls,J⟩:=p;rw[q] at c1;replace c1:=aw c1;have c5:=aw c1.2;obtain rfl:f=j.f:=QD c1.1;obtain rfl:J=j.Q:=nZ c5.2;have H:=fun ov cv fk=>by
   have D0:bG (M.wE Z ⟨hP,he⟩ ov cv) (10*j.d+b+30) (fun c=>execs j.ss c.env) j.ls j.P j.f ls j.Q:=(cU (q8 hb (hs ov cv fk)) 300 j.d).S.exs q;have D1:bG (M.wE Z ⟨hP,he⟩ ov cv) (10*j.d+b+30) (fun c=>execs j.ss c.env) j.ls j.P j.f ⟨j.out,j.ls.sc⟩ j.Q:=bG.post (ls:=j.ls) (ls1:=⟨j.out,j.ls.sc⟩) rfl (fun x u hx=>by rw[Ct j.k ls.v,j6 (fun U U y h=>Nn y h) c5.1];exact oG hx) @D0;exact @D1
  have D:bG M (10*j.d+b+30) (fun c=>execs j.ss c.env) (b6 (am Z v z) j.ls) (bE (am Z v z) j.P) (fF (am Z v z) j.f) (b6 (am Z v z) ⟨j.out,j.ls.sc⟩) (bE (am Z v z) j.Q) :=
   bG.fill (Bz hP he hb v z) rfl (aw c2.1).1 (re (aw c2.1).2) (Ax c3.1 hf) c3.2 fun ov cv fk=>@H ov cv fk
  exact⟨@D⟩
def jP{Z:Ev}(hP:Z.P=M.Z.P)(he:Z.Ok)(j:jT)(hb:aU j.B Z)(h0:j.sp=aq∧j.d≤12∧j.fr=[])(hc:j.chk=true) :
  bc M 150 j.ss (b6 (am Z v z) j.ls) (bE (am Z v z) j.P) (fF (am Z v z) j.f) (b6 (am Z v z) ⟨j.out,j.ls.sc⟩) (bE (am Z v z) j.Q):=by
 apply cw h0;intro h1 h2 h3;exact(TV (b:=0) hP he j hb (fun U U U=>by rw[h1];exact lX) (by rw[h3];rfl) hc).le (W4 (W5 10 h0.2.1) 30)
structure We where
 B:Bd
 ls:ac
 P:St
 e:Expr
 b:Bool
structure Wd where
 B:Bd
 sp:Sp
 d:Nat
 fr:ξ
 ls:ac
 P:St
 e:Expr
 r:AV
 Q:St
structure Yz (M:aF) (n:Nat) (e:Expr) (ls:ac) (J:St) (v:AV) (J':St):Prop where
 h:cS M n (fun c=>eval e c.env) ls J v J'
structure fM where
 B:Bd
 sp:Sp
 d:Nat
 fr:ξ
 P:St
 f:Addr
 vs:List AV
 r:AV
 Q:St
def fM.chk(j:fM):Bool:=(match (aA j.B j.sp j.d).cf j.P j.f j.vs [] with
 |some (r,J)=>c7 r j.r&&gI J j.Q
 |none=>false)&&(mO j.fr j.B (bt j.vs) j.P&&kA j.fr (bt j.vs) j.P (lv j.r) j.Q)
def rd{Z:Ev}(hP:Z.P=M.Z.P)(he:Z.Ok)(j:fM)(hb:aU j.B Z)(hs:∀ ov cv,nv (lB j.fr v (bt j.vs) j.P) v ov→mJ (M.wE Z ⟨hP,he⟩ ov cv) b j.sp)
  (hf:(j.fr.all fun i=>iU (v i))=true) (hh:kB M (am Z v z) j.P) (hc:j.chk=true) :
  fnIn M.K j.f=true∧Rz M (10*j.d+b+25) (bE (am Z v z) j.P) j.f (aH (am Z v z) j.vs) (flA (am Z v z) j.r) (bE (am Z v z) j.Q):=by
 replace hc:=aw hc;have c3:=aw hc.2;have c1:=hc.1;cases q:(aA j.B j.sp j.d).cf j.P j.f j.vs [] with
 |none=>rw[q] at c1;injection c1
 |some p=>
  obtain⟨r,J⟩:=p;rw[q] at c1;replace c1:=aw c1;obtain rfl:r=j.r:=dY _ _ c1.1;obtain rfl:J=j.Q:=nZ c1.2;have H:=fun ov cv fk=>by
   exact(cU (q8 hb (hs ov cv fk)) 300 j.d).cf q
  refine⟨(H (fun i=>og (v i)) M.Z.cv fun i hi=>?_).1,?_⟩
  ·have h1:=EY hf hi
   dsimp only at h1 ⊢;cases q2:v i with
   |bool b=>exact⟨b,rfl,rfl⟩
   |_=>rw[q2] at h1;injection h1
  ·have R:bV M (10*j.d+b+25) (bE (am Z v z) j.P) j.f (aH (am Z v z) j.vs) [] (flA (am Z v z) j.r) (bE (am Z v z) j.Q) :=
    bV.fill (Bz hP he hb v z) rfl hh (Ax c3.1 hf) c3.2 fun ov cv fk=>(H ov cv fk).2
   exact⟨@R⟩
structure Az (M:aF) (n:Nat) (t:Expr) (v:AV) (ls:ac) (J:St) (ls':ac) (J':St):Prop where
 h:lj M n (fun c=>assign t c.env) v ls J ls' J'
section
structure Dc (M:aF) (n:Nat) (t:Cx→Sem Flow) (ls:ac) (J:St) (ls':ac) (J':St):Prop where
 h:∀ {c A s m imm cs} {Q:Flow→χ→Prop} {E:Θ},aR M c A n→bL c ls→ai M c.h₀ c.L s.heap m ls.v J imm cs →
  (∀ h' tk m' imm' cs',ai M c.h₀ c.L h' m' ls'.v J' imm' cs'→bL c ls'→aE imm cs imm' cs'→Q .cont (sU s h' tk))→wpAny (model ar M.w) A (t c) Q E s
inductive Fz (M:aF) (n:Nat) (t:Expr) (b:List Stmt):It→ac→St→Fl→ac→St→Prop
 |stop {it:It} {ls:ac} {J:St}:mN J it=some none→Fz M n t b it ls J .next ls J
 |step {it it':It} {v:AV} {ls ls0 ls1 ls2:ac} {J σ0 σ1 σ2:St} {f:Fl}:mN J it=some (some (v,it'))→Az M n t v ls J ls0 σ0→bc M n b ls0 σ0 .next ls1 σ1→Fz M n t b it' ls1 σ1 f ls2 σ2→Fz M n t b it ls J f ls2 σ2
 |cont {it it':It} {v:AV} {ls ls0 ls1 ls2:ac} {J σ0 σ1 σ2:St} {f:Fl}:mN J it=some (some (v,it'))→Az M n t v ls J ls0 σ0→Dc M n (fun c=>execs b c.env) ls0 σ0 ls1 σ1→Fz M n t b it' ls1 σ1 f ls2 σ2→Fz M n t b it ls J f ls2 σ2
 |ret {it it':It} {v x:AV} {ls ls0 ls1:ac} {J σ0 σ1:St}:mN J it=some (some (v,it'))→Az M n t v ls J ls0 σ0→bc M n b ls0 σ0 (.ret x) ls1 σ1→Fz M n t b it ls J (.ret x) ls1 σ1
def Fz.ok(h:Fz M n t b it ls J f ls' J')(hn:jv t=true):∀ {c A s m imm cs I} {Rq:Result→χ→Prop},aR M c A n→bL c ls→ai M c.h₀ c.L s.heap m ls.v J imm cs→iX imm (ae cs) I it →
  (∀ h' tk m' imm' cs' fl,ai M c.h₀ c.L h' m' ls'.v J' imm' cs'→bL c ls'→tv I imm cs imm' cs'→FR M imm' cs' fl f→Rq (.ok fl) (sU s h' tk))→codeAny (model ar M.w) A (.forLoop t (.ref I) b [] c.env) Rq s:=by
 induction h with
 |@stop it ls J h1=>
  intro c A s m imm cs I Rq C l Rp hi k;refine kE (uX h1 C Rp hi ?_);intro h' tk imm' R' x';exact wpAny_execs_nil (k h' tk m imm' cs _ R' l ⟨x',fun U U h=>h⟩ .next)
 |@step it it' v ls ls0 ls1 ls2 J σ0 σ1 σ2 f h1 h2 h3 _ ih=>
  intro c A s m imm cs I Rq C l Rp hi k;refine kE (uX h1 C Rp hi ?_);intro h' tk imm' val R' x' i' hv;apply af i'.obj;intro o1 o2 o3;refine nF hn (R'.N _ (aK _ o2)).1 o3 ?_;refine h2.h C l R' hv fun ha ta ma ia ca Ra la xa=>?_;refine h3.h C la Ra fun hz tz mz iz cz fl Rz lz xz fz=>?_;have xt:=xa.trans xz;have xI:tv I imm cs iz cz:=⟨fun q hq hne=>xt.i q (x' q hq hne),xt.r⟩;(obtain e:_=_:=FR.inv fz;clear fz;subst e);exact ih C lz Rz (i'.ext xt) fun h2 t2 m2 i2 c2 fl R2 l2 x2 f2=>k h2 t2 m2 i2 c2 fl R2 l2 ⟨fun q hq hne=>x2.i q (xI.i q hq hne) hne,fun k a h=>x2.r k a (xI.r k a h)⟩ f2
 |@cont it it' v ls ls0 ls1 ls2 J σ0 σ1 σ2 f h1 h2 h3 _ ih=>
  intro c A s m imm cs I Rq C l Rp hi k;refine kE (uX h1 C Rp hi ?_);intro h' tk imm' val R' x' i' hv;apply af i'.obj;intro o1 o2 o3;refine nF hn (R'.N _ (aK _ o2)).1 o3 ?_;refine h2.h C l R' hv fun ha ta ma ia ca Ra la xa=>?_;refine h3.h C la Ra fun hz tz mz iz cz Rz lz xz=>?_;have xt:=xa.trans xz;have xI:tv I imm cs iz cz:=⟨fun q hq hne=>xt.i q (x' q hq hne),xt.r⟩;exact ih C lz Rz (i'.ext xt) fun h2 t2 m2 i2 c2 fl R2 l2 x2 f2=>k h2 t2 m2 i2 c2 fl R2 l2 ⟨fun q hq hne=>x2.i q (xI.i q hq hne) hne,fun k a h=>x2.r k a (xI.r k a h)⟩ f2
 |@ret it it' v x ls ls0 ls1 J σ0 σ1 h1 h2 h3=>
  intro c A s m imm cs I Rq C l Rp hi k;refine kE (uX h1 C Rp hi ?_);intro h' tk imm' val R' x' i' hv;apply af i'.obj;intro o1 o2 o3;refine nF hn (R'.N _ (aK _ o2)).1 o3 ?_;refine h2.h C l R' hv fun ha ta ma ia ca Ra la xa=>?_;refine h3.h C la Ra fun hz tz mz iz cz fl Rz lz xz fz=>?_;have xt:=xa.trans xz;apply af (FR.inv fz);intro _ e0 hv2;clear fz;subst e0;exact k hz tz mz iz cz _ Rz lz (⟨fun q hq hne=>xt.i q (x' q hq hne),xt.r⟩) (.ret hv2)
open Classical in
def vr(t:Expr)(b:List Stmt)(it:It)(ls:ac)(J:St)(f:Fl)(ls':ac)(J':St):aM:={aM.bot with fo:=fun ls1 σ1 t1 it1 b1=>if ls1=ls∧σ1=J∧t1=t∧it1=it∧b1=b then some (f,ls',J') else none}
def KT:(vr t b it ls J f ls' J').fo ls J t it b=some (f,ls',J'):=if_pos ⟨rfl,rfl,rfl,rfl,rfl⟩
def Na(h:(vr t b it ls J f ls' J').fo ls1 σ1 t1 it1 b1=some p):(ls1=ls∧σ1=J∧t1=t∧it1=it∧b1=b)∧(f,ls',J')=p:=by
 by_cases e:ls1=ls∧σ1=J∧t1=t∧it1=it∧b1=b
 ·exact⟨e,bM ((if_pos e).symm.trans h)⟩
 ·have h2:(vr t b it ls J f ls' J').fo ls1 σ1 t1 it1 b1=none:=if_neg e
  rw[h2] at h;injection h
def Dz.for_(ht:jv t=true)(hs:lh ex=true)(hy:Yz M n ex ls J v σ1)(hi:yW σ1 v=some it)(h:Fz M n t b it ls σ1 f ls' J') :
  jt M n (.For t ex b [] pos) ls J f ls' J':=⟨by
 have F:sQ M n (vr t b it ls σ1 f ls' J').fo:=by
  intro ls1 σ2 it1 t1 b1 f1 ls2 σ3 hq hn;apply ay (Na hq);intro hq52 e;apply mq hq52;intro e0 e01 e02 e03 e04;subst e0;subst e01;subst e02;subst e03;subst e04;injection e with e1 e;injection e with e2 e3;subst e1 e2 e3;exact h.ok hn
 intro c A s m imm cs Q E C l Rp k;show wpAny _ _ (exec (.For t ex b [] pos) c.env) _ _ _;rw[exec_For];refine Wg (Wt (Wg (hy.h C l Rp fun hx tx ix cx va Rx xx qx=>?_)));exact EG F hi KT C l Rx qx hs ht fun h' tk m' i2 c2 fl R2 l2 x2 f2=>k h' tk m' i2 c2 fl R2 l2 (xx.trans x2) f2⟩
def Yz.le(hn:n'≤n)(h:Yz M n' e ls J v J'):Yz M n e ls J v J':=⟨eG.le hn h.h⟩
def Az.le(hn:n'≤n)(h:Az M n' t v ls J ls' J'):Az M n t v ls J ls' J':=⟨by
 intro c A s m imm cs x Q E C;exact h.h (C.le hn)⟩
end
section
def kd:jB M 0 (eY [] aq):=q8 (fun U U h=>by injection h) lX
def kK(h:(aA [] aq 0).asg ls J v t=some (ls',J')):Az M 150 t v ls J ls' J':=by
 have D:lj M 30 (fun c=>assign t c.env) v ls J ls' J':=(cU (kd) 300 0).S.asg h;exact Az.le (by decide) ⟨@D⟩
def cV(hd:d≤12)(h:(aA [] aq d).exs ls J ss=some (f,ls',J')):bc M 150 ss ls J f ls' J':=by
 have D:bG M (10*d+0+30) (fun c=>execs ss c.env) ls J f ls' J':=(cU (kd) 300 d).S.exs h;exact Dz.le (W4 (W5 10 hd) 30) ⟨@D⟩
def cO(hd:d≤12)(h:(aA [] aq d).ev ls J e=some (v,J')):Yz M 150 e ls J v J':=by
 have D:cS M (10*d+0+30) (fun c=>eval e c.env) ls J v J':=(cU (kd) 300 d).E.ev h;exact Yz.le (W4 (W5 10 hd) 30) ⟨@D⟩
def iM(hd:d≤12)(h:(aA [] aq d).tst ls J e=some (b,J')):Tz M 150 e ls J b J':=by
 have D:eG M (10*d+0+30) (fun c=>isTrue e c.env (eval e c.env)) ls J (lu b) J':=(cU (kd) 300 d).E.tst h;exact Tz.le (W4 (W5 10 hd) 30) ⟨@D⟩
end
def bQ(Z:Ev):cP:=am Z .any .any
def vj(B:Bd)(l:List AV):Bool:=l.all (dD B)
section
def wA(hb:aU B M.Z):gD M B M.Z (bQ M.Z):=⟨⟨rfl,M.he⟩,hb,fun U=>bH _,fun U=>fT _,fun U U=>kL _⟩
def De(l:List AV):eE M (bQ M.Z) imm ρ ρ M.Z.ov l:=⟨fun i U=>.any rfl,fun k U a e=>e⟩
def EP(h:ni M imm ρ (bQ M.Z).v as):ky M.Z.ov as:=fun p hp=>(h p hp).inv
def Ph(h:Gg M imm ρ (bQ M.Z).z as):Bv M.Z.cv as:=fun p hp=>(h p hp).inv
def Kz(J:St):kB M (bQ M.Z) J:=fun x _=>by
 induction x using ak.casesOn with
 |hd i C h=>exact .inl ⟨i,rfl⟩
 |_=>trivial
variable (hb:aU B M.Z)
include hb
theorem aj.toZ(h:aj M imm ρ v x):aj M imm ρ v (aH (bQ M.Z) x):=aj.up (wA hb) x v (De _) h
theorem aN.toZ(h:aN M imm ρ cs J):aN M imm ρ cs (bE (bQ M.Z) J):=aN.up (wA hb) J (De _) (fun i U=>.any rfl) h
theorem VR.ofZ(g:vj B (lv x)=true)(h:VR M imm ρ v (flA (bQ M.Z) x)):VR M imm ρ v x:=by
 apply db (VR.dn (wA hb) rfl x v h g);intro as e s t;exact t M.Z.ov M.Z.cv (EP s)
theorem aN.ofZ(g:vj B (fG J)=true)(h:aN M imm ρ cs (bE (bQ M.Z) J)):aN M imm ρ cs J:=by
 apply m7 (aN.dn (wA hb) rfl J (Kz J) h g);intro as ca e1 s1 e2 s2 t;exact t M.Z.ov M.Z.cv (EP s1) (Ph s2)
theorem bV.unz(g:vj B (lv r++fG P')=true)(H:Rz M n (bE (bQ M.Z) P) f (aH (bQ M.Z) vs) (flA (bQ M.Z) r) (bE (bQ M.Z) P')):bV M n P f vs [] r P':=by
 apply ay (BU g);intro g1 g2;intro c A s m ls imm cs vals kwv Rq C R hv hk hk2 k;exact H.h C ⟨R.F,R.N,R.nd,R.C.toZ hb,R.l⟩ (hv.toZ hb) hk hk2 fun h' tk imm' cs' val R' x' hx=>k h' tk imm' cs' val ⟨R'.F,R'.N,R'.nd,R'.C.ofZ hb g2,R'.l⟩ x' (hx.ofZ hb g1)
end
section
end
def ey(idx:ξ)(k:Nat):Nat:=List.rec (motive:=fun U=>Nat) 0 (fun i U ih=>Bool.rec (Nat.succ ih) 0 (i.beq k)) idx
def bA(idx:ξ):cP:=⟨id,id,.any,.any,ey idx⟩
def dr(J:St)(i:Nat):ak:=match ao J i with|some c=>c|none=>.list []
def ig(idx:ξ)(J:St):St:=idx.map fun i=>fC (bA idx) (dr J i)
def ja(cs:List CC)(i:Nat):CC:=match ao cs i with|some c=>c|none=>.list 0 [] 0
def Ov:k∈idx→ao idx (ey idx k)=some k:=by
 induction idx with
 |nil=>intro h;cases h
 |cons i r ih=>
  intro h;show ao (i::r) (Bool.rec (Nat.succ (ey r k)) 0 (i.beq k))=some k;cases e:Nat.beq i k with
  |true=>rw[aJ e];rfl
  |false=>
   rcases cI h with rfl|h
   ·rw[show k.beq k=true from Xz k] at e;injection e
   ·exact ih h
def ph{α B:Type}(f:α→B)(l:List α)(i:Nat):ao (l.map f) i=(ao l i).map f:=by rw[cJ,cJ,List.getElem?_map]
def we{cs:List CC}(h:i<cs.length):ao cs i=some (ja cs i):=by
 unfold ja;rw[cJ,List.getElem?_eq_getElem h]
def w9(c:CC):List Addr:=c.objs.map Prod.fst
def NG(cs:List CC):(aQ cs).map Prod.fst=cs.flatMap w9:=by unfold aQ w9;rw[List.map_flatMap]
def apart(a b:CC):Prop:=∀ x∈w9 a,∀ y∈w9 b,x≠y
def RX{cs:List CC}{idx:ξ}(hi:idx.Nodup)(hl:∀ i∈idx,i<cs.length)(h:((imm++aQ cs).map Prod.fst).Nodup):((imm++aQ (idx.map (ja cs))).map Prod.fst).Nodup:=by
 rw[Wl,NG] at h ⊢;apply cw (List.nodup_append.mp h);intro h1 h2 h3;have hp:=List.pairwise_flatMap.mp h2;have get:∀ i,i<cs.length→ja cs i∈cs:=fun i hi=>by
  have:=we hi;rw[cJ] at this;exact Xp this
 refine List.nodup_append.mpr ⟨h1,List.pairwise_flatMap.mpr ⟨fun c hc=>?_,List.pairwise_map.mpr ?_⟩,fun a ha b hb=>?_⟩
 ·apply af (cC hc);intro i h4 e0;clear hc;subst e0
  exact hp.1 _ (get i (hl i h4))
 ·have key:∀ i j,i<cs.length→j<cs.length→i≠j→apart (ja cs i) (ja cs j):=by
   intro i j hi hj hne;have e1:∀ i (h:i<cs.length),ja cs i=cs[i]:=fun i h=>by
    unfold ja;rw[cJ,List.getElem?_eq_getElem h]
   rw[e1 i hi,e1 j hj];have pw:=List.pairwise_iff_getElem.mp hp.2;rcases Nat.lt_or_gt_of_ne hne with q|q
   ·exact pw i j hi hj q
   ·intro x hx y hy e
    exact pw j i hj hi q y hy x hx e.symm
  exact List.Pairwise.imp_of_mem (fun {i j} ha hb hne=>key i j (hl i ha) (hl j hb) hne) hi
 ·apply af (List.mem_flatMap.mp hb);intro c hc hk
  apply af (cC hc);intro i h4 e0;clear hc;subst e0;exact h3 a ha b (X4 ⟨_,get i (hl i h4),hk⟩)
section
def nT(idx:ξ)(ls:List (Str×AV))(J:St):Bool :=
 kY idx&&(idx.all (fun i=>i.blt (lenA J))&&((idx.all fun i=>(fP (dr J i)).all fun x=>match x with|.cell k=>dB k idx|_=>true)&&(dK ls).all fun x=>match x with|.cell k=>dB k idx|_=>true))
def Dm(idx:ξ):gD M [] M.Z (bA idx):=⟨⟨rfl,M.he⟩,fun U U h=>(by injection h),fun U=>rfl,fun U=>rfl,fun U h=>h⟩
def Gj{l:List AV}(hl:(l.all fun x=>match x with|.cell k=>dB k idx|_=>true)=true)(hr:∀ k∈idx,∀ a,ao ρ k=some a→ao ρ' (ey idx k)=some a):eE M (bA idx) imm ρ ρ' M.Z.ov l:=by
 refine⟨fun i hi=>?_,fun k hk=>hr k ?_⟩
 ·exact .any rfl
 ·apply af (List.mem_flatMap.mp hk);intro x h1 h2
  have:=aV hl x h1;induction x using AV.casesOn with
  |cell j=>rw[bU h2];exact mt.mp this
  |_=>cases h2
def aN.cell_at(h:aN M imm ρ cs J)(i:Nat)(hi:i<J.length):CR M imm ρ (ja cs i) (dr J i):=by
 induction h generalizing i with
 |nil=>exact absurd hi (Nat.not_lt_zero _)
 |cons h _ ih=>
  cases i with
  |zero=>exact h
  |succ i=>exact ih i (Nat.lt_of_succ_lt_succ hi)
def ai.pick(R:ai M h₀ L h m ls J imm cs)(hs:∀ x v,lk x ls1=some v→lk x ls=some v)(ok:nT idx ls1 J=true) :
  ai M h₀ L h m (fQ (bA idx) ls1) (ig idx J) imm (idx.map (ja cs)):=by
 have a:=aw ok;have b:=aw a.2;have d:=aw b.2;have nd:=yF a.1;have lt:=fun i hi=>by
  have:=aV b.1 i hi;rw[aZ] at this;exact nleT this
 have ltc:∀ i∈idx,i<cs.length:=fun i hi=>by rw[R.C.len];exact lt i hi
 have hr:∀ k∈idx,∀ a,ao (ae cs) k=some a→ao (ae (idx.map (ja cs))) (ey idx k)=some a:=fun k hk a ha=>by
  unfold ae at ha ⊢;rw[ph,we (ltc k hk)] at ha;rw[ph,ph,Ov hk];exact ha
 have mem:∀ q∈aQ (idx.map (ja cs)),q∈aQ cs:=fun q hq=>by
  apply af (List.mem_flatMap.mp hq);intro c hc hk;apply af (cC hc);intro i h4 e0;subst e0;refine X4 ⟨_,?_,hk⟩;have:=we (ltc i h4);rw[cJ] at this;exact Xp this
 refine⟨R.F,fun q hq=>R.N q ?_,RX nd ltc R.nd,?_,?_⟩
 ·rcases cZ hq with a|a
  ·exact aK _ a
  ·exact bF _ (mem q a)
 ·have go:∀ l:ξ,(∀ i∈l,i∈idx)→aN M imm (ae (idx.map (ja cs))) (l.map (ja cs)) (l.map fun i=>fC (bA idx) (dr J i)):=by
   intro l;induction l with
   |nil=>intro _;exact .nil
   |cons i r ih=>
    intro h;have hi:=h i (.head _);refine .cons ?_ (ih fun j hj=>h j (.tail _ hj));exact CR.up (Dm idx) _ (Gj (aV d.1 i hi) hr) (fun j U=>.any rfl) (aN.cell_at R.C i (lt i hi))
  exact go idx fun U h=>h
 ·exact AX (Dm idx) (Gj d.2 hr) (fun x v hx=>R.l x v (hs x v hx))
end
open Classical in
def eZ(σ0:St)(f:Addr)(vs:List AV)(r:AV)(σ1:St):St→Addr→List AV→List (Str×AV)→κ (AV×St):=fun J g us kw=>if J=σ0∧g=f∧us=vs∧kw=[] then some (r,σ1) else none
def CH:eZ σ0 f vs r σ1 σ0 f vs []=some (r,σ1):=by
 unfold eZ;rw[if_pos ⟨rfl,rfl,rfl,rfl⟩]
def lC(Y:Pi)(R:aM)(cf:St→Addr→List AV→List (Str×AV)→κ (AV×St)):aM:={R with cl:=mD Y {R with cf:=cf},cf:=cf}
section
set_option tactic.hygienic true in
def sC(P:jB M b Y)(hf:fnIn M.K f=true)(H:Rz M (10*d+b+25) σ1 f vs r σ2)
  (h1:(mk Y N d).ev ls J (.Name x q)=some (.fn f,J)) (h2:(mk Y N d).evs ls J as=some (vs,σ1)) (h3:(mk Y N d).evk ls σ1 []=some ([],σ1)):Yz M (10*d+b+30) (.Call (.Name x q) as [] cp) ls J r σ2:=by
 have A:=cU P N d;have hcf:∀ {J g us kw r' J'},eZ σ1 f vs r σ2 J g us kw=some (r',J')→fnIn M.K g=true∧bV M (10*d+b+25) J g us kw r' J':=by
  intro s2 g us kw r' s3 hq;unfold eZ at hq
  split at hq
  ·rename_i e
   apply ej e;intro e1 e2 e3 e4;(apply j2 hq;clear hq;rintro rfl rfl);rw[e1,e2,e3,e4];exact⟨hf,@H.h⟩
  ·injection hq
 have I2:aS M (10*d+b+30) (lC Y (mk Y N d) (eZ σ1 f vs r σ2)):=⟨A.E.ev,A.E.evo,A.E.evs,A.E.evk,A.E.bl,A.E.cc,A.E.tst,A.E.tb⟩;have J2:nu M (10*d+b+30) (lC Y (mk Y N d) (eZ σ1 f vs r σ2)):=⟨fun h=>⟨(hcf h).1,bV.le (W1 (nleT rfl) _) (hcf h).2⟩,by
  intro J fv us kw r' J' h;apply cw (yt P.hy hcf (fun h=>Ap P.hb P.hy h) h);intro a b' c;exact⟨a,jU.le (W1 (nleT rfl:28≤30) _) b',fun g self e=>⟨(c g self e).1,bV.le (W1 (nleT rfl:28≤30) _) (c g self e).2⟩⟩⟩
 have D:cS M (10*d+b+30) (fun c=>eval (.Call (.Name x q) as [] cp) c.env) ls J r σ2:=Da I2 J2 (show A9 (lC Y (mk Y N d) (eZ σ1 f vs r σ2)) ls J x q as []=some (r,σ2) by
  show obp ((mk Y N d).ev ls J (.Name x q)) (fun fv J=>obp ((mk Y N d).evs ls J as) fun vs' J=>obp ((mk Y N d).evk ls J []) fun kw J=>mD Y {mk Y N d with cf:=eZ σ1 f vs r σ2} J fv vs' kw)=_;rw[h1];show obp ((mk Y N d).evs ls J as) (fun vs' J=>obp ((mk Y N d).evk ls J []) fun kw J=>mD Y {mk Y N d with cf:=eZ σ1 f vs r σ2} J (.fn f) vs' kw)=_;rw[h2];show obp ((mk Y N d).evk ls σ1 []) (fun kw J=>mD Y {mk Y N d with cf:=eZ σ1 f vs r σ2} J (.fn f) vs kw)=_;rw[h3];exact CH)
 exact⟨@D⟩
end
open Classical in
def ovR(R:aM)(ls0:ac)(σ0:St)(e0:Expr)(v:AV)(σ1:St):aM:={R with ev:=fun ls J e=>if ls=ls0∧J=σ0∧e=e0 then some (v,σ1) else R.ev ls J e}
section
def jp:(ovR R ls J e v σ1).ev ls J e=some (v,σ1):=if_pos ⟨rfl,rfl,rfl⟩
def jw(I:aS M n R)(H:Yz M n e ls J v σ1):aS M n (ovR R ls J e v σ1):=⟨by
 intro l2 s2 e2 v2 s3 h
 by_cases q:l2=ls∧s2=J∧e2=e
 ·have h2:(ovR R ls J e v σ1).ev l2 s2 e2=some (v,σ1):=if_pos q
  apply cw q;intro e0 e01 e02;subst e0;subst e01;subst e02;rw[h2] at h;(apply j2 h;clear h;rintro rfl rfl);exact H.h
 ·have h2:(ovR R ls J e v σ1).ev l2 s2 e2=R.ev l2 s2 e2:=if_neg q
  rw[h2] at h;exact(I.ev h),I.evo,I.evs,I.evk,I.bl,I.cc,I.tst,I.tb⟩
def Dz.asg(I:aS M n R)(S:iP M n R)(h0:iS ts e=true)(H:Yz M n e ls J v σ1)(h2:R.asgm ls σ1 v ts=some (ls1,σ2)):jt M n (.Assign ts e pos) ls J .next ls1 σ2:=by
 have D:bG M n (fun c=>exec (.Assign ts e pos) c.env) ls J .next ls1 σ2:=BX (jw I H) ⟨S.exs,S.ex,S.asg,S.asgs,S.asgm,S.wh⟩ _ (show y7 (ovR R ls J e v σ1) ls J ts e=some (.next,ls1,σ2) by
  show gd (iS ts e) (obp ((ovR R ls J e v σ1).ev ls J e) fun v J=>obp (R.asgm ls J v ts) fun ls J=>some (Fl.next,ls,J))=_;rw[h0,jp];show obp (R.asgm ls σ1 v ts) (fun ls J=>some (Fl.next,ls,J))=_;rw[h2];rfl)
 exact⟨@D⟩
end
section
set_option tactic.hygienic true in
def H6(P:jB M b Y)(I:aS M (10*d+b+30) R)(hf:fnIn M.K f=true)(H:Rz M (10*d+b+25) σ1 f (ov::vs) r σ2){ap cp:Pos}
  (hg:(jk o&&ap.endLine.beq cp.line&&Nat.blt (lenA as+lenA ([]:List Keyword)+1) 30)=true) (h1:R.ev ls J o=some (ov,J)) (h0:hY Y J ov x=some (.meth f ov)) (h2:R.evs ls J as=some (vs,σ1)) (h3:R.evk ls σ1 []=some ([],σ1)) :
  Yz M (10*d+b+30) (.Call (.Attribute o x ap) as [] cp) ls J r σ2:=by
 have hcf:∀ {J g us kw r' J'},eZ σ1 f (ov::vs) r σ2 J g us kw=some (r',J')→fnIn M.K g=true∧bV M (10*d+b+25) J g us kw r' J':=by
  intro s2 g us kw r' s3 hq;unfold eZ at hq
  split at hq
  ·rename_i e
   apply ej e;intro e1 e2 e3 e4;(apply j2 hq;clear hq;rintro rfl rfl);rw[e1,e2,e3,e4];exact⟨hf,@H.h⟩
  ·injection hq
 have I2:aS M (10*d+b+30) (lC Y R (eZ σ1 f (ov::vs) r σ2)):=⟨I.ev,I.evo,I.evs,I.evk,I.bl,I.cc,I.tst,I.tb⟩;have J2:nu M (10*d+b+30) (lC Y R (eZ σ1 f (ov::vs) r σ2)):=⟨fun h=>⟨(hcf h).1,bV.le (W1 (nleT rfl) _) (hcf h).2⟩,by
  intro J fv us kw r' J' h;apply cw (yt P.hy hcf (fun h=>Ap P.hb P.hy h) h);intro a b' c;exact⟨a,jU.le (W1 (nleT rfl:28≤30) _) b',fun g self e=>⟨(c g self e).1,bV.le (W1 (nleT rfl:28≤30) _) (c g self e).2⟩⟩⟩
 have D:cS M (10*d+b+30) (fun c=>eval (.Call (.Attribute o x ap) as [] cp) c.env) ls J r σ2:=Cu P.hy (F3 P.hb P.nm) I2 J2 (show zn Y (lC Y R (eZ σ1 f (ov::vs) r σ2)) ls J o x ap as [] cp=some (r,σ2) by
  show gd (jk o&&ap.endLine.beq cp.line&&Nat.blt (lenA as+lenA ([])+1) 30) (obp (R.ev ls J o) fun ov J=>match hY Y J ov x with
   |some fv=>x9 (lC Y R (eZ σ1 f (_::vs) r σ2)) ls J fv as []
   |none=>xu Y (lC Y R (eZ σ1 f (_::vs) r σ2)) ls J ov x as [])=_
  rw[hg,h1];show (match hY Y J ov x with
   |some fv=>x9 (lC Y R (eZ σ1 f (ov::vs) r σ2)) ls J fv as []
   |none=>xu Y (lC Y R (eZ σ1 f (ov::vs) r σ2)) ls J ov x as [])=_
  rw[h0];show obp (R.evs ls J as) (fun vs' J=>obp (R.evk ls J []) fun kw J=>mD Y {R with cf:=eZ σ1 f (ov::vs) r σ2} J (.meth f ov) vs' kw)=_;rw[h2];show obp (R.evk ls σ1 []) (fun kw J=>mD Y {R with cf:=eZ σ1 f (ov::vs) r σ2} J (.meth f ov) vs kw)=_;rw[h3];exact CH)
 exact⟨@D⟩
def BL(P:jB M b Y)(hf:fnIn M.K f=true)(H:Rz M (10*d+b+25) σ1 f (ov::vs) r σ2){ap cp:Pos}
 (hg:(jk o&&ap.endLine.beq cp.line&&Nat.blt (lenA as+lenA ([]:List Keyword)+1) 30)=true) (h1:(mk Y N d).ev ls J o=some (ov,J)) (h0:hY Y J ov x=some (.meth f ov)) (h2:(mk Y N d).evs ls J as=some (vs,σ1)) (h3:(mk Y N d).evk ls σ1 []=some ([],σ1)) :
 Yz M (10*d+b+30) (.Call (.Attribute o x ap) as [] cp) ls J r σ2:=H6 P (cU P N d).E hf H hg h1 h0 h2 h3
def Dz.expr(I:aS M n R)(h0:ke e=true)(H:Yz M n e ls J v σ1):jt M n (.Expr e pos) ls J .next ls σ1:=by
 have D:bG M n (fun c=>exec (.Expr e pos) c.env) ls J .next ls σ1:=DF (jw I H) _ (show zW (ovR R ls J e v σ1) ls J e=some (.next,ls,σ1) by
  show gd (ke e) (obp ((ovR R ls J e v σ1).ev ls J e) fun U J=>some (Fl.next,ls,J))=_;rw[h0,jp];rfl)
 exact⟨@D⟩
end
noncomputable def wm(K:Frag)(l:List π):Bool:=l.all fun c=>match c with
 |.ref c=>(findIn K (.ref c) (PySem.dunder "mod") == some none)&&(findIn K (.ref c) (PySem.dunderR "mod") == some none)
 |.type n=>n == "object"
 |_=>false
section
variable {K:Frag}
def zk{α:Type}{F:α→Sem Bool}:∀ {l:List α} {Q:Bool→χ→Prop},(∀ c∈l,∀ Q:Bool→χ→Prop,Q false s→wpAny X7 A (F c) Q E s)→Q false s→wpAny X7 A (List.anyM F l) Q E s
 |[],_,_,q=>Wi q
 |c::r,Q,h,q=>by
  rw[List.anyM_cons];refine Wg (h c (.head _) _ ?_);exact zk (fun d hd=>h d (.tail _ hd)) q
def SM{cd:ClassData}(X:K.In s.heap)(hc:clsIn K C=some cd)(hm:wm K cd.mro=true){Q:Bool→χ→Prop}(q:Q false s):wpAny X7 A (fillsNumberSlot (.ref C) "mod") Q E s:=by
 have hmro:Looks X7 s.heap (mroOf (.ref C)) cd.mro:=(looks_clsIn X hc).andThen .now;refine Wg (hmro.here (zk (fun c hc' Q q=>?_) q));have h:=aV hm c hc';cases c with
 |type n=>
  have e:=WB.mp h;clear hc' h;subst e;have a:typeLookup (.type "object") (PySem.dunder "mod")=pure none:=by rw[typeLookup_type,builtinLookup_eq_fast];kernel_rfl
  have b:typeLookup (.type "object") (PySem.dunderR "mod")=pure none:=by rw[typeLookup_type,builtinLookup_eq_fast];kernel_rfl
  exact Wi q
 |ref c=>
  have g:=aw h;refine zk (fun nm hn Q q=>?_) q;rcases cI hn with rfl|hn
  ·exact Wg ((looks_findIn X (WB.mp g.1)).here (Wi q))
  ·rw[bU hn];exact Wg ((looks_findIn X (WB.mp g.2)).here (Wi q))
 |_=>exact Bool.noConfusion h
end
section
open Builtin Builtin.Str
def Kv(h:∀ c∈lit,c≠37):(lit++37::r).span (· != 37)=(lit,37::r):=by
 have go:∀ (l acc:ξ),(∀ c∈l,c≠37)→List.span.loop (· != 37) (l++37::r) acc=(acc.reverse++l,37::r):=by
  intro l;induction l with
  |nil=>intro acc _;show (acc.reverse,37::r)=_;rw[aX]
  |cons a l ih=>
   intro acc h;show (match (a != 37) with|true=>List.span.loop (· != 37) (l++37::r) (a::acc)|false=>(acc.reverse,a::(l++37::r)))=_;rw[bne_iff_ne.mpr (h a (.head _))];rw[ih (a::acc) fun c hc=>h c (.tail _ hc),List.reverse_cons,bP];rfl
 exact go lit [] h
noncomputable def HI(F:Str)(t:Tok)(x:Addr):{f:Bool→κ Str→Bool→Sem Fin // percentFormat (.str F t) F (.ref x)=(isInstance (.ref x) (.type "tuple") >>= fun a=>asStr? (.ref x) >>= fun o=>fillsMappingSlot (.ref x) >>= fun b=>f a o b)}:=⟨_,rfl⟩
abbrev sG:=List π×Writer×ξ
def pG(F:Str)(t:Tok)(x:Addr)(b:Bool):{p:(Nat→sG→Sem (ForInStep sG))×(sG→Sem Fin) // (HI F t x).1 false none b=(forIn [0:F.length] (([.ref x],{},F.cps.toList):sG) p.1 >>= p.2)}:=⟨(_,_),rfl⟩
noncomputable def tC(r:ξ):List Nat×ξ:=r.span (· != 37)
abbrev B8:=Nat→List π→Writer→ξ→Sem (ForInStep sG)
def wW(F:Str)(t:Tok)(x:Addr)(b:Bool):{q:B8×B8 // ∀ i p w r,(pG F t x b).1.1 i (p,w,r)=if tooLong w.total=true then q.1 i p w r else if r.isEmpty=true then pure (.done (p,w,r)) else if (!(tC r).1.isEmpty)=true then pure (.yield (p,w.add ⟨(tC r).1.toArray⟩ (if ((tC r).1.length == F.length)=true then some (.str F t) else none),(tC r).2)) else q.2 i p w r}:=⟨(_,_),fun i p w r=>rfl⟩
def zB(F:Str)(t:Tok)(x:Addr)(b:Bool):{k:(π→Sem (List Nat×κ π×Bool))×(Nat→Writer→List Nat×κ π×Bool→Sem (ForInStep sG)) // ∀ i w,(wW F t x b).1.2 i [.ref x] w [37,115]=holding [.ref x] (PySem.Builtin.Str.strOf (.ref x) >>= k.1) >>= k.2 i w}:=⟨(_,_),fun i w=>rfl⟩
def SN(F:Str)(t:Tok)(x:Addr)(b:Bool)(y:Str)(u:Tok):(zB F t x b).1.1 (.str y u)=pure (y.cps.toList,some (.str y u),false):=by kernel_rfl
def Qr(F:Str)(t:Tok)(x:Addr)(b:Bool)(i:Nat)(w:Writer)(l:ξ)(o:π):(zB F t x b).1.2 i w (l,some o,false)=pure (.yield ([],w.add ⟨l.toArray⟩ (some o),[])):=by kernel_rfl
def IV(F:Str)(t:Tok)(x:Addr)(b:Bool)(w:Writer):(pG F t x b).1.2 ([],w,[])=w.finish "str.__mod__":=by kernel_rfl
section
def TK{F y:Str}{Q:Fin→χ→Prop}{P:χ→Prop}(hF:F.cps.toList=(a::l)++[37,115])(h37:∀ c∈a::l,c≠37)(hn:(a::l).length≤100)(hy:y.length≤1000)
  (hi:∀ Q:Bool→χ→Prop,Q false s→wpAny (model prog w) A (isInstance (.ref x) (.type "tuple")) Q E s)
  (ha:∀ Q:κ Str→χ→Prop,Q none s→wpAny (model prog w) A (asStr? (.ref x)) Q E s)
  (hf:∀ Q:Bool→χ→Prop,(∀ b,Q b s)→wpAny (model prog w) A (fillsMappingSlot (.ref x)) Q E s)
  (hs:∀ Q':Θ,(∀ s' u,P s'→Q' (.str y u) s')→wpAny (model prog w) A (PySem.Builtin.Str.strOf (.ref x)) Q' E s)
  (hq:∀ s' T t' k,P s'→Q (.done (.ret (.str T t'))) {s' with toks:=k}):wpAny (model prog w) A (percentFormat (.str F t) F (.ref x)) Q E s:=by
 have hL:F.length=l.length+3:=by
  show F.cps.size=_;rw[←Array.length_toList,hF,aB,dH];rfl
 rw[(HI F t x).2];refine Wg (hi _ (Wg (ha _ (Wg (hf _ fun b=>?_)))));rw[(pG F t x b).2];refine Wg ?_;rw[KPc.range_list];refine KPc.start ?_;intro w' g
 suffices key:∀ r n,r=(a::l)++[37,115]→n=l.length+3→wpAny (model prog w) A (forIn (List.range' 0 n 1) ([.ref x],w',r) (pG F t x b).1.1) (fun z s'=>wpAny (model prog w) A ((pG F t x b).1.2 z) Q E s') E s from key _ _ hF hL
 intro r n er en;subst er en;rw[List.range'_succ,List.range'_succ,List.range'_succ];refine KPc.turn ?_;rw[(wW F t x b).2];refine wpAny_ite (KPc.ite_no (KPc.short_good g (by decide)) ?_);refine wpAny_ite (KPc.ite_no (by intro h;exact Bool.noConfusion h) ?_);rw[show tC ((a::l)++[37,115])=(a::l,[37,115]) from Kv h37];refine wpAny_ite (KPc.ite_yes rfl (Wi ?_));refine KPc.after_add0 g rfl (KPc.obj_none (if_neg (by rw[hL,dH];intro h;lia))) ?_;intro w1 g1;refine KPc.turn ?_;rw[(wW F t x b).2];refine wpAny_ite (KPc.ite_no (KPc.short_good g1 (by show 0+(a::l).toArray.size≤_;rw[Wv];exact Xb (nleT rfl) hn)) ?_);refine wpAny_ite (KPc.ite_no XH ?_);refine wpAny_ite (KPc.ite_no XH ?_);rw[(zB F t x b).2];refine Wg (Wo (Wg (hs _ fun s' u hP=>?_)));rw[SN];refine Wi ?_;rw[Qr];refine Wi (KPc.after_str g1 hy (KPc.obj_some rfl) ?_);intro w2 g2;refine KPc.turn ?_;rw[(wW F t x b).2];have hz:0+(⟨(a::l).toArray⟩ : Str).length+1000≤16777216:=by show 0+(a::l).toArray.size+1000≤_;rw[Wv];lia
 refine wpAny_ite (KPc.ite_no (KPc.short_good g2 hz) ?_);refine wpAny_ite (KPc.ite_yes rfl (Wi ?_));show wpAny _ _ ((pG F t x b).1.2 ([],w2,[])) _ _ _;rw[IV];exact KPc.finish_ok g2 hz rfl fun t' k=>hq s' _ t' k hP
end
end
section
open Builtin Builtin.Str
noncomputable def CL(x:Addr):{f:κ π→Sem π // PySem.Builtin.Str.strOf (.ref x)=(cRoomFor "str" [.ref x] >>= fun _=>callSpecial? (.ref x) (Str.ofString "__str__") >>= f)}:=⟨_,rfl⟩
def V3(x:Addr)(y:Str)(u:Tok):(CL x).1 (some (.str y u))=pure (.str y u):=by kernel_rfl
noncomputable def Dr(a b:π):{f:κ π→Sem π // binaryOp .Mod a b=holding [a,b] (binaryOp1 "mod" a b >>= f)}:=⟨_,rfl⟩
def Sk(a b v:π):(Dr a b).1 (some v)=pure v:=by kernel_rfl
noncomputable def HW(nm:String)(a b:π):{f:π→π→Bool→Sem (κ π) // binaryOp1 nm a b=(typeOf a >>= fun ta=>typeOf b >>= fun tb=>fillsNumberSlot ta nm >>= fun l=>f ta tb l)}:=⟨_,rfl⟩
def Cd(nm:String)(a b:π)(T:String)(C:Addr):{f:Bool→Sem (κ π) // (HW nm a b).1 (.type T) (.ref C) true=(fillsNumberSlot (.ref C) nm >>= f)}:=⟨_,rfl⟩
def Hn(nm:String)(a b:π)(T:String)(C:Addr):{f:κ π→Sem (κ π) // (Cd nm a b T C).1 false=(tryMethod a (dunder nm) b >>= f)}:=⟨_,rfl⟩
def JI(nm:String)(a b:π)(T:String)(C:Addr)(v:π):(Hn nm a b T C).1 (some v)=pure (some v):=by kernel_rfl
section
variable {prog:Program}{A:Around}{E:Θ}{s:χ}{K:Frag}{C x f:Addr}{d:Addr}{od:κ Obj}
def MN{Q:Θ}(hu:A.units<cLine)(hu1:A.in1.units<cLine)(X:K.In s.heap)(I:InstAt s.heap x (instObj C d) C od)(hs:findIn K (.ref C) "__str__"=some (some (.builtin "object.__str__")))(hm:mroIn K C (.type "object")=some true)
  (hr:findIn K (.ref C) "__repr__"=some (some (.ref f))) (hf:isFn K (.ref f)=true) (h:wpAny (model prog w) A.in1 (call (.ref f) [.ref x]) (fun r s'=>∃ y u,r=.str y u∧Q (.str y u) s') E s):wpAny (model prog w) A (PySem.Builtin.Str.strOf (.ref x)) Q E s:=by
 rw[(CL x).2];refine Wg (wpAny_cRoomFor hu (Wg (kfo_special X I hs PySem.F.slot_object_str.bind (kfo_ostr hu1 X I hm hr hf (WQ h (fun r s' z=>?_) fun _ _ y=>y)))));apply gF z;intro y u e0 hq;clear z;subst e0;rw[V3];exact Wi hq
def P5{Q:Θ}(X:K.In s.heap)(I:InstAt s.heap x (instObj C d) C od)(hc:clsIn K C=some cd)(hm:wm K cd.mro=true)
  (hp:wpAny (model prog w) A.in1 (percentFormat (.str G t) G (.ref x)) (fun r s'=>∃ T t',r=.done (.ret (.str T t'))∧Q (.str T t') s') E s):wpAny (model prog w) A (binaryOp .Mod (.str G t) (.ref x)) Q E s:=by
 have ht:=typeIs_str s G t;have one:wpAny (model prog w) A (binaryOp1 "mod" (.str G t) (.ref x)) (fun r s'=>∃ v,r=some v∧Q v s') E s:=by
  rw[(HW "mod" (.str G t) (.ref x)).2];refine Wg (wpAny_typeOf ht (Wg (I.type.here (Wg (wpAny_of_eq F.fills_str_mod ?_)))));rw[(Cd "mod" (.str G t) (.ref x) "str" C).2];refine Wg (SM X hc hm ?_);rw[(Hn "mod" (.str G t) (.ref x) "str" C).2];refine Wg (wpAny_tryMethod_slot ht F.slot_str_mod ?_);refine wpAny_call_entry F.slot_str_mod ht F.entry_str_mod ?_ (F.args_str_mod_2 _ _);rw[KPt.entry_is_r];refine WQ hp (fun r s' z=>?_) fun _ _ e=>e;apply gF z;intro T t' e0 hq;clear z;subst e0;refine⟨_,rfl,nofun,?_⟩;rw[JI];exact Wi ⟨_,rfl,hq⟩
 rw[(Dr (.str G t) (.ref x)).2];refine Wo (Wg (WQ one (fun r s' z=>?_) fun _ _ e=>e));apply af z;intro v e0 hq;clear z;subst e0;rw[Sk];exact Wi hq
end
end
def qf(P:Params)(a:Addr):Array DictEntry:=match (bY P).lookup a with|some ⟨_,_,.dict es _,_⟩=>es|_=>#[]
noncomputable def vF(e:DictEntry):Bool:=match e.key with|.str _ _=>true|_=>false
def QT(P:Params):(bY P).lookup 276=some ⟨.type "dict",none,.dict (qf P 276) 2,#[]⟩:=by kernel_rfl
def Of(P:Params):(bY P).lookup 30=some ⟨.type "dict",none,.dict (qf P 30) 3,#[]⟩:=by kernel_rfl
def SY(P:Params):((qf P 276).toList.all vF)=true:=by kernel_rfl
def L8(P:Params):((qf P 30).toList.all vF)=true:=by kernel_rfl
def LD(P:Params):nsFind (qf P 276) "__init__"=none:=by kernel_rfl
def QK(P:Params):nsFind (qf P 30) "__init__"=none:=by kernel_rfl
noncomputable def qG:List π:=[.type "Exception",.type "BaseException",.type "object"]
def ON(P:Params):(bY P).lookup 277=some (excClassObj dI dI 277 276 [.ref 31] (.ref 31::qG) true [] [] false none none (some (.ref 268)) none (some (.str dI 562)) (some (.str dI 570)) (some (.bool true)) "Exception.__new__"):=by kernel_rfl
def TD(P:Params):(bY P).lookup 31=some (excClassObj n4 n4 31 30 [.type "Exception"] qG true [] [.ref 277] false none none (some (.ref 22)) none (some (.str n4 196)) (some (.str n4 204)) (some (.bool true)) "Exception.__new__"):=by kernel_rfl
def Ii{h:Heap}(hh:h.get? a=some ⟨c,dd,.dict es n,sl⟩)(hk:es.toList.all vF=true):h.Ns a (nsFind es) :=
 ⟨_,es,n,hh,rfl,fun e he=>by
  have:=aV hk e (by simpa using he);unfold vF at this;cases q:e.key with
  |str x t=>exact⟨x,t,rfl⟩
  |_=>rw[q] at this;injection this,fun U=>rfl⟩
section
def Kw(X:(bY P).In h):OwnTail h qG (.ref 31::qG):=.own (X _ _ (TD P)) (Ii (X _ _ (Of P)) (L8 P)) (QK P) .base
structure oD (rr:Bool) (M:aF) (c:Cx) (m:ω) (ls:List (Str×AV)) (e:Addr) (h':Heap) (J':St) (imm':Δ) (cs':List CC):Prop where
 nd:((imm'++aQ cs').map Prod.fst).Nodup
 C:aN M imm' (ae cs') cs' J'
 l:∀ x v,lk x ls=some v→∃ val,m x=some val∧VR M imm' (ae cs') val v
 g:(rr=true∧∃ h vs,Fr c.h₀ c.L h m∧News c.h₀ c.L h (imm'++aQ cs')∧Heap.MadeExcOf h h' e (.ref 277) vs) ∨
  ∃ g₂ t vs,Fr c.h₀ c.L g₂ m∧g₂.UpToSlots h'∧RaisedK c.base c.fr e (.ref 277) t vs (imm'++aQ cs') h'
structure tJ (rr:Bool) (M:aF) (n:Nat) {α:Type} (t:Cx→Sem α) (ls:ac) (J J':St):Prop where
 h:∀ {c A s m imm cs} {Q:α→χ→Prop} {E:Θ},aR M c A n→bL c ls→ai M c.h₀ c.L s.heap m ls.v J imm cs →
  (∀ e h' tk imm' cs',oD rr M c m ls.v e h' J' imm' cs'→aE imm cs imm' cs'→E (.ref e) (sU s h' tk))→wpAny (model ar M.w) A (t c) Q E s
structure fj (rr:Bool) (M:aF) (n:Nat) (t:Cx→Sem Flow) (ls:ac) (J J':St):Prop where
 h:∀ {c A s m imm cs} {Q:Flow→χ→Prop} {E:Θ},aR M c A n→bL c ls→ai M c.h₀ c.L s.heap m ls.v J imm cs →
  (∀ e h' tk m' imm' cs',oD rr M c m' [] e h' J' imm' cs'→aE imm cs imm' cs'→E (.ref e) (sU s h' tk))→wpAny (model ar M.w) A (t c) Q E s
structure fg (rr:Bool) (M:aF) (n:Nat) (J:St) (f:Addr) (vs:List AV) (kw:List (Str×AV)) (J':St):Prop where
 h:∀ {c A s m ls imm cs vals kwv} {Rq:Result→χ→Prop},aR M c A n→ai M c.h₀ c.L s.heap m ls J imm cs→aj M imm (ae cs) vals vs→kwv.map (·.1)=kw.map (·.1)→aj M imm (ae cs) (kwv.map (·.2)) (kw.map (·.2)) →
  (∀ e h' tk imm' cs',oD rr M c m ls e h' J' imm' cs'→aE imm cs imm' cs'→Rq (.error (.ref e)) (sU s h' tk))→codeAny (model ar M.w) A (.call (.ref f) ⟨vals,kwv⟩) Rq s
abbrev Gd:=@tJ true
abbrev v5:=@fj true
abbrev US:=@fg true
def oD.nol(g:oD rr M c m ls e h' J' imm' cs'):oD rr M c m [] e h' J' imm' cs':=⟨g.nd,g.C,fun x v h=>by injection h,g.g⟩
def Sl{ls:ac}(hg:nj dI ls.sc=true)(ha:fJ arg=true)
  (hv:∀ {c A s m imm cs} {Q:Θ} {E:Θ},aR M c A n→bL c ls→ai M c.h₀ c.L s.heap m ls.v J imm cs →
   (∀ h' tk imm' cs' x,ai M c.h₀ c.L h' m ls.v J imm' cs'→aE imm cs imm' cs'→Q x (sU s h' tk))→wpAny (model ar M.w) A (eval arg c.env) Q E s) :
  v5 M n (fun c=>exec (.Raise (some (.Call (.Name dI np) [arg] [] cpos)) none pos) c.env) ls J J:=⟨by
 intro c A s m imm cs Q E C l R k;have F39:cS M n (fun c=>eval (.Name dI np) c.env) ls J (.cls 277) J:=FF hg (FW (B1 (congrFun D6 M.w.params) (by kernel_rfl)));have st:=m9 cpos (fun e he=>by rw[bU he];exact ha) (c:=c);refine wpAny_Raise_call_subU (C:=277) PySem.F.excBase_Exception (by decide) PySem.F.excBase_Exception (bm:=.ref 31::qG) (nm:=dI) (q:=dI) (N:=276) (bs:=[.ref 31]) (hdct:=true) (sn:=[]) (sub:=[]) (ab:=false) (col:=none) (dd:=none) (k0:=some (.ref 268)) (k1:=none) (k2:=some (.str dI 562)) (k3:=some (.str dI 570)) (k5:=some (.bool true)) (by decide) C.hd ?_ (LD M.w.params)
  (F39 C l R fun h1 t1 i1 c1 v R1 x1 q1=>?_)
 ·rw[st];rfl
 ·have e:=q1.inv
  refine⟨e,?_⟩;rw[st];refine Calls.evalArgs_plain ?_;refine Calls.spliced_cons (hv C l R1 fun h2 t2 i2 c2 x R2 x2=>?_);refine Calls.spliced_nil ?_;have X:=C.X.keeps R2.F.keep;refine⟨rfl,by show 1≤_;rw[WS];decide,X _ _ (ON _),Ii (X _ _ (QT _)) (SY _),Kw X,fun h' e hm=>?_⟩;exact k e h' t2 m i2 c2 ⟨R2.nd,R2.C,(fun x v h=>by injection h),.inl ⟨rfl,h2,_,R2.F,R2.N,hm⟩⟩ (x1.trans x2)⟩
end
section
def Ai(Z:Ev):aU [] Z:=fun U U h=>by injection h
def Oa(h:lenA J'=lenA J):gN (lenA J) v J'=J':=by
 unfold gN;rw[h,show Nat.beq (lenA J) (lenA J)=true from Xz _]
def PL(hf:gt f jb=some (bR f))(hb:fE (bR f).args (bR f).dflt vs []=some ls)
  (D:bc M n (bR f).body ⟨ls,(bR f).sc⟩ J (.ret r) L J') (hl:lenA J'=lenA J):fnIn M.K f=true∧Rz M (n+5) J f vs r J':=by
 apply ay ((yC (Ai _)).hf f _ hf);intro g1 g2;refine⟨g1,?_⟩;have H:bV M (n+5) J f vs [] r (gN (lenA J) r J'):=uF g2 hb (Wm _) (.inl rfl) D.h;rw[Oa hl] at H;exact⟨@H⟩
end
noncomputable def mQ:List Addr:=[133,145,165,185,197,217,229,241,253,265]
def Ep(K:Frag)(C:Addr):Bool:=match clsIn K C with|some cd=>wm K cd.mro|none=>false
def Et(K:Frag)(C:Addr):Bool:=(findIn K (.ref C) "__str__" == some (some (.builtin "object.__str__")))&&((mroIn K C (.type "object") == some true)&&((mroIn K C (.type "tuple") == some false)&&((findIn K (.ref C) "__repr__" == some (some (.ref 56)))&&((findIn K (.ref C) "__getitem__" == some none)&&Ep K C))))
structure N7 (K:Frag) (C:Addr):Prop where
 s:findIn K (.ref C) "__str__"=some (some (.builtin "object.__str__"))
 o:mroIn K C (.type "object")=some true
 t:mroIn K C (.type "tuple")=some false
 r:findIn K (.ref C) "__repr__"=some (some (.ref 56))
 g:findIn K (.ref C) "__getitem__"=some none
 m:∃ cd,clsIn K C=some cd∧wm K cd.mro=true
def Vm{K:Frag}{C:Addr}(h:Et K C=true):N7 K C:=by
 have o:=aw h;have o2:=aw o.2;have o3:=aw o2.2;have o4:=aw o3.2;have o5:=aw o4.2;refine⟨WB.mp o.1,WB.mp o2.1,WB.mp o3.1,WB.mp o4.1,WB.mp o5.1,?_⟩;have h:=o5.2;unfold Ep at h;cases q:clsIn K C with
 |none=>rw[q] at h;injection h
 |some cd=>rw[q] at h;exact⟨cd,rfl,h⟩
def Mr:(fun P:Params=>mQ.all (Et (bY P))&&isFn (bY P) (.ref 56))=fun _=>true:=by kernel_rfl
noncomputable def AC:ξ:=[97,110,32,101,118,101,110,116]
def aR.in1(h:n'+1≤n)(C:aR M c A n):aR M c A.in1 n':=⟨C.Yb,C.X,C.T,C.k,C.fr,C.hd,(by have:=C.dp;exact WZ (W1 (Nat.le_of_succ_le h) _) this),(WZ (W4 (W1 (nleT rfl) _) _) (uy h C.un))⟩
section
def Vl:fnIn M.K 56=true∧Rz M 155 J 56 [.obj C fs] (.str (.k AC)) J:=PL (by kernel_rfl) rfl (Dz.le (Wm _) (cV (by decide) (show (aA [] aq 1).exs ⟨[(aO,.obj C fs)],(bR 56).sc⟩ J (bR 56).body=some (.ret (.str (.k AC)),⟨[(aO,.obj C fs)],(bR 56).sc⟩,J) by kernel_rfl))) rfl
def Up(hn:170≤n)(h37:((a::l).all fun c=>!c.beq 37)=true)(hl:(a::l).length≤100)(hD:mQ.all (fun x=>!x.beq D)=false)
  {sx:SS} (hsx:sx.val M.Z=(a::l)++[37,115]) (h1:Yz M n el ls J (.str sx) J) (h2:Yz M n er ls J (.obj D fs) J)
  {s:χ} {Q:Θ} {E:Θ} (C:aR M c A n) (lo:bL c ls) (R:ai M c.h₀ c.L s.heap m ls.v J imm cs)
  (k:∀ h' tk imm' cs' x,ai M c.h₀ c.L h' m ls.v J imm' cs'→aE imm cs imm' cs'→Q x (sU s h' tk)):wpAny (model ar M.w) A (eval (.BinOp el .Mod er bp) c.env) Q E s:=by
 have hm:=by
  cases q:dB D mQ with
  |true=>exact mt.mp q
  |false=>
   have:mQ.all (fun x=>!x.beq D)=true:=by
    rw[XK];intro x hx;cases e:Nat.beq x D with
    |false=>rfl
    |true=>rw[aJ e] at hx;rw[mt.mpr hx] at q;injection q
   rw[this] at hD;injection hD
 have ok:=aw (congrFun Mr M.w.params);have o:=Vm (aV ok.1 D hm);refine wpAny_BinOp (h1.h C lo R fun hx tx ix cx va Rx xx qx=>h2.h C lo Rx fun hy ty iy cy vb Ry xy qy=>?_);apply db qx.inv;intro t e0 _ _;rw[show sx.val M.Z=_ from hsx] at e0;clear qx;subst e0;apply nz qy.inv;intro x d es nn e0 m1 m2 hf hp hc;clear qy;subst e0;have X:=C.X.keeps Ry.F.keep;have I:=XO Ry.N (aK _ m1) (aK _ m2);apply af o.m;intro cd hcd hmod;refine P5 X I hcd hmod ?_;have un:=C.un;have U:∀ Yb:Around,Yb.units≤9800→Yb.units<cLine:=fun Yb h=>W8 h (nleT rfl);refine TK (P:=fun s'=>∃ h' tk imm' cs',s'=sU s h' tk∧ai M c.h₀ c.L h' m ls.v J imm' cs'∧aE imm cs imm' cs') (y:=ba AC) ?_ (fun q hq e=>?_) hl (by decide) (fun Q q=>?_) (fun Q q=>?_) (fun Q q=>?_) (fun Q' q=>?_) ?_
 ·rfl
 ·have:=aV h37 q hq
  rw[e] at this;injection this
 ·have L:Looks (model ar M.w) hy (isInstance (.ref x) (.type "tuple")) false:=I.type.andThen (looks_mroIn X o.t)
  exact L.here q
 ·refine Wg (wpAny_load I.at_ ?_)
  exact Wi q
 ·have L:Looks (model ar M.w) hy (specialOf (.ref x) "__getitem__") none:=I.type.andThen (looks_findIn X (o.g))
  exact Wg (L.here (Wi (q _)))
 ·refine MN (U _ (WZ (W1 (WZ (nleT rfl) (W5 4 hn)) _) un)) (U _ (show A.units+2≤9800 from WZ (W1 (WZ (nleT rfl) (W5 4 hn)) _) un)) X I o.s o.o o.r ok.2 ?_
  refine wpAny_call ((Vl).2.h ((C.in1 (n':=160) (W8 (Xn _ _) hn)).in1 (Xn _ _)) Ry (.cons (.obj m1 m2 hf hp hc) .nil) rfl .nil fun h' tk imm' cs' val R' x' qv=>?_);apply db qv.inv;intro u e0 _ _;rw[fT] at e0;clear qv;subst e0;exact⟨_,_,rfl,q _ _ ⟨h',tk,imm',cs',rfl,R',xx.trans (xy.trans x')⟩⟩
 ·rintro s' T t' tk ⟨h',tk',imm',cs',rfl,R',x'⟩
  exact⟨_,_,rfl,k h' tk imm' cs' _ R' x'⟩
end
section
variable {r2:Bool}
def fg.le(h:n'≤n)(H:fg rr M n' J f vs kw J'):fg rr M n J f vs kw J':=⟨fun C=>H.h (C.le h)⟩
def Fd(hf:t7 M f fi)(hb:fE fi.args fi.dflt vs kw=some ls)(hn:n'+5≤n)
  (hx:fj r2 M n' (fun c=>execs fi.body c.env) ⟨ls,fi.sc⟩ J J'):fg rr M n J f vs kw J':=⟨by
 intro c A s m lsC imm cs vals kwv Rq C Rp hv hk hk2 k;obtain⟨name,qual,as,ds,scope,dV,kV,doc,pm,cdv,ct,oc,an,od,osl,ho,hcd,ha,hs,hkd,hco,hg,hc,hl,nd,hd⟩:=hf;apply bn C.Yb;intro A₀ Yb;have X:=C.X.keeps Rp.F.keep;have hdv:∃ items,((dV=.none∧items=[])∨∃ t o q,dV=.ref t∧s.heap.get? t=some o∧o.data=.seq (List.toArray items) q)∧aj M imm (ae cs) items fi.dflt:=by
  rcases hd with ⟨a,b⟩|⟨t,o,items,q,a,b,d,e⟩
  ·exact⟨[],.inl ⟨a,rfl⟩,by rw[b];exact .nil⟩
  ·exact⟨items,.inr ⟨t,o,q,a,X _ _ b,d⟩,e _ _⟩
 apply af hdv;clear hdv;intro items hdv hdr;apply mV (zj hdr hv hk hk2 hb);intro binds b1 b2 b3 b4;have hfr:c.fr=envOf c.cn c.cs c.L c.a c.cd::c.outer:=rfl;have cfr:=C.fr;rw[hfr] at cfr;refine call_K Yb Rp.F Rp.N X C.T.nolimit cfr ho hcd (by have:=C.dp;exact W8 (WZ (W0 _ _) this) (nleT rfl)) (zP rfl hdv (by rw[ha];exact b1)) (fun y hy=>hl _ (b3 _ hy)) ?_ (hck:=C.k) (hco:=hco) (hgen:=hg) (hk:=hkd) (hcell:=hc);intro g L' h₁ hF hF' hN hB hst;have C':aR M ⟨c.base,g,c.fr,L',f,qual,scope,cdv⟩ (A.deeper (envOf qual scope L' f cdv)) n':=by
  refine⟨⟨A,by rw[hfr];exact hB⟩,C.X.keeps hst,C.T.keeps hst,hkd,?_,C.hd,?_,?_⟩
  ·show Option.map _ A.frames=_
   rw[C.fr];rfl
  ·exact xk (WZ (W1 (nleT rfl) _) hn) C.dp
  ·exact uy (WZ (W1 (nleT rfl) _) hn) C.un
 refine hx.h C' (⟨hs.symm,fun x v hx=>hl _ (b4 x v hx),nd⟩) ⟨hF',hN,Rp.nd,Rp.C,b2⟩ ?_;intro e h' tk m' imm' cs' G x';have fin:=fun h2 t vs u r=>
  k e h2 tk imm' cs' ⟨G.nd,G.C,fun x v hx=>(Rp.l x v hx).elim fun val h=>⟨val,h.1,h.2.ext x'⟩,.inr ⟨g,t,vs,hF,u,r⟩⟩ x'
 rw[hfr] at fin;rcases G.g with ⟨_,h,vs,G1,G2,G3⟩|⟨g₂,t,vs,G1,G2,G3⟩
 ·exact leave_raiseK hB G3 G1 G2 (fun h2 t r u=>fin h2 t vs u r) hkd
 ·exact leave_onK hB G1 (by have e2:Cx.fr ⟨c.base,g,c.fr,L',f,qual,scope,cdv⟩=envOf qual scope L' f cdv::c.fr:=rfl;rw[e2,hfr] at G3;exact G3) G2 fun h2 r u=>fin h2 t vs u r⟩
def fj.cons{st:Stmt}{r:List Stmt}{ls ls1:ac}{J σ1 σ2:St}(h1:jt M n st ls J .next ls1 σ1)(h2:fj rr M n (fun c=>execs r c.env) ls1 σ1 σ2):fj rr M n (fun c=>execs (st::r) c.env) ls J σ2:=⟨by
 intro c A s m imm cs Q E C l R k;refine WX (h1.h C l R fun hx tx mx ix cx fl Rx lx xx fx=>?_);(obtain e:_=_:=FR.inv fx;clear fx;subst e);exact h2.h C lx Rx fun e h' tk m' imm' cs' G x'=>k e h' tk m' imm' cs' G (xx.trans x')⟩
def fj.head{st:Stmt}{r:List Stmt}{ls:ac}{J σ2:St}(h:fj rr M n (fun c=>exec st c.env) ls J σ2):fj rr M n (fun c=>execs (st::r) c.env) ls J σ2:=⟨fun C l R k=>WX (h.h C l R k)⟩
def fj.if_(h:Tz M n t ls J q σ1)(hb:fj rr M n (fun c=>execs (Bool.rec o b q) c.env) ls σ1 J'):fj rr M n (fun c=>exec (.If t b o pos) c.env) ls J J':=⟨by
 intro c A s m imm cs Q E C l R k;refine wpAny_If (h.h C l R fun hx tx ix cx x Rx xx qx=>?_);cases qx;cases q with
 |true=>exact hb.h C l Rx fun e h' tk m' imm' cs' G x'=>k e h' tk m' imm' cs' G (xx.trans x')
 |false=>exact hb.h C l Rx fun e h' tk m' imm' cs' G x'=>k e h' tk m' imm' cs' G (xx.trans x')⟩
def fj.exp(h0:ke e=true)(h:tJ rr M n (fun c=>eval e c.env) ls J J'):fj rr M n (fun c=>exec (.Expr e pos) c.env) ls J J':=⟨by
 intro c A s m imm cs Q E C l R k;have hint:interactive c.env=false:=by
  unfold interactive;rw[c.parts.1,C.k];rfl
 exact wpAny_Expr_any (h.h C l R fun e h' tk imm' cs' G x'=>k e h' tk m imm' cs' G.nol x') hint (wP h0 _ _ _)⟩
def fj.ret(h:tJ rr M n (fun c=>eval e c.env) ls J J'):fj rr M n (fun c=>exec (.Return (some e) pos) c.env) ls J J':=⟨by
 intro c A s m imm cs Q E C l R k;exact wpAny_Return_some (h.h C l R fun e h' tk imm' cs' G x'=>k e h' tk m imm' cs' G.nol x')⟩
end
structure CX (rr:Bool) (M:aF) (n:Nat) (ls:ac) (σ1:St) (ov:AV) (x:Str) (as:List PySem.Expr) (ks:List Keyword) (pos:Pos) (J':St):Prop where
 h:∀ {c A s m imm cs va pl} {Q E:Θ},aR M c A n→bL c ls→ai M c.h₀ c.L s.heap m ls.v σ1 imm cs→VR M imm (ae cs) va ov →
  (∀ e h' tk imm' cs',oD rr M c m ls.v e h' J' imm' cs'→aE imm cs imm' cs'→E (.ref e) (sU s h' tk)) →
  wpAny (model ar M.w) A (getMethod va x pl) (fun fx s2=>wpAny (model ar M.w) A (callWith pos fx.1 fx.2 (backTo pos (starEach as c.env)) (backToKw pos (keywordEach ks c.env))) Q E s2) E s
section
def Bw(I:aS M n R){apos:Pos}(h0:(jk o&&apos.endLine.beq pos.line&&Nat.blt (lenA as+lenA ks+1) 30)=true)(h1:R.ev ls J o=some (ov,σ1))
  (n1:∀ e∈as,fJ e=true) (n2:∀ y∈ks,y.arg.isSome=true) (hm:CX rr M n ls σ1 ov x as ks pos J'):tJ rr M n (fun c=>eval (.Call (.Attribute o x apos) as ks pos) c.env) ls J J':=⟨by
 simp only [Wj] at h0;apply ay h0;intro hq54 g3;apply ay hq54;intro g1 g2;replace g2:=aJ g2;replace g3:=nleT g3;rw[aZ,aZ] at g3;intro c A s m imm cs Q E C l Rp k;have form:methodCallForm (as.length+ks.length) (backTo pos (starEach as c.env)) (backToKw pos (keywordEach ks c.env))=true:=by
  rw[m9 pos n1,ye];unfold methodCallForm;simp only [Wj,List.all_map,XK,decide_eq_true_eq];refine⟨⟨fun U U=>rfl,fun y hy=>n2 y hy⟩,?_⟩
  split<;>(first|exact Nat.lt_of_succ_lt g3|exact g3)
 show wpAny _ _ (do
  let ov ←attributeBase o x c.env (eval o c.env)
  standAt apos.atName
  methodCall o x apos pos c.env ov (as.length+ks.length) (backTo pos (starEach as c.env)) (backToKw pos (keywordEach ks c.env))) _ _ _
 rw[y8 g1];refine Wg (I.ev h1 C l Rp fun hx tx ix cx va Rx xx qx=>Wg (Wt ?_));unfold methodCall;rw[form];have hpos:methodCallPos true o c.env apos pos=pure pos:=by
  unfold methodCallPos;rw[if_pos (by simp [g2])]
 refine Wg (Wo (WQ (hm.h (Q:=Q) C l Rx qx fun e h' tk i' c' G x'=>k e h' tk i' c' G (xx.trans x')) (fun fx s2 h2=>?_) fun U U z=>z));rw[hpos];exact Wg (Wi h2)⟩
def BG(hy:∀ C c,Y.ci C=some c→dC M C c)(I:aS M n R)(hg:hY Y σ1 (.cell i) x=some (.meth f self))(i1:R.evs ls σ1 as=some (vs,σ2))(i2:R.evk ls σ2 ks=some (kw,σ3))
  (hf1:fnIn M.K f=true) (H:fg rr M n σ3 f (self::vs) kw J'):((∀ e∈as,fJ e=true)∧∀ y∈ks,y.arg.isSome=true)∧CX rr M n ls σ1 (.cell i) x as ks pos J':=by
 refine⟨⟨(I.evs i1).1.1,fun y hy=>?_⟩,⟨?_⟩⟩
 ·have:y.arg∈ks.map (·.arg):=Ws hy
  rw[(I.evk i2).1] at this;apply af (cC this);intro q _ e;rw[←e];rfl
 intro c A s m imm cs va pl Q E C l Rx qx k;apply bK (show xB Y σ1 i x=some (.meth f self) from hg);clear hg;intro D fs e1 hg;apply af qx.cell_inv;intro a e0 ha;subst e0;apply cj (Rx.C.cell ha (pk e1));intro d pre post e0 ll e2 cr;subst e0;apply dZ cr.inst_inv;intro b d es n' e0 hf hp hc;subst e0;(obtain e:=CC.same e2;subst e);have hI:=XO Rx.N (Rx.has (.head _)) (Rx.has (.tail _ (.head _)));cases z:lk x fs with
 |some u=>
  rw[z] at hg;apply bC hg;clear hg;intro h1 hg;(apply j1 hg;clear hg;rintro rfl);have g:=hf.get (x:=x);rw[z] at g;apply af g;intro val g1 g2;have pg:=plainGet_of hc.ga;apply cD (VR.inv g2);intro _ _ e0 hm hs;subst e0;refine method_usual (C.X.keeps Rx.F.keep) hI pg.1 pg.2 (hp _ (iJ z)) rfl ?_;refine get_own Rx.F C.X hI hc.ga hc.hd (hp _ (iJ z)) rfl g1 (wI g2 rfl) ?_;refine uY I i1 i2 C l Rx (fun h X hi=>keeps_M hf1 _ ⟨hi _ hm,X⟩) ?_;intro h' tk imm' cs' vals kwv R' x' v1 v2 v3;exact call_meth R'.N (aK _ (x'.i _ hm)) (H.h C R' (.cons (hs.ext x') v1) v2 v3 fun e h2 t2 i2 c2 G x2=>k e h2 t2 i2 c2 G (x'.trans x2))
 |none=>
  rw[z] at hg;apply aG hg;clear hg;intro ci h1 hg;have ok:=hy _ _ h1;unfold xT at hg;cases z2:lk x ci.meths with
  |some f'=>
   rw[z2] at hg;(injection hg with e;injection e with e1 e2;symm at e1;subst e1;symm at e2;subst e2);apply j7 (ok.meths x f z2);intro m1 m2 m3 m4 m5 m6;refine method_inst Rx.F C.X hI hc.ga m1 m2 (hf.miss z) ?_;refine uY I i1 i2 C l Rx (fun h X hi=>keeps_K (zM hf1) h X) ?_;intro h' tk imm' cs' vals kwv R' x' v1 v2 v3;exact wpAny_call (H.h C R' (.cons (qx.ext x') v1) v2 v3 fun e h2 t2 i2 c2 G x2=>k e h2 t2 i2 c2 G (x'.trans x2))
  |none=>
   rw[z2] at hg;apply pf (ok.consts x _ hg);intro a c1 c2 c3 c4 c5;apply cD ((c5 [] []).inv);intro _ _ _ hm _;exact(WA hm).elim
end
inductive RV where
 |lit (c:Const)
 |pct (l r:PySem.Expr)
 |other
noncomputable def rP(op:Operator)(l r:PySem.Expr):RV:=match op with|.Mod=>.pct l r|_=>.other
def rV(e:PySem.Expr):RV:=match vE e with
 |.con c=>.lit c
 |.bin l op r=>rP op l r
 |_=>.other
def Gp(l:ξ):Bool:=gy (bT (lenA l-2) l) [37,115]&&((bN (lenA l-2) l).all (fun c=>!c.beq 37)&&(Nat.blt 2 (lenA l)&&Nat.ble (lenA l) 100))
def vV(v:AV):Bool:=match v with|.str s=>(match s.conc with|some l=>Gp l|_=>false)|_=>false
def EC(v:AV):Bool:=match v with|.obj D _=>!mQ.all (fun x=>!x.beq D)|_=>false
def GX(R:aM)(ls:ac)(J:St)(e:PySem.Expr):κ St:=match rV e with
 |.lit c=>ob (vN c) fun U=>some J
 |.pct l r=>obp (R.ev ls J l) fun v σ1=>gd (vV v&&gI σ1 J) <|obp (R.ev ls J r) fun u σ2=>gd (EC u&&gI σ2 J) <|some J
 |.other=>none
structure RS where
 x:Str
 np:Pos
 arg:PySem.Expr
 cp:Pos
def rA(e:PySem.Expr):κ RS:=match vE e with
 |.call f as ks cp=>(match vE f with
  |.name x np=>ob (nW as) fun a=>gd (bD ks) (some ⟨x,np,a,cp⟩)
  |_=>none)
 |_=>none
def rB(e c:κ PySem.Expr):κ RS:=ob e fun e=>gd (Option.isNone c) (rA e)
def rS(s:Stmt):κ RS:=match s with
 |.Raise e c _=>rB e c
 |_=>none
def IP(R:aM)(ls:ac)(J:St)(s:Stmt):κ St:=ob (rS s) fun q=>gd (seq q.x dI&&(nj dI ls.sc&&fJ q.arg)) <|GX R ls J q.arg
noncomputable def RW(fv:AV):κ (Addr×AV):=match fv with|.meth f self=>some (f,self)|_=>none
def GC(Y:Pi)(R:aM)(cf:St→Addr→List AV→List (Str×AV)→κ St)(ls:ac)(J:St)(o:PySem.Expr)(x:Str)(ap:Pos)(as:List PySem.Expr)(ks:List Keyword)(pos:Pos):κ St :=
 gd (jk o&&ap.endLine.beq pos.line&&Nat.blt (lenA as+lenA ks+1) 30) <|
 obp (R.ev ls J o) fun ov J=>
 ob (il ov) fun i=>
 ob (hY Y J (.cell i) x) fun fv=>
 obp (RW fv) fun f self=>
 obp (R.evs ls J as) fun vs J=>
 obp (R.evk ls J ks) fun kw J=>
 cf J f (self::vs) kw
def Al(Y:Pi)(R:aM)(cf:St→Addr→List AV→List (Str×AV)→κ St)(ls:ac)(J:St)(e:PySem.Expr):κ St:=match vE e with
 |.call f as ks pos=>(match vE f with
  |.attr o x ap=>GC Y R cf ls J o x ap as ks pos
  |_=>none)
 |_=>none
def zG(Y:Pi)(R:aM)(cf:St→Addr→List AV→List (Str×AV)→κ St)(rb:ac→St→List Stmt→κ St)(ls:ac)(J:St)(s:Stmt):κ St:=match vS s with
 |.exp e=>gd (ke e) (Al Y R cf ls J e)
 |.ret e=>ob e fun e=>Al Y R cf ls J e
 |.ife t b o=>obp (R.tst ls J t) fun c J=>rb ls J (Bool.rec o b c)
 |.other=>IP R ls J s
 |_=>none
def yY(o:κ (Fl×ac×St)):κ (ac×St):=kQ o fun f ls J=>match f with|.next=>some (ls,J)|_=>none
def Rt(Y:Pi)(R:aM)(cf:St→Addr→List AV→List (Str×AV)→κ St)(rb:ac→St→List Stmt→κ St)(ls:ac)(J:St)(ss:List Stmt):κ St:=match ss with
 |[]=>none
 |s::r=>Option.rec (zG Y R cf rb ls J s) (fun p=>rb p.1 p.2 r) (yY (R.ex ls J s))
def vY(Y:Pi)(rb:ac→St→List Stmt→κ St)(J:St)(f:Addr)(vs:List AV)(kw:List (Str×AV)):κ St :=
 ob (Y.fn f) fun fi=>ob (fE fi.args fi.dflt vs kw) fun ls=>rb ⟨ls,fi.sc⟩ J fi.body
def qs(Y:Pi)(n:Nat):Nat→ac→St→List Stmt→κ St :=
 Nat.rec (fun U U U U=>none) (fun U ih d=>Rt Y (mk Y 300 d) (fun J f vs kw=>Nat.rec none (fun d' U=>vY Y (ih d') J f vs kw) d) (ih d)) n
section
def Ug(h:rS s=some q):∃ pos,s=.Raise (some (.Call (.Name q.x q.np) [q.arg] [] q.cp)) none pos:=by
 induction s using PySem.Stmt.casesOn with
 |Raise e c pos=>
  apply aG h;clear h;intro e0 h1 h;apply bC h;clear h;intro h2 h;subst h1;induction c using oO with
  |some=>injection h2
  |none=>
   induction e0 using PySem.Expr.casesOn with
   |Call f as ks cp=>
    induction f using PySem.Expr.casesOn with
    |Name x np=>
     apply aG h;clear h;intro a h3 h;apply bC h;clear h;intro h4 h;apply r1 h;clear h;rw[rI h3];induction ks using oL with
     |nil=>exact⟨pos,rfl⟩
     |cons=>injection h4
    |_=>injection h
   |_=>injection h
 |_=>injection h
def Um(h:Gp l=true):∃ a t,l=(a::t)++[37,115]∧((a::t).all fun c=>!c.beq 37)=true∧(a::t).length≤100:=by
 have h1:=aw h;have h2:=aw h1.2;have h3:=aw h2.2;have e2:=Ct (lenA l-2) l;have h4:=nleT h3.2;have h5:=nleT h3.1;rw[aZ] at h4 h5;have e3:(bN (lenA l-2) l).length=l.length-2:=by rw[k8,Xk,aZ];exact Xx (XE _ _)
 rw[(jf.mp h1.1)] at e2;cases q:bN (lenA l-2) l with
 |nil=>rw[q] at e3;exact absurd (Nat.sub_eq_zero_iff_le.mp (Eq.symm e3)) (Nat.not_le_of_lt h5)
 |cons a t=>
  rw[q] at e2 e3;refine⟨a,t,e2,by have:=h2.1;rw[q] at this;exact this,WZ (W7 e3) (WZ (XE _ _) h4)⟩
def M0(hn:170≤n)(I:aS M n R)(h:GX R ls J arg=some J'):J'=J ∧
  ∀ {c A s m imm cs} {Q:Θ} {E:Θ},aR M c A n→bL c ls→ai M c.h₀ c.L s.heap m ls.v J imm cs →
   (∀ h' tk imm' cs' x,ai M c.h₀ c.L h' m ls.v J imm' cs'→aE imm cs imm' cs'→Q x (sU s h' tk))→wpAny (model ar M.w) A (eval arg c.env) Q E s:=by
 induction arg using PySem.Expr.casesOn with
 |Constant x u p=>
  apply aG h;clear h;intro v h1 h;apply r1 h;clear h;refine⟨rfl,fun C l R k=>?_⟩;exact(Hg h1) C l R fun h' tk i' c' y R' x' _=>k h' tk i' c' y R' x'
 |BinOp a op b p=>
  cases op<;>first|injection h|skip
  replace h:(obp (R.ev ls J a) fun v σ1=>gd (vV v&&gI σ1 J) <|obp (R.ev ls J b) fun u σ2=>gd (EC u&&gI σ2 J) <|some J)=some J':=h;apply bK h;clear h;intro v σ1 h1 h;apply bC h;clear h;intro h2 h;apply bK h;clear h;intro u σ2 h3 h;apply bC h;clear h;intro h4 h;(apply r1 h;clear h);have h2:=aw h2;have h4:=aw h4;have e1:=nZ h2.2;have e2:=nZ h4.2;subst e1 e2;cases v with
  |str sx=>
   have g:=h2.1;cases qc:sx.conc with
   |none=>unfold vV at g;dsimp only at g;rw[qc] at g;injection g
   |some lst=>
    have g:=by unfold vV at g;dsimp only at g;rw[qc] at g;exact g
    apply cD (Um g);intro a0 t0 e0 g1 g2;clear g;subst e0;cases u with
    |obj D fs=>
     have g4:(!mQ.all (fun x=>!x.beq D))=true:=h4.1;exact⟨rfl,fun C l R k=>Up hn g1 g2 (by simpa using g4) (ji qc) (⟨I.ev h1⟩) (⟨I.ev h3⟩) C l R k⟩
    |_=>exact Bool.noConfusion h4.1
  |_=>exact Bool.noConfusion h2.1
 |_=>injection h
end
def F5{α B γ δ:Type}{m:κ (α×B×γ)}{f:α→B→γ→κ δ}{d:δ}(h:kQ m f=some d):∃ a b c,m=some (a,b,c)∧f a b c=some d:=by
 induction m using oO with
 |none=>injection h
 |some p=>exact⟨p.1,p.2.1,p.2.2,rfl,h⟩
section
abbrev AF (M:aF) (n:Nat) (cf:St→Addr→List AV→List (Str×AV)→κ St):Prop:=∀ {J f vs kw J'},cf J f vs kw=some J'→fnIn M.K f=true∧US M n J f vs kw J'
abbrev VM (M:aF) (n:Nat) (rb:ac→St→List Stmt→κ St):Prop:=∀ {ls J ss J'},rb ls J ss=some J'→v5 M n (fun c=>execs ss c.env) ls J J'
def DM(hy:∀ C c,Y.ci C=some c→dC M C c)(I:aS M n R)(H:AF M n cf)(h:Al Y R cf ls J e=some J') :
  Gd M n (fun c=>eval e c.env) ls J J':=by
 have key:∀ {o:PySem.Expr} {x:Str} {ap pos:Pos} {as:List PySem.Expr} {ks:List Keyword},GC Y R cf ls J o x ap as ks pos=some J'→Gd M n (fun c=>eval (.Call (.Attribute o x ap) as ks pos) c.env) ls J J':=by
  intro o x ap pos as ks h;apply bC h;clear h;intro h0 h;apply bK h;clear h;intro ov σ1 h1 h;apply aG h;clear h;intro i h2 h;apply aG h;clear h;intro fv h3 h;apply bK h;clear h;intro f self h4 h;apply bK h;clear h;intro vs σ2 h5 h;apply bK h;clear h;intro kw σ3 h6 h;(obtain e:=ka h2;clear h2;subst e);cases fv with
  |meth g u=>
   (apply j2 h4;rintro rfl rfl);have g0:=H h;have g:=BG (pos:=pos) hy I h3 h5 h6 g0.1 g0.2;exact Bw I h0 h1 g.1.1 g.1.2 g.2
  |_=>injection h4
 induction e using PySem.Expr.casesOn with
 |Call f as ks pos=>
  induction f using PySem.Expr.casesOn with
  |Attribute o x ap=>exact key h
  |_=>injection h
 |_=>injection h
def Rj{n:Nat}(hn:170≤n){R:aM}(hy:∀ C c,Y.ci C=some c→dC M C c)(I:aS M n R){cf:St→Addr→List AV→List (Str×AV)→κ St}(H:AF M n cf){rb:ac→St→List Stmt→κ St}(Yb:VM M n rb)
  {ls:ac} {J J':St} {s:Stmt} (h:zG Y R cf rb ls J s=some J'):v5 M n (fun c=>exec s c.env) ls J J':=by
 induction s using PySem.Stmt.casesOn with
 |Expr e pos=>
  apply bC h;clear h;intro h0 h;exact .exp h0 (DM hy I H h)
 |Return e pos=>
  apply aG h;clear h;intro e' h0 h;subst h0;exact .ret (DM hy I H h)
 |If t a o pos=>
  apply bK (show (obp (R.tst ls J t) fun c J=>rb ls J (Bool.rec o a c))=some J' from h);clear h;intro c σ1 h1 h;exact .if_ ⟨I.tst h1⟩ (Yb h)
 |Raise e c pos=>
  apply aG h;clear h;intro z h1 h;apply bC h;clear h;intro h2 h;apply bn (Ug h1);intro pos e0;clear h1;injection e0 with a1 a2 a3;clear a3;subst a1 a2;have g:=aw h2;have g2:=aw g.2;rw[ii.mp g.1];apply ay (M0 hn I h);intro e hv;clear h;subst e;exact Sl g2.1 g2.2 hv
 |_=>injection h
def Km(P:jB M b Y)(hb:140≤b):∀ n d {ls J ss J'},qs Y n d ls J ss=some J'→v5 M (10*d+b+30) (fun c=>execs ss c.env) ls J J':=by
 intro n;induction n with
 |zero=>intro _ _ _ _ _ h;injection h
 |succ n ih=>
  intro d ls J ss J' h;replace h:=h;have A:=cU P 300 d;have H:AF M (10*d+b+30) (fun J f vs kw=>Nat.rec none (fun d' U=>vY Y (qs Y n d') J f vs kw) d):=by
   intro J f vs kw J' h;cases d with
   |zero=>injection h
   |succ d=>
    replace h:=h;apply aG h;clear h;intro fi h1 h;apply aG h;clear h;intro ls h2 h;have g:=P.hf _ _ h1;exact⟨g.1,Fd g.2 h2 (by lia) (ih d h)⟩
  cases ss with
  |nil=>injection h
  |cons s r=>
   replace h:Option.rec (motive:=fun U=>κ St) (zG Y (mk Y 300 d) (fun J f vs kw=>Nat.rec none (fun d' U=>vY Y (qs Y n d') J f vs kw) d) (qs Y n d) ls J s) (fun p=>qs Y n d p.1 p.2 r) (yY ((mk Y 300 d).ex ls J s))=some J':=h;cases q:yY ((mk Y 300 d).ex ls J s) with
   |none=>
    rw[q] at h;exact .head (Rj (W4 (WZ hb (Xn _ _)) 30) P.hy A.E H (fun h=>ih d h) h)
   |some p=>
    rw[q] at h;apply jo (F5 q);intro fl ls1 σ1 h3 h4;cases fl with
    |next=>
     (apply j1 h4;rintro rfl);exact .cons ⟨A.S.ex h3⟩ (ih d h)
    |ret v=>injection h4
end
def fg.fill(F:gD M B Z φ)(hc:φ.c=id)(gh:kB M φ P)(g:pn fr B φ.v (bt vs) P=true)(g':kA fr (bt vs) P [] P'=true)
  (H:∀ ov cv,nv (lB fr φ.v (bt vs) P) φ.v ov→fg false (M.wE Z F.p ov cv) n P f vs [] P'):fg false M n (bE φ P) f (aH φ vs) [] (bE φ P'):=⟨by
 intro c A s m ls imm cs vals kwv Rq C R hv hk hk2 k;apply t9 (zf F hc gh g (aj.dn (fun x U=>VR.dn F hc x) _ hv) R.C);intro ov cv fo fk hl hcc;have hk2':aj (M.wE Z F.p ov cv) imm (ae cs) (kwv.map (·.2)) (([]:List (Str×AV)).map (·.2)):=by rw[aj.nil_of hk2];exact .nil
 refine(H ov cv fk).h (ls:=[]) C.wE ⟨R.F,R.N,R.nd,hcc,fun x v hx=>by injection hx⟩ hl hk hk2' fun e h' tk imm' cs' G x'=>?_;apply ay ((fo.ext x').upL g' hc);intro u uc;refine k e h' tk imm' cs' ⟨G.nd,aN.up F P' u uc G.C,fun x v hx=>?_,G.g⟩ x';apply af (R.l x v hx);intro val a b;exact⟨val,a,b.ext x'⟩⟩
structure ie where
 B:Bd
 sp:Sp
 d:Nat
 fr:ξ
 P:St
 f:Addr
 vs:List AV
 Q:St
def ie.run(j:ie):κ St:=Nat.rec none (fun d U=>vY (eY j.B j.sp) (qs (eY j.B j.sp) 300 d) j.P j.f j.vs []) j.d
def ie.chk(j:ie):Bool:=(match j.run with
 |some J=>gI J j.Q
 |none=>false)&&(mO j.fr j.B (bt j.vs) j.P&&kA j.fr (bt j.vs) j.P [] j.Q)
def S9{j:ie}(P:jB M b (eY j.B j.sp))(hb:140≤b)(h:j.run=some J):fnIn M.K j.f=true∧fg false M (10*j.d+b+30) j.P j.f j.vs [] J:=by
 obtain⟨B,sp,d,fr,P0,f,vs,Q⟩:=j;unfold ie.run at h;dsimp only at h P ⊢;cases d with
 |zero=>injection h
 |succ d=>
  apply aG h;clear h;intro fi h1 h;apply aG h;clear h;intro ls h2 h;have g:=P.hf _ _ h1;exact⟨g.1,Fd g.2 h2 (by lia) (Km P hb 300 d h)⟩
def GS{Z:Ev}(hP:Z.P=M.Z.P)(he:Z.Ok)(j:ie)(hb:aU j.B Z)(hb2:140≤b)(hs:∀ ov cv,nv (lB j.fr v (bt j.vs) j.P) v ov→mJ (M.wE Z ⟨hP,he⟩ ov cv) b j.sp)
  (hf:(j.fr.all fun i=>iU (v i))=true) (hh:kB M (am Z v z) j.P) (hc:j.chk=true) :
  fnIn M.K j.f=true∧fg false M (10*j.d+b+30) (bE (am Z v z) j.P) j.f (aH (am Z v z) j.vs) [] (bE (am Z v z) j.Q):=by
 replace hc:=aw hc;have c3:=aw hc.2;have c1:=hc.1;cases q:j.run with
 |none=>rw[q] at c1;injection c1
 |some J=>
  rw[q] at c1;have eq9:=nZ c1;clear c1;subst eq9;have H:=fun ov cv fk=>
   S9 (q8 hb (hs ov cv fk)) hb2 q
  refine⟨(H (fun i=>og (v i)) M.Z.cv fun i hi=>?_).1,?_⟩
  ·have h1:=EY hf hi
   dsimp only at h1 ⊢;cases q2:v i with
   |bool b=>exact⟨b,rfl,rfl⟩
   |_=>rw[q2] at h1;injection h1
  ·exact fg.fill (Bz hP he hb v z) rfl hh (Ax c3.1 hf) c3.2 fun ov cv fk=>(H ov cv fk).2
def Qp(base:Heap)(l:List Env)(L e:Addr)(t:Addr)(vs:List π)(news:Δ)(h:Heap):Prop :=
 (∃ Yb,base.StaysIn Yb∧(∀ q∈news,Yb.get? q.1=some q.2∧base.get? q.1=none)∧Heap.HeldW Yb l e (.ref 277) (.ref t) L h∧Yb.get? t=none)∧h.TupAt t vs
section
def OK{Q:Unit→χ→Prop}(R:Heap.HeldW base l e cls a0 L s.heap)(h:∀ h',Heap.HeldW base l e cls a0 L h'→s.heap.UpToSlots h'→Q () {s with heap:=h'}):wpAny X7 A (setFlight (.ref e) (some L)) Q E s:=by
 apply ej R;intro r1 r2 r3 hr1;apply lG hr1;intro oe vs T oT ts he hcls hd h1 hnT hr2;apply ej hr2;intro hTe hT hdT h3;have hsz:=(Array.getElem?_eq_some_iff.mp h3).1;have other:∀ b,b≠T→(s.heap.update T (Obj.mapFields (·.setIfInBounds 3 ((some L).elim Value.none fun f=>rawInt f)))).get? b=s.heap.get? b:=fun b hb=>Heap.get?_update_other _ _ (Ne.symm hb);have apart:∀ b o,s.heap.get? b=some o→(∀ vs,o.data≠.fields vs)→b≠T:=fun b o hb hn q=>by
  rw[q,hT] at hb;injection hb with hb;subst hb;exact hn ts hdT
 refine Wg (wpAny_field he hd h1 ?_);rw[if_pos (by simp)];refine wpAny_setField hT hdT hsz (h _ ⟨fun b o hb=>(other b fun q=>by rw[q,hnT] at hb;cases hb).trans (r1 b o hb),r2,r3.of_keeps fun b o hb hn=>⟨o,(other b (apart b o hb hn)).trans hb,rfl⟩,?_⟩ fun b o hb hn=>⟨o.slots,(other b (apart b o hb hn)).trans hb⟩);exact⟨oe,vs,T,_,_,(other e (Ne.symm hTe)).trans he,hcls,hd,h1,hnT,hTe,Heap.get?_update_self _ hT (Obj.isFreed_of_fields (Obj.data_mapFields hdT _)),Obj.data_mapFields hdT _,by simp [hsz]⟩
end
structure DR (M:aF) (c:Cx) (e:Addr) (h':Heap) (J':St) (imm':Δ) (cs':List CC):Prop where
 nd:((imm'++aQ cs').map Prod.fst).Nodup
 C:aN M imm' (ae cs') cs' J'
 g:∃ m g₂ t vs,Fr c.h₀ c.L g₂ m∧g₂.UpToSlots h'∧Qp c.base c.fr c.L e t vs (imm'++aQ cs') h'
structure jx (M:aF) (n:Nat) (t:Cx→Sem Flow) (ls:ac) (J J':St):Prop where
 h:∀ {c A s m imm cs} {Q:Flow→χ→Prop} {E:Θ},aR M c A n→bL c ls→ai M c.h₀ c.L s.heap m ls.v J imm cs →
  (∀ e h' tk imm' cs',DR M c e h' J' imm' cs'→aE imm cs imm' cs'→E (.ref e) (sU s h' tk))→wpAny (model ar M.w) A (t c) Q E s
structure m8 (M:aF) (n:Nat) (t:PySem.Expr) (b:List Stmt) (ls:ac) (J J':St):Prop where
 h:∀ {c A s m imm cs} {Rq:Result→χ→Prop},aR M c A n→bL c ls→ai M c.h₀ c.L s.heap m ls.v J imm cs →
  (∀ e h' tk imm' cs',DR M c e h' J' imm' cs'→aE imm cs imm' cs'→Rq (.error (.ref e)) (sU s h' tk))→codeAny (model ar M.w) A (.whileLoop t b [] c.env) Rq s
def Cx.fr_is{c:Cx}:c.fr=c.env::c.outer∧c.env.frame=some c.L:=⟨rfl,rfl⟩
section
def m8.stop(h:Tz M n t ls J true σ1)(hb:fj false M n (fun c=>execs b c.env) ls σ1 J'):m8 M n t b ls J J':=⟨by
 intro c A s m imm cs Rq C l R k;refine sY (h.h C l R fun hx tx ix cx x Rx xx qx=>?_);cases qx;refine hb.h C l Rx fun e h' tk m' imm' cs' G x'=>?_;apply ay (c.fr_is);intro e1 e2;rcases G.g with ⟨g,_⟩|⟨g₂,t,vs,G1,G2,⟨Yb,hB,hl,hfl,hnew⟩,htup⟩
 ·injection g
 ·rw[e1] at hfl
  have hfr:=C.fr;rw[e1] at hfr;refine wpAny_looks_onW hfr e2 hfl fun h4 hheld hsm=>?_;exact k e h4 tk imm' cs' ⟨G.nd,G.C,m',g₂,t,vs,G1,G2.trans hsm,⟨Yb,hB,hl,by rw[e1];exact hheld,hnew⟩,htup.of_slots hsm⟩ (xx.trans x')⟩
def m8.go(h:Tz M n t ls J true σ1)(hb:bc M n b ls σ1 .next ls1 σ2)(hr:m8 M n t b ls1 σ2 σ3):m8 M n t b ls J σ3:=⟨by
 intro c A s m imm cs Rq C l R k;refine sY (h.h C l R fun hx tx ix cx x Rx xx qx=>?_);cases qx;refine hb.h C l Rx fun hy ty my iy cy fl Ry ly xy fy=>?_;(obtain e:_=_:=FR.inv fy;clear fy;subst e);exact hr.h C ly Ry fun e h2 t2 i2 c2 G x2=>k e h2 t2 i2 c2 G (xx.trans (xy.trans x2))⟩
def jx.while_(h:m8 M n t b ls J J'):jx M n (fun c=>exec (.While t b [] pos) c.env) ls J J':=⟨by
 intro c A s m imm cs Q E C l R k;refine wpAny_While (h.h C l R fun e h' tk imm' cs' G x'=>?_);apply ay (c.fr_is);intro e1 e2;apply dZ G.g;intro m' g₂ t vs G1 G2 hq58 htup;apply mV hq58;intro Yb hB hl hh hnew;apply ej (id hh);intro _ _ _ hr1;apply rT hr1;intro oe ws T oT ts he hc hd h1 _;refine Wg (wpAny_field he hd h1 ?_);rw[if_neg (by simp),e2];have fin:=OK (X7:=model ar M.w) (A:=A) (E:=E) (s:=sU s h' tk) (Q:=fun _ s''=>E (.ref e) s'') hh fun h4 h5 hsm=>k e h4 tk imm' cs' ⟨G.nd,G.C,m',g₂,t,vs,G1,G2.trans hsm,⟨Yb,hB,hl,h5,hnew⟩,htup.of_slots hsm⟩ x'
 first
  |exact Wg (Wi fin)
  |exact fin⟩
def jx.head{st:Stmt}{r:List Stmt}{ls:ac}{J σ2:St}(h:jx M n (fun c=>exec st c.env) ls J σ2):jx M n (fun c=>execs (st::r) c.env) ls J σ2:=⟨fun C l R k=>WX (h.h C l R k)⟩
def jx.append(h1:bc M n a ls J .next ls1 σ1)(h2:jx M n (fun c=>execs b c.env) ls1 σ1 σ2):jx M n (fun c=>execs (a++b) c.env) ls J σ2:=⟨by
 intro c A s m imm cs Q E C l R k;rw[qL];refine Wg (h1.h C l R fun hx tx mx ix cx fl Rx lx xx fx=>?_);(obtain e:_=_:=FR.inv fx;clear fx;subst e);exact h2.h C lx Rx fun e h' tk imm' cs' G x'=>k e h' tk imm' cs' G (xx.trans x')⟩
def MU(hf:t7 M f fi)(hb:fE fi.args fi.dflt vs kw=some ls)(hn:n'+5≤n)
  (hx:jx M n' (fun c=>execs fi.body c.env) ⟨ls,fi.sc⟩ J J'):fg rr M n J f vs kw J':=⟨by
 intro c A s m lsC imm cs vals kwv Rq C Rp hv hk hk2 k;obtain⟨name,qual,as,ds,scope,dV,kV,doc,pm,cdv,ct,oc,an,od,osl,ho,hcd,ha,hs,hkd,hco,hg,hc,hl,nd,hd⟩:=hf;apply bn C.Yb;intro A₀ Yb;have X:=C.X.keeps Rp.F.keep;have hdv:∃ items,((dV=.none∧items=[])∨∃ t o q,dV=.ref t∧s.heap.get? t=some o∧o.data=.seq (List.toArray items) q)∧aj M imm (ae cs) items fi.dflt:=by
  rcases hd with ⟨a,b⟩|⟨t,o,items,q,a,b,d,e⟩
  ·exact⟨[],.inl ⟨a,rfl⟩,by rw[b];exact .nil⟩
  ·exact⟨items,.inr ⟨t,o,q,a,X _ _ b,d⟩,e _ _⟩
 apply af hdv;clear hdv;intro items hdv hdr;apply mV (zj hdr hv hk hk2 hb);intro binds b1 b2 b3 b4;have hfr:c.fr=envOf c.cn c.cs c.L c.a c.cd::c.outer:=rfl;have cfr:=C.fr;rw[hfr] at cfr;refine call_K Yb Rp.F Rp.N X C.T.nolimit cfr ho hcd (by have:=C.dp;exact W8 (WZ (W0 _ _) this) (nleT rfl)) (zP rfl hdv (by rw[ha];exact b1)) (fun y hy=>hl _ (b3 _ hy)) ?_ (hck:=C.k) (hco:=hco) (hgen:=hg) (hk:=hkd) (hcell:=hc);intro g L' h₁ hF hF' hN hB hst;have C':aR M ⟨c.base,g,c.fr,L',f,qual,scope,cdv⟩ (A.deeper (envOf qual scope L' f cdv)) n':=by
  refine⟨⟨A,by rw[hfr];exact hB⟩,C.X.keeps hst,C.T.keeps hst,hkd,?_,C.hd,?_,?_⟩
  ·show Option.map _ A.frames=_
   rw[C.fr];rfl
  ·exact xk (WZ (W1 (nleT rfl) _) hn) C.dp
  ·exact uy (WZ (W1 (nleT rfl) _) hn) C.un
 refine hx.h C' (⟨hs.symm,fun x v hx=>hl _ (b4 x v hx),nd⟩) ⟨hF',hN,Rp.nd,Rp.C,b2⟩ ?_;intro e h' tk imm' cs' G x';apply dZ G.g;intro m' g₂ t vs G1 G2 hq59 htup;apply mV hq59;intro B2 hB2 hl2 hh hnew;refine Wg (wpAny_noteFrame_againW rfl hh.2.2.2 ?_);refine wpAny_landsW hh fun h2 hfl hs=>?_;apply ej hfl;intro k1 k2 hq60 k4;apply cw hq60;intro _ _ k3;exact k e h2 tk imm' cs' ⟨G.nd,G.C,fun x v hx=>(Rp.l x v hx).elim fun val h=>⟨val,h.1,h.2.ext x'⟩,.inr ⟨g,t,vs,hF,(Heap.UpToSlots.of_keeps G1.keep).trans (G2.trans hs),⟨B2,hB2,hl2,⟨k1,k2,k3,k4⟩,hnew⟩,htup.of_slots hs⟩⟩ x'⟩
end
def o7(x:Nat→AV):ak:=.inst 736 [(r8,x 0),(mh,x 1),(u6,x 2),(sR,x 3),(sW,x 4),(cQ,x 5),(sV,x 6),(rg,x 7),(tL,x 8),
 (uq,x 9),(ut,x 10),(tE,x 11),(tQ,x 12),(uD,x 13),(ui,x 14),(pX,x 15),(pE,x 16),(ug,x 17),(pO,x 18),(rc,x 19),(uK,x 20),(uh,x 21),(uT,x 22),
 (tm,x 23),(tG,x 24),(uL,x 25),(uZ,x 26),(gi,x 27)]
def bB(c:Nat→ak)(x:Nat→AV):St:=[c 0,c 1,c 2,c 3,c 4,o7 x,c 6,c 7,c 8,c 9]
def lI(i:Nat):AV:=.int (V i)
def yQ:List Str:=[r8,mh,u6,sR,sW,cQ,sV,rg,tL,uq,ut,tE,tQ,uD,ui,pX,pE,ug,pO,rc,uK,uh,uT,tm,tG,uL,uZ,gi]
noncomputable def Bc:List Str→List (Str×AV)→κ (List AV)
 |[],[]=>some []
 |n::ns,p::r=>gd (seq p.1 n) (ob (Bc ns r) fun t=>some (p.2::t))
 |_,_=>none
def qZ{α:Type}(d:α)(l:List α)(i:Nat):α:=Option.rec d id (ao l i)
def Bs(l:List AV)(i:Nat):AV:=qZ .none l i
def gU(J:St)(i:Nat):ak:=qZ (.list []) J i
def CB(J:St):κ ((Nat→ak)×(Nat→AV)):=gd (Nat.beq (lenA J) 10) (obp (ny J 5) fun C fs=>gd (C.beq 736) (ob (Bc yQ fs) fun l=>some (gU J,Bs l)))
def E3:∀ {ns:List Str} {fs:List (Str×AV)} {l:List AV},Bc ns fs=some l→fs=ns.zip l∧l.length=ns.length
 |[],[],l,h=>by (apply r1 h;clear h);exact⟨rfl,rfl⟩
 |[],_::_,_,h=>by injection h
 |_::_,[],_,h=>by injection h
 |n::ns,p::r,l,h=>by
  apply bC h;clear h;intro h1 h;apply aG h;clear h;intro t h2 h;(apply r1 h;clear h);apply ay (E3 h2);intro e1 e2;exact⟨by rw[List.zip_cons_cons,←e1,←ii.mp h1],congrArg (·+1) e2⟩
def Gq{α:Type}(d:α){l:List α}(h:l.length=n):l=(List.range n).map (qZ d l):=by
 apply List.ext_getElem?;intro i;rw[List.getElem?_map]
 by_cases hi:i<n
 ·rw[List.getElem?_range hi]
  show l[i]?=some (qZ d l i);unfold qZ;rw[cJ,List.getElem?_eq_getElem (h▸hi)];rfl
 ·rw[WR (h▸Nat.le_of_not_lt hi),WR (by rw[XV];exact Nat.le_of_not_lt hi)];rfl
def So{J:St}{c:Nat→ak}{x:Nat→AV}(h:CB J=some (c,x)):J=bB c x:=by
 apply bC h;clear h;intro h0 h;apply bK h;clear h;intro C fs h1 h;apply bC h;clear h;intro h2 h;apply aG h;clear h;intro l h3 h;(apply r2 h;clear h);apply ay (E3 h3);intro e1 e2;have eq9:=aJ h2;clear h2;subst eq9;replace h0:=aJ h0;rw[aZ] at h0;have e3:fs=yQ.zip ((List.range 28).map (Bs l)):=by rw[e1];exact congrArg yQ.zip (Gq AV.none e2)
 have e5:gU J 5=o7 (Bs l):=by
  unfold gU qZ;rw[pk h1,e3];rfl
 have e:J=[gU J 0,gU J 1,gU J 2,gU J 3,gU J 4,gU J 5,gU J 6,gU J 7,gU J 8,gU J 9]:=(Gq (ak.list []) h0).trans (by kernel_rfl);rw[e5] at e;exact e
abbrev sL:=(Nat→ak)→(Nat→AV)→List AV→κ (AV×(Nat→ak)×(Nat→AV))
def Iq{α:Type}(l:List α):κ (α×List α):=List.rec none (fun a r U=>some (a,r)) l
def R7{α:Type}{l r:List α}{a:α}(h:Iq l=some (a,r)):l=a::r:=by
 cases l with
 |nil=>injection h
 |cons b t=>(apply r2 h;clear h);rfl
def nX(B:Bd)(g:sL)(J:St)(vs:List AV)(kw:List (Str×AV)):κ (AV×St):=gd (bD kw) (obp (Iq vs) fun v as=>gd (c7 v (.cell 5)) (obp (CB J) fun c x=>kQ (g c x as) fun r c' x'=>gd (vj B (lv r++fG (bB c' x'))) (some (r,bB c' x'))))
def Kh{B:Bd}(hb:aU B M.Z){g:sL}{f:Addr}{n:Nat} (H:∀ c x as r c' x',g c x as=some (r,c',x')→fnIn M.K f=true∧∃ r',(∀ imm ρ val,VR M imm ρ val r'→VR M imm ρ val (flA (bQ M.Z) r)) ∧
   Rz M n (bB (fun i=>fC (bQ M.Z) (c i)) (fun i=>flA (bQ M.Z) (x i))) f (.cell 5::aH (bQ M.Z) as) r' (bB (fun i=>fC (bQ M.Z) (c' i)) (fun i=>flA (bQ M.Z) (x' i))))
  {J:St} {vs:List AV} {kw:List (Str×AV)} {p:AV×St} (h:nX B g J vs kw=some p):fnIn M.K f=true∧bV M n J f vs kw p.1 p.2:=by
 apply bC h;intro hkw k0;clear h;have eq9:=qY hkw;clear hkw;subst eq9;apply bK k0;intro v as h0 k0';clear k0;apply bC k0';intro hv k1;clear k0';have eq9:=R7 h0;subst eq9;have eq9:=dY _ _ hv;clear hv;subst eq9;apply bK k1;intro c x h1 k2;apply jo (F5 k2);intro r c' x' h2 k3;apply bC k3;intro h3 k4;(apply r1 k4;clear k4);replace h1:=So h1;clear k1;subst h1;apply ay (H c x as r c' x' h2);intro h4 hr1;apply af hr1;intro r' h5 h6;refine⟨h4,?_⟩;have R:Rz M n (bE (bQ M.Z) (bB c x)) f (aH (bQ M.Z) (.cell 5::as)) (flA (bQ M.Z) r) (bE (bQ M.Z) (bB c' x')):=⟨by
  intro c0 A s m ls imm cs vals kwv Rq C R hv hk hk2 k;exact h6.h C R hv hk hk2 fun h' tk imm' cs' val R' x' hx=>k h' tk imm' cs' val R' x' (h5 _ _ _ hx)⟩
 have U:bV M n (bB c x) f (.cell 5::as) [] r (bB c' x'):=bV.unz hb h3 R;exact @U
noncomputable def AT(o:κ Bool):Bool:=match o with|some b=>b|none=>false
def ij(B:Bd)(v:AV)(lo hi:Int):Bool:=match v with|.int l=>AT (me B (.k lo) l)&&AT (me B l (.k hi))|_=>false
def G6(h:AT o=true):o=some true:=by
 cases o with
 |none=>injection h
 |some b=>exact congrArg some h
def Ly{B:Bd}{Z:Ev}(hb:aU B Z){v:AV}{lo hi:Int}(h:ij B v lo hi=true):∃ l,v=.int l∧lo≤l.val Z∧l.val Z≤hi:=by
 induction v using AV.casesOn with
 |int l=>
  replace h:=aw h;have h1:=wK hb (G6 h.1);have h2:=wK hb (G6 h.2);rw[bH] at h1 h2;exact⟨l,rfl,WM h1.symm,WM h2.symm⟩
 |_=>injection h
def oQ(s:AV)(e p o:Bool):AV:=.obj 296 [(wk,s),(zd,.bool e),(BR,ff),(Aj,.bool p),(AG,tr),(Bl,tr),(z6,tr),(BB,.bool o)]
def RL(as:List AV):Bool:=jC c7 as [.str [.var 6]]
def H0:sL:=fun c x as=>gd (RL as) (some (oQ (.str [.var 6]) false true true,c,x))
structure WL where
 T:SS
 n:aD
 col:aD
 ws:Bool
 ind:Bool
 oe:AV
noncomputable def Uv(c:ak):SS:=match c with|.rows t _=>t|_=>[]
def Lx(c:ak):aD:=match c with|.rows _ n=>n|_=>.k 0
def iB(v:AV):aD:=match v with|.int l=>l|_=>.k 0
noncomputable def rN(v:AV):Bool:=match v with|.bool b=>b|_=>false
def tw(c:Nat→ak)(x:Nat→AV):WL:=⟨Uv (c 4),Lx (c 4),iB (x 14),rN (x 15),rN (x 16),x 17⟩
def vQ(c:Nat→ak)(T:SS)(n:aD):Nat→ak:=(tO c 3 [some (.inst 771 [(ir,.cell 4)]),some (.rows T n)])
def Dp(x:Nat→AV)(w:WL):Nat→AV:=(tO (tO x 14 [some (.int w.col),some (.bool w.ws),some (.bool w.ind),some w.oe]) 0 [some (.cell 3)])
def UM(B:Bd)(c:Nat→ak)(x:Nat→AV)(w:WL):Bool:=gI (bB c x) (bB (vQ c w.T w.n) (Dp x w))&&(w.T.all (ze B)&&(ij B (.int w.T.len) 0 50000&&(ij B (.int w.n) 0 90000&&ij B (.int w.col) 0 990)))
def lm(k:Nat):ξ:=tn [] [[],[39],[34]] k
def kr(k:Nat)(rt:Bool)(w:WL):WL:=⟨(w.T.app (.k (Bool.rec [32] [] w.ws++lm k))).app (SS.app [.var 6] (.k (lm k))),w.n.add (.k 5),(w.col.add (.k (.ofNat (Bool.rec 1 0 w.ws+2*(lm k).length)))).add (V 13),false,false,Bool.rec ff (Bool.rec w.oe tr rt) (k.beq 0)⟩
def Hv(as:List AV):Bool:=match as with|[w,.bool _]=>c7 w (.str [.var 6])|_=>false
def x8(B:Bd)(k:Nat):sL:=fun c x as=>gd (Hv as&&(UM B c x (tw c x)&&(iU (x 9)&&(c7 (x 21) (I 1000)&&c7 (x 19) .none)))) (some (.none,vQ c (kr k (rN (x 9)) (tw c x)).T (kr k (rN (x 9)) (tw c x)).n,Dp x (kr k (rN (x 9)) (tw c x))))
def GA(x:Nat→AV):Nat→AV:=(tO (tO (tO (tO x 22 [some (.str [.lit [10]])]) 13 [some (lI 2),some (lI 4),some (.any 45),some (.any 46)]) 7 [some (lI 6)]) 0 [some (.cell 3)])
def Ti(x:Nat→AV):Nat→AV:=(tO x 13 [some (lI 18),some (lI 6),some tr,some tr])
def Fk:sL:=fun c x as=>gd (bD as&&gI (bB c x) (bB (vQ c [.var 0] (V 0)) (GA x))) (some (.none,vQ c [.var 0,.var 7] ((V 0).add (.k 2)),Ti (GA x)))
def Bu(l:List (Addr×pC)):pC:=fun J f vs kw=>List.rec none (fun p _ ih=>Bool.rec ih (p.2 J f vs kw) (f.beq p.1)) l
def nr(B:Bd):pC:=Bu [(629,fun J _ vs kw=>nX B H0 J vs kw),(733,fun J _ vs kw=>nX B (x8 B 0) J vs kw),(695,fun J _ vs kw=>nX B (x8 B 1) J vs kw),(704,fun J _ vs kw=>nX B (x8 B 2) J vs kw),
 (665,fun J _ vs kw=>nX B Fk J vs kw)]
inductive Ps where
 |root (mk:Bool)
 |fq (b:Bool)
 |bq (b:Bool)
 |fm (s:Nat)
 |bm (s:Nat)
inductive Ab where
 |sc (w:Bool) (q:Nat) (an:Bool)
 |al (y:Bool)
 |st (m fl an ho:Bool)
 |en (m:Bool)
 |no (k:Nat)
def km(b:Bool):AV:=Bool.rec .none (.str [.lit [120]]) b
def ym(a:AV):AV:=.obj 197 [(dh,a),(b7,.none),(b9,.none)]
def ql(C:Addr):AV:=.obj C [(b7,.none),(b9,.none)]
def yo:AV:=.obj 133 [(b7,.none),(b9,.none),(mh,.none)]
def Bb(b:AV):AV:=.obj 165 [(b7,.none),(b9,.none),(nG,b),(sT,.none),(xj,.none)]
def BI(b:AV):AV:=.obj 185 [(b7,.none),(b9,.none),(nG,b)]
def pi(a w q:AV):AV:=.obj 217 [(dh,a),(hV,.none),(i8,.tup [tr,tr]),(uU,w),(b7,.none),(b9,.none),(gi,q)]
def N8(m:Bool)(a:AV)(fl:Bool):AV:=.obj (Bool.rec 229 253 m) [(dh,a),(hV,.none),(i8,tr),(b7,.none),(b9,.none),(lQ,.bool fl)]
def fw(q:Nat):AV:=tn .none [.none,.str [.lit [39]],.str [.lit [34]]] q
def kg(w:Bool):SS:=Bool.rec [] [.var 6] w
def d9(e:Ab):AV:=match e with
 |.sc w q an=>pi (km an) (.str (kg w)) (fw q)
 |.al y=>ym (.str [.lit [Bool.rec 120 121 y]])
 |.st m fl an _=>N8 m (km an) fl
 |.en m=>ql (Bool.rec 241 265 m)
 |.no k=>tn .none [yo,ql 145,Bb (.any 70),BI (.any 70),ym .none] k
def Ps.fn(p:Ps):Addr:=match p with
 |.root _=>395|.fq b=>Bool.rec 431 438 b|.bq b=>Bool.rec 487 495 b|.fm s=>tn 0 [452,459,466,473] s|.bm s=>tn 0 [509,517,524,531] s
noncomputable def Ps.flow(p:Ps):Bool:=match p with|.fq _=>true|.fm _=>true|_=>false
noncomputable def Ps.isRoot(p:Ps):Bool:=match p with|.root _=>true|_=>false
noncomputable def Ps.mp(p:Ps):Bool:=match p with|.fm _=>true|.bm _=>true|_=>false
def Ps.ws(p:Ps):AV:=match p with
 |.root mk=>.bool (Bool.rec true false mk)|.fq b=>.bool (Bool.rec true false b)|.bq _=>.any 45|.fm s=>.bool (s.beq 0)|.bm s=>Bool.rec (.any 45) ff (s.beq 2)
def Ps.ind(p:Ps):AV:=match p with
 |.root mk=>.bool (Bool.rec true false mk)|.fq _=>ff|.bq _=>.any 46|.fm _=>ff|.bm s=>Bool.rec (.any 46) ff (s.beq 2)
def Ps.col(p:Ps):AV:=match p with|.root mk=>I (Bool.rec 0 3 mk)|_=>lI 4
def Ps.indent(p:Ps):AV:=match p with|.root _=>.none|_=>lI 6
def Ps.lvl(p:Ps):aD:=Bool.rec (.k 0) (V 10) p.flow
def u9(r:Bool)(i:Nat)(xs:List AV):ak:=Bool.rec (.spl i xs) (.list xs) r
noncomputable def cL(f:Addr):AV:=.meth f (.cell 5)
def iQ(st ev indent:AV)(lv:aD)(line col ws ind oe:AV)(y:Nat→AV):Nat→AV:=(tO y 0 [some (.cell 3),some (.any 31),some (.cell 6),some st,some (.cell 7),some ev,some (.cell 8),some indent,some (.int lv),none,none,none,none,some line,some col,some ws,some ind,some oe,some .none,some .none,some (lI 8),some (I 1000),some (.str [.lit [10]]),none,some .none,some .none,some .none,some .none])
def jc(T:SS)(n:aD)(q ss is:ak):Nat→ak:=(tO ak.any 3 [some (.inst 771 [(ir,.cell 4)]),some (.rows T n),none,some ss,some q,some is])
noncomputable def HG:Nat→AV:=fun i=>.any (30+i)
def Ab.q(e:Ab):ak:=match e with|.st m _ _ h=>.hd 7 (Bool.rec 241 265 m) h|_=>.any 7
def Ps.fr(p:Ps):ξ:=match p with|.bq _=>[]|.bm s=>Bool.rec [] [45,46] (s.beq 2)|_=>[45,46]
def Ps.P(p:Ps)(e:Ab):St:=bB (jc [.var 0] (V 0) e.q (u9 p.isRoot 20 (Bool.rec [.any 60] [] p.isRoot)) (u9 p.isRoot 21 (Bool.rec [.any 61] [] p.isRoot))) (iQ (.any 33) (d9 e) p.indent p.lvl (lI 2) p.col p.ws p.ind ff HG)
noncomputable def βN:Bd:=[(0,60000),(0,40000),(0,60000),(0,0),(0,900),(0,0),(0,900),(0,0),(2,9),(0,0),(1,900),(0,0),(0,0),(1,3),(0,0),(0,1000),(0,0),(0,0),(0,60000)]
def zH(p:Ps)(e:Ab):κ (AV×St):=(aA βN (nr βN) 9).cf (p.P e) p.fn [.cell 5] []
noncomputable def Ab.m(e:Ab):Bool:=match e with|.st m _ _ _=>m|_=>false
noncomputable def bz(e:Ab):Bool:=match e with|.st _ _ _ _=>true|_=>false
noncomputable def Ab.simple(e:Ab):Bool:=match e with|.sc w _ _=>w|.al _=>true|.st _ _ _ h=>h|.en _=>false|.no k=>k.beq 4
def Ps.wi(p:Ps):Bool:=match p with|.bq _=>true|.bm s=>Bool.rec true false (s.beq 2)|_=>false
noncomputable def dy(c:Nat):SS:=[.lit [c]]
structure Ld where
 t:SS
 bl:Bool
 be:Bool
noncomputable def ei:SS:=[.var 7]
def Ps.lead(p:Ps)(ln:SS)(s:Bool):Ld:=match p with
 |.root mk=>⟨[],mk,Bool.rec true false mk⟩
 |.fq b=>⟨Bool.rec [] (dy 44) b,b,false⟩
 |.bq _=>⟨SS.app ln (dy 45),true,true⟩
 |.fm q=>Bool.rec (Bool.rec (Bool.rec ⟨[.lit [32,58]],true,false⟩ ⟨dy 58,true,false⟩ (q.beq 2)) (Bool.rec ⟨[.lit [44,32,63]],true,false⟩ ⟨dy 44,true,false⟩ s) (q.beq 1)) (Bool.rec ⟨dy 63,true,false⟩ ⟨[],false,false⟩ s) (q.beq 0)
 |.bm q=>Bool.rec (Bool.rec (Bool.rec ⟨SS.app ln (dy 63),true,true⟩ ⟨ln,false,false⟩ s) ⟨SS.app ln (dy 58),true,true⟩ (q.beq 3)) ⟨dy 58,true,false⟩ (q.beq 2)
def vA(an:Bool):List SS:=Bool.rec [] [[.lit [38,120]]] an
def sJ(w:Bool)(q:Nat)(fl:Bool):Nat:=Bool.rec q (Bool.rec (Bool.rec 0 1 fl) 0 w) (q.beq 0)
noncomputable def Ab.gr(e:Ab)(fl:Bool):Bool:=match e with|.st _ f _ h=>f ||(h ||fl)|_=>false
def Ab.parts(e:Ab)(fl:Bool):List SS:=match e with
 |.sc w q an=>vA an++Bool.rec [] [SS.app (.k (lm (sJ w q fl))) (SS.app (kg w) (.k (lm (sJ w q fl))))] (w ||!Nat.beq (sJ w q fl) 0)
 |.al y=>[[.lit [42,Bool.rec 120 121 y]]]
 |.st m _ an _=>vA an++Bool.rec [] [dy (Bool.rec 91 123 m)] (e.gr fl)
 |_=>[]
def uR(l:List SS):SS:=List.rec [] (fun a r ih=>Bool.rec (SS.app a (SS.app (dy 32) ih)) a (bD r)) l
def dR(p:Ps)(ln:SS)(e:Ab):SS:=SS.app (p.lead ln e.simple).t (SS.app (Bool.rec [] (dy 32) ((p.lead ln e.simple).bl&&!bD (e.parts p.flow))) (uR (e.parts p.flow)))
def Ps.nx(p:Ps)(s:Bool):Ps:=match p with
 |.root b=>.root b
 |.fq _=>.fq true
 |.bq _=>.bq true
 |.fm q=>.fm (Bool.rec 1 (Bool.rec 3 2 s) (q.ble 1))
 |.bm q=>.bm (Bool.rec 1 (Bool.rec 3 2 s) (q.ble 1))
def Ps.fol(p:Ps)(s:Bool):Addr:=Bool.rec (p.nx s).fn 388 p.isRoot
def tB(m fl:Bool):Addr:=Bool.rec (Bool.rec 487 509 m) (Bool.rec 431 452 m) fl
def qX(m fl:Bool):Ps:=Bool.rec (Bool.rec (.bq false) (.bm 0) m) (Bool.rec (.fq false) (.fm 0) m) fl
noncomputable def uH(p:Ps)(e:Ab):Bool:=match e with|.en m=>(match p with|.fq _=>!m|.bq b=>b&&!m|.fm s=>m&&s.ble 1|.bm s=>m&&s.beq 1|_=>false)|_=>false
noncomputable def eo(e:Ab):Bool:=match e with|.en _=>false|.no _=>false|_=>true
def kS(p:Ps)(i j:Nat)(xs:List AV):ak:=Bool.rec (.spl i (.any j::xs)) (.list xs) p.isRoot
def Ps.beh(p:Ps)(e:Ab):Bool:=(p.lead [] e.simple).be&&bD (e.parts p.flow)
def newI(p:Ps)(e:Ab)(m:Bool):AV:=Bool.rec (Bool.rec (.int ((V 6).add (V 8))) (lI 6) (p.mp&&(!m&&!p.beh e))) (I 0) p.isRoot
def qr(p:Ps):AV:=Bool.rec (lI 2) (lI 18) p.wi
def oI(p:Ps)(e:Ab):AV:=match e with|.sc w q _=>.bool (p.isRoot&&Nat.beq (sJ w q p.flow) 0)|_=>ff
def Jz(p:Ps)(e:Ab)(n:aD)(col ws ind:AV)(y:Nat→AV):St:=match e with
 |.en _=>bB (jc (SS.app [.var 0] (Bool.rec [] (dy (Bool.rec 93 125 p.mp)) p.flow)) n e.q (.spl 20 []) (.spl 21 [])) (iQ (.any 60) (d9 e) (.any 61) (Bool.rec (.k 0) ((V 10).add (.k (-1))) p.flow) (lI 2) col ws ind ff y)
 |.st m _ _ _=>bB (jc (SS.app [.var 0] (dR p ei e)) n e.q (kS p 20 60 [cL (p.fol e.simple)]) (kS p 21 61 [p.indent]))
  (iQ (cL (tB m (e.gr p.flow))) (d9 e) (Bool.rec (newI p e m) (Bool.rec (.int ((V 6).add (V 8))) (lI 8) p.isRoot) (e.gr p.flow)) (Bool.rec (.k 0) (p.lvl.add (.k 1)) (e.gr p.flow)) (qr p) col ws ind ff y)
 |_=>bB (jc (SS.app [.var 0] (dR p ei e)) n e.q (kS p 20 60 []) (kS p 21 61 [])) (iQ (cL (p.fol e.simple)) (d9 e) p.indent p.lvl (qr p) col ws ind (oI p e) y)
def cK(J:St)(i:Nat):AV:=match ao J 5 with|some (.inst _ fs)=>(match ao fs i with|some p=>p.2|none=>.none)|_=>.none
def fc(J:St):aD:=match ao J 4 with|some (.rows _ n)=>n|_=>.k 0
def gG(v:AV):Bool:=c7 v ff
def tZ(p:Ps)(base:aD)(col:aD)(ws ind:AV):Bool:=match p with
 |.root _=>gG ind ||ij βN (.int (col.sub (.k 1))) 0 1000
 |.fq b=>c7 ws (.bool (Bool.rec true false b))&&gG ind
 |.fm s=>c7 ws (.bool (s.beq 0))&&gG ind
 |.bq _=>gG ind ||ij βN (.int ((col.sub base).sub (.k 1))) 0 1000
 |.bm s=>Bool.rec (gG ind ||ij βN (.int ((col.sub base).sub (.k 1))) 0 1000) (gG ws&&gG ind) (s.beq 2)
def s9(p:Ps)(e:Ab):aD:=match e with|.en _=>iB p.col|_=>Bool.rec (iB p.col) (V 6) p.wi
def vX(p:Ps)(e:Ab)(col:aD)(ws ind:AV):Bool:=Bool.rec (gG ind) (Bool.rec (gG ws&&(c7 ind tr&&kZ col ((V 6).add (.k 1)))) (c7 ws tr&&(c7 ind tr&&kZ col (.k 0))) p.isRoot) (p.beh e)
def yK(p:Ps)(e:Ab)(col:aD)(ws ind:AV):Bool:=match e with
 |.en _=>Bool.rec (c7 ws (.any 45)&&(c7 ind (.any 46)&&kZ col (V 4))) (gG ws&&gG ind) p.flow
 |.st m _ _ _=>Bool.rec (vX p e col ws ind) (tZ (qX m true) (.k 0) col ws ind) (e.gr p.flow)
 |_=>tZ (p.nx e.simple) (V 6) col ws ind
noncomputable def nb(i:Nat)(v:AV):AV:=match v with|.bool b=>.bool b|_=>.any i
def io(J:St):aD:=iB (cK J 14)
def jF(J:St):AV:=nb 45 (cK J 15)
def jG(J:St):AV:=nb 46 (cK J 16)
def lS(p:Ps)(e:Ab)(J:St):St:=Jz p e (fc J) (.int (io J)) (jF J) (jG J) (cK J)
def As(fr:ξ)(P:St):Bool:=dB 45 (fr++eM (bt [.cell 5]++fG P))&&dB 46 (fr++eM (bt [.cell 5]++fG P))
def Tj.ok(p:Ps)(e:Ab)(r:AV)(J:St):Bool:=(c7 r .none&&As p.fr (p.P e))&&(gI J (lS p e J)&&((mO p.fr βN (bt [.cell 5]) (p.P e)&&kA p.fr (bt [.cell 5]) (p.P e) (lv .none) (lS p e J)) &&
 (ij βN (.int ((fc J).sub (V 0))) 0 20&&(ij βN (.int ((io J).sub (s9 p e))) 0 12&&yK p e (io J) (jF J) (jG J)))))
def Tj.chk(p:Ps)(e:Ab):Bool:=match zH p e with
 |some (r,J)=>Tj.ok p e r J
 |none=>false
noncomputable def tf:List Bool:=[true,false]
noncomputable def dA:List Ps:=[.root true,.root false,.fq false,.fq true,.bq false,.bq true,.fm 0,.fm 1,.fm 2,.fm 3,.bm 0,.bm 1,.bm 2,.bm 3]
def oZ:List Ab:=(tf.flatMap fun w=>[0,1,2].flatMap fun q=>tf.map fun an=>Ab.sc w q an)++(tf.map Ab.al++tf.flatMap fun m=>tf.flatMap fun fl=>tf.flatMap fun an=>tf.map fun ho=>Ab.st m fl an ho)
def MS:List Ab:=tf.map Ab.en
def Bk(fr:ξ)(P:St)(f:Addr):κ St:=(ie.mk βN (nr βN) 9 fr P f [.cell 5] []).run
def lJ(T:SS)(J:St):St:=bB (tO (gU J) 3 [some (.inst 771 [(ir,.cell 4)]),some (.rows T (fc J))]) (tO (cK J) 0 [some (.cell 3)])
def yU(fr:ξ)(P:St)(T:SS)(o:κ St):Bool:=match o with
 |some J=>gI J (lJ T J)&&(mO fr βN (bt [.cell 5]) P&&kA fr (bt [.cell 5]) P [] (lJ T J))
 |none=>false
def Xj.chk(p:Ps)(e:Ab):Bool:=As p.fr (p.P e)&&yU p.fr (p.P e) (SS.app [.var 0] (p.lead ei e.simple).t) (Bk p.fr (p.P e) p.fn)
inductive Pd where
 |d0
 |d1 (f oe:Bool)
 |d3 (v oe:Bool)
 |d4
inductive Ad where
 |ss
 |se
 |ds (f:Bool) (k:Nat)
 |de (f:Bool)
 |ot (C:Addr)
def Sr(C:Addr):List Str:=tn [] [[b7,b9,mh],[b7,b9],[b7,b9,nG,sT,xj],[b7,b9,nG],[dh,b7,b9],[dh,hV,i8,uU,b7,b9,gi],[dh,hV,i8,b7,b9,lQ],[b7,b9],[dh,hV,i8,b7,b9,lQ],[b7,b9]] (ey mQ C)
noncomputable def Gh:List Str→Nat→List (Str×AV)
 |[],_=>[]
 |x::r,i=>(x,.any i)::Gh r (i+1)
def js(e:Ad):AV:=match e with
 |.ss=>yo|.se=>ql 145|.ds f _=>Bb (.bool f)|.de f=>BI (.bool f)|.ot C=>.obj C (Gh (Sr C) 70)
def Pd.fn(p:Pd):Addr:=match p with|.d0=>359|.d1 f _=>Bool.rec 381 373 f|.d3 _ _=>388|.d4=>366
def Pd.col(p:Pd):AV:=match p with|.d3 v _=>Bool.rec (.int ((V 4).add (.k 1))) (lI 4) v|.d4=>lI 4|_=>I 0
def Pd.ws(p:Pd):AV:=match p with|.d3 _ _=>.any 45|.d4=>.any 45|_=>tr
def Pd.ind(p:Pd):AV:=match p with|.d3 v _=>Bool.rec tr ff v|.d4=>.any 46|_=>tr
def Pd.oe(p:Pd):AV:=match p with|.d1 _ o=>.bool o|.d3 _ o=>.bool o|_=>ff
noncomputable def u7(i n:Nat):List AV:=Nat.rec (motive:=fun _=>Nat→List AV) (fun _=>[]) (fun _ ih i=>.any i::ih (i+1)) n i
structure Sn where
 w:Bool
 an:Bool
 m:Nat
noncomputable def TC:List Sn:=[true,false].flatMap fun w=>[true,false].flatMap fun an=>[0,1,2].map fun m=>⟨w,an,m⟩
def jm(k:Nat):Sn:=tn ⟨true,true,0⟩ TC (k-2)
def Ad.q(e:Ad):ak:=match e with
 |.ds _ k=>Bool.rec (Bool.rec (.list (pi (km (jm k).an) (.str (kg (jm k).w)) (.any 80)::u7 81 (jm k).m)) (.hd 7 217 false) (k.beq 1)) (.any 7) (k.beq 0)
 |_=>.any 7
def Ad.emp(e:Ad):Bool:=match e with|.ds _ k=>Nat.ble 2 k&&(!(jm k).w&&!(jm k).an)|_=>false
def Pd.P(p:Pd)(e:Ad):St:=bB (jc [.var 0] (V 0) e.q (.list []) (.list [])) (iQ (.any 33) (js e) .none (.k 0) (lI 2) p.col p.ws p.ind p.oe HG)
def yN(p:Pd)(e:Ad):κ (AV×St):=(aA βN aq 9).cf (p.P e) p.fn [.cell 5] []
noncomputable def Pd.oe?(p:Pd):Bool:=match p with|.d1 _ o=>o|.d3 _ o=>o|_=>false
def dO(p:Pd)(e:Ad):Bool:=match p with|.d1 f _=>(match e with|.ds g _=>g ||(Bool.rec true false f ||e.emp)|_=>false)|_=>false
def eI(p:Pd)(e:Ad):SS:=match e with
 |.ss=>[]|.se=>Bool.rec [] [.lit [46,46,46,10]] p.oe?|.ds _ _=>Bool.rec [] [.lit [45,45,45]] (dO p e)|.de f=>Bool.rec (dy 10) [.lit [10,46,46,46,10]] f|.ot _=>[]
def oP(p:Pd)(e:Ad)(n line:aD)(y:Nat→AV):St:=match e with
 |.ss=>bB (jc (SS.app [.var 0] (eI p e)) n e.q (.list []) (.list [])) (iQ (cL 373) (js e) .none (.k 0) (.int line) (I 0) tr tr ff y)
 |.se=>bB (jc (SS.app [.var 0] (eI p e)) n e.q (.list []) (.list [])) (iQ (cL 366) (js e) .none (.k 0) (.int line) (I 0) tr tr ff y)
 |.ds _ _=>bB (jc (SS.app [.var 0] (eI p e)) n e.q (.list []) (.list [])) (iQ (cL 395) (js e) .none (.k 0) (.int line) (Ps.root (dO p e)).col (Ps.root (dO p e)).ws (Ps.root (dO p e)).ind ff y)
 |_=>bB (jc (SS.app [.var 0] (eI p e)) n e.q (.list []) (.list [])) (iQ (cL 381) (js e) .none (.k 0) (.int line) (I 0) tr tr (Bool.rec p.oe ff (match e with|.de f=>f|_=>false)) y)
def Dj.chk(p:Pd)(e:Ad):Bool:=match yN p e with
 |some (r,J)=>c7 r .none&&(gI J (oP p e (fc J) (iB (cK J 13)) (cK J))&&((mO [] βN (bt [.cell 5]) (p.P e)&&kA [] (bt [.cell 5]) (p.P e) (lv .none) (oP p e (fc J) (iB (cK J 13)) (cK J))) &&
  (ij βN (.int ((fc J).sub (V 0))) 0 20&&ij βN (.int ((iB (cK J 13)).sub (V 2))) 0 20)))
 |none=>false
def Xd.chk(p:Pd)(C:Addr):Bool:=yU [] (p.P (.ot C)) [.var 0] ((ie.mk βN aq 9 [] (p.P (.ot C)) p.fn [.cell 5] []).run)
def JK:List (Ps×Ab):=dA.flatMap fun p=>(([0,1,2,3,4].map Ab.no)++[.en false,.en true].filter fun e=>!uH p e&&!(match p with|.bq b=>!b&&(match e with|.en m=>!m|_=>false)|.bm 0=>(match e with|.en m=>m|_=>false)|_=>false)).map fun e=>(p,e)
def sz:List (Pd×Ad):=[(.d0,.ss)]++([(true,false),(false,false),(false,true)].flatMap fun q=>[(.d1 q.1 q.2,.se)]++(.d1 q.1 q.2,.ds true 0)::(Bool.rec [0] ((List.range 13).map (·+1)) q.1:ξ).map fun k=>(.d1 q.1 q.2,.ds false k))++(tf.flatMap fun v=>tf.flatMap fun o=>tf.map fun f=>(.d3 v o,.de f))
noncomputable def okC(p:Pd):List Addr:=match p with|.d0=>[133]|.d1 _ _=>[145,165]|.d3 _ _=>[185]|.d4=>[]
def tF:List (Pd×Addr):=[Pd.d0,.d1 true false,.d1 false false,.d1 false true,.d3 true true,.d3 true false,.d3 false true,.d3 false false,.d4].flatMap fun p=>(mQ.filter fun C=>!dB C (okC p)).map fun C=>(p,C)
noncomputable def lT(p:Ps)(e:Ab):Bool:=match p with|.root false=>(match e with|.sc false 0 false=>true|_=>false)|_=>false
def iE(p:Ps):List Ab:=(oZ.filter fun e=>!lT p e)++MS.filter (uH p)
def G7{Q:Ps→Prop}(h:∀ b,Q (.root b)∧Q (.fq b)∧Q (.bq b))(h2:∀ s∈[0,1,2,3],Q (.fm s)∧Q (.bm s)):∀ p∈dA,Q p :=
 have a:=h true;have b:=h false;have c0:=h2 0 (.head _);have c1:=h2 1 (.tail _ (.head _));have c2:=h2 2 (.tail _ (.tail _ (.head _)));have c3:=h2 3 (.tail _ (.tail _ (.tail _ (.head _))))
 da a.1 (da b.1 (da b.2.1 (da a.2.1 (da b.2.2 (da a.2.2 (da c0.1 (da c1.1 (da c2.1 (da c3.1 (da c0.2 (da c1.2 (da c2.2 (da c3.2 et)))))))))))))
noncomputable def gW:List ξ:=[[97],[100,32,101],[55,98],[99]]
noncomputable def uo:List Bool:=[true,false]
noncomputable def aY:Nat→AV:=fun i=>.any (30+i)
def uz{α:Type}{o:Nat→α}{i:Nat}{a:α}(h:o i=a):tO o i [some a]=o:=by
 funext k
 rcases Nat.lt_trichotomy k i with q|q|q
 ·exact QI q
 ·subst q
  unfold tO;rw[show k.ble k=true from Wn (Wm k),XT];exact h.symm
 ·exact Sd q
def DU(w:ξ):fM where
 B:=[]
 sp:=aq
 d:=5
 fr:=[]
 P:=bB .any aY
 f:=629
 vs:=[.cell 5,.str (.k w)]
 r:=oQ (.str (.k w)) false true true
 Q:=bB .any aY
def VP:(gW.all fun w=>(DU w).chk)=true:=by kernel_rfl
def lP(c:Nat→ak)(x:Nat→AV)(T:ξ)(n col:Int)(ws ind oe:AV):St:=bB (tO c 3 [some (.inst 771 [(ir,.cell 4)]),some (.rows (.k T) (.k n))]) (tO (tO x 14 [some (I col),some ws,some ind,some oe]) 0 [some (.cell 3)])
noncomputable def βW:Bd:=[(0,90000),(0,50000),(0,0),(0,0),(0,990)]
def uN(rt:Bool)(T:SS)(n col:aD)(ws ind:Bool)(oe:AV):St:=bB (tO .any 3 [some (.inst 771 [(ir,.cell 4)]),some (.rows T n)])
 (tO (tO (tO (tO (tO aY 21 [some (I 1000)]) 19 [some .none]) 9 [some (.bool rt)]) 14 [some (.int col),some (.bool ws),some (.bool ind),some oe]) 0 [some (.cell 3)])
def xG(k:Nat):Addr:=tn 0 [733,695,704] k
def jK(k:Nat)(ws:Bool)(w:ξ):ξ:=Bool.rec [32] [] ws++lm k++w++lm k
def qp(k:Nat)(rt:Bool)(oe:AV):AV:=Bool.rec ff (Bool.rec oe tr rt) (k.beq 0)
def xm(k:Nat)(w:ξ)(ws ind rt:Bool)(m:Nat):fM where
 B:=βW
 sp:=aq
 d:=5
 fr:=[]
 P:=uN rt [.var 0] (V 0) (V 4) ws ind (.any 47)
 f:=xG k
 vs:=[.cell 5,.str (.k w),.any 5]
 r:=.none
 Q:=uN rt (SS.app [.var 0] (.k (jK k ws w))) ((V 0).add (.k (.ofNat m))) ((V 4).add (.k (.ofNat (jK k ws w).length))) false false (qp k rt (.any 47))
def mT(k:Nat)(w:ξ)(ws:Bool):Nat:=tn 0 [Bool.rec 1 0 ws,2,2] k+Bool.rec 1 (Bool.rec 3 1 (k.beq 2)) (w.length.beq 3)
def KZ:([0,1,2].all fun k=>gW.all fun w=>uo.all fun ws=>uo.all fun ind=>uo.all fun rt=>(xm k w ws ind rt (mT k w ws)).chk)=true:=by kernel_rfl
noncomputable def βI:Bd:=[(0,90000),(0,50000),(0,90000),(0,0),(0,990),(0,0),(1,990),(0,0),(0,0),(0,0),(0,990)]
def tR(T:SS)(n line col i:aD)(ws ind:AV):St:=bB (tO .any 3 [some (.inst 771 [(ir,.cell 4)]),some (.rows T n)])
 (tO (tO (tO (tO aY 22 [some (.str [.lit [10]])]) 13 [some (.int line),some (.int col),some ws,some ind]) 7 [some (.int i)]) 0 [some (.cell 3)])
def jz(col i:aD)(ws ind:AV)(o:SS)(m br:Int):fM where
 B:=βI
 sp:=aq
 d:=5
 fr:=[]
 P:=tR [.var 0] (V 0) (V 2) col i ws ind
 f:=665
 vs:=[.cell 5]
 r:=.none
 Q:=tR (SS.app [.var 0] o) ((V 0).add (.k m)) ((V 2).add (.k br)) i i tr tr
def MW:fM:=jz (V 4) (.k 0) (.any 45) ff [.lit [10]] 1 1
def Mi:fM:=jz (V 4) (V 6) (.any 45) ff [.lit [10],.rep 32 (V 6)] 2 1
def PR:fM:=jz ((V 4).add (.k 1)) (.k 0) (.any 45) tr [.lit [10]] 1 1
def Pz:fM:=jz (((V 6).add (V 4)).add (.k 1)) (V 6) (.any 45) tr [.lit [10],.rep 32 (V 6)] 2 1
def JY:fM:=jz (.k 0) (.k 0) ff tr [.lit [10]] 1 1
def K8:fM:=jz (V 6) (V 6) ff tr [.lit [10],.rep 32 (V 6)] 2 1
def Qy:fM:=jz (.k 0) (.k 0) tr tr [] 0 0
def JV:fM:=jz (V 6) (V 6) tr tr [] 0 0
def S4:fM:=jz (V 4) ((V 4).add (V 6)) (.any 45) tr [.rep 32 (V 6)] 1 0
def Pm:MW.chk=true:=by kernel_rfl
def Nv:Mi.chk=true:=by kernel_rfl
def On:PR.chk=true:=by kernel_rfl
def QB:Pz.chk=true:=by kernel_rfl
def Lz:JY.chk=true:=by kernel_rfl
def QQ:K8.chk=true:=by kernel_rfl
def Pa:Qy.chk=true:=by kernel_rfl
def OX:JV.chk=true:=by kernel_rfl
def TS:S4.chk=true:=by kernel_rfl
def gS(P:Params)(i:Nat→Int)(t:Nat→ξ):Ev:=⟨fun k=>Bool.rec (i (k / 2)) ((t (k / 2)).length:Int) (Nat.beq (k % 2) 1),t,P,fun U=>.none,fun U=>.list 0 [] 0⟩
def fR(P:Params)(i:Nat→Int)(t:Nat→ξ):(gS P i t).Ok:=fun k=>by
 show (Bool.rec (i ((2*k+1) / 2)) ((t ((2*k+1) / 2)).length:Int) (Nat.beq ((2*k+1) % 2) 1):Int)=_;rw[Nat.mul_add_div (nleT rfl) k 1,Nat.mul_add_mod 2 k 1];rfl
noncomputable def y6(f:Nat→Int):Nat→Bd→Prop
 |_,[]=>True
 |i,p::r=>(p.1≤f i∧f i≤p.2)∧y6 f (i+1) r
def FC:∀ {B:Bd} {i:Nat},y6 f i B→∀ v p,rp B v=some p→p.1≤f (i+v)∧f (i+v)≤p.2
 |[],_,_,_,_,h=>by injection h
 |q::r,i,g,0,p,h=>by (apply r1 h;clear h);exact g.1
 |q::r,i,g,v+1,p,h=>by
  have:=FC g.2 v p h;rw[show i+(v+1)=i+1+v by lia];exact this
def qi{Z:Ev}(h:y6 Z.iv 0 B):aU B Z:=fun v p hp=>by have:=FC h v p hp;rwa [XS] at this
def Dz.cast(h:Dz M n t ls J f l1 s1)(e1:ls=ls')(e2:J=J')(e3:f=f')(e4:l1=l1')(e5:s1=s1'):Dz M n t ls' J' f' l1' s1':=by
 subst e1;subst e2;subst e3;subst e4;subst e5;exact h
def Rz.cast(h:Rz M n J f vs r s1)(e1:J=J')(e2:vs=vs')(e3:r=r')(e5:s1=s1'):Rz M n J' f vs' r' s1':=by
 subst e1;subst e2;subst e3;subst e5;exact h
def co(Z:Ev)(i:Nat):(V i).val Z=Z.iv i:=by show 0+(1*Z.iv i+0)=_;lia
def vW(x h:Nat→AV):Nat→AV:=fun i=>Bool.rec (h i) (x (i-30)) (Nat.ble 30 i)
def rK(x h:Nat→AV)(i:Nat):vW x h (30+i)=x i:=by
 unfold vW;rw[show Nat.ble 30 (30+i)=true from Wn (by lia),show 30+i-30=i by lia]
def CR.rowsLe{n n':aD}(h:n.val M.Z≤n'.val M.Z)(g:CR M imm ρ c (.rows T n)):CR M imm ρ c (.rows T n'):=by
 apply cj g.rows_inv;intro a vs m e1 e2 e3 e4;rw[e1];exact .rows e2 e3 (W3 e4 h)
def Rz.rowsLe{n n':aD}(h:n.val M.Z≤n'.val M.Z)(H:Rz M k J f vs r (a::b::d::e::.rows T n::q)):Rz M k J f vs r (a::b::d::e::.rows T n'::q):=⟨by
 intro c0 A s m ls imm cs vals kwv Rq C R hv hk hk2 k;refine H.h C R hv hk hk2 fun h' tk imm' cs' val R' x' hx=>k h' tk imm' cs' val ⟨R'.F,R'.N,R'.nd,?_,R'.l⟩ x' hx;apply dj (R'.C.at (k:=4) rfl);intro u pre post e1 e2 e3;have g:=R'.C;rw[e1] at g e3 ⊢;have g2:=g.set (CR.rowsLe h e3);rw[e2] at g2;exact g2⟩
section
def Nr(hv:v∈gW):fnIn M.K 629=true∧Rz M 205 (bB c x) 629 [.cell 5,.str (.k v)] (oQ (.str (.k v)) false true true) (bB c x):=by
 have R:=rd (v:=vW x fun U=>.none) (z:=c) (b:=0) rfl M.he (DU v) (fun U U q=>by injection q) (fun U U U=>lX) rfl (re rfl) (aV VP v hv);refine⟨R.1,?_⟩;have R2:=R.2.cast (J':=bB c x) (vs':=[.cell 5,.str (.k v)]) (r':=oQ (.str (.k v)) false true true) (s1':=bB c x) ?_ ?_ ?_ ?_
 ·exact⟨bV.le (by show 10*5+0+25≤205;decide) R2.h⟩
 ·rfl
 ·show [AV.cell 5,.str (.k (SS.val M.Z (.k v)))]=_;rw[fT]
 ·show oQ (.str (.k (SS.val M.Z (.k v)))) false true true=_;rw[fT]
 ·rfl
def zX(P:Params)(T:ξ)(n col:Int):Ev:=gS P (tn 0 [n,0,col]) (tn [] [T])
def UB(hk:k∈[0,1,2])(hv:v∈gW)(ws:Bool):mT k v ws≤5:=by
 have:([0,1,2].all fun k=>gW.all fun v=>uo.all fun ws=>Nat.ble (mT k v ws) 5)=true:=by decide +kernel
 exact nleT (aV (aV (aV this k hk) v hv) ws (by cases ws<;>decide))
def Cs:bE (am Z (vW (tO x 17 [some o]) h) c) (uN rt T n col ws ind oe) =
 lP c (tO (tO (tO x 21 [some (I 1000)]) 19 [some .none]) 9 [some (.bool rt)]) (T.val Z) (n.val Z) (col.val Z) (.bool ws) (.bool ind) (flA (am Z (vW (tO x 17 [some o]) h) c) oe):=rfl
def Jn(hk:k∈[0,1,2])(hv:v∈gW){T:ξ}(e9:x 9=.bool rt)(e19:x 19=.none)(e21:x 21=I 1000)(hn:0≤n∧n≤90000)(hT:T.length≤50000)(hc:0≤col∧col≤990) :
  fnIn M.K (xG k)=true∧Rz M 205 (lP c x T n col (.bool ws) (.bool ind) oe) (xG k) [.cell 5,.str (.k v),s] .none (lP c x (T++jK k ws v) (n+5) (col+(jK k ws v).length) ff ff (qp k rt oe)):=by
 have tf:∀ b:Bool,b∈uo:=fun b=>by cases b<;>decide
 have q:∀ T n col ws ind oe,lP c (tO (tO (tO x 21 [some (I 1000)]) 19 [some .none]) 9 [some (.bool rt)]) T n col ws ind oe=lP c x T n col ws ind oe:=fun _ _ _ _ _ _=>by rw[uz e21,uz e19,uz e9]
 have eT:SS.val (zX M.Z.P T n col) [.var 0]=T:=aX T;have R:=rd (v:=vW (tO x 17 [some oe]) fun U=>s) (z:=c) (b:=0) (Z:=zX M.Z.P T n col) rfl (fR _ _ _) (xm k v ws ind rt (mT k v ws)) (qi ⟨hn,⟨cT _,bw hT⟩,⟨bO 0,bO 0⟩,⟨bO 0,bO 0⟩,hc,trivial⟩) (fun U U U=>lX) rfl (re rfl) (aV (aV (aV (aV (aV KZ k hk) v hv) ws (tf ws)) ind (tf ind)) rt (tf rt));refine⟨R.1,?_⟩;have R2:=R.2.cast (J':=lP c x T n col (.bool ws) (.bool ind) oe) (vs':=[.cell 5,.str (.k v),s]) (r':=.none) (s1':=lP c x (T++jK k ws v) (n+mT k v ws) (col+(jK k ws v).length) ff ff (qp k rt oe)) ?_ ?_ ?_ ?_
 ·refine Rz.rowsLe ?_ ⟨bV.le (by show 10*5+0+25≤205;decide) R2.h⟩
  rw[bH,bH];exact Int.add_le_add_left (bw (UB hk hv ws)) _
 ·rw[show (xm k v ws ind rt (mT k v ws)).P=uN rt [.var 0] (V 0) (V 4) ws ind (.any 47) from rfl,Cs,eT,co,co,q];rfl
 ·show [AV.cell 5,.str (.k (SS.val (zX M.Z.P T n col) (.k v))),_]=_;rw[fT];rfl
 ·rfl
 ·rw[show (xm k v ws ind rt (mT k v ws)).Q=uN rt (SS.app [.var 0] (.k (jK k ws v))) ((V 0).add (.k (.ofNat (mT k v ws)))) ((V 4).add (.k (.ofNat (jK k ws v).length))) false false (qp k rt (.any 47)) from rfl,Cs,cE,eT,fT,du,du,co,co,bH,bH,q]
  cases e:Nat.beq k 0<;>cases rt<;>(unfold qp;rw[e];rfl)
end
def je(c:Nat→ak)(x:Nat→AV)(T:ξ)(n line col:Int)(ws ind:AV):St:=bB (tO c 3 [some (.inst 771 [(ir,.cell 4)]),some (.rows (.k T) (.k n))]) (tO (tO x 13 [some (I line),some (I col),some ws,some ind]) 0 [some (.cell 3)])
noncomputable def eF(k:Int):ξ:=List.replicate k.toNat 32
noncomputable def brk(ind ws:Bool)(col i:Int):Bool:=!ind ||(decide (i<col) ||(decide (col=i)&&!ws))
def fY(ind ws:Bool)(col i:Int):ξ:=Bool.rec (eF (i-col)) (10::eF i) (brk ind ws col i)
section
def lg(P:Params)(T:ξ)(n line a b:Int):Ev:=gS P (tn 0 [n,line,a,b]) (tn [] [T])
def Ht:bE (am Z (vW (tO x 15 [some o]) h) c) (tR T n line col i ws ind) =
 je c (tO (tO x 22 [some (.str (.k [10]))]) 7 [some (I (i.val Z))]) (T.val Z) (n.val Z) (line.val Z) (col.val Z) (flA (am Z (vW (tO x 15 [some o]) h) c) ws) (flA (am Z (vW (tO x 15 [some o]) h) c) ind):=rfl
def lO(hj:(jz colL iL wsA indA o m br).chk=true)(hm:m≤2){T:ξ}(e7:x 7=I i)(e22:x 22=.str (.k [10]))
  (hn:0≤n∧n≤90000) (hT:T.length≤50000) (hl:0≤line∧line≤90000) (ha:0≤a∧a≤990) (hb:1≤b∧b≤990) (hc:colL.val (lg M.Z.P T n line a b)=col) (hi:iL.val (lg M.Z.P T n line a b)=i)
  (hws:flA (am (lg M.Z.P T n line a b) (vW (tO x 15 [some (.bool ws)]) fun U=>.none) c) wsA=.bool ws) (hind:flA (am (lg M.Z.P T n line a b) (vW (tO x 15 [some (.bool ws)]) fun U=>.none) c) indA=.bool ind) (ho:o.val (lg M.Z.P T n line a b)=t) :
  fnIn M.K 665=true∧Rz M 205 (je c x T n line col (.bool ws) (.bool ind)) 665 [.cell 5] .none (je c x (T++t) (n+2) (line+br) i tr tr):=by
 have q:∀ T n line col ws ind,je c (tO (tO x 22 [some (.str (.k [10]))]) 7 [some (I i)]) T n line col ws ind=je c x T n line col ws ind:=fun _ _ _ _ _ _=>by rw[uz e22,uz e7]
 have eT:SS.val (lg M.Z.P T n line a b) [.var 0]=T:=aX T;have R:=rd (v:=vW (tO x 15 [some (.bool ws)]) fun U=>.none) (z:=c) (b:=0) (Z:=lg M.Z.P T n line a b) rfl (fR _ _ _) (jz colL iL wsA indA o m br) (qi ⟨hn,⟨cT _,bw hT⟩,hl,⟨bO 0,bO 0⟩,ha,⟨bO 0,bO 0⟩,hb,⟨bO 0,bO 0⟩,⟨bO 0,bO 0⟩,⟨bO 0,bO 0⟩,⟨bO 0,by show (0)≤990;decide⟩,trivial⟩) (fun U U U=>lX) rfl (re rfl) hj;refine⟨R.1,?_⟩;have R2:=R.2.cast (J':=je c x T n line col (.bool ws) (.bool ind)) (vs':=[.cell 5]) (r':=.none) (s1':=je c x (T++t) (n+m) (line+br) i tr tr) ?_ ?_ ?_ ?_
 ·refine Rz.rowsLe ?_ ⟨bV.le (by show 10*5+0+25≤205;decide) R2.h⟩
  rw[bH,bH];exact Int.add_le_add_left hm _
 ·rw[show (jz colL iL wsA indA o m br).P=tR [.var 0] (V 0) (V 2) colL iL wsA indA from rfl,Ht,hws,hind,eT,co,co,hc,hi,q];rfl
 ·rfl
 ·rfl
 ·rw[show (jz colL iL wsA indA o m br).Q=tR (SS.app [.var 0] o) ((V 0).add (.k m)) ((V 2).add (.k br)) iL iL tr tr from rfl,Ht,cE,eT,ho,du,du,co,co,bH,bH,hi,q];rfl
def yf(Z:Ev)(i:aD):SS.val Z [.rep 32 i]=eF (i.val Z):=aX _
def M7{T:ξ}(e7:x 7=I i)(e22:x 22=.str (.k [10]))(hn:0≤n∧n≤90000)(hT:T.length≤50000)(hl:0≤line∧line≤90000)(hc:0≤col∧col≤900)(hi:0≤i∧i≤900) :
  fnIn M.K 665=true∧Rz M 205 (je c x T n line col (.bool ws) (.bool ind)) 665 [.cell 5] .none (je c x (T++fY ind ws col i) (n+2) (line+Bool.rec 0 1 (brk ind ws col i)) i tr tr):=by
 have v0:∀ {P T n line a b},(V 4).val (lg P T n line a b)=a:=fun {_ _ _ _ _ _}=>co _ _;have v1:∀ {P T n line a b},(V 6).val (lg P T n line a b)=b:=fun {_ _ _ _ _ _}=>co _ _;have nl:=fun {P T n line a b}=>congrArg (List.cons 10) ((yf (lg P T n line a b) (V 6)).trans (by rw[v1]));have one:(1:Int)≤1∧(1:Int)≤990:=by decide
 have zer:(0:Int)≤0∧(0:Int)≤990:=by decide
 have pos:¬i=0→1≤i∧i≤990:=fun h=>⟨Int.lt_iff_le_and_ne.mpr ⟨hi.1,Ne.symm h⟩,W3 hi.2 (by decide)⟩;cases ind with
 |false=>
  have hb:brk false ws col i=true:=rfl;rw[hb]
  by_cases h0:i=0
  ·clear hi hb;subst h0
   exact lO Pm (by decide) e7 e22 hn hT hl ⟨hc.1,W3 hc.2 (by decide)⟩ one (co _ _) (bH _) rfl rfl rfl
  ·exact lO Nv (by decide) e7 e22 hn hT hl ⟨hc.1,W3 hc.2 (by decide)⟩ (pos h0) (co _ _) (co _ _) rfl rfl nl
 |true=>
  rcases Int.lt_trichotomy col i with g|g|g
  ·have e:brk true ws col i=false:=by unfold brk;rw[WG (Int.not_lt.mpr (Int.le_of_lt g)),WG (by lia)];rfl
   unfold fY;rw[e];exact lO TS (by decide) e7 e22 hn hT hl ⟨hc.1,W3 hc.2 (by decide)⟩ ⟨Int.sub_pos_of_lt g,W3 (XI _ hc.1) (W3 hi.2 (by decide))⟩ v0 (by rw[du,v0,v1];lia) rfl rfl ((yf _ _).trans (by rw[v1]))
  ·subst g
   cases ws with
   |false=>
    have e:brk true false col col=true:=by unfold brk;rw[decide_eq_true rfl];simp
    unfold fY;rw[e]
    by_cases h0:col=0
    ·subst h0
     exact lO Lz (by decide) e7 e22 hn hT hl zer one (bH _) (bH _) rfl rfl rfl
    ·exact lO QQ (by decide) e7 e22 hn hT hl zer (pos h0) v1 v1 rfl rfl nl
   |true=>
    have e:brk true true col col=false:=by unfold brk;rw[WG (Int.lt_irrefl col)];simp
    unfold fY;rw[e,show eF (col-col)=[] by rw[Int.sub_self];rfl]
    by_cases h0:col=0
    ·subst h0
     exact lO Pa (by decide) e7 e22 hn hT hl zer one (bH _) (bH _) rfl rfl rfl
    ·exact lO OX (by decide) e7 e22 hn hT hl zer (pos h0) v1 v1 rfl rfl rfl
  ·have e:brk true ws col i=true:=by unfold brk;rw[decide_eq_true g];rfl
   unfold fY;rw[e]
   by_cases h0:i=0
   ·subst h0
    exact lO On (by decide) e7 e22 hn hT hl ⟨XB g,W3 (XI _ (by decide)) (W3 hc.2 (by decide))⟩ one (by rw[du,v0,bH];exact Int.add_sub_cancel _ _) (bH _) rfl rfl rfl
   ·exact lO QB (by decide) e7 e22 hn hT hl ⟨XB (Int.sub_pos_of_lt g),W3 (XI _ (by decide)) (W3 (XI _ hi.1) (W3 hc.2 (by decide)))⟩ (pos h0) (by rw[du,du,v0,v1,bH];lia) v1 rfl rfl nl
end
structure nR where
 t:Expr
 it:Expr
 b:List Stmt
 p:Pos
def qD(l:List Stmt)(i:Nat):nR:=match ao l i with|some (.For t it b _ p)=>⟨t,it,b,p⟩|_=>⟨.Constant .none 0 default,.Constant .none 0 default,[],default⟩
def w0:List Stmt:=(bR 824).body
def aI:List (Str×NameKind):=(bR 824).sc
def gn:nR:=qD w0 6
structure Tl where
 k:AV
 fl:AV
 an:AV
 w:AV
 st:AV
def DC(b:Bool):AV:=Bool.rec (.str []) (.str [.lit [99]]) b
def Ab.tl(e:Ab)(wd:Bool):Tl:=match e with
 |.sc w q an=>⟨I 4,ff,km an,.str (kg w),fw q⟩
 |.al y=>⟨I 5,ff,.str [.lit [Bool.rec 120 121 y]],DC wd,.none⟩
 |.st m fl an _=>⟨I (Bool.rec 6 8 m),.bool fl,km an,DC wd,.none⟩
 |.en m=>⟨I (Bool.rec 7 9 m),.any 17,.any 18,.any 14,.any 15⟩
 |.no k=>⟨I (tn 0 [0,1,2,3,5] k),.any 17,Bool.rec (.any 18) .none (k.beq 4),.any 14,.any 15⟩
def Ab.nx(e:Ab):AV:=match e with
 |.st m _ _ h=>.tup [Bool.rec (lI 14) (I (Bool.rec 7 9 m)) h,.any 20,.any 21,.any 22,.any 23]
 |_=>.any 24
def gK(e:Ab)(wd:Bool)(place mk loose:AV):List (Str×AV):=[(bu,.cell 0),(bZ,lI 8),(c9,.cell 1),(hH,.cell 2),(hK,place),(ge,.any 10),(gT,mk),(g7,loose),(cX,.any 13),
 (jI,(e.tl wd).k),(mw,(e.tl wd).fl),(dh,(e.tl wd).an),(ml,(e.tl wd).w),(gi,(e.tl wd).st),(rU,e.nx)]
def eq(m fl:Bool)(bg pr col ah:AV):ak:=.list [I (Bool.rec 6 8 m),.bool fl,bg,pr,col,ah]
def u0(s:Nat):AV:=tn .none [I 0,.int ⟨2,[(12,2)]⟩,.int ⟨1,[(12,2)]⟩,.int ⟨1,[(12,2)]⟩] s
def tN(s:Nat):AV:=tn .none [I 1,.int ⟨3,[(12,2)]⟩,.int ⟨2,[(12,2)]⟩,.int ⟨2,[(12,2)]⟩] s
def t6(b:Bool):AV:=Bool.rec (I 0) (.int ⟨1,[(12,1)]⟩) b
def s6(b:Bool):AV:=Bool.rec (I 1) (.int ⟨2,[(12,1)]⟩) b
def uM(s:Nat):AV:=tn (.any 9) [.any 9,.any 9,tr,ff] s
def mn(fst:Bool):AV:=Bool.rec (.any 8) (.str ei) fst
def Ps.top(p:Ps):ak:=match p with
 |.root _=>.any 3
 |.fq b=>eq false true (t6 b) (.any 9) (I 0) (.str [])
 |.bq b=>eq false false (t6 b) (.any 9) (lI 6) (mn (!b))
 |.fm s=>eq true true (u0 s) (uM s) (I 0) (.str [])
 |.bm s=>eq true false (u0 s) (uM s) (lI 6) (mn (s.beq 0))
def Ps.topN(p:Ps)(s:Bool):ak:=match p with
 |.root _=>.any 3
 |.fq b=>eq false true (s6 b) (.bool s) (I 0) (.str [])
 |.bq b=>eq false false (s6 b) (.bool s) (lI 6) (mn (!b))
 |.fm q=>eq true true (tN q) (.bool s) (I 0) (.str [])
 |.bm q=>eq true false (tN q) (.bool s) (lI 6) (mn (q.beq 0))
noncomputable def di(p:Ps):AV:=match p with|.root b=>.bool b|_=>.any 11
def kq(p:Ps)(dp:Nat):St:=Bool.rec (tn [] [[.any 0,.spl 1 [],.spl 2 [.cell 3],p.top],[.any 0,.spl 1 [],.list [.cell 3],p.top],[.any 0,.spl 1 [],.spl 2 [.cell 4,.cell 3],p.top,.any 4]] dp) [.any 0,.spl 1 [],.list []] p.isRoot
def βR(lo:Bool)(m:Bool):Bd:=[(0,0),(0,0),(0,0),(0,0),(0,0),(0,0),(0,900),(0,0),(2,9),(0,0),(0,0),(0,0),(0,60000),(1,3),Bool.rec (Bool.rec 8 10 m,20) (0,Bool.rec 6 8 m) lo,(0,1000)]
def gg:List Stmt:=bT 2 gn.b
def Ps.lnR(p:Ps):SS:=match p with|.bq true=>[.lit [10],.rep 32 (V 6)]|.bm (_+1)=>[.lit [10],.rep 32 (V 6)]|_=>ei
def mF(p:Ps)(e:Ab)(m:Bool):ak:=Bool.rec
 (Bool.rec (Bool.rec (Bool.rec (eq m false (I 0) ff (.int ((V 6).add (V 8))) (.str [.lit [10],.rep 32 ((V 6).add (V 8))])) (eq m false (I 0) ff (lI 6) (.str [.lit [10],.rep 32 (V 6)])) (p.mp&&!m)) (eq m false (I 0) ff (.int ((V 6).add (V 8))) (.str [.rep 32 ((V 8).add (.k (-1)))])) (p.beh e))
  (eq m false (I 0) ff (I 0) (.str (Bool.rec [.lit [10]] [] (p.beh e)))) p.isRoot)
 (eq m true (I 0) ff (I 0) (.str [])) (e.gr p.flow)
def oF(p:Ps):SS:=Bool.rec [] (dy (Bool.rec 93 125 p.mp)) p.flow
def AO(s:Bool):ak:=.list [I 0,ff,I 1,.bool s,I 0,.str []]
def Ab.lo'(e:Ab)(fl:Bool):Bool:=match e with|.sc w q _=>Nat.beq (sJ w q fl) 0|_=>false
def gV(place mk loose:AV):List (Str×AV):=[(bu,.cell 0),(bZ,lI 8),(c9,.cell 1),(hH,.cell 2),(hK,place),(ge,.any 10),(gT,mk),(g7,loose),(cX,.any 13)]
def rJ(lo wd:Bool)(p:Ps)(e:Ab):jT where
 B:=βR lo e.m
 sp:=aq
 d:=6
 fr:=[]
 ls:=⟨gK e wd (I 2) (di p) (.any 12),aI⟩
 P:=kq p 0
 ss:=gg
 f:=.next
 k:=9
 out:=gV (I (Bool.rec 2 3 (p.isRoot&&!bz e))) (di p) (Bool.rec (.any 12) (.bool (e.lo' false)) p.isRoot)
 Q:=[.any 0,.spl 1 [.str (dR p p.lnR e)],Bool.rec (.spl 2 (.cell 3::Bool.rec [] [.cell 5] (bz e))) (.list (Bool.rec [] [.cell 5] (bz e))) p.isRoot,Bool.rec (p.topN e.simple) (AO e.simple) p.isRoot,.list ((e.parts p.flow).map .str)]++Bool.rec [] [mF p e e.m] (bz e)
def rE(p:Ps)(dp:Nat)(m:Bool):jT where
 B:=βR true false
 sp:=aq
 d:=6
 fr:=[]
 ls:=⟨gK (.en m) false (I 2) (di p) (.any 12),aI⟩
 P:=kq p dp
 ss:=gg
 f:=.next
 k:=9
 out:=gV (I (Bool.rec 2 3 (dp.beq 1))) (di p) (.any 12)
 Q:=[.any 0,.spl 1 [.str (oF p)],Bool.rec (.spl 2 [.cell 4]) (.list []) (dp.beq 1),p.top]++Bool.rec [.any 4] [] (dp.beq 1)
def rX(p:Ps)(e:Ab):jT where
 B:=βR true false
 sp:=aq
 d:=6
 fr:=[]
 ls:=⟨gK e false (I 2) (di p) (.any 12),aI⟩
 P:=kq p 0
 ss:=gg
 f:=.ret (.tup [.cell 1,.str (p.lead p.lnR e.simple).t])
 k:=9
 out:=gV (I 2) (di p) (.any 12)
 Q:=kq p 0++Bool.rec [] [.list [I 0,ff,I 0,ff,I 0,.str []]] p.isRoot
def Gy:List (Bool×Bool×Ab):=(oZ.flatMap fun e=>match e with
 |.al y=>[(true,!y,e)]
 |.st _ fl an ho=>(Bool.rec [true,false] [true] ho:List Bool).flatMap fun lo=>(Bool.rec [false,true] [false] (fl ||an):List Bool).map fun wd=>(lo,wd,e)
 |_=>[(true,false,e)])
def iF(p:Ps):Bool:=Gy.all fun q=>(rJ q.1 q.2.1 p q.2.2).chk
noncomputable def fh(p:Ps)(m:Bool):Bool:=match p with|.fq _=>!m|.bq _=>!m|.fm s=>m&&s.ble 1|.bm s=>m&&s.ble 1|_=>false
def L9:List (Ps×Nat×Bool):=dA.flatMap fun p=>tf.flatMap fun m=>(Bool.rec [] [1,2] (fh p m):ξ).map fun d=>(p,d,m)
def OD:List (Ps×Ab):=dA.flatMap fun p=>((([0,1,2,3,4].map Ab.no)++(tf.filter fun m=>!fh p m).map Ab.en)).map fun e=>(p,e)
def kh(M:aF)(x y:AV):Prop:=∀ imm ρ v,VR M imm ρ v x→VR M imm ρ v y
def kh.rfl:kh M x x:=fun U U U h=>h
inductive oE (M:aF):List (Str×AV)→List (Str×AV)→Prop
 |nil:oE M [] []
 |cons {n:Str} {x y:AV} {r s:List (Str×AV)}:kh M x y→oE M r s→oE M ((n,x)::r) ((n,y)::s)
def aT.conv(h:oE M fs gs):∀ {es:List DictEntry},aT M imm ρ es fs→aT M imm ρ es gs:=by
 induction h with
 |nil=>exact fun g=>g
 |cons a _ ih=>
  intro es g;apply lw g.inv;intro _ _ v t e0 h1 h2;clear g;subst e0;exact .cons (a _ _ _ h1) (ih h2)
def oE.names(h:oE M fs gs){P:Str→Prop}:(∀ p∈fs,P p.1)→∀ p∈gs,P p.1:=by
 induction h with
 |nil=>exact fun g=>g
 |@cons n x y r s a _ ih=>
  intro g p hp;rcases cI hp with rfl|hp
  ·exact g (n,x) (.head _)
  ·exact ih (fun q hq=>g q (.tail _ hq)) p hp
def Fs(φ:cP)(c:Nat→ak)(x:Nat→AV):bB (fun i=>fC φ (c i)) (fun i=>flA φ (x i))=bE φ (bB c x):=rfl
def wc{B:Bd}{Z:Ev}(hb:aU B Z){l:aD}{lo hi:Int}(h:ij B (.int l) lo hi=true):lo≤l.val Z∧l.val Z≤hi:=by
 apply db (Ly hb h);intro m e h1 h2;cases e;exact⟨h1,h2⟩
section
def xF(M:aF)(f:Addr)(g:sL):Prop:=∀ c x as r c' x',g c x as=some (r,c',x')→fnIn M.K f=true∧∃ r',kh M r' (flA (bQ M.Z) r) ∧
 Rz M 205 (bB (fun i=>fC (bQ M.Z) (c i)) (fun i=>flA (bQ M.Z) (x i))) f (.cell 5::aH (bQ M.Z) as) r' (bB (fun i=>fC (bQ M.Z) (c' i)) (fun i=>flA (bQ M.Z) (x' i)))
def wV(h:Z.sv 6=v):SS.val Z [.var 6]=v:=by show Z.sv 6++[]=v;rw[aX,h]
def T3(h6:M.Z.sv 6=v)(hm:v∈gW):xF M 629 H0:=fun c x as r c' x' h=>by
 apply bC h;clear h;intro h1 h;(apply j3 h;rintro e1 e2 e3);clear h;subst e1;subst e2;subst e3;have e2:aH (bQ M.Z) as=[.str (.k v)]:=by rw[j6 (fun x U y e=>dY x y e) h1];show [AV.str (.k (SS.val M.Z [.var 6]))]=_;rw[wV h6]
 have R:=Nr (M:=M) (c:=fun i=>fC (bQ M.Z) (c' i)) (x:=fun i=>flA (bQ M.Z) (x' i)) hm;rw[e2];refine⟨R.1,oQ (.str (.k v)) false true true,?_,R.2⟩;show kh _ _ (oQ (.str (.k (SS.val M.Z [.var 6]))) false true true);rw[wV h6];exact .rfl
def Tn(g:Hv as=true)(h6:Z.sv 6=v):∃ s,aH (bQ Z) as=[.str (.k v),s]:=by
 induction as using oL with
 |nil=>injection g
 |cons a as=>
  induction as using oL with
  |nil=>injection g
  |cons c as=>
   induction c using AV.casesOn with
   |bool b=>
    induction as using oL with
    |nil=>
     refine⟨.bool b,?_⟩;rw[dY _ _ g];show [AV.str (.k (SS.val Z [.var 6])),.bool b]=_;rw[wV h6]
    |cons=>injection g
   |_=>injection g
def BD(hb:aU B M.Z)(h6:M.Z.sv 6=v)(hm:v∈gW)(hk:k∈[0,1,2]):xF M (xG k) (x8 B k):=fun c x as r c' x' h=>by
 apply bC h;clear h;intro h1 h;(apply j3 h;rintro e1 e2 e3);have h1:=aw h1;have h2:=aw h1.2;have h3:=aw h2.2;have h4:=aw h3.2;generalize hW:tw c x=W at *
 clear h;subst e1;subst e2;subst e3;have g1:=aw h2.1;have g2:=aw g1.2;have g3:=aw g2.2;have g4:=aw g3.2;have hT:=wc hb g3.1;rw[mi M.he (yr hb g2.1)] at hT;obtain⟨rt,e9⟩ : ∃ b,x 9=.bool b:=by
  have:=h3.1;cases q:x 9 with
  |bool b=>exact⟨b,rfl⟩
  |_=>rw[q] at this;injection this
 have e21:flA (bQ M.Z) (x 21)=I 1000:=by rw[dY _ _ h4.1];rfl
 have e19:flA (bQ M.Z) (x 19)=.none:=by rw[dY _ _ h4.2];rfl
 apply bn (Tn h1.1 h6);intro s e2;have R:=Jn (M:=M) (c:=fun i=>fC (bQ M.Z) (c i)) (x:=fun i=>flA (bQ M.Z) (x i)) (ws:=W.ws) (ind:=W.ind) (oe:=flA (bQ M.Z) W.oe) (s:=s) hk hm (by rw[e9];rfl) e19 e21 (wc hb g4.1) (Int.ofNat_le.mp hT.2) (wc hb g4.2);refine⟨R.1,.none,.rfl,?_⟩;rw[e2,Fs,nZ g1.1];have e9':rN (x 9)=rt:=by rw[e9];rfl
 rw[e9'];refine R.2.cast rfl rfl rfl ?_;show lP _ _ _ _ _ _ _ _=lP (fun i=>fC (bQ M.Z) (c i)) (fun i=>flA (bQ M.Z) (x i)) (SS.val M.Z (kr k rt W).T) ((kr k rt W).n.val M.Z) ((kr k rt W).col.val M.Z) ff ff (flA (bQ M.Z) (kr k rt W).oe);have eT:SS.val M.Z (kr k rt W).T=W.T.val M.Z++jK k W.ws v:=by
  show SS.val M.Z ((W.T.app (.k (Bool.rec [32] [] W.ws++lm k))).app (SS.app [.var 6] (.k (lm k))))=_;rw[cE,cE,fT,cE,wV h6,fT];unfold jK;simp only [XW]
 have eC:(kr k rt W).col.val M.Z=W.col.val M.Z+(jK k W.ws v).length:=by
  show ((W.col.add (.k (.ofNat (Bool.rec 1 0 W.ws+2*(lm k).length)))).add (V 13)).val M.Z=_;rw[du,du,bH,co,show M.Z.iv 13=(M.Z.sv 6).length from M.he 6,h6];unfold jK;rw[aB,aB,aB];cases W.ws<;>(show _+Int.ofNat _+_=_+(_);simp only [List.length_cons,List.length_nil,Int.ofNat_eq_natCast];lia)
 have eN:(kr k rt W).n.val M.Z=W.n.val M.Z+5:=by show (W.n.add (.k 5)).val M.Z=_;rw[du,bH]
 have eO:flA (bQ M.Z) (kr k rt W).oe=qp k rt (flA (bQ M.Z) W.oe):=by
  show flA (bQ M.Z) (Bool.rec ff (Bool.rec W.oe tr rt) (k.beq 0))=Bool.rec ff (Bool.rec (flA (bQ M.Z) W.oe) tr rt) (k.beq 0);cases k.beq 0<;>cases rt<;>rfl
 rw[eT,eC,eN,eO]
structure Hs (Z:Ev) (ws ind:Bool):Prop where
 w:Z.ov 45=.bool ws
 i:Z.ov 46=.bool ind
 t:Z.sv 7=fY ind ws (Z.iv 4) (Z.iv 6)
 l:Z.iv 18=Z.iv 2+Bool.rec 0 1 (brk ind ws (Z.iv 4) (Z.iv 6))
 b:(0≤Z.iv 0∧Z.iv 0≤90000)∧(Z.sv 0).length≤50000∧(0≤Z.iv 2∧Z.iv 2≤90000)∧(0≤Z.iv 4∧Z.iv 4≤900)∧(0≤Z.iv 6∧Z.iv 6≤900)
def Rz.boA(ha:kh M a (.bool ws))(hb:kh M b (.bool ind))(H:Rz M k (je c x T n line col (.bool ws) (.bool ind)) f vs r J'):Rz M k (je c x T n line col a b) f vs r J':=⟨by
 intro c0 A s m ls imm cs vals kwv Rq C R hv hk hk2 k;refine H.h C ⟨R.F,R.N,R.nd,?_,R.l⟩ hv hk hk2 k;apply dj (R.C.at (k:=5) rfl);intro u pre post e1 e2 e3;have g:=R.C;rw[e1] at g e3 ⊢;have e4:CR M imm (ae (pre++u::post)) u (o7 (tO (tO x 13 [some (I line),some (I col),some (.bool ws),some (.bool ind)]) 0 [some (.cell 3)])):=by
  apply dZ e3.inst_inv;intro a' d es nn e0 hf hp hc;clear e1 e3 g;subst e0;have cf:oE M [(r8,AV.cell 3),(mh,x 1),(u6,x 2),(sR,x 3),(sW,x 4),(cQ,x 5),(sV,x 6),(rg,x 7),(tL,x 8),(uq,x 9),(ut,x 10),(tE,x 11),(tQ,x 12),(uD,I line),(ui,I col),(pX,a),(pE,b),(ug,x 17),(pO,x 18),(rc,x 19),(uK,x 20),(uh,x 21),(uT,x 22),(tm,x 23),(tG,x 24),(uL,x 25),(uZ,x 26),(gi,x 27)]
   [(r8,AV.cell 3),(mh,x 1),(u6,x 2),(sR,x 3),(sW,x 4),(cQ,x 5),(sV,x 6),(rg,x 7),(tL,x 8),(uq,x 9),(ut,x 10),(tE,x 11),(tQ,x 12),(uD,I line),(ui,I col),(pX,.bool ws),(pE,.bool ind),(ug,x 17),(pO,x 18),(rc,x 19),(uK,x 20),(uh,x 21),(uT,x 22),(tm,x 23),(tG,x 24),(uL,x 25),(uZ,x 26),(gi,x 27)]:=(.cons .rfl (.cons .rfl (.cons .rfl (.cons .rfl (.cons .rfl (.cons .rfl (.cons .rfl (.cons .rfl (.cons .rfl (.cons .rfl (.cons .rfl (.cons .rfl (.cons .rfl (.cons .rfl (.cons .rfl (.cons ha (.cons hb (.cons .rfl (.cons .rfl (.cons .rfl (.cons .rfl (.cons .rfl (.cons .rfl (.cons .rfl (.cons .rfl (.cons .rfl (.cons .rfl (.cons .rfl .nil))))))))))))))))))))))))))))
  exact .inst (aT.conv cf hf) (cf.names (P:=fun p=>findIn M.K (.ref 736) p=some none) hp) hc
 have g2:=g.set e4;rw[e2] at g2;exact g2⟩
def kh.an(h:M.Z.ov i=.bool b):kh M (.any i) (.bool b):=fun imm ρ v g=>by
 rw[←g.inv,h];exact .bool b
def Ja(H:Hs M.Z ws ind):xF M 665 Fk:=fun c x as r c' x' h=>by
 apply bC h;clear h;intro h1 h;(apply j3 h;rintro e1 e2 e3);have h1:=aw h1;subst e1;subst e2;subst e3;have eq9:=qY h1.1;subst eq9;have R:=M7 (M:=M) (c:=fun i=>fC (bQ M.Z) (c i)) (x:=tO (tO (fun i=>flA (bQ M.Z) (x i)) 22 [some (.str (.k [10]))]) 7 [some (I ((V 6).val M.Z))]) (T:=SS.val M.Z [.var 0]) (n:=(V 0).val M.Z) (line:=(V 2).val M.Z) (col:=(V 4).val M.Z) (ws:=ws) (ind:=ind)
  rfl rfl (by rw[co];exact H.b.1) (by rw[show SS.val M.Z [.var 0]=M.Z.sv 0 from aX _];exact H.b.2.1) (by rw[co];exact H.b.2.2.1) (by rw[co];exact H.b.2.2.2.1) (by rw[co];exact H.b.2.2.2.2)
 refine⟨R.1,.none,.rfl,?_⟩;rw[Fs,nZ h1.2];refine(Rz.boA (kh.an H.w) (kh.an H.i) R.2).cast rfl rfl rfl ?_;show je _ _ _ _ _ _ _ _=je (fun i=>fC (bQ M.Z) (c i)) (tO (tO (fun i=>flA (bQ M.Z) (x i)) 22 [some (.str (.k [10]))]) 7 [some (I ((V 6).val M.Z))]) (M.Z.sv 0++(M.Z.sv 7++[])) (((V 0).add (.k 2)).val M.Z) ((V 18).val M.Z) ((V 6).val M.Z) tr tr;rw[du,bH,co M.Z 18,H.l,H.t,co,co,co,co,show SS.val M.Z [.var 0]=M.Z.sv 0 from aX _,aX]
def JG(h:∀ p∈l,∀ J vs kw r,p.2 J p.1 vs kw=some r→fnIn M.K p.1=true∧bV M (b+25) J p.1 vs kw r.1 r.2):mJ M b (Bu l):=by
 intro J f vs kw p;induction l with
 |nil=>intro q;injection q
 |cons a r ih=>
  intro q;replace q:Bool.rec (motive:=fun _=>κ (AV×St)) (Bu r J f vs kw) (a.2 J f vs kw) (f.beq a.1)=some p:=q;cases e:Nat.beq f a.1 with
  |true=>rw[e] at q;have eq9:=aJ e;subst eq9;exact h a (.head _) J vs kw p q
  |false=>rw[e] at q;exact ih (fun p hp=>h p (.tail _ hp)) q
def Lu(hb:aU B M.Z)(h6:M.Z.sv 6=v)(hm:v∈gW)(H:Hs M.Z ws ind):mJ M 180 (nr B):=JG fun p hp J vs kw r h=>by
 have k:∀ {f g},xF M f g→nX B g J vs kw=some r→fnIn M.K f=true∧bV M (180+25) J f vs kw r.1 r.2:=fun {f g} hc h=>Kh hb hc h;rcases cI hp with rfl|hp
 ·exact k (T3 h6 hm) h
 rcases cI hp with rfl|hp
 ·exact k (BD hb h6 hm (k:=0) (by decide)) h
 rcases cI hp with rfl|hp
 ·exact k (BD hb h6 hm (k:=1) (by decide)) h
 rcases cI hp with rfl|hp
 ·exact k (BD hb h6 hm (k:=2) (by decide)) h
 have eq9:=bU hp;clear hp;subst eq9;exact k (Ja H) h
end
def lY(best:Int)(z:Nat→ak)(T:ξ)(n:Int)(q ss is:ak)(en st ev indent:AV)(lv:Int)(line col ws ind oe:AV)(y:Nat→AV):St :=
 bB (tO z 3 [some (.inst 771 [(ir,.cell 4)]),some (.rows (.k T) (.k n)),none,some ss,some q,some is])
  (tO y 0 [some (.cell 3),some en,some (.cell 6),some st,some (.cell 7),some ev,some (.cell 8),some indent,some (.int (.k lv)),none,none,none,none,some line,some col,some ws,some ind,some oe,some .none,some .none,some (I best),some (I 1000),some (.str (.k [10])),none,some .none,some .none,some .none,some .none])
def sD{Z:Ev}{Y h:Nat→AV}{z:Nat→ak}{T:SS}{n:aD}{q ss is:ak}{st ev indent:AV}{lv:aD}{line col ws ind oe:AV}{y:Nat→AV}:bE (am Z (vW Y h) z) (bB (jc T n q ss is) (iQ st ev indent lv line col ws ind oe y)) =
 lY ((V 8).val Z) z (T.val Z) (n.val Z) (fC (am Z (vW Y h) z) q) (fC (am Z (vW Y h) z) ss) (fC (am Z (vW Y h) z) is) (Y 1) (flA (am Z (vW Y h) z) st) (flA (am Z (vW Y h) z) ev) (flA (am Z (vW Y h) z) indent) (lv.val Z)
  (flA (am Z (vW Y h) z) line) (flA (am Z (vW Y h) z) col) (flA (am Z (vW Y h) z) ws) (flA (am Z (vW Y h) z) ind) (flA (am Z (vW Y h) z) oe) (fun i=>flA (am Z (vW Y h) z) (y i)):=rfl
structure Nd where
 T:ξ
 n:Int
 line:Int
 col:Int
 ind:Int
 best:Int
 lv:Int
 ws:Bool
 idn:Bool
 w:ξ
def Nd.ln(E:Nd):Int:=E.line+Bool.rec 0 1 (brk E.idn E.ws E.col E.ind)
def Nd.wt(E:Nd):ξ:=fY E.idn E.ws E.col E.ind
def Nd.Z(P:Params)(E:Nd):Ev:=gS P (tn 0 [E.n,E.line,E.col,E.ind,E.best,E.lv,0,0,0,E.ln]) (tn [] [E.T,[],[],[],[],[],E.w,E.wt])
structure kF (E:Nd):Prop where
 T:E.T.length≤40000
 n:0≤E.n∧E.n≤60000
 line:0≤E.line∧E.line≤50000
 col:0≤E.col∧E.col≤900
 ind:0≤E.ind∧E.ind≤900
 best:2≤E.best∧E.best≤9
 lv:1≤E.lv∧E.lv≤900
 w:E.w∈gW
def P9(h:v∈gW):1≤v.length∧v.length≤3:=by
 have:(gW.all fun v=>Nat.ble 1 v.length&&v.length.ble 3)=true:=by decide +kernel
 have:=aw (aV this v h);exact⟨nleT this.1,nleT this.2⟩
def Hj(h:k≤900):(eF k).length≤900:=by unfold eF;rw[Wk];exact Int.toNat_le.mpr h
def Os(h:0≤col)(h2:i≤900):(fY ind ws col i).length≤1000:=by
 unfold fY;cases brk ind ws col i with
 |true=>have:=Hj h2;exact W8 this (nleT rfl)
 |false=>exact W2 (Hj (by lia))
section
def oN{P:Params}(g:kF E):aU βN (E.Z P):=by
 have h1:=P9 g.w;have e0:(0:Int)≤0∧(0:Int)≤0:=⟨bO 0,bO 0⟩;have hl:=g.line;refine qi ⟨g.n,⟨cT _,bw g.T⟩,⟨hl.1,W3 hl.2 (by decide)⟩,e0,g.col,e0,g.ind,e0,g.best,e0,g.lv,e0,e0,⟨bw h1.1,bw h1.2⟩,e0,⟨cT _,bw (Os g.col.1 g.ind.2)⟩,e0,e0,⟨?_,?_⟩,trivial⟩
 ·show 0≤E.line+_
  cases brk E.idn E.ws E.col E.ind<;>(dsimp only;lia)
 ·show E.line+_≤60000
  cases brk E.idn E.ws E.col E.ind<;>(dsimp only;lia)
structure yl (E:Nd) (Y:Nat→AV):Prop where
 ws:Y 15=.bool E.ws
 ind:Y 16=.bool E.idn
def G8(g:kF E)(hf:yl E Y)(h45:As fr P=true)(fk:nv (lB fr (vW Y h) (bt [.cell 5]) P) (vW Y h) ov):mJ (M.wE (E.Z M.Z.P) ⟨rfl,fR _ _ _⟩ ov cv) 180 (nr βN):=by
 have k:=aw h45;have get:∀ i b,dB (30+i) (fr++eM (bt [.cell 5]++fG P))=true→Y i=.bool b→ov (30+i)=.bool b:=fun i b hm hy=>by
  have hv:vW Y h (30+i)=.bool b:=by rw[rK,hy]
  have:30+i∈lB fr (vW Y h) (bt [.cell 5]) P:=by
   rcases cZ (mt.mp hm) with q|q
   ·exact aK _ q
   ·exact bF _ (List.mem_filter.mpr ⟨q,by rw[hv];rfl⟩)
  apply af (fk _ this);intro b' e1 e2;rw[hv] at e1;injection e1 with e1;rw[e2,e1]
 exact Lu (oN (P:=M.Z.P) g) rfl g.w ⟨get 15 _ k.1 hf.ws,get 16 _ k.2 hf.ind,rfl,rfl,⟨⟨g.n.1,W3 g.n.2 (by decide)⟩,WZ g.T (by decide),⟨g.line.1,W3 g.line.2 (by decide)⟩,g.col,g.ind⟩⟩
def nq(M:aF)(e:Ab)(q:ak):Prop:=match e with|.st m _ _ h=>∃ D fs r,q=.list (.obj D fs::r)∧qC M.K D (Bool.rec 241 265 m) h|_=>True
def CS:oW M φ (u9 r i xs):=by cases r<;>trivial
def H7{p:Ps}{φ:cP}(hq:nq M e (φ.z 7)):kB M φ (p.P e):=fun x hx=>by
 unfold Ps.P bB at hx;simp only [Xf,WA,or_false] at hx;rcases hx with rfl|rfl|rfl|rfl|rfl|rfl|rfl|rfl|rfl|rfl
 ·trivial
 ·trivial
 ·trivial
 ·trivial
 ·trivial
 ·trivial
 ·exact CS
 ·cases e with
  |st m fl an h=>exact .inr hq
  |_=>trivial
 ·exact CS
 ·trivial
def rf{B:Bd}{Z:Ev}(hb:aU B Z){a b:aD}{lo hi:Int}(h:ij B (.int (a.sub b)) lo hi=true):lo≤a.val Z-b.val Z∧a.val Z-b.val Z≤hi:=by
 have:=wc hb h;rw[n5] at this;exact this
def AB(hc:Tj.chk p e=true)(g:kF E)(hf:yl E Y)(hq:nq M e (z 7)):∃ J:St,fnIn M.K p.fn=true ∧
  Rz M 295 (bE (am (E.Z M.Z.P) (vW Y h) z) (p.P e)) p.fn [.cell 5] .none (bE (am (E.Z M.Z.P) (vW Y h) z) (lS p e J)) ∧
  (0≤(fc J).val (E.Z M.Z.P)-E.n∧(fc J).val (E.Z M.Z.P)-E.n≤20)∧(0≤(io J).val (E.Z M.Z.P)-(s9 p e).val (E.Z M.Z.P)∧(io J).val (E.Z M.Z.P)-(s9 p e).val (E.Z M.Z.P)≤12)∧yK p e (io J) (jF J) (jG J)=true:=by
 unfold Tj.chk at hc;cases q:zH p e with
 |none=>rw[q] at hc;injection hc
 |some rs=>
  obtain⟨r,J⟩:=rs;rw[q] at hc;replace hc:=hc;have h1:=aw hc;have h2:=aw h1.1;have h3:=aw h1.2;have h4:=aw h3.2;have h5:=aw h4.2;have h6:=aw h5.2;have hb:=oN (P:=M.Z.P) g;have ck:(fM.mk βN (nr βN) 9 p.fr (p.P e) p.fn [.cell 5] .none (lS p e J)).chk=true:=by
   show ((match zH p e with|some (r,J')=>c7 r .none&&gI J' (lS p e J)|none=>false)&&_)=true;rw[q];exact Wp.mpr ⟨Wp.mpr ⟨h2.1,h3.1⟩,h4.1⟩
  have fro:(p.fr.all fun i=>iU (vW Y h i))=true:=by
   rw[XK];intro i hi;have:i=30+15∨i=30+16:=by
    have sub:∀ i∈p.fr,i∈[45,46]:=by
     intro i hi;cases p with
     |bq b=>cases hi
     |bm s=>
      replace hi:i∈(Bool.rec [] [45,46] (s.beq 2):ξ):=hi;cases q2:Nat.beq s 2<;>rw[q2] at hi
      ·cases hi
      ·exact hi
     |_=>exact hi
    rcases cI (sub i hi) with e|e
    ·exact .inl e
    ·exact .inr (bU e)
   rcases this with e|e<;>rw[e,rK]
   ·rw[hf.ws];rfl
   ·rw[hf.ind];rfl
  have R:=rd (Z:=E.Z M.Z.P) rfl (fR _ _ _) (fM.mk βN (nr βN) 9 p.fr (p.P e) p.fn [.cell 5] .none (lS p e J)) hb (fun ov cv fk=>G8 g hf h2.2 fk) fro (H7 hq) ck;have i1:=rf hb h5.1;rw[co] at i1;exact⟨J,R.1,⟨bV.le (by show 10*9+180+25≤295;decide) R.2.h⟩,i1,rf hb h6.1,h6.2⟩
end
def Ps.pre(p:Ps)(col:Int)(ws ind:Bool):Prop:=match p with
 |.root mk=>ws=Bool.rec true false mk∧ind=Bool.rec true false mk∧col=Bool.rec 0 3 mk
 |.fq b=>ws=Bool.rec true false b∧ind=false
 |.bq _=>True
 |.fm s=>ws=s.beq 0∧ind=false
 |.bm s=>s.beq 2=true→ws=false∧ind=false
def Ps.post(p:Ps)(base col:Int)(ws ind:Bool):Prop:=match p with
 |.root _=>ind=false∨1≤col
 |.fq b=>ws=Bool.rec true false b∧ind=false
 |.fm s=>ws=s.beq 0∧ind=false
 |.bq _=>ind=false∨base+1≤col
 |.bm s=>Bool.rec (ind=false∨base+1≤col) (ws=false∧ind=false) (s.beq 2)
def i9(r:Bool)(l:List AV):List AV:=Bool.rec l [] r
def zq(z:Nat→ak)(q ss is:List AV):Nat→ak:=tO (tO z 7 [some (.list q)]) 20 [some (.seg ss),some (.seg is)]
def yq(y:Nat→AV)(ws ind:Bool)(l1 l2:AV):Nat→AV:=tO (tO y 15 [some (.bool ws),some (.bool ind)]) 30 [some l1,some l2]
def Ps.inV(p:Ps)(i:Int):AV:=Bool.rec (I i) .none p.isRoot
def Ps.lvV(p:Ps)(i:Int):Int:=Bool.rec 0 i p.flow
section
variable {E:Nd}
abbrev fN (P:Params) (E:Nd) (y:Nat→AV) (h:Nat→AV) (z:Nat→ak) (q ss is:List AV) (l1 l2:AV):cP:=am (E.Z P) (vW (yq y E.ws E.idn l1 l2) h) (zq z q ss is)
def wB{e:Ab}:fC (fN P E y h z q ss is l1 l2) e.q=.list q:=by cases e<;>rfl
def J4{p:Ps}(hp:p.pre E.col E.ws E.idn):flA (fN P E y h z q ss is l1 l2) p.ws=.bool E.ws:=by
 cases p with
 |root mk=>show AV.bool _=_;rw[hp.1]
 |fq b=>show AV.bool _=_;rw[hp.1]
 |bq b=>rfl
 |fm s=>show AV.bool _=_;rw[hp.1]
 |bm s=>
  show flA _ (Bool.rec (.any 45) ff (s.beq 2))=_;cases q:Nat.beq s 2 with
  |true=>rw[(hp q).1];rfl
  |false=>rfl
def Lr{p:Ps}(hp:p.pre E.col E.ws E.idn):flA (fN P E y h z q ss is l1 l2) p.ind=.bool E.idn:=by
 cases p with
 |root mk=>show AV.bool _=_;rw[hp.2.1]
 |fq b=>show AV.bool _=_;rw[hp.2]
 |bq b=>rfl
 |fm s=>show AV.bool _=_;rw[hp.2]
 |bm s=>
  show flA _ (Bool.rec (.any 46) ff (s.beq 2))=_;cases q:Nat.beq s 2 with
  |true=>rw[(hp q).2];rfl
  |false=>rfl
def CN:(V 0).val (E.Z P)=E.n:=co _ _
def xq:(V 2).val (E.Z P)=E.line:=co _ _
def sH:(V 4).val (E.Z P)=E.col:=co _ _
def nI:(V 6).val (E.Z P)=E.ind:=co _ _
def kJ:(V 8).val (E.Z P)=E.best:=co _ _
def A8:(V 10).val (E.Z P)=E.lv:=co _ _
def RH:(V 18).val (E.Z P)=E.ln:=co _ _
def xv(i:Nat):flA (fN P E y h z q ss is l1 l2) (lI i)=I ((V i).val (E.Z P)):=rfl
def UT{p:Ps}(hp:p.pre E.col E.ws E.idn):flA (fN P E y h z q ss is l1 l2) p.col=I E.col:=by
 cases p with
 |root mk=>rw[hp.2.2];cases mk<;>rfl
 |_=>show I ((V 4).val (E.Z P))=_;rw[sH]
def Bh{p:Ps}:flA (fN P E y h z q ss is l1 l2) p.indent=p.inV E.ind:=by
 cases p with
 |root mk=>rfl
 |_=>show I ((V 6).val (E.Z P))=_;rw[nI];rfl
def BJ{p:Ps}:p.lvl.val (E.Z P)=p.lvV E.lv:=by
 cases p with
 |fq b=>exact A8
 |fm b=>exact A8
 |_=>rfl
def UV(hs:ss.length≤40000):fC (fN P E y h z q ss is l1 l2) (u9 r 20 (Bool.rec [.any 60] [] r))=.list (i9 r (ss++[l1])):=by
 cases r with
 |true=>rfl
 |false=>exact dk (WZ hs (by decide)) (by show 1≤50000;decide)
def Vd(hs:is.length≤40000):fC (fN P E y h z q ss is l1 l2) (u9 r 21 (Bool.rec [.any 61] [] r))=.list (i9 r (is++[l2])):=by
 cases r with
 |true=>rfl
 |false=>exact dk (WZ hs (by decide)) (by show 1≤50000;decide)
def nP(E:Nd)(p:Ps)(z:Nat→ak)(y:Nat→AV)(q ss is:List AV)(l1 l2 ev:AV):St :=
 lY E.best z E.T E.n (.list q) (.list (i9 p.isRoot (ss++[l1]))) (.list (i9 p.isRoot (is++[l2]))) (y 1) (y 3) ev (p.inV E.ind) (p.lvV E.lv) (I E.line) (I E.col) (.bool E.ws) (.bool E.idn) ff y
def vt{p:Ps}(hp:p.pre E.col E.ws E.idn)(h1:ss.length≤40000)(h2:is.length≤40000):bE (fN P E y h z q ss is l1 l2) (p.P e)=nP E p z y q ss is l1 l2 (flA (fN P E y h z q ss is l1 l2) (d9 e)):=by
 unfold Ps.P;rw[sD,J4 hp,Lr hp,UT hp,Bh,BJ,UV h1,Vd h2,wB,kJ,CN,show SS.val (E.Z P) [.var 0]=E.T from aX _,xv,xq];rfl
def EQ{xs:List AV}(hs:ss.length≤40000)(hx:xs.length≤1):fC (fN P E y h z q ss is l1 l2) (Bool.rec (.spl 20 (.any 60::xs)) (.list xs) r)=.list (Bool.rec (ss++l1::aH (fN P E y h z q ss is l1 l2) xs) (aH (fN P E y h z q ss is l1 l2) xs) r):=by
 cases r with
 |true=>rfl
 |false=>exact dk (b:=l1::aH (fN P E y h z q ss is l1 l2) xs) (WZ hs (by decide)) (by unfold aH;rw[dH,Wr];exact W8 hx (nleT rfl))
def EW{xs:List AV}(hs:is.length≤40000)(hx:xs.length≤1):fC (fN P E y h z q ss is l1 l2) (Bool.rec (.spl 21 (.any 61::xs)) (.list xs) r)=.list (Bool.rec (is++l2::aH (fN P E y h z q ss is l1 l2) xs) (aH (fN P E y h z q ss is l1 l2) xs) r):=by
 cases r with
 |true=>rfl
 |false=>exact dk (b:=l2::aH (fN P E y h z q ss is l1 l2) xs) (WZ hs (by decide)) (by unfold aH;rw[dH,Wr];exact W8 hx (nleT rfl))
def R8(i:Nat)(b:AV):nb i b=.any i∨∃ r,nb i b=.bool r:=by
 cases b<;>first|exact .inl rfl|exact .inr ⟨_,rfl⟩
def FO{φ:cP}{i:Nat}{b:AV}{w:Bool}(h:flA φ (.any i)=.bool w):∃ r,flA φ (nb i b)=.bool r∧(∀ c,nb i b=.bool c→r=c)∧(nb i b=.any i→r=w) :=
 (R8 i b).elim (fun e=>by rw[e];exact⟨w,h,fun c g=>(by injection g),fun _=>rfl⟩) fun h=>h.elim fun r e=>by rw[e];exact⟨r,rfl,fun c g=>(by injection g),fun g=>by injection g⟩
def Aq:∃ r,flA (fN P E y h z q ss is l1 l2) (nb 45 b)=.bool r∧(∀ c,nb 45 b=.bool c→r=c)∧(nb 45 b=.any 45→r=E.ws):=FO rfl
def za:∃ r,flA (fN P E y h z q ss is l1 l2) (nb 46 b)=.bool r∧(∀ c,nb 46 b=.bool c→r=c)∧(nb 46 b=.any 46→r=E.idn):=FO rfl
def C9(hb:aU βN Z)(ha:∀ c,a=.bool c→ws=c)(hi:∀ c,b=.bool c→ind=c)(h:tZ p base col a b=true):p.post (base.val Z) (col.val Z) ws ind:=by
 have F:gG b=true→ind=false:=fun g=>hi _ (dY _ _ g);have or1:(gG b ||ij βN (.int ((col.sub base).sub (.k 1))) 0 1000)=true→ind=false∨base.val Z+1≤col.val Z:=fun g=>by
  rcases X6 g with g|g
  ·exact .inl (F g)
  ·have:=(rf hb g).1
   rw[n5,bH] at this;exact .inr (by lia)
 cases p with
 |root mk=>
  rcases X6 h with g|g
  ·exact .inl (F g)
  ·have:=(rf hb g).1
   rw[bH] at this;exact .inr (XJ this)
 |fq c=>have h:=aw h;exact⟨ha _ (dY _ _ h.1),F h.2⟩
 |fm s=>have h:=aw h;exact⟨ha _ (dY _ _ h.1),F h.2⟩
 |bq c=>exact or1 h
 |bm s=>
  replace h:Bool.rec (motive:=fun _=>Bool) (gG b ||ij βN (.int ((col.sub base).sub (.k 1))) 0 1000) (gG a&&gG b) (s.beq 2)=true:=h;show Bool.rec _ _ (s.beq 2);cases q:Nat.beq s 2 with
  |true=>rw[q] at h;have h:=aw h;exact⟨ha _ (dY _ _ h.1),F h.2⟩
  |false=>rw[q] at h;exact or1 h
def Nd.out(P:Params)(E:Nd)(p:Ps)(e:Ab):ξ:=SS.val (E.Z P) (dR p ei e)
def Nd.lnV(E:Nd)(p:Ps):Int:=Bool.rec E.line E.ln p.wi
def EL:flA (fN P E y h z q ss is l1 l2) (qr p)=I (E.lnV p):=by
 unfold qr Nd.lnV;cases p.wi with
 |true=>rw[xv,RH]
 |false=>rw[xv,xq]
def nQ(P:Params)(E:Nd)(p:Ps)(e:Ab)(z:Nat→ak)(y:Nat→AV)(q ss is:List AV)(l1 l2 ev:AV)(n col:Int)(ws ind:Bool)(y':Nat→AV):St :=
 lY E.best z (E.T++E.out P p e) n (.list q) (.list (i9 p.isRoot (ss++[l1]))) (.list (i9 p.isRoot (is++[l2]))) (y 1) (cL (p.fol e.simple)) ev (p.inV E.ind) (p.lvV E.lv) (I (E.lnV p)) (I col) (.bool ws) (.bool ind) (oI p e) y'
def uG(E:Nd)(p:Ps)(e:Ab)(m:Bool):Int:=Bool.rec (Bool.rec (Bool.rec (E.ind+E.best) E.ind (p.mp&&(!m&&!p.beh e))) 0 p.isRoot) (Bool.rec (E.ind+E.best) E.best p.isRoot) (e.gr p.flow)
def nS(P:Params)(E:Nd)(p:Ps)(e:Ab)(z:Nat→ak)(y:Nat→AV)(q ss is:List AV)(l1 l2 ev:AV)(n col:Int)(ws ind:Bool)(y':Nat→AV):St :=
 lY E.best z (E.T++E.out P p e) n (.list q) (.list (i9 p.isRoot (ss++[l1])++[cL (p.fol e.simple)])) (.list (i9 p.isRoot (is++[l2])++[p.inV E.ind])) (y 1) (cL (tB e.m (e.gr p.flow))) ev (I (uG E p e e.m)) (Bool.rec 0 (p.lvV E.lv+1) (e.gr p.flow)) (I (E.lnV p)) (I col) (.bool ws) (.bool ind) ff y'
def ez(p:Ps):ξ:=Bool.rec [] [Bool.rec 93 125 p.mp] p.flow
def nE(E:Nd)(p:Ps)(z:Nat→ak)(y:Nat→AV)(q ss is:List AV)(l1 l2 ev:AV)(n col:Int)(ws ind:Bool)(y':Nat→AV):St :=
 lY E.best z (E.T++ez p) n (.list q) (.list ss) (.list is) (y 1) l1 ev l2 (Bool.rec 0 (E.lv-1) p.flow) (I E.line) (I col) (.bool ws) (.bool ind) ff y'
def B9{p:Ps}(hp:p.pre E.col E.ws E.idn)(hk:eo e=true):(s9 p e).val (E.Z P)=Bool.rec E.col E.ind p.wi:=by
 have:(Bool.rec (iB p.col) (V 6) p.wi:aD).val (E.Z P)=Bool.rec E.col E.ind p.wi:=by
  cases q:p.wi with
  |true=>exact nI
  |false=>
   clear q;cases p with
   |root mk=>rw[hp.2.2];cases mk<;>rfl
   |_=>exact sH
 cases e with
 |en m=>injection hk
 |_=>exact this
def IR{c:ak}(h:bz e=false):nq M e c:=by
 cases e<;>first|trivial|injection h
def RZ(h1:eo e=true)(h2:bz e=false):yK p e a b c=tZ (p.nx e.simple) (V 6) a b c:=by
 cases e<;>first|rfl|exact Bool.noConfusion h1|exact Bool.noConfusion h2
def Sj(h1:eo e=true)(h2:bz e=false):lS p e J=bB (jc (SS.app [.var 0] (dR p ei e)) (fc J) e.q (kS p 20 60 []) (kS p 21 61 [])) (iQ (cL (p.fol e.simple)) (d9 e) p.indent p.lvl (qr p) (.int (io J)) (jF J) (jG J) (oI p e) (cK J)):=by
 cases e<;>first|rfl|exact Bool.noConfusion h1|exact Bool.noConfusion h2
def Lg:flA (fN P E y h z q ss is l1 l2) (oI p e)=oI p e:=by cases e<;>rfl
def GI(hc:Tj.chk p e=true)(hk:eo e=true∧bz e=false)(g:kF E)(hp:p.pre E.col E.ws E.idn)(h1:ss.length≤40000)(h2:is.length≤40000) :
  ∃ (n col:Int) (ws ind:Bool) (y':Nat→AV),fnIn M.K p.fn=true ∧
   Rz M 295 (nP E p z y q ss is l1 l2 (flA (fN M.Z.P E y h z q ss is l1 l2) (d9 e))) p.fn [.cell 5] .none (nQ M.Z.P E p e z y q ss is l1 l2 (flA (fN M.Z.P E y h z q ss is l1 l2) (d9 e)) n col ws ind y') ∧
   (0≤n-E.n∧n-E.n≤20)∧(0≤col-Bool.rec E.col E.ind p.wi∧col-Bool.rec E.col E.ind p.wi≤12)∧(p.nx e.simple).post E.ind col ws ind:=by
 apply pf (AB (M:=M) hc g (Y:=yq y E.ws E.idn l1 l2) (h:=h) (z:=zq z q ss is) ⟨rfl,rfl⟩ (IR hk.2));intro J f1 R b1 b2 cn;rw[B9 hp hk.1] at b2;apply db (Aq (P:=M.Z.P) (E:=E) (y:=y) (h:=h) (z:=z) (q:=q) (ss:=ss) (is:=is) (l1:=l1) (l2:=l2) (b:=cK J 15));intro ws w1 w2 _;apply db (za (P:=M.Z.P) (E:=E) (y:=y) (h:=h) (z:=z) (q:=q) (ss:=ss) (is:=is) (l1:=l1) (l2:=l2) (b:=cK J 16));intro ind i1 i2 _;rw[RZ hk.1 hk.2] at cn;have po:=C9 (oN (P:=M.Z.P) g) w2 i2 cn;rw[nI] at po;refine⟨_,_,ws,ind,fun i=>flA (fN M.Z.P E y h z q ss is l1 l2) (cK J i),f1,R.cast (vt hp h1 h2) rfl rfl ?_,b1,b2,po⟩;rw[Sj hk.1 hk.2,sD];unfold nQ kS;rw[EQ h1 (by decide),EW h2 (by decide),wB,EL,Bh,BJ,kJ,cE,show SS.val (E.Z M.Z.P) [.var 0]=E.T from aX _,Lg,show flA (fN M.Z.P E y h z q ss is l1 l2) (jF J)=.bool ws from w1,show flA (fN M.Z.P E y h z q ss is l1 l2) (jG J)=.bool ind from i1];cases p.isRoot<;>rfl
end
def uv(E:Nd)(p:Ps)(e:Ab)(col:Int)(ws ind:Bool):Prop:=Bool.rec (ind=false) (Bool.rec (ws=false∧ind=true∧col=E.ind+1) (ws=true∧ind=true∧col=0) p.isRoot) (p.beh e)
section
def Nq(ha:∀ c,a=.bool c→ws=c)(hi:∀ c,b=.bool c→ind=c)(h:vX p e col a b=true):uv E p e (col.val (E.Z P)) ws ind:=by
 unfold vX at h;unfold uv;cases q:p.beh e with
 |false=>rw[q] at h;exact hi _ (dY _ _ h)
 |true=>
  rw[q] at h;cases r:p.isRoot with
  |true=>
   rw[r] at h;have h:=aw h;have h2:=aw h.2;exact⟨ha _ (dY _ _ h.1),hi _ (dY _ _ h2.1),by rw[sB h2.2,bH]⟩
  |false=>
   rw[r] at h;have h:=aw h;have h2:=aw h.2;exact⟨ha _ (dY _ _ h.1),hi _ (dY _ _ h2.1),by rw[sB h2.2,du,bH,nI]⟩
def Qv:flA (fN P E y h z q ss is l1 l2) (Bool.rec (newI p e m) (Bool.rec (.int ((V 6).add (V 8))) (lI 8) p.isRoot) (e.gr p.flow))=I (uG E p e m):=by
 unfold newI uG;cases e.gr p.flow<;>cases p.isRoot<;>cases (p.mp&&(!m&&!p.beh e))
 ·show I (((V 6).add (V 8)).val (E.Z P))=_;rw[du,nI,kJ]
 ·show I ((V 6).val (E.Z P))=_;rw[nI]
 ·rfl
 ·rfl
 ·show I (((V 6).add (V 8)).val (E.Z P))=_;rw[du,nI,kJ]
 ·show I (((V 6).add (V 8)).val (E.Z P))=_;rw[du,nI,kJ]
 ·show I ((V 8).val (E.Z P))=_;rw[kJ]
 ·show I ((V 8).val (E.Z P))=_;rw[kJ]
def Oq(hc:Tj.chk p (.st m fl an ho)=true)(g:kF E)(hp:p.pre E.col E.ws E.idn)(h1:ss.length≤40000)(h2:is.length≤40000)(hq:nq M (.st m fl an ho) (.list q)) :
  ∃ (n col:Int) (ws ind:Bool) (y':Nat→AV),fnIn M.K p.fn=true ∧
   Rz M 295 (nP E p z y q ss is l1 l2 (flA (fN M.Z.P E y h z q ss is l1 l2) (d9 (.st m fl an ho)))) p.fn [.cell 5] .none (nS M.Z.P E p (.st m fl an ho) z y q ss is l1 l2 (flA (fN M.Z.P E y h z q ss is l1 l2) (d9 (.st m fl an ho))) n col ws ind y') ∧
   (0≤n-E.n∧n-E.n≤20)∧(0≤col-Bool.rec E.col E.ind p.wi∧col-Bool.rec E.col E.ind p.wi≤12)∧Bool.rec (uv E p (.st m fl an ho) col ws ind) ((qX m true).post 0 col ws ind) (Ab.gr (.st m fl an ho) p.flow):=by
 apply pf (AB hc g (Y:=yq y E.ws E.idn l1 l2) (z:=zq z q ss is) ⟨rfl,rfl⟩ hq);intro J f1 R b1 b2 cn;rw[B9 hp rfl] at b2;apply db (Aq);intro ws w1 w2 _;apply db (za);intro ind i1 i2 _;have po:Bool.rec (motive:=fun _=>Prop) (uv E p (.st m fl an ho) ((io J).val (E.Z M.Z.P)) ws ind) ((qX m true).post 0 ((io J).val (E.Z M.Z.P)) ws ind) (Ab.gr (.st m fl an ho) p.flow):=by
  replace cn:Bool.rec (motive:=fun _=>Bool) (vX p (.st m fl an ho) (io J) (jF J) (jG J)) (tZ (qX m true) (.k 0) (io J) (jF J) (jG J)) (Ab.gr (.st m fl an ho) p.flow)=true:=cn;cases r:Ab.gr (.st m fl an ho) p.flow with
  |true=>rw[r] at cn;have:=C9 (oN (P:=M.Z.P) g) w2 i2 cn;rw[bH] at this;exact this
  |false=>rw[r] at cn;exact Nq w2 i2 cn
 refine⟨_,_,ws,ind,fun i=>flA (fN M.Z.P E y h z q ss is l1 l2) (cK J i),f1,R.cast (vt hp h1 h2) rfl rfl ?_,b1,b2,po⟩;have lv:(Bool.rec (.k 0) (p.lvl.add (.k 1)) (Ab.gr (.st m fl an ho) p.flow):aD).val (E.Z M.Z.P)=Bool.rec 0 (p.lvV E.lv+1) (Ab.gr (.st m fl an ho) p.flow):=by
  cases Ab.gr (.st m fl an ho) p.flow with
  |true=>rw[du,bH,BJ]
  |false=>exact bH 0
 have e1:lS p (.st m fl an ho) J=bB (jc (SS.app [.var 0] (dR p ei (.st m fl an ho))) (fc J) (Ab.q (.st m fl an ho)) (kS p 20 60 [cL (p.fol (Ab.simple (.st m fl an ho)))]) (kS p 21 61 [p.indent]))
   (iQ (cL (tB m (Ab.gr (.st m fl an ho) p.flow))) (d9 (.st m fl an ho)) (Bool.rec (newI p (.st m fl an ho) m) (Bool.rec (.int ((V 6).add (V 8))) (lI 8) p.isRoot) (Ab.gr (.st m fl an ho) p.flow)) (Bool.rec (.k 0) (p.lvl.add (.k 1)) (Ab.gr (.st m fl an ho) p.flow)) (qr p) (.int (io J)) (jF J) (jG J) ff (cK J)):=rfl
 rw[e1,sD];unfold nS kS;rw[EQ (xs:=[cL (p.fol (Ab.simple (.st m fl an ho)))]) h1 (Wm 1),EW (xs:=[p.indent]) h2 (Wm 1),wB,EL,Qv,lv,kJ,cE,show SS.val (E.Z M.Z.P) [.var 0]=E.T from aX _,show flA (fN M.Z.P E y h z q ss is l1 l2) (jF J)=.bool ws from w1,show flA (fN M.Z.P E y h z q ss is l1 l2) (jG J)=.bool ind from i1,
  show aH (fN M.Z.P E y h z q ss is l1 l2) [p.indent]=[p.inV E.ind] from by show [flA _ p.indent]=_;rw[Bh]]
 cases p.isRoot
 ·show _=lY _ _ _ _ _ (.list ((ss++[l1])++[_])) (.list ((is++[l2])++[_])) _ _ _ _ _ _ _ _ _ _ _
  rw[XW,XW];rfl
 ·rfl
def Tg(hc:Tj.chk p (.en m)=true)(hr:p.isRoot=false)(g:kF E)(hp:p.pre E.col E.ws E.idn)(h1:ss.length≤40000)(h2:is.length≤40000) :
  ∃ (n col:Int) (ws ind:Bool) (y':Nat→AV),fnIn M.K p.fn=true ∧
   Rz M 295 (nP E p z y q ss is l1 l2 (flA (fN M.Z.P E y h z q ss is l1 l2) (d9 (.en m)))) p.fn [.cell 5] .none (nE E p z y q ss is l1 l2 (flA (fN M.Z.P E y h z q ss is l1 l2) (d9 (.en m))) n col ws ind y') ∧
   (0≤n-E.n∧n-E.n≤20)∧(0≤col-E.col∧col-E.col≤12)∧Bool.rec (ws=E.ws∧ind=E.idn∧col=E.col) (ws=false∧ind=false) p.flow:=by
 apply pf (AB hc g (Y:=yq y E.ws E.idn l1 l2) ⟨rfl,rfl⟩ trivial);intro J f1 R b1 b2 cn;have eb:(s9 p (.en m)).val (E.Z M.Z.P)=E.col:=by
  cases p with
  |root mk=>injection hr
  |_=>exact sH
 rw[eb] at b2;apply db (Aq);intro ws w1 w2 w3;apply db (za);intro ind i1 i2 i3;have po:Bool.rec (motive:=fun _=>Prop) (ws=E.ws∧ind=E.idn∧(io J).val (E.Z M.Z.P)=E.col) (ws=false∧ind=false) p.flow:=by
  replace cn:Bool.rec (motive:=fun _=>Bool) (c7 (jF J) (.any 45)&&(c7 (jG J) (.any 46)&&kZ (io J) (V 4))) (gG (jF J)&&gG (jG J)) p.flow=true:=cn;cases r:p.flow with
  |true=>rw[r] at cn;have h:=aw cn;exact⟨w2 _ (dY _ _ h.1),i2 _ (dY _ _ h.2)⟩
  |false=>rw[r] at cn;have h:=aw cn;have h':=aw h.2;exact⟨w3 (dY _ _ h.1),i3 (dY _ _ h'.1),by rw[sB h'.2,sH]⟩
 refine⟨_,_,ws,ind,fun i=>flA (fN M.Z.P E y h z q ss is l1 l2) (cK J i),f1,R.cast (vt hp h1 h2) rfl rfl ?_,b1,b2,po⟩;have e1:lS p (.en m) J=bB (jc (SS.app [.var 0] (Bool.rec [] (dy (Bool.rec 93 125 p.mp)) p.flow)) (fc J) (Ab.q (.en m)) (.spl 20 []) (.spl 21 [])) (iQ (.any 60) (d9 (.en m)) (.any 61) (Bool.rec (.k 0) ((V 10).add (.k (-1))) p.flow) (lI 2) (.int (io J)) (jF J) (jG J) ff (cK J)):=rfl;have lv:(Bool.rec (.k 0) ((V 10).add (.k (-1))) p.flow:aD).val (E.Z M.Z.P)=Bool.rec 0 (E.lv-1) p.flow:=by
  cases p.flow with
  |true=>rw[du,bH,A8];rfl
  |false=>exact bH 0
 have tx:SS.val (E.Z M.Z.P) (Bool.rec [] (dy (Bool.rec 93 125 p.mp)) p.flow)=ez p:=by unfold ez;cases p.flow<;>rfl
 have s1:fC (fN M.Z.P E y h z q ss is l1 l2) (.spl 20 [])=.list ss:=(dk (b:=[]) (WZ h1 (by decide)) (by decide)).trans (by rw[aX]);have s2:fC (fN M.Z.P E y h z q ss is l1 l2) (.spl 21 [])=.list is:=(dk (b:=[]) (WZ h2 (by decide)) (by decide)).trans (by rw[aX]);rw[e1,sD];rw[s1,s2,wB,lv,kJ,cE,tx,show SS.val (E.Z M.Z.P) [.var 0]=E.T from aX _,xv,xq,show flA (fN M.Z.P E y h z q ss is l1 l2) (jF J)=.bool ws from w1,show flA (fN M.Z.P E y h z q ss is l1 l2) (jG J)=.bool ind from i1];rfl
end
def xV(c:Nat→ak)(x:Nat→AV)(T:ξ)(n:Int):St:=bB (tO c 3 [some (.inst 771 [(ir,.cell 4)]),some (.rows (.k T) (.k n))]) (tO x 0 [some (.cell 3)])
def Hd:bE (am Z v z) (lJ T J)=xV (fun i=>fC (am Z v z) (gU J i)) (fun i=>flA (am Z v z) (cK J i)) (T.val Z) ((fc J).val Z):=rfl
section
def SF{p:Ps}(hf:yl E Y):(p.fr.all fun i=>iU (vW Y h i))=true:=by
 have two:=by
  show (iU (vW Y h (30+15))&&(iU (vW Y h (30+16))&&true))=true;rw[rK,rK,hf.ws,hf.ind];rfl
 cases p with
 |bq b=>rfl
 |bm s=>
  show ((Bool.rec [] [45,46] (s.beq 2):ξ).all fun i=>iU (vW Y h i))=true;cases s.beq 2
  ·rfl
  ·exact two
 |_=>exact two
def U0(hc:Xj.chk p e=true)(hs:bz e=false)(g:kF E)(hp:p.pre E.col E.ws E.idn)(h1:ss.length≤40000)(h2:is.length≤40000) :
  ∃ (n:Int) (c:Nat→ak) (x:Nat→AV),fnIn M.K p.fn=true ∧
   fg false M 300 (nP E p z y q ss is l1 l2 (flA (fN M.Z.P E y h z q ss is l1 l2) (d9 e))) p.fn [.cell 5] [] (xV c x (E.T++SS.val (E.Z M.Z.P) (p.lead ei e.simple).t) n):=by
 have h0:=aw hc;have h45:=h0.1;have hx:=h0.2;cases r:Bk p.fr (p.P e) p.fn with
 |none=>rw[r] at hx;injection hx
 |some J=>
  rw[r] at hx;have k1:=aw hx;have ck:(ie.mk βN (nr βN) 9 p.fr (p.P e) p.fn [.cell 5] (lJ (SS.app [.var 0] (p.lead ei e.simple).t) J)).chk=true:=by
   show ((match Bk p.fr (p.P e) p.fn with|some J'=>gI J' (lJ (SS.app [.var 0] (p.lead ei e.simple).t) J)|none=>false)&&_)=true;rw[r];exact Wp.mpr ⟨k1.1,k1.2⟩
  have R:=GS (v:=vW (yq y E.ws E.idn l1 l2) h) (z:=zq z q ss is) (Z:=E.Z M.Z.P) rfl (fR _ _ _) (ie.mk βN (nr βN) 9 p.fr (p.P e) p.fn [.cell 5] (lJ (SS.app [.var 0] (p.lead ei e.simple).t) J)) (oN g) (by decide) (fun ov cv fk=>G8 g ⟨rfl,rfl⟩ h45 fk) (SF ⟨rfl,rfl⟩)
   (H7 (by clear hc h0 h45 hx r k1 ck;cases e<;>first|trivial|exact Bool.noConfusion hs)) ck
  refine⟨(fc J).val (E.Z M.Z.P),fun i=>fC (fN M.Z.P E y h z q ss is l1 l2) (gU J i),fun i=>flA (fN M.Z.P E y h z q ss is l1 l2) (cK J i),R.1,?_⟩;have R2:=R.2;rw[vt hp h1 h2,Hd,cE,show SS.val (E.Z M.Z.P) [.var 0]=E.T from aX _] at R2;exact R2
end
noncomputable def AA(e:Ad):Addr:=match e with|.ss=>373|.se=>366|.ds _ _=>395|_=>381
def mG(p:Pd)(e:Ad):Ps:=.root (match e with|.ds _ _=>dO p e|_=>false)
def uP(p:Pd)(e:Ad):AV:=match e with|.de f=>Bool.rec p.oe ff f|_=>ff
noncomputable def BC(e:Ad):Bool:=match e with|.ot _=>true|_=>false
section
def dP(E:Nd)(z:Nat→ak)(y:Nat→AV)(q:ak)(ev col ws ind oe:AV):St:=lY E.best z E.T E.n q (.list []) (.list []) (y 1) (y 3) ev .none 0 (I E.line) col ws ind oe y
def dQ(P:Params)(E:Nd)(p:Pd)(e:Ad)(z:Nat→ak)(y:Nat→AV)(q:ak)(ev:AV)(n line:Int)(y':Nat→AV):St :=
 lY E.best z (E.T++SS.val (E.Z P) (eI p e)) n q (.list []) (.list []) (y 1) (cL (AA e)) ev .none 0 (I line) (mG p e).col (mG p e).ws (mG p e).ind (uP p e) y'
def Fc{p:Pd}:flA φ p.oe=p.oe:=by cases p<;>rfl
def GL{p:Pd}:bE (am (E.Z P) (vW y h) z) (p.P e)=dP E z y (fC (am (E.Z P) (vW y h) z) e.q) (flA (am (E.Z P) (vW y h) z) (js e)) (flA (am (E.Z P) (vW y h) z) p.col) (flA (am (E.Z P) (vW y h) z) p.ws) (flA (am (E.Z P) (vW y h) z) p.ind) p.oe:=by
 unfold Pd.P;rw[sD,Fc,kJ,CN,show SS.val (E.Z P) [.var 0]=E.T from aX _,show flA (am (E.Z P) (vW y h) z) (lI 2)=I ((V 2).val (E.Z P)) from rfl,xq];rfl
def EX{p:Pd}{e:Ad}(hq:oW M φ e.q):kB M φ (p.P e):=fun x hx=>by
 unfold Pd.P bB at hx;simp only [Xf,WA,or_false] at hx;rcases hx with rfl|rfl|rfl|rfl|rfl|rfl|rfl|rfl|rfl|rfl
 ·trivial
 ·trivial
 ·trivial
 ·trivial
 ·trivial
 ·trivial
 ·trivial
 ·exact hq
 ·trivial
 ·trivial
def IW:flA (am Z v z) (uP p e)=uP p e:=by
 cases e with
 |de f=>cases f<;>first|exact Fc|rfl
 |_=>rfl
def NN(h:BC e=false):oP p e (fc J) (iB (cK J 13)) (cK J)=bB (jc (SS.app [.var 0] (eI p e)) (fc J) e.q (.list []) (.list [])) (iQ (cL (AA e)) (js e) .none (.k 0) (.int (iB (cK J 13))) (mG p e).col (mG p e).ws (mG p e).ind (uP p e) (cK J)):=by
 cases e with
 |ot C=>injection h
 |_=>rfl
def UA(hc:Dj.chk p e=true)(ho:BC e=false)(g:kF E)(hq:oW M (am (E.Z M.Z.P) (vW y h) z) e.q) :
  ∃ (n line:Int) (y':Nat→AV),fnIn M.K p.fn=true ∧
   Rz M 295 (dP E z y (fC (am (E.Z M.Z.P) (vW y h) z) e.q) (flA (am (E.Z M.Z.P) (vW y h) z) (js e)) (flA (am (E.Z M.Z.P) (vW y h) z) p.col) (flA (am (E.Z M.Z.P) (vW y h) z) p.ws) (flA (am (E.Z M.Z.P) (vW y h) z) p.ind) p.oe) p.fn [.cell 5] .none
    (dQ M.Z.P E p e z y (fC (am (E.Z M.Z.P) (vW y h) z) e.q) (flA (am (E.Z M.Z.P) (vW y h) z) (js e)) n line y')∧(0≤n-E.n∧n-E.n≤20)∧(0≤line-E.line∧line-E.line≤20):=by
 unfold Dj.chk at hc;cases r:yN p e with
 |none=>rw[r] at hc;injection hc
 |some rs=>
  obtain⟨v,J⟩:=rs;rw[r] at hc;have h1:=aw hc;have h2:=aw h1.2;have h3:=aw h2.2;have h4:=aw h3.2;have hb:=oN (P:=M.Z.P) g;have ck:(fM.mk βN aq 9 [] (p.P e) p.fn [.cell 5] .none (oP p e (fc J) (iB (cK J 13)) (cK J))).chk=true:=by
   show ((match yN p e with|some (r,J')=>c7 r .none&&gI J' (oP p e (fc J) (iB (cK J 13)) (cK J))|none=>false)&&_)=true;rw[r];exact Wp.mpr ⟨Wp.mpr ⟨h1.1,h2.1⟩,h3.1⟩
  have R:=rd (b:=0) (Z:=E.Z M.Z.P) rfl (fR _ _ _) (fM.mk βN aq 9 [] (p.P e) p.fn [.cell 5] .none (oP p e (fc J) (iB (cK J 13)) (cK J))) hb (fun _ _ _=>lX) rfl (EX hq) ck;have i1:=rf hb h4.1;have i2:=rf hb h4.2;rw[co] at i1 i2;refine⟨(fc J).val (E.Z M.Z.P),(iB (cK J 13)).val (E.Z M.Z.P),fun i=>flA (am (E.Z M.Z.P) (vW y h) z) (cK J i),R.1,?_,i1,i2⟩;have R2:Rz M 295 (bE (am (E.Z M.Z.P) (vW y h) z) (p.P e)) p.fn [.cell 5] .none (bE (am (E.Z M.Z.P) (vW y h) z) (oP p e (fc J) (iB (cK J 13)) (cK J))):=⟨bV.le (by show 10*9+0+25≤295;decide) R.2.h⟩;refine R2.cast GL rfl rfl ?_;have c1:∀ b,flA (am (E.Z M.Z.P) (vW y h) z) (Ps.root b).col=(Ps.root b).col:=fun b=>by cases b<;>rfl
  rw[NN ho,sD,IW,kJ,cE,show SS.val (E.Z M.Z.P) [.var 0]=E.T from aX _,show (mG p e).col=(Ps.root _).col from rfl,c1];rfl
def Jy(hc:Xd.chk p C=true)(g:kF E) :
  ∃ (n:Int) (c:Nat→ak) (x:Nat→AV),fnIn M.K p.fn=true ∧
   fg false M 300 (dP E z y (z 7) (flA (am (E.Z M.Z.P) (vW y h) z) (js (.ot C))) (flA (am (E.Z M.Z.P) (vW y h) z) p.col) (flA (am (E.Z M.Z.P) (vW y h) z) p.ws) (flA (am (E.Z M.Z.P) (vW y h) z) p.ind) p.oe) p.fn [.cell 5] [] (xV c x E.T n):=by
 unfold Xd.chk yU at hc;cases r:(ie.mk βN aq 9 [] (p.P (.ot C)) p.fn [.cell 5] []).run with
 |none=>rw[r] at hc;injection hc
 |some J=>
  rw[r] at hc;have k1:=aw hc;have ck:(ie.mk βN aq 9 [] (p.P (.ot C)) p.fn [.cell 5] (lJ [.var 0] J)).chk=true:=by
   show ((match (ie.mk βN aq 9 [] (p.P (.ot C)) p.fn [.cell 5] []).run with|some J'=>gI J' (lJ [.var 0] J)|none=>false)&&_)=true;rw[r];exact Wp.mpr ⟨k1.1,k1.2⟩
  have R:=GS (v:=vW y h) (z:=z) (b:=140) (Z:=E.Z M.Z.P) rfl (fR _ _ _) (ie.mk βN aq 9 [] (p.P (.ot C)) p.fn [.cell 5] (lJ [.var 0] J)) (oN g) (by decide) (fun _ _ _=>lX) rfl (EX trivial) ck;refine⟨(fc J).val (E.Z M.Z.P),fun i=>fC (am (E.Z M.Z.P) (vW y h) z) (gU J i),fun i=>flA (am (E.Z M.Z.P) (vW y h) z) (cK J i),R.1,?_⟩;have R2:fg false M 260 (bE (am (E.Z M.Z.P) (vW y h) z) (p.P (.ot C))) p.fn [.cell 5] [] (bE (am (E.Z M.Z.P) (vW y h) z) (lJ [.var 0] J)):=R.2;rw[GL,Hd,show SS.val (E.Z M.Z.P) [.var 0]=E.T from aX _] at R2;exact R2.le (by decide)
end
def AP(k:Nat):AV:=.tup [I 4,.any 20,km (jm k).an,.str (Bool.rec [] [.var 6] (jm k).w),.any 23]
def Ad.nx(e:Ad):AV:=match e with
 |.ds _ k=>Bool.rec (Bool.rec (AP k) (.tup [lI 14,.any 20,.any 21,.any 22,.any 23]) (k.beq 1)) (.any 24) (k.beq 0)
 |_=>.any 24
def knd(e:Ad):Nat:=match e with|.ss=>0|.se=>1|.ds _ _=>2|.de _=>3|.ot C=>ey [133,145,165,185,217,197,229,241,253,265] C
noncomputable def t8(e:Ad):AV:=match e with|.ds f _=>.bool f|.de f=>.bool f|_=>.any 17
noncomputable def zu(p:Pd):Nat:=match p with|.d0=>0|.d1 _ _=>1|.d3 _ _=>3|.d4=>4
def nM(p:Pd)(e:Ad):List (Str×AV):=[(bu,.cell 0),(bZ,lI 8),(c9,.cell 1),(hH,.cell 2),(hK,I (zu p)),(ge,match p with|.d1 f _=>.bool f|_=>.any 10),(gT,.any 11),(g7,match p with|.d1 _ o=>.bool o|.d3 _ o=>.bool o|_=>.any 12),(cX,.any 13),
 (jI,I (knd e)),(mw,t8 e),(dh,.any 18),(ml,.any 14),(gi,.any 15),(rU,e.nx)]
noncomputable def AJ:St:=[.any 0,.spl 1 [],.list []]
def βD(lo:Bool):Bd:=[(0,0),(0,0),(0,0),(0,0),(0,0),(0,0),(0,900),(0,0),(2,9),(0,0),(0,0),(0,0),(0,0),(1,3),Bool.rec (5,20) (0,3) lo]
noncomputable def py(e:Ad):Nat:=match e with|.se=>4|.ds _ _=>2|_=>1
def dJ(lo:Bool)(p:Pd)(e:Ad):jT where
 B:=βD lo
 sp:=aq
 d:=6
 fr:=[]
 ls:=⟨nM p e,aI⟩
 P:=AJ
 ss:=gg
 f:=.next
 k:=9
 out:=[(bu,.cell 0),(bZ,lI 8),(c9,.cell 1),(hH,.cell 2),(hK,I (py e)),(ge,match p with|.d1 f _=>(match e with|.ds _ _=>ff|_=>.bool f)|_=>.any 10),(gT,match e with|.ds _ _=>.bool (dO p e)|_=>.any 11),
  (g7,match p with|.d1 _ o=>.bool o|.d3 _ o=>.bool (o&&match e with|.de f=>!f|_=>true)|_=>.any 12),(cX,.any 13)]
 Q:=[.any 0,.spl 1 [.str (eI p e)],.list []]
def dX(p:Pd)(C:Addr):jT where
 B:=βD true
 sp:=aq
 d:=6
 fr:=[]
 ls:=⟨nM p (.ot C),aI⟩
 P:=AJ
 ss:=gg
 f:=.ret (.tup [.cell 1,.str []])
 k:=0
 out:=[]
 Q:=AJ
def Q0:(sz.all fun q=>(dJ true q.1 q.2).chk&&(dJ false q.1 q.2).chk)=true:=by kernel_rfl
def K7:(tF.all fun q=>(dX q.1 q.2).chk)=true:=by kernel_rfl
def OC:iF (.root true)=true:=by kernel_rfl
def QF:iF (.root false)=true:=by kernel_rfl
def SU:iF (.fq false)=true:=by kernel_rfl
def N6:iF (.fq true)=true:=by kernel_rfl
def U8:iF (.bq false)=true:=by kernel_rfl
def NY:iF (.bq true)=true:=by kernel_rfl
def Vz:iF (.fm 0)=true:=by kernel_rfl
def I6:iF (.fm 1)=true:=by kernel_rfl
def Jq:iF (.fm 2)=true:=by kernel_rfl
def NQ:iF (.fm 3)=true:=by kernel_rfl
def Rf:iF (.bm 0)=true:=by kernel_rfl
def Ms:iF (.bm 1)=true:=by kernel_rfl
def Pv:iF (.bm 2)=true:=by kernel_rfl
def NS:iF (.bm 3)=true:=by kernel_rfl
def NT:(L9.all fun q=>(rE q.1 q.2.1 q.2.2).chk)=true:=by kernel_rfl
def I3:(OD.all fun q=>(rX q.1 q.2).chk)=true:=by kernel_rfl
def Nx:((iE (.root true)).all (Tj.chk (.root true)))=true:=by kernel_rfl
def JT:((iE (.root false)).all (Tj.chk (.root false)))=true:=by kernel_rfl
def KI:((iE (.fq false)).all (Tj.chk (.fq false)))=true:=by kernel_rfl
def M3:((iE (.fq true)).all (Tj.chk (.fq true)))=true:=by kernel_rfl
def TB:((iE (.bq false)).all (Tj.chk (.bq false)))=true:=by kernel_rfl
def Qg:((iE (.bq true)).all (Tj.chk (.bq true)))=true:=by kernel_rfl
def PU:((iE (.fm 0)).all (Tj.chk (.fm 0)))=true:=by kernel_rfl
def Pt:((iE (.fm 1)).all (Tj.chk (.fm 1)))=true:=by kernel_rfl
def Qb:((iE (.fm 2)).all (Tj.chk (.fm 2)))=true:=by kernel_rfl
def MR:((iE (.fm 3)).all (Tj.chk (.fm 3)))=true:=by kernel_rfl
def JX:((iE (.bm 0)).all (Tj.chk (.bm 0)))=true:=by kernel_rfl
def JA:((iE (.bm 1)).all (Tj.chk (.bm 1)))=true:=by kernel_rfl
def Kx:((iE (.bm 2)).all (Tj.chk (.bm 2)))=true:=by kernel_rfl
def IX:((iE (.bm 3)).all (Tj.chk (.bm 3)))=true:=by kernel_rfl
def tX:(JK.all fun q=>Xj.chk q.1 q.2)=true:=by kernel_rfl
def tD:(sz.all fun q=>Dj.chk q.1 q.2)=true:=by kernel_rfl
def Mj:(tF.all fun q=>Xd.chk q.1 q.2)=true:=by kernel_rfl
def pZ(k:Nat)(cs cs':List CC):Prop:=∀ i a,i<k→ao (ae cs) i=some a→ao (ae cs') i=some a
def pZ.trans(h:pZ k a b)(g:pZ k b c):pZ k a c:=fun i x hi hx=>g i x hi (h i x hi hx)
structure Gk (M:aF) (n k:Nat) (t:Cx→Sem Flow) (ls:ac) (J:St) (f:Fl) (ls':ac) (J':St):Prop where
 h:∀ {c A s m imm cs} {Q:Flow→χ→Prop} {E:Θ},aR M c A n→bL c ls→ai M c.h₀ c.L s.heap m ls.v J imm cs →
  (∀ h' tk m' imm' cs' fl,ai M c.h₀ c.L h' m' ls'.v J' imm' cs'→bL c ls'→(∀ p∈imm,p∈imm')→pZ k cs cs'→FR M imm' cs' fl f→Q fl (sU s h' tk))→wpAny (model ar M.w) A (t c) Q E s
section
def Dz.gk(H:Dz M n t ls J f ls' J'):Gk M n k t ls J f ls' J':=⟨by
 intro c A s m imm cs Q E C l R q;exact H.h C l R fun h' tk m' imm' cs' fl R' l' x' f'=>q h' tk m' imm' cs' fl R' l' x'.i (fun i a _ h=>x'.r i a h) f'⟩
def Gk.dz(hk:lenA J≤k)(H:Gk M n k t ls J f ls' J'):Dz M n t ls J f ls' J':=⟨by
 intro c A s m imm cs Q E C l R q;refine H.h C l R fun h' tk m' imm' cs' fl R' l' x' y' f'=>q h' tk m' imm' cs' fl R' l' ⟨x',fun i a h=>y' i a ?_ h⟩ f';have:=vp h;unfold ae at this;rw[Wr,R.C.len,←aZ] at this;exact Xa this hk⟩
def Gk.nil:Gk M n k (fun c=>execs [] c.env) ls J .next ls J:=Dz.gk Dz.nil
def Gk.cons{st:Stmt}{r:List Stmt}{ls ls1 ls2:ac}{J σ1 σ2:St}{f:Fl}(h1:Gk M n k (fun c=>exec st c.env) ls J .next ls1 σ1)(h2:Gk M n k (fun c=>execs r c.env) ls1 σ1 f ls2 σ2):Gk M n k (fun c=>execs (st::r) c.env) ls J f ls2 σ2:=⟨by
 intro c A s m imm cs Q E C l Rp q;refine WX (h1.h C l Rp fun hx tx mx ix cx fl Rx lx xx yx fx=>?_);(obtain e:_=_:=FR.inv fx;clear fx;subst e);exact h2.h C lx Rx fun h2 t2 m2 i2 c2 fl R2 l2 x2 y2 f2=>q h2 t2 m2 i2 c2 fl R2 l2 (fun p hp=>x2 p (xx p hp)) (yx.trans y2) f2⟩
def Gk.append(h1:Gk M n k (fun c=>execs a c.env) ls J .next ls1 σ1)(h2:Gk M n k (fun c=>execs b c.env) ls1 σ1 f ls2 σ2):Gk M n k (fun c=>execs (a++b) c.env) ls J f ls2 σ2:=⟨by
 intro c A s m imm cs Q E C l Rp q;rw[qL];refine Wg (h1.h C l Rp fun hx tx mx ix cx fl Rx lx xx yx fx=>?_);(obtain e:_=_:=FR.inv fx;clear fx;subst e);exact h2.h C lx Rx fun h2 t2 m2 i2 c2 fl R2 l2 x2 y2 f2=>q h2 t2 m2 i2 c2 fl R2 l2 (fun p hp=>x2 p (xx p hp)) (yx.trans y2) f2⟩
def Gk.ret{st:Stmt}{r:List Stmt}{ls ls1:ac}{J σ1:St}{v:AV}(h1:Gk M n k (fun c=>exec st c.env) ls J (.ret v) ls1 σ1):Gk M n k (fun c=>execs (st::r) c.env) ls J (.ret v) ls1 σ1:=⟨by
 intro c A s m imm cs Q E C l Rp q;refine WX (h1.h C l Rp fun hx tx mx ix cx fl Rx lx xx yx fx=>?_);apply af (FR.inv fx);intro x e hv;clear fx;subst e;exact q hx tx mx ix cx _ Rx lx xx yx (.ret hv)⟩
def Gk.le(hn:n'≤n)(H:Gk M n' k t ls J f ls' J'):Gk M n k t ls J f ls' J':=⟨fun C=>H.h (C.le hn)⟩
def Ec(k:Nat)(idx:ξ):Bool:=List.rec (motive:=fun _=>Nat→Nat→Bool) (fun _ m=>m.beq 0) (fun i _ ih j m=>Nat.rec true (fun m _=>i.beq j&&ih (j+1) m) m) idx 0 k
def Iy:∀ {j m:Nat},List.rec (motive:=fun _=>Nat→Nat→Bool) (fun _ m=>m.beq 0) (fun i _ ih j m=>Nat.rec true (fun m _=>i.beq j&&ih (j+1) m) m) idx j m=true→∀ i,i<m→ao idx i=some (j+i):=by
 induction idx with
 |nil=>intro j m h i hi;have eq9:=aJ h;subst eq9;exact absurd hi (Nat.not_lt_zero _)
 |cons a r ih=>
  intro j m h i hi;cases m with
  |zero=>exact absurd hi (Nat.not_lt_zero _)
  |succ m=>
   have h:=aw h;cases i with
   |zero=>rw[aJ h.1];rfl
   |succ i=>
    show ao r i=_;rw[ih h.2 i (Nat.lt_of_succ_lt_succ hi)];exact congrArg some (Xo _ _ _)
def Gk.pick{ls ls' ls1:ac}(hk:Ec k idx=true)(hs1:ls1.sc=ls.sc)(hs:∀ x v,lk x ls1.v=some v→lk x ls'.v=some v)(ok:nT idx ls1.v J'=true)(H:Gk M n k t ls J .next ls' J') :
  Gk M n k t ls J .next ⟨fQ (bA idx) ls1.v,ls1.sc⟩ (ig idx J'):=⟨by
 intro c A s m imm cs Q E C l R q;refine H.h C l R fun h' tk m' imm' cs' fl R' l' x' y' f'=>?_;(obtain e:_=_:=FR.inv f';clear f';subst e);refine q h' tk m' imm' _ _ (R'.pick hs ok) ⟨hs1▸l.sc,fun x v hx=>?_,l'.nd⟩ x' (fun i a hi ha=>?_) .next
 ·replace hx:=hx
  rw[rz] at hx;cases q:lk x ls1.v with
  |none=>rw[q] at hx;injection hx
  |some u=>exact l'.lo x u (hs x u q)
 ·have h1:=y' i a hi ha
  have h2:=Iy hk i hi;rw[XS] at h2;unfold ae at h1 ⊢;have h3:=vp h1;rw[Wr] at h3;rw[ph,ph,h2];rw[ph,we h3] at h1;exact h1⟩
end
noncomputable def yy(x:AV):Bool:=match x with|.none=>true|.bool _=>true|.int _=>true|.str _=>true|_=>false
noncomputable def nC(r i:Nat):Bool:=Nat.ble 100 i&&i.blt (100+r)
def tj(a r i:Nat):AV:=Bool.rec (.any i) (.cell (a+(i-100))) (nC r i)
def dS(a r:Nat):cP:=⟨id,id,tj a r,.any,id⟩
def sZ(cs:List CC)(i:Nat):π:=.ref ((ao (ae cs) i).getD 0)
def rO(ov:Nat→π)(cs:List CC)(i:Nat):π:=Bool.rec (ov i) (sZ cs (i-100)) (nC cs.length i)
def nh{α:Type}(l r:List α)(j:Nat):ao (l++r) (l.length+j)=ao r j:=by
 rw[cJ,cJ,List.getElem?_append_right (W0 ..),WD]
def aN.appE:∀ {cs:List CC},aN M imm ρ cs (J++τ)→∃ c d,cs=c++d∧aN M imm ρ c J∧aN M imm ρ d τ:=by
 induction J with
 |nil=>exact fun h=>⟨[],_,rfl,.nil,h⟩
 |cons x r ih=>
  intro cs h;cases h with|cons a b=>
  apply cD (ih b);intro c d e h1 h2;exact⟨_::c,d,congrArg _ e,.cons a h1,h2⟩
def aN.appI(h:aN M imm ρ c J)(g:aN M imm ρ d τ):aN M imm ρ (c++d) (J++τ):=by
 induction h with
 |nil=>exact g
 |cons a _ ih=>exact .cons a ih
section
def VR.pl(hx:yy x=true)(h:VR M imm ρ v x):VR M imm' ρ' v x:=by
 induction x using AV.casesOn with
 |none=>exact h.inv▸.none
 |bool b=>exact h.inv▸.bool b
 |int l=>apply bn h.inv;intro t e0;clear h;subst e0;exact .int rfl
 |str s=>apply db h.inv;intro t e0 a b;clear h;subst e0;exact .str rfl a b
 |_=>injection hx
def aj.pl{xs:List AV}(hx:xs.all yy=true):∀ {vs:List π},aj M imm ρ vs xs→aj M imm' ρ' vs xs:=by
 induction xs with
 |nil=>exact fun h=>by have eq9:=h.inv;subst eq9;exact .nil
 |cons x r ih=>
  intro vs h;replace hx:=aw hx;apply cD h.inv;intro _ _ e0 a b;clear h;subst e0;exact .cons (a.pl hx.1) (ih hx.2 b)
def yv(x:ak):Bool:=match x with|.list xs=>xs.all yy|_=>false
def aN.pl{R:St}(hR:R.all yv=true):∀ {cs:List CC},aN M imm ρ cs R→aN M imm' ρ' cs R∧∀ q∈aQ cs,cF q.2=true:=by
 induction R with
 |nil=>intro cs h;cases h;exact⟨.nil,fun q hq=>absurd hq WA⟩
 |cons x r ih=>
  intro cs h;replace hR:=aw hR;cases h with|cons a b=>
  apply ay (ih hR.2 b);intro h1 h2;cases x with
  |list xs=>
   apply dj a.list_inv;intro ad vs m e0 g1 g2;clear a;subst e0;refine⟨.cons (.list (g1.pl hR.1) g2) h1,fun q hq=>?_⟩;rcases cI hq with rfl|hq
   ·dsimp only [cF,PySem.W.listOf];decide
   ·exact h2 q hq
  |_=>injection hR.1
def HL(a r:Nat):gD M [] M.Z (dS a r):=⟨⟨rfl,M.he⟩,fun U U h=>(by injection h),fun U=>rfl,fun U=>rfl,fun U h=>h⟩
def G0(h:ni M imm (ae (cA++cR)) (tj cA.length cR.length) as):ky (rO M.Z.ov cR) as:=fun p hp=>by
 have g:=h p hp;show Bool.rec (motive:=fun _=>π) _ _ (nC cR.length p.1)=_;unfold tj at g;cases q:nC cR.length p.1 with
 |true=>
  rw[q] at g;apply af (VR.cell_inv g);intro ad e1 e2;have hl:(ae cA).length=cA.length:=Wr ..;rw[ku,←hl,nh] at e2;unfold sZ;rw[e2,e1];rfl
 |false=>rw[q] at g;exact g.inv
end
section
def Gk.frame{A A' R:St}{ls ls':ac}(hk:k≤A.length)(hR:R.all yv=true)(okA:fH A.length A=true)(okL:∀ x v,lk x ls.v=some v→d6 A.length v=true)(nl:nV ls.v=true)
  (gA:(fG A).all (dD [])=true) (gL:(dK ls.v).all (dD [])=true) (gh:A.all xR=true) (H:∀ ov,Gk (M.wE M.Z ⟨rfl,M.he⟩ ov M.Z.cv) n k t ls A f ls' A') :
  Gk M n k t (b6 (dS A.length R.length) ls) (bE (dS A.length R.length) A++R) (fF (dS A'.length R.length) f) (b6 (dS A'.length R.length) ls') (bE (dS A'.length R.length) A'++R):=⟨by
 intro c Yb s m imm cs Q E C l Rp q;apply cD (aN.appE Rp.C);intro cA cR e0 hA hRr;subst e0;have lA:=by have:=hA.len;unfold bE at this;rw[Wr] at this;exact this
 have lR:=hRr.len;rw[←lA,←lR] at hA;have F:=HL (M:=M) cA.length cR.length;apply m7 (aN.dn F rfl A (re gh) hA gA);intro as ca _ s1 _ s2 t1;have l0:tY M imm (ae (cA++cR)) m (fQ (dS cA.length cR.length) ls.v):=by rw[lA,lR];exact Rp.l
 apply db (BZ F rfl ls.v nl l0 gL);intro bs _ s3 t2;have tc:=fun p hp=>(s2 p hp).inv;have DA:=t1 (rO M.Z.ov cR) M.Z.cv (G0 s1) tc;have DL:=t2 (rO M.Z.ov cR) M.Z.cv (G0 s3);have hr:∀ j a,j<A.length→ao (ae (cA++cR)) j=some a→ao (ae cA) j=some a:=fun j a hj ha=>by
  rw[ku,cJ,List.getElem?_append_left (by unfold ae;rw[Wr,lA];exact hj)] at ha;rw[cJ];exact ha
 have up1:∀ p∈imm,p∈imm++aQ cR:=fun p hp=>aK _ hp;have DA2:=(aN.few hr okA DA).mono up1 fun U U h=>h;have pl:=aN.pl (imm':=imm) (ρ':=ae (cA++cR)) hR hRr;have nd:=Rp.nd;rw[jJ] at nd;have nd1:((imm++aQ cR++aQ cA).map Prod.fst).Nodup:=by
  rw[bP];refine(List.Perm.map Prod.fst (List.Perm.append_left imm List.perm_append_comm)).nodup_iff.mp nd
 have R1:ai (M.wE M.Z ⟨rfl,M.he⟩ (rO M.Z.ov cR) M.Z.cv) c.h₀ c.L s.heap m ls.v A (imm++aQ cR) cA:=⟨Rp.F,fun p hp=>Rp.N p (by
   rw[jJ];rcases cZ hp with h|h
   ·rcases cZ h with h|h
    ·exact aK _ h
    ·exact bF _ (bF _ h)
   ·exact bF _ (aK _ h)),nd1,DA2,fun x v hx=>by
  apply af (DL x v hx);intro val h1 h2;exact⟨val,h1,(VR.few hr (okL x v hx) h2).mono up1 fun U U h=>h⟩⟩
 refine(H (rO M.Z.ov cR)).h C.wE l.down R1 fun h' tk m' imm' cA' fl R' l' x' y' f'=>?_;have mv:sX ((aQ cR).map Prod.fst) imm':=fun I hI=>by
  apply af (cC hI);intro p hp e0;clear hI;subst e0;exact⟨p.2,x' p (bF _ hp),pl.2 p hp⟩
 have Rd:=R'.dropIters mv (fun b x _ h=>h);have lA':=R'.C.len;have upl:∀ l,eE M (dS A'.length R.length) (k7 ((aQ cR).map Prod.fst) imm') (ae cA') (ae (cA'++cR)) (rO M.Z.ov cR) l:=fun l=>⟨fun i _=>by
   show VR M _ _ (Bool.rec (M.Z.ov i) (sZ cR (i-100)) (nC cR.length i)) (Bool.rec (.any i) (.cell (A'.length+(i-100))) (nC R.length i));rw[lR];cases w:nC R.length i with
   |false=>exact .any rfl
   |true=>
    have w2:=aw w;have h1:=nleT w2.1;have h2:=nleT w2.2;have h3:i-100<(ae cR).length:=by unfold ae;rw[Wr,lR];exact Nat.sub_lt_left_of_lt_add h1 h2
    have h4:ao (ae cR) (i-100)=some ((ae cR)[i-100]):=by rw[cJ,List.getElem?_eq_getElem h3]
    show VR M _ _ (sZ cR (i-100)) (.cell (A'.length+(i-100)));unfold sZ;rw[h4];refine .cell ?_;have hl:(ae cA').length=A'.length:=(Wr ..).trans lA';rw[ku,←hl,nh];exact h4,fun j _ a ha=>by rw[ku];exact oa ha⟩
 have F':=HL (M:=M) A'.length R.length;have nd2:=R'.nd;rw[Wl] at nd2;apply cw (List.nodup_append.mp nd2);intro n1 n2 n3;have nd3:=nd;rw[Wl,Wl] at nd3;apply cw (List.nodup_append.mp nd3);intro m1 m2 m3;apply cw (List.nodup_append.mp m2);intro _ m4 _;have inI:∀ a∈(aQ cR).map Prod.fst,a∈imm'.map Prod.fst:=fun a ha=>by
  apply af (cC ha);intro p hp e0;clear ha;subst e0;exact Ws (x' p (bF _ hp))
 refine q h' tk m' (k7 ((aQ cR).map Prod.fst) imm') (cA'++cR) fl ⟨R'.F,fun p hp=>R'.N p ?_,?_,aN.appI (aN.up F' A' (upl _) (fun i _=>.any rfl) Rd.C) (aN.pl hR hRr).1,AX F' (upl _) Rd.l⟩ l'.up (fun p hp=>?_) (fun i a hi ha=>?_) ?_
 ·rw[jJ] at hp
  rcases cZ hp with h|h
  ·exact aK _ (iN.mp h).1
  ·rcases cZ h with h|h
   ·exact bF _ h
   ·exact aK _ (x' p (bF _ h))
 ·rw[jJ,Wl,Wl]
  refine List.nodup_append.mpr ⟨n1.sublist (List.filter_sublist.map _),List.nodup_append.mpr ⟨n2,m4,fun a ha b hb=>?_⟩,fun a ha b hb=>?_⟩
  ·exact fun e=>n3 b (inI b hb) a ha e.symm
  ·apply af (cC ha);intro p hp e0;clear ha;subst e0
   have w2:=iN.mp hp;rcases cZ hb with hb|hb
   ·exact n3 p.1 (Ws w2.1) b hb
   ·exact fun e=>w2.2 (e▸hb)
 ·refine iN.mpr ⟨x' p (aK _ hp),fun hs=>m3 p.1 (Ws hp) p.1 (bF _ hs) rfl⟩
 ·rw[ku] at ha ⊢
  rw[cJ,List.getElem?_append_left (by unfold ae;rw[Wr,lA];exact Xa hi hk),←cJ] at ha;exact oa (y' i a hi ha)
 ·cases f' with
  |next=>exact .next
  |ret h=>exact .ret (VR.up F' _ _ (upl _) (h.drop (R'.keepsIters mv)))⟩
end
section
inductive jh (M:aF) (n k:Nat) (t:Expr) (b:List Stmt):Nat→Nat→ac→St→Fl→ac→St→Prop
 |done {j:Nat} {ls:ac} {J:St}:jh M n k t b j 0 ls J .next ls J
 |step {j m:Nat} {ls ls0 ls1 ls2:ac} {J σ0 σ1 σ2:St} {f:Fl}:Az M n t (.int (.k (.ofNat j))) ls J ls0 σ0→Gk M n k (fun c=>execs b c.env) ls0 σ0 .next ls1 σ1→jh M n k t b (j+1) m ls1 σ1 f ls2 σ2→jh M n k t b j (m+1) ls J f ls2 σ2
 |ret {j m:Nat} {ls ls0 ls1:ac} {J σ0 σ1:St} {v:AV}:Az M n t (.int (.k (.ofNat j))) ls J ls0 σ0→Gk M n k (fun c=>execs b c.env) ls0 σ0 (.ret v) ls1 σ1→jh M n k t b j (m+1) ls J (.ret v) ls1 σ1
def vc{J:St}{c:Cx}{A:Around}{nn:Nat}{s:χ}{m:ω}{ls:List (Str×AV)}{imm:Δ}{cs:List CC}{I:Addr}{Q:κ π→χ→Prop}{E:Θ}{i j:Nat}
  (C:aR M c A nn) (R:ai M c.h₀ c.L s.heap m ls J imm cs) (a:(I,dW i (j+1))∈imm)
  (k:∀ h' tk imm' val,ai M c.h₀ c.L h' m ls J imm' cs→(∀ q∈imm,q.1≠I→q∈imm')→(I,dW (i+1) j)∈imm'→VR M imm' (ae cs) val (.int (.k (.ofNat i)))→Q (some val) (sU s h' tk)):wpAny (model ar M.w) A (pyNext (.ref I)) Q E s:=by
 have ho:cF (dW i (j+1))=true:=by dsimp only [cF,dW];decide
 refine wpAny_pyNext_range_item ((R.N _ (aK _ a)).1) (Int.ofNat_lt.mpr (Xy _)) fun h' hit' hs=>?_;have hit':=by
  have e2:(i:Int)+1=((i+1:Nat):Int):=Int.natCast_add _ _;replace hit':=hit';rw[sS _,e2] at hit';exact hit'
 exact k h' _ _ _ (R.putIter a ho hs.extBut hit') (fun q hq hn=>.tail _ (iN.mpr ⟨hq,nK hn⟩)) (.head _) (.int (bH _).symm)
def Ho{J:St}{c:Cx}{A:Around}{nn:Nat}{s:χ}{m:ω}{ls:List (Str×AV)}{imm:Δ}{cs:List CC}{I:Addr}{Q:κ π→χ→Prop}{E:Θ}{i:Nat}
  (C:aR M c A nn) (R:ai M c.h₀ c.L s.heap m ls J imm cs) (a:(I,dW i 0)∈imm)
  (k:∀ h' tk imm',ai M c.h₀ c.L h' m ls J imm' cs→(∀ q∈imm,q.1≠I→q∈imm')→Q none (sU s h' tk)):wpAny (model ar M.w) A (pyNext (.ref I)) Q E s:=by
 have ho:cF (dW i 0)=true:=by dsimp only [cF,dW];decide
 exact wpAny_pyNext_range_end C.hd ((R.N _ (aK _ a)).1) (bO _) fun h' hs=>k h' s.toks _ (R.dropIter a ho hs) fun q hq hn=>iN.mpr ⟨hq,nK hn⟩
def Jh{t:Expr}{b:List Stmt}(ht:jv t=true){j m:Nat}{ls ls':ac}{J J':St}{f:Fl}(h:jh M n k t b j m ls J f ls' J') :
  ∀ {c A s mm imm cs I} {Rq:Result→χ→Prop},aR M c A n→bL c ls→ai M c.h₀ c.L s.heap mm ls.v J imm cs→(I,dW j m)∈imm →
  (∀ h' tk m' imm' cs' fl,ai M c.h₀ c.L h' m' ls'.v J' imm' cs'→bL c ls'→(∀ q∈imm,q.1≠I→q∈imm')→pZ k cs cs'→FR M imm' cs' fl f→Rq (.ok fl) (sU s h' tk))→codeAny (model ar M.w) A (.forLoop t (.ref I) b [] c.env) Rq s:=by
 induction h with
 |done=>
  intro c A s mm imm cs I Rq C l R hi q;refine kE (Ho C R hi fun h' tk imm' R' x'=>?_);exact wpAny_execs_nil (q h' tk mm imm' cs _ R' l x' (fun _ _ _ h=>h) .next)
 |step hs hg _ ih=>
  intro c A s mm imm cs I Rq C l R hi q;refine kE (vc C R hi fun h' tk imm' val R' x' hi' hv=>?_);refine nF ht (R'.N _ (aK _ hi')).1 ⟨by dsimp only [cF,dW];decide,by dsimp only [lE,dW];decide⟩ ?_;refine hs.h C l R' hv fun ha ta ma ia ca Ra la xa=>?_;refine hg.h C la Ra fun hz tz mz iz cz fl Rz lz xz yz fz=>?_;(obtain e:_=_:=FR.inv fz;clear fz;subst e);exact ih C lz Rz (xz _ (xa.i _ hi')) fun h2 t2 m2 i2 c2 fl R2 l2 x2 y2 f2=>q h2 t2 m2 i2 c2 fl R2 l2 (fun p hp hne=>x2 p (xz p (xa.i p (x' p hp hne))) hne) (fun i a hi h=>y2 i a hi (yz i a hi (xa.r i a h))) f2
 |ret hs hg=>
  intro c A s mm imm cs I Rq C l R hi q;refine kE (vc C R hi fun h' tk imm' val R' x' hi' hv=>?_);refine nF ht (R'.N _ (aK _ hi')).1 ⟨by dsimp only [cF,dW];decide,by dsimp only [lE,dW];decide⟩ ?_;refine hs.h C l R' hv fun ha ta ma ia ca Ra la xa=>?_;refine hg.h C la Ra fun hz tz mz iz cz fl Rz lz xz yz fz=>?_;apply af (FR.inv fz);intro _ e0 hv2;clear fz;subst e0;exact q hz tz mz iz cz _ Rz lz (fun p hp hne=>xz p (xa.i p (x' p hp hne))) (fun i a hi h=>yz i a hi (xa.r i a h)) (.ret hv2)
def Gk.range(ht:jv t=true)(hit:lh it=true)(hy:Yz M n it ls J (.rng a j) σ0)(h:jh M n k t b a j ls σ0 f ls' J') :
  Gk M n k (fun c=>exec (.For t it b [] pos) c.env) ls J f ls' J':=⟨by
 intro c A s m imm cs Q E C l R q;rw[exec_For];refine Wg (Wt (Wg (hy.h C l R fun hx tx ix cx va Rx xx qx=>?_)));apply lw qx.inv;intro aa tt uu vv e0 hb hle;clear qx;subst e0;have hfold:foldedSetIterable it c.env (.ref aa)=pure (.ref aa):=by
  clear hy;induction it using PySem.Expr.casesOn<;>first|rfl|(exact Bool.noConfusion hit)
 rw[hfold];refine Wg (Wi (Wg (Wt (Wg (Wo ?_)))));refine wpAny_pyIter_range ((Rx.N _ (aK _ hb)).1) (small_one (cT _) (Xe (bw (WZ (W0 _ _) hle)) (by decide)) (cT _) (Xe (X5 hle) (by decide))) ?_;rw[AE a j];refine wpAny_runOwn (Jh ht h C l (Rx.newI (dW a j) rfl) (.head _) fun h' tk m' imm' cs' fl R' l' x' y' f'=>?_);refine q h' tk m' imm' cs' _ R' l' (fun p hp=>x' p (.tail _ (xx.i p hp)) fun e=>?_) (fun i a hi h=>y' i a hi (xx.r i a h)) f';have:=WI (Rx.N p (aK _ (xx.i p hp))).1;rw[e] at this;exact X0 _ this⟩
end
section
def II{p:Ps}(h:p.wi=true→SS.val Z ln=SS.val Z' ln')(s:Bool):SS.val Z (p.lead ln s).t=SS.val Z' (p.lead ln' s).t∧(p.lead ln s).bl=(p.lead ln' s).bl∧(p.lead ln s).be=(p.lead ln' s).be:=by
 have h1:SS.val Z ln=SS.val Z' ln'→∀ c,SS.val Z (SS.app ln (dy c))=SS.val Z' (SS.app ln' (dy c)):=fun h c=>by rw[cE,cE,h];rfl
 cases p with
 |root b=>exact⟨rfl,rfl,rfl⟩
 |fq b=>cases b<;>exact⟨rfl,rfl,rfl⟩
 |bq b=>exact⟨h1 (h rfl) 45,rfl,rfl⟩
 |fm q=>
  unfold Ps.lead;dsimp only;cases q.beq 0<;>cases q.beq 1<;>cases q.beq 2<;>cases s<;>exact⟨rfl,rfl,rfl⟩
 |bm q=>
  have h:(Bool.rec true false (q.beq 2):Bool)=true→SS.val Z ln=SS.val Z' ln':=h;unfold Ps.lead;dsimp only;cases e:Nat.beq q 2 with
  |true=>cases q.beq 3<;>cases s<;>exact⟨rfl,rfl,rfl⟩
  |false=>
   rw[e] at h;have h:=h rfl;cases q.beq 3<;>cases s<;>first|exact⟨h1 h 58,rfl,rfl⟩|exact⟨h1 h 63,rfl,rfl⟩|exact⟨h,rfl,rfl⟩
def O6(h:Z.sv 6=Z'.sv 6)(w:Bool):SS.val Z (kg w)=SS.val Z' (kg w):=by
 cases w with
 |false=>rfl
 |true=>show Z.sv 6++[]=Z'.sv 6++[];rw[h]
def TU(h:Z.sv 6=Z'.sv 6)(e:Ab)(fl:Bool):(e.parts fl).map (SS.val Z)=(e.parts fl).map (SS.val Z'):=by
 have ha:∀ an,(vA an).map (SS.val Z)=(vA an).map (SS.val Z'):=fun an=>by cases an<;>rfl
 cases e with
 |sc w q an=>
  unfold Ab.parts;rw[Wl,Wl,ha];cases (w ||!Nat.beq (sJ w q fl) 0) with
  |false=>rfl
  |true=>
   refine congrArg _ ?_;show [SS.val Z _]=[SS.val Z' _];rw[cE,cE,cE,cE,O6 h,fT,fT]
 |al y=>rfl
 |st m f an ho=>
  unfold Ab.parts;rw[Wl,Wl,ha];cases Ab.gr (.st m f an ho) fl<;>rfl
 |en m=>rfl
 |no k=>rfl
def TF:∀ {l l':List SS},l.map (SS.val Z)=l'.map (SS.val Z')→SS.val Z (uR l)=SS.val Z' (uR l'):=by
 intro l;induction l with
 |nil=>
  intro l' h;induction l' using oL with
  |nil=>rfl
  |cons=>injection h
 |cons a r ih=>
  intro l' h;induction l' using oL with
  |nil=>injection h
  |cons b s=>
   injection h with h1 h2;replace ih:=ih h2;induction r using oL with
   |nil=>
    induction s using oL with
    |nil=>exact h1
    |cons=>injection h2
   |cons c r=>
    induction s using oL with
    |nil=>injection h2
    |cons d s=>
     show SS.val Z (SS.app a (SS.app (dy 32) (uR (c::r))))=SS.val Z' (SS.app b (SS.app (dy 32) (uR (d::s))));rw[cE,cE,cE,cE,h1,ih];rfl
def vP{p:Ps}(h:p.wi=true→SS.val Z ln=SS.val Z' ln')(h6:Z.sv 6=Z'.sv 6)(e:Ab):SS.val Z (dR p ln e)=SS.val Z' (dR p ln' e):=by
 apply cw (II h e.simple);intro h1 h2 _;unfold dR;rw[cE,cE,cE,cE,h1,h2,TF (TU h6 e p.flow)];cases ((p.lead ln' e.simple).bl&&!bD (e.parts p.flow))<;>rfl
end
structure Fm where
 m:Bool
 fl:Bool
 bg:Nat
 pr:Bool
 col:Nat
 ah:ξ
 ind:Nat
def Fm.s(f:Fm):Nat:=Bool.rec (Bool.rec (Bool.rec 3 2 f.pr) 1 (Nat.beq (f.bg % 2) 0)) 0 (f.bg.beq 0)
def Fm.ps(f:Fm):Ps:=Bool.rec (Bool.rec (.bq (!Nat.beq f.bg 0)) (.bm f.s) f.m) (Bool.rec (.fq (!Nat.beq f.bg 0)) (.fm f.s) f.m) f.fl
def Fm.cell(f:Fm):ak:=.list [I (Bool.rec 6 8 f.m),.bool f.fl,I f.bg,.bool f.pr,I f.col,.str (.k f.ah)]
def Fm.s_le(f:Fm):f.s∈[0,1,2,3]:=by
 unfold Fm.s;cases f.bg.beq 0<;>cases Nat.beq (f.bg % 2) 0<;>cases f.pr<;>decide
def pM(i:Nat)(h:dA[i]?=some p):p∈dA:=Xp h
def BN(b:Bool):Ps.root b∈dA:=by
 cases b with
 |true=>exact pM 0 rfl
 |false=>exact pM 1 rfl
def CD:∀ s∈[0,1,2,3],Ps.fm s∈dA∧Ps.bm s∈dA:=da ⟨pM 6 rfl,pM 10 rfl⟩ (da ⟨pM 7 rfl,pM 11 rfl⟩ (da ⟨pM 8 rfl,pM 12 rfl⟩ (da ⟨pM 9 rfl,pM 13 rfl⟩ et)))
def Fa(b:Bool):Ps.fq b∈dA∧Ps.bq b∈dA:=by
 cases b with
 |true=>exact⟨pM 3 rfl,pM 5 rfl⟩
 |false=>exact⟨pM 2 rfl,pM 4 rfl⟩
def zi(hx:x∈dA)(hy:y∈dA):(Bool.rec x y b:Ps)∈dA:=by
 cases b with
 |true=>exact hy
 |false=>exact hx
def Fm.ps_mem(f:Fm):f.ps∈dA:=zi (zi (Fa _).2 (CD _ f.s_le).2) (zi (Fa _).1 (CD _ f.s_le).1)
def Fm.line(f:Fm):ξ:=Bool.rec (10::eF f.col) f.ah (f.bg.beq 0)
def pz(h:n≠0):1+(1*((n-1:Nat):Int)+0)=n:=by
 cases n with
 |zero=>exact absurd rfl h
 |succ n=>show 1+(1*n+0)=(n:Int)+1;rw[Int.one_mul,XL,X1]
def Hq(h:n≠0)(e:n % 2=0):2+(2*((n / 2-1:Nat):Int)+0)=n:=by
 have h:=Nat.div_add_mod n 2;rw[e] at h;clear e;revert h;generalize n / 2=k;cases k with
 |zero=>exact fun q=>absurd q.symm h
 |succ m=>
  intro q;clear h;subst q;rw[XL,X1];rfl
def Eb(e:n % 2≠0):1+(2*((n / 2:Nat):Int)+0)=n:=by
 have h:=Nat.div_add_mod n 2;rw[Nat.mod_two_ne_zero.mp e] at h;rw[XL,X1];exact congrArg Int.ofNat h
def AZ{a b:Int}{n:Nat}(h:a+b=n):1+a+b=((n+1:Nat):Int):=(WU 1 a b).trans ((congrArg (1+·) h).trans (X1 1 _))
def Fm.q(f:Fm):Nat:=Bool.rec (f.bg-1) (Bool.rec (f.bg / 2) (f.bg / 2-1) (f.s.beq 1)) f.m
def Fm.εR(P:Params)(f:Fm)(best:Int)(w:ξ)(nk:Int):Ev:=gS P (tn 0 [0,0,0,(f.col:Int),best,0,(f.q:Int),nk]) (tn [] [[],[],[],[],[],[],w,f.ah])
section
variable {f:Fm}
def xl:(V 6).val (f.εR P best w nk)=f.col:=co _ _
def Ca:(V 8).val (f.εR P best w nk)=best:=co _ _
def F8(hm:f.m=false):flA (am (f.εR P best w nk) h z) (t6 (!Nat.beq f.bg 0))=I f.bg:=by
 cases e:Nat.beq f.bg 0 with
 |true=>rw[aJ e];rfl
 |false=>
  show AV.int (.k (1+(1*(f.q)+0)))=_;unfold Fm.q;rw[hm];rw[pz (W6 e)];rfl
def BW(hm:f.m=true):flA (am (f.εR P best w nk) h z) (u0 f.s)=I f.bg:=by
 have q0:f.q=Bool.rec (f.bg / 2) (f.bg / 2-1) (f.s.beq 1):=by unfold Fm.q;rw[hm]
 cases e:Nat.beq f.bg 0 with
 |true=>
  have:f.s=0:=by unfold Fm.s;rw[e]
  rw[this,aJ e];rfl
 |false=>
  cases e2:Nat.beq (f.bg % 2) 0 with
  |true=>
   have hs:f.s=1:=by unfold Fm.s;rw[e,e2]
   rw[hs] at q0 ⊢;show AV.int (.k (2+(2*(f.q)+0)))=_;rw[q0];show AV.int (.k (2+(2*((f.bg / 2-1:Nat))+0)))=I f.bg;rw[Hq (W6 e) (aJ e2)];rfl
  |false=>
   have hs:f.s=2∨f.s=3:=by unfold Fm.s;rw[e,e2];cases f.pr<;>simp
   have q1:f.q=f.bg / 2:=by rcases hs with hs|hs<;>(rw[hs] at q0;exact q0)
   have go:AV.int (.k (1+(2*(f.q:Int)+0)))=I f.bg:=by
    rw[q1,Eb (W6 e2)];rfl
   rcases hs with hs|hs<;>(rw[hs];exact go)
def Cw(h9:h 9=.bool f.pr):flA (am (f.εR P best w nk) h z) (uM f.s)=.bool f.pr:=by
 unfold Fm.s;cases f.bg.beq 0 with
 |true=>exact h9
 |false=>cases Nat.beq (f.bg % 2) 0 with
  |true=>exact h9
  |false=>cases f.pr<;>rfl
def wj(h8:h 8=.str (.k f.ah))(b:Bool):flA (am (f.εR P best w nk) h z) (mn b)=.str (.k f.ah):=by
 cases b with
 |true=>show AV.str (.k (f.ah++[]))=_;rw[aX]
 |false=>exact h8
def wY:flA (am (f.εR P best w nk) h z) (lI 6)=I f.col:=by show AV.int (.k ((V 6).val (f.εR P best w nk)))=_;rw[xl];rfl
def jL:fC (am Z v z) (eq m fl bg pr col ah)=.list [I (Bool.rec 6 8 m),.bool fl,flA (am Z v z) bg,flA (am Z v z) pr,flA (am Z v z) col,flA (am Z v z) ah]:=by cases m<;>rfl
def th(wf:f.fl=true→f.col=0∧f.ah=[])(h8:h 8=.str (.k f.ah))(h9:h 9=.bool f.pr):fC (am (f.εR P best w nk) h z) f.ps.top=f.cell:=by
 unfold Fm.ps Fm.cell;cases efl:f.fl with
 |true=>
  apply ay (wf efl);intro w1 w2;cases em:f.m with
  |true=>
   show fC _ (eq true true (u0 f.s) (uM f.s) (I 0) (.str []))=_;rw[jL,BW em,Cw h9,w1,w2];rfl
  |false=>
   show fC _ (eq false true (t6 (!Nat.beq f.bg 0)) (.any 9) (I 0) (.str []))=_;rw[jL,F8 em,show flA (am (f.εR P best w nk) h z) (.any 9)=h 9 from rfl,h9,w1,w2];rfl
 |false=>
  cases em:f.m with
  |true=>
   show fC _ (eq true false (u0 f.s) (uM f.s) (lI 6) (mn (f.s.beq 0)))=_;rw[jL,BW em,Cw h9,wY,wj h8]
  |false=>
   show fC _ (eq false false (t6 (!Nat.beq f.bg 0)) (.any 9) (lI 6) (mn (!!f.bg.beq 0)))=_;rw[jL,F8 em,show flA (am (f.εR P best w nk) h z) (.any 9)=h 9 from rfl,h9,wY,wj h8]
noncomputable def Fm.adv(f:Fm)(s:Bool):Fm:={f with bg:=f.bg+1,pr:=s}
def F9(hm:f.m=false):flA (am (f.εR P best w nk) h z) (s6 (!Nat.beq f.bg 0))=I ((f.bg+1:Nat):Int):=by
 cases e:Nat.beq f.bg 0 with
 |true=>rw[aJ e];rfl
 |false=>
  show AV.int (.k (2+(1*(f.q)+0)))=_;unfold Fm.q;rw[hm];rw[show (2+(1*((f.bg-1:Nat))+0))=((f.bg+1:Nat):Int) from AZ (pz (W6 e))];rfl
def B4(hm:f.m=true):flA (am (f.εR P best w nk) h z) (tN f.s)=I ((f.bg+1:Nat):Int):=by
 have q0:f.q=Bool.rec (f.bg / 2) (f.bg / 2-1) (f.s.beq 1):=by unfold Fm.q;rw[hm]
 cases e:Nat.beq f.bg 0 with
 |true=>
  have:f.s=0:=by unfold Fm.s;rw[e]
  rw[this,aJ e];rfl
 |false=>
  cases e2:Nat.beq (f.bg % 2) 0 with
  |true=>
   have hs:f.s=1:=by unfold Fm.s;rw[e,e2]
   rw[hs] at q0 ⊢;show AV.int (.k (3+(2*(f.q)+0)))=_;rw[q0];show AV.int (.k (3+(2*((f.bg / 2-1:Nat))+0)))=I ((f.bg+1));rw[show (3+(2*((f.bg / 2-1:Nat))+0))=((f.bg+1:Nat):Int) from AZ (Hq (W6 e) (aJ e2))];rfl
  |false=>
   have hs:f.s=2∨f.s=3:=by unfold Fm.s;rw[e,e2];cases f.pr<;>simp
   have q1:f.q=f.bg / 2:=by rcases hs with hs|hs<;>(rw[hs] at q0;exact q0)
   have go:AV.int (.k (2+(2*(f.q:Int)+0)))=I ((f.bg+1:Nat):Int):=by
    rw[q1,show (2+(2*((f.bg / 2:Nat))+0))=((f.bg+1:Nat):Int) from AZ (Eb (W6 e2))];rfl
   rcases hs with hs|hs<;>(rw[hs];exact go)
def GM(wf:f.fl=true→f.col=0∧f.ah=[])(h8:h 8=.str (.k f.ah))(s:Bool):fC (am (f.εR P best w nk) h z) (f.ps.topN s)=(f.adv s).cell:=by
 unfold Fm.ps Fm.cell;show _=ak.list [I (Bool.rec 6 8 f.m),.bool f.fl,I ((f.bg+1)),.bool s,I f.col,.str (.k f.ah)];cases efl:f.fl with
 |true=>
  apply ay (wf efl);intro w1 w2;cases em:f.m with
  |true=>
   show fC _ (eq true true (tN f.s) (.bool s) (I 0) (.str []))=_;rw[jL,B4 em,w1,w2];rfl
  |false=>
   show fC _ (eq false true (s6 (!Nat.beq f.bg 0)) (.bool s) (I 0) (.str []))=_;rw[jL,F9 em,w1,w2];rfl
 |false=>
  cases em:f.m with
  |true=>
   show fC _ (eq true false (tN f.s) (.bool s) (lI 6) (mn (f.s.beq 0)))=_;rw[jL,B4 em,wY,wj h8];rfl
  |false=>
   show fC _ (eq false false (s6 (!Nat.beq f.bg 0)) (.bool s) (lI 6) (mn (!!f.bg.beq 0)))=_;rw[jL,F9 em,wY,wj h8];rfl
end
def lH(p:Ps)(e:Ab)(m:Bool)(col step ind:Nat):Fm:=Bool.rec
 (Bool.rec (Bool.rec (Bool.rec ⟨m,false,0,false,col+step,10::eF ((col+step:Nat):Int),ind⟩ ⟨m,false,0,false,col,10::eF (col:Int),ind⟩ (p.mp&&!m)) ⟨m,false,0,false,col+step,eF ((step:Int)+-1),ind⟩ (p.beh e))
  ⟨m,false,0,false,0,Bool.rec [10] [] (p.beh e),ind⟩ p.isRoot)
 ⟨m,true,0,false,0,[],ind⟩ (e.gr p.flow)
def Io{Z:Ev}{v:Nat→AV}{z:Nat→ak}{p:Ps}{e:Ab}{m:Bool}{col step ind:Nat}(h6:p.isRoot=false→(V 6).val Z=col)(h8:(V 8).val Z=step):fC (am Z v z) (mF p e m)=(lH p e m col step ind).cell:=by
 unfold mF lH;cases e.gr p.flow with
 |true=>rw[jL];rfl
 |false=>
  cases r:p.isRoot with
  |true=>
   rw[jL];cases p.beh e<;>rfl
  |false=>
   have g6:=h6 r;have gs:((V 6).add (V 8)).val Z=((col+step:Nat):Int):=by rw[du,g6,h8];exact Int.natCast_add _ _
   cases p.beh e with
   |true=>
    rw[jL,show flA (am Z v z) (.int ((V 6).add (V 8)))=.int (.k (((V 6).add (V 8)).val Z)) from rfl,gs,show flA (am Z v z) (.str [.rep 32 ((V 8).add (.k (-1)))])=.str (.k (SS.val Z [.rep 32 ((V 8).add (.k (-1)))])) from rfl,yf,du,h8,bH];rfl
   |false=>
    have go:∀ {i:aD} {c:Nat},i.val Z=(c:Int)→fC (am Z v z) (eq m false (I 0) ff (.int i) (.str [.lit [10],.rep 32 i]))=Fm.cell ⟨m,false,0,false,c,10::eF (c:Int),ind⟩:=fun {i c} hi=>by
     rw[jL,show flA (am Z v z) (.int i)=.int (.k (i.val Z)) from rfl,show flA (am Z v z) (.str [.lit [10],.rep 32 i])=.str (.k (10::SS.val Z [.rep 32 i])) from rfl,yf,hi];rfl
    cases (p.mp&&!m) with
    |true=>exact go g6
    |false=>exact go gs
structure na (f:Fm):Prop where
 col:f.col≤900
 bg:f.bg≤1000
 ah:f.ah.length≤1000
 fl:f.fl=true→f.col=0∧f.ah=[]
def md(lo:Bool)(m:Bool)(nk:Int):Prop:=Bool.rec ((Bool.rec 8 10 m:Int)≤nk∧nk≤20) ((0:Int)≤nk∧nk≤(Bool.rec 6 8 m:Int)) lo
section
variable {f:Fm}{best:Int}
def rH(g:na f)(hb:2≤best∧best≤9)(hw:1≤wd.length∧wd.length≤3){lo m:Bool}(hn:md lo m nk):aU (βR lo m) (f.εR M.Z.P best wd nk):=by
 have e0:(0:Int)≤0∧(0:Int)≤0:=⟨bO 0,bO 0⟩;have hq:f.q≤1000:=by
  have:=g.bg;unfold Fm.q;cases f.m<;>cases f.s.beq 1<;>(dsimp only;(first|exact WZ (XE _ _) this|exact WZ (Nat.div_le_self _ _) this|exact WZ (XE _ _) (WZ (Nat.div_le_self _ _) this)))
 refine qi ⟨e0,e0,e0,e0,e0,e0,⟨cT _,bw g.col⟩,e0,hb,e0,e0,e0,⟨cT _,bw (WZ hq (by decide))⟩,⟨bw hw.1,bw hw.2⟩,?_,⟨cT _,bw g.ah⟩,trivial⟩;cases lo<;>exact hn
def zR(row:ak)(pieces lows:List AV):Nat→ak:=tO (fun _=>.list []) 0 [some row,some (.seg pieces),some (.seg lows)]
def yk(g:na f)(h8:h 8=.str (.k f.ah))(h9:h 9=.bool f.pr)(hp:pieces.length≤40000)(hl:lows.length≤40000) :
  bE (am (f.εR M.Z.P best wd nk) h (zR row pieces lows)) (kq f.ps 0)=[row,.list pieces,.list (lows++[.cell 3]),f.cell]:=by
 have hr:f.ps.isRoot=false:=by unfold Fm.ps;cases f.fl<;>cases f.m<;>rfl
 unfold kq;rw[hr];show [row,dq (.seg pieces) [],dq (.seg lows) [.cell 3],fC _ f.ps.top]=_;rw[dk (WZ hp (by decide)) (by decide),dk (WZ hl (by decide)) (by decide),th g.fl h8 h9,aX]
def hM:f.ps.isRoot=false:=by unfold Fm.ps;cases f.fl<;>cases f.m<;>rfl
def Nc(g:na f)(hb:2≤best∧best≤9)(hw6:1≤wd.length∧wd.length≤3){lo wb:Bool}{e:Ab}(hn:md lo e.m nk)(hc:(rJ lo wb f.ps e).chk=true){step ind:Nat}(hs:best=step)(h8:h 8=.str (.k f.ah))(h9:h 9=.bool f.pr)(hp:pieces.length≤40000)(hl:lows.length≤40000) :
  bc M 150 gg (b6 (am (f.εR M.Z.P best wd nk) h (zR row pieces lows)) ⟨gK e wb (I 2) (di f.ps) (.any 12),aI⟩) [row,.list pieces,.list (lows++[.cell 3]),f.cell] .next
   (b6 (am (f.εR M.Z.P best wd nk) h (zR row pieces lows)) ⟨gV (I 2) (di f.ps) (.any 12),aI⟩)
   ([row,.list (pieces++[.str (.k (SS.val (f.εR M.Z.P best wd nk) (dR f.ps f.ps.lnR e)))]),.list (lows++.cell 3::Bool.rec [] [.cell 5] (bz e)),(f.adv e.simple).cell,.list ((e.parts f.ps.flow).map fun s=>.str (.k (SS.val (f.εR M.Z.P best wd nk) s)))]++Bool.rec [] [(lH f.ps e e.m f.col step ind).cell] (bz e)):=by
 have e1:(rJ lo wb f.ps e).out=gV (I 2) (di f.ps) (.any 12):=by
  show gV (I (Bool.rec 2 3 (f.ps.isRoot&&!bz e))) (di f.ps) (Bool.rec (.any 12) (.bool (e.lo' false)) f.ps.isRoot)=_;rw[hM];rfl
 have e2:bE (am (f.εR M.Z.P best wd nk) h (zR row pieces lows)) (rJ lo wb f.ps e).Q=[row,.list (pieces++[.str (.k (SS.val (f.εR M.Z.P best wd nk) (dR f.ps f.ps.lnR e)))]),.list (lows++.cell 3::Bool.rec [] [.cell 5] (bz e)),(f.adv e.simple).cell,.list ((e.parts f.ps.flow).map fun s=>.str (.k (SS.val (f.εR M.Z.P best wd nk) s)))]++Bool.rec [] [(lH f.ps e e.m f.col step ind).cell] (bz e):=by
  have q1:(rJ lo wb f.ps e).Q=[.any 0,.spl 1 [.str (dR f.ps f.ps.lnR e)],.spl 2 (.cell 3::Bool.rec [] [.cell 5] (bz e)),f.ps.topN e.simple,.list ((e.parts f.ps.flow).map .str)]++Bool.rec [] [mF f.ps e e.m] (bz e):=by
   show [.any 0,.spl 1 [.str (dR f.ps f.ps.lnR e)],Bool.rec (.spl 2 (.cell 3::Bool.rec [] [.cell 5] (bz e))) (.list (Bool.rec [] [.cell 5] (bz e))) f.ps.isRoot,Bool.rec (f.ps.topN e.simple) (AO e.simple) f.ps.isRoot,.list ((e.parts f.ps.flow).map .str)]++Bool.rec [] [mF f.ps e e.m] (bz e)=_;rw[hM]
  rw[q1];have l1:∀ x,dq (.seg pieces) [x]=.list (pieces++[x]):=fun x=>dk (WZ hp (by decide)) (by show 1≤50000;decide);have pm:aH (am (f.εR M.Z.P best wd nk) h (zR row pieces lows)) ((e.parts f.ps.flow).map .str)=(e.parts f.ps.flow).map fun s=>.str (.k (SS.val (f.εR M.Z.P best wd nk) s)):=by unfold aH;rw[Xi];rfl
  cases bz e with
  |false=>
   show [row,dq (.seg pieces) [.str (.k (SS.val (f.εR M.Z.P best wd nk) (dR f.ps f.ps.lnR e)))],dq (.seg lows) [.cell 3],fC _ (f.ps.topN e.simple),.list (aH _ ((e.parts f.ps.flow).map .str))]=_;rw[l1,dk (WZ hl (by decide)) (by decide),GM g.fl h8,pm];rfl
  |true=>
   show [row,dq (.seg pieces) [.str (.k (SS.val (f.εR M.Z.P best wd nk) (dR f.ps f.ps.lnR e)))],dq (.seg lows) [.cell 3,.cell 5],fC _ (f.ps.topN e.simple),.list (aH _ ((e.parts f.ps.flow).map .str)),fC _ (mF f.ps e e.m)]=_;rw[l1,dk (WZ hl (by decide)) (by decide),GM g.fl h8,pm,Io (fun _=>xl) (by rw[Ca,hs])];rfl
 exact(jP (Z:=f.εR M.Z.P best wd nk) rfl (fR _ _ _) (rJ lo wb f.ps e) (rH g hb hw6 hn) ⟨rfl,(by decide:6≤12),rfl⟩ hc).cast rfl (yk g h8 h9 hp hl) rfl (by rw[e1];rfl) e2
def UO(g:na f)(hb:2≤best∧best≤9)(hw6:1≤wd.length∧wd.length≤3)(hn:md true false nk)(hc:(rE f.ps 1 m).chk=true)(h8:h 8=.str (.k f.ah))(h9:h 9=.bool f.pr)(hp:pieces.length≤40000) :
  bc M 150 gg (b6 (am (f.εR M.Z.P best wd nk) h (zR row pieces lows)) ⟨gK (.en m) false (I 2) (di f.ps) (.any 12),aI⟩) [row,.list pieces,.list [.cell 3],f.cell] .next
   (b6 (am (f.εR M.Z.P best wd nk) h (zR row pieces lows)) ⟨gV (I 3) (di f.ps) (.any 12),aI⟩) [row,.list (pieces++[.str (.k (ez f.ps))]),.list [],f.cell]:=by
 have tx:SS.val (f.εR M.Z.P best wd nk) (oF f.ps)=ez f.ps:=by unfold oF ez;cases f.ps.flow<;>rfl
 refine(jP (Z:=f.εR M.Z.P best wd nk) rfl (fR _ _ _) (rE f.ps 1 m) (rH g hb hw6 hn) ⟨rfl,(by decide:6≤12),rfl⟩ hc).cast rfl ?_ rfl rfl ?_
 ·show bE _ (kq f.ps 1)=_
  unfold kq;rw[hM];show [row,dq (.seg pieces) [],.list [.cell 3],fC _ f.ps.top]=_;rw[dk (WZ hp (by decide)) (by decide),th g.fl h8 h9,aX]
 ·show [row,dq (.seg pieces) [.str (.k (SS.val (f.εR M.Z.P best wd nk) (oF f.ps)))],.list [],fC _ f.ps.top]=_
  rw[dk (WZ hp (by decide)) (by show 1≤50000;decide),th g.fl h8 h9,tx]
def QJ(g:na f)(hb:2≤best∧best≤9)(hw6:1≤wd.length∧wd.length≤3)(hn:md true false nk)(hc:(rE f.ps 2 m).chk=true)(h8:h 8=.str (.k f.ah))(h9:h 9=.bool f.pr)(hp:pieces.length≤40000)(hl:lows.length≤40000) :
  bc M 150 gg (b6 (am (f.εR M.Z.P best wd nk) h (tO (zR row pieces lows) 4 [some nx])) ⟨gK (.en m) false (I 2) (di f.ps) (.any 12),aI⟩) [row,.list pieces,.list (lows++[.cell 4,.cell 3]),f.cell,nx] .next
   (b6 (am (f.εR M.Z.P best wd nk) h (tO (zR row pieces lows) 4 [some nx])) ⟨gV (I 2) (di f.ps) (.any 12),aI⟩) [row,.list (pieces++[.str (.k (ez f.ps))]),.list (lows++[.cell 4]),f.cell,nx]:=by
 have tx:SS.val (f.εR M.Z.P best wd nk) (oF f.ps)=ez f.ps:=by unfold oF ez;cases f.ps.flow<;>rfl
 refine(jP (Z:=f.εR M.Z.P best wd nk) rfl (fR _ _ _) (rE f.ps 2 m) (rH g hb hw6 hn) ⟨rfl,(by decide:6≤12),rfl⟩ hc).cast rfl ?_ rfl rfl ?_
 ·show bE _ (kq f.ps 2)=_
  unfold kq;rw[hM];show [row,dq (.seg pieces) [],dq (.seg lows) [.cell 4,.cell 3],fC _ f.ps.top,nx]=_;rw[dk (WZ hp (by decide)) (by decide),dk (WZ hl (by decide)) (by decide),th g.fl h8 h9,aX]
 ·show [row,dq (.seg pieces) [.str (.k (SS.val (f.εR M.Z.P best wd nk) (oF f.ps)))],dq (.seg lows) [.cell 4],fC _ f.ps.top,nx]=_
  rw[dk (WZ hp (by decide)) (by show 1≤50000;decide),dk (WZ hl (by decide)) (by decide),th g.fl h8 h9,tx]
def OS(g:na f)(hb:2≤best∧best≤9)(hw6:1≤wd.length∧wd.length≤3)(hn:md true false nk)(hc:(rX f.ps e).chk=true)(h8:h 8=.str (.k f.ah))(h9:h 9=.bool f.pr)(hp:pieces.length≤40000)(hl:lows.length≤40000) :
  bc M 150 gg (b6 (am (f.εR M.Z.P best wd nk) h (zR row pieces lows)) ⟨gK e false (I 2) (di f.ps) (.any 12),aI⟩) [row,.list pieces,.list (lows++[.cell 3]),f.cell] (.ret (.tup [.cell 1,.str (.k (SS.val (f.εR M.Z.P best wd nk) (f.ps.lead f.ps.lnR e.simple).t))]))
   (b6 (am (f.εR M.Z.P best wd nk) h (zR row pieces lows)) ⟨gV (I 2) (di f.ps) (.any 12),aI⟩) [row,.list pieces,.list (lows++[.cell 3]),f.cell]:=by
 refine(jP (Z:=f.εR M.Z.P best wd nk) rfl (fR _ _ _) (rX f.ps e) (rH g hb hw6 hn) ⟨rfl,(by decide:6≤12),rfl⟩ hc).cast rfl (yk g h8 h9 hp hl) rfl rfl ?_;show bE _ (kq f.ps 0++Bool.rec [] [.list [I 0,ff,I 0,ff,I 0,.str []]] f.ps.isRoot)=_;rw[hM];rw[aX];exact yk g h8 h9 hp hl
end
noncomputable def cH:Fm:=⟨false,false,0,false,0,[],0⟩
def Cy:na cH:=⟨WK _,WK _,WK _,fun h=>by injection h⟩
section
variable {best:Int}
abbrev jg (P:Params) (best:Int) (wd:ξ) (nk:Int) (h:Nat→AV) (row:ak) (pieces:List AV):cP:=am (cH.εR P best wd nk) h (zR row pieces [])
def KD(hb:2≤best∧best≤9)(hw6:1≤wd.length∧wd.length≤3){mk lo wb:Bool}{e:Ab}(hn:md lo e.m nk)(hc:(rJ lo wb (.root mk) e).chk=true){step ind:Nat}(hs:best=step)(hp:pieces.length≤40000) :
  bc M 150 gg (b6 (jg M.Z.P best wd nk h row pieces) ⟨gK e wb (I 2) (.bool mk) (.any 12),aI⟩) [row,.list pieces,.list []] .next
   (b6 (jg M.Z.P best wd nk h row pieces) ⟨gV (I (Bool.rec 3 2 (bz e))) (.bool mk) (.bool (e.lo' false)),aI⟩)
   ([row,.list (pieces++[.str (.k (SS.val (cH.εR M.Z.P best wd nk) (dR (.root mk) ei e)))]),.list (Bool.rec [] [.cell 5] (bz e)),.list [I 0,ff,I 1,.bool e.simple,I 0,.str []],.list ((e.parts false).map fun s=>.str (.k (SS.val (cH.εR M.Z.P best wd nk) s)))]++Bool.rec [] [(lH (.root mk) e e.m 0 step ind).cell] (bz e)):=by
 have pm:aH (jg M.Z.P best wd nk h row pieces) ((e.parts false).map .str)=(e.parts false).map fun s=>.str (.k (SS.val (cH.εR M.Z.P best wd nk) s)):=by unfold aH;rw[Xi];rfl
 have l1:∀ x,dq (.seg pieces) [x]=.list (pieces++[x]):=fun x=>dk (WZ hp (by decide)) (by show 1≤50000;decide);refine(jP (Z:=cH.εR M.Z.P best wd nk) rfl (fR _ _ _) (rJ lo wb (.root mk) e) (rH Cy hb hw6 hn) ⟨rfl,(by decide:6≤12),rfl⟩ hc).cast rfl ?_ rfl ?_ ?_
 ·show [row,dq (.seg pieces) [],.list []]=_
  rw[dk (WZ hp (by decide)) (by decide),aX]
 ·show b6 _ ⟨gV (I (Bool.rec 2 3 (true&&!bz e))) (.bool mk) (.bool (e.lo' false)),aI⟩=_
  cases bz e<;>rfl
 ·show bE _ ([.any 0,.spl 1 [.str (dR (.root mk) ei e)],.list (Bool.rec [] [.cell 5] (bz e)),AO e.simple,.list ((e.parts false).map .str)]++Bool.rec [] [mF (.root mk) e e.m] (bz e))=_
  cases bz e with
  |false=>
   show [row,dq (.seg pieces) [.str (.k (SS.val (cH.εR M.Z.P best wd nk) (dR (.root mk) ei e)))],.list [],.list [I 0,ff,I 1,.bool e.simple,I 0,.str []],.list (aH (jg M.Z.P best wd nk h row pieces) ((e.parts false).map .str))]=_;rw[l1,pm];rfl
  |true=>
   show [row,dq (.seg pieces) [.str (.k (SS.val (cH.εR M.Z.P best wd nk) (dR (.root mk) ei e)))],.list [.cell 5],.list [I 0,ff,I 1,.bool e.simple,I 0,.str []],.list (aH (jg M.Z.P best wd nk h row pieces) ((e.parts false).map .str)),fC _ (mF (.root mk) e e.m)]=_;rw[l1,pm,Io (fun q=>by injection q) (by rw[Ca,hs])];rfl
def O4(hb:2≤best∧best≤9)(hw6:1≤wd.length∧wd.length≤3){mk:Bool}{e:Ab}(hn:md true false nk)(hc:(rX (.root mk) e).chk=true)(hp:pieces.length≤40000) :
  bc M 150 gg (b6 (jg M.Z.P best wd nk h row pieces) ⟨gK e false (I 2) (.bool mk) (.any 12),aI⟩) [row,.list pieces,.list []] (.ret (.tup [.cell 1,.str (.k [])]))
   (b6 (jg M.Z.P best wd nk h row pieces) ⟨gV (I 2) (.bool mk) (.any 12),aI⟩) [row,.list pieces,.list [],.list [I 0,ff,I 0,ff,I 0,.str []]]:=by
 refine(jP (Z:=cH.εR M.Z.P best wd nk) rfl (fR _ _ _) (rX (.root mk) e) (rH Cy hb hw6 hn) ⟨rfl,(by decide:6≤12),rfl⟩ hc).cast rfl ?_ rfl rfl ?_
 ·show [row,dq (.seg pieces) [],.list []]=_
  rw[dk (WZ hp (by decide)) (by decide),aX]
 ·show [row,dq (.seg pieces) [],.list [],.list [I 0,ff,I 0,ff,I 0,.str []]]=_
  rw[dk (WZ hp (by decide)) (by decide),aX]
def r4(lo:Bool)(nk:Int):Prop:=Bool.rec ((5:Int)≤nk∧nk≤20) ((0:Int)≤nk∧nk≤3) lo
def EN(hb:2≤best∧best≤9)(hw:1≤wd.length∧wd.length≤3){lo:Bool}(hn:r4 lo nk):aU (βD lo) (cH.εR M.Z.P best wd nk):=by
 have e0:(0:Int)≤0∧(0:Int)≤0:=⟨bO 0,bO 0⟩;refine qi ⟨e0,e0,e0,e0,e0,e0,⟨bO 0,by show (0)≤900;decide⟩,e0,hb,e0,e0,e0,e0,⟨bw hw.1,bw hw.2⟩,?_,trivial⟩;cases lo<;>exact hn
def QM(hb:2≤best∧best≤9)(hw6:1≤wd.length∧wd.length≤3){lo:Bool}{p:Pd}{e:Ad}(hn:r4 lo nk)(hc:(dJ lo p e).chk=true)(hp:pieces.length≤40000) :
  bc M 150 gg (b6 (jg M.Z.P best wd nk h row pieces) ⟨nM p e,aI⟩) [row,.list pieces,.list []] .next (b6 (jg M.Z.P best wd nk h row pieces) ⟨(dJ lo p e).out,aI⟩) [row,.list (pieces++[.str (.k (SS.val (cH.εR M.Z.P best wd nk) (eI p e)))]),.list []]:=by
 refine(jP (Z:=cH.εR M.Z.P best wd nk) rfl (fR _ _ _) (dJ lo p e) (EN hb hw6 hn) ⟨rfl,(by decide:6≤12),rfl⟩ hc).cast rfl ?_ rfl rfl ?_
 ·show [row,dq (.seg pieces) [],.list []]=_
  rw[dk (WZ hp (by decide)) (by decide),aX]
 ·show [row,dq (.seg pieces) [.str (.k (SS.val (cH.εR M.Z.P best wd nk) (eI p e)))],.list []]=_
  rw[dk (WZ hp (by decide)) (by show 1≤50000;decide)]
def KK(hb:2≤best∧best≤9)(hw6:1≤wd.length∧wd.length≤3)(hn:r4 true nk)(hc:(dX p C).chk=true)(hp:pieces.length≤40000) :
  bc M 150 gg (b6 (jg M.Z.P best wd nk h row pieces) ⟨nM p (.ot C),aI⟩) [row,.list pieces,.list []] (.ret (.tup [.cell 1,.str (.k [])])) (b6 (jg M.Z.P best wd nk h row pieces) ⟨[],aI⟩) [row,.list pieces,.list []]:=by
 refine(jP (Z:=cH.εR M.Z.P best wd nk) rfl (fR _ _ _) (dX p C) (EN hb hw6 hn) ⟨rfl,(by decide:6≤12),rfl⟩ hc).cast rfl ?_ rfl rfl ?_
 ·show [row,dq (.seg pieces) [],.list []]=_
  rw[dk (WZ hp (by decide)) (by decide),aX]
 ·show [row,dq (.seg pieces) [],.list []]=_
  rw[dk (WZ hp (by decide)) (by decide),aX]
end
def AY(k:Nat)(fl an w st:AV):AV:=tn .none [yo,ql 145,Bb fl,BI fl,.obj 217 [(dh,an),(hV,.none),(i8,.tup [tr,tr]),(uU,w),(b7,.none),(b9,.none),(gi,st)],ym an,
 .obj 229 [(dh,an),(hV,.none),(i8,tr),(b7,.none),(b9,.none),(lQ,fl)],ql 241,.obj 253 [(dh,an),(hV,.none),(i8,tr),(b7,.none),(b9,.none),(lQ,fl)],ql 265] k
def Db(k:Nat):fM where
 B:=[]
 sp:=aq
 d:=5
 fr:=[]
 P:=bB .any aY
 f:=796
 vs:=[.tup [I k,.any 1,.any 2,.any 3,.any 4]]
 r:=AY k (.any 1) (.any 2) (.any 3) (.any 4)
 Q:=bB .any aY
def I7:((List.range 10).all fun k=>(Db k).chk)=true:=by kernel_rfl
section
def MA{k:Nat}(hk:k<10){fl an v st:AV}:fnIn M.K 796=true∧Rz M 75 (bB c x) 796 [.tup [I k,fl,an,v,st]] (AY k fl an v st) (bB c x):=by
 have R:=rd (v:=vW x (tn .none [.none,fl,an,v,st])) (z:=c) (b:=0) rfl M.he (Db k) (fun U U q=>by injection q) (fun U U U=>lX) rfl (re rfl) (aV I7 k (dc hk));refine⟨R.1,R.2.cast rfl rfl ?_ rfl⟩;apply kP hk<;>rfl
end
def nt{idx:ξ}:∀ {j k:Nat},idx.Nodup→ao idx j=some k→ey idx k=j:=by
 induction idx with
 |nil=>intro j k _ h;injection h
 |cons a r ih=>
  intro j k nd h;apply ay (WH.mp nd);intro n1 n2;show Bool.rec (Nat.succ (ey r k)) 0 (a.beq k)=j;cases j with
  |zero=>
   obtain rfl:a=k:=bM h;rw[show a.beq a=true from Xz a]
  |succ j=>
   have h2:=h;have hm:k∈r:=by rw[cJ] at h2;exact Xp h2
   cases e:Nat.beq a k with
   |true=>exact absurd (aJ e▸hm) n1
   |false=>exact congrArg Nat.succ (ih n2 h2)
def EK{φ:cP}(hL:∀ l,φ.L l=l)(hS:∀ s,φ.S s=s):∀ x:AV,(∀ i∈eM (lv x),φ.v i=.any i)→(∀ k∈bX (lv x),φ.c k=k)→flA φ x=x:=by
 have L:∀ xs:List AV,(∀ x∈xs,(∀ i∈eM (lv x),φ.v i=.any i)→(∀ k∈bX (lv x),φ.c k=k)→flA φ x=x)→(∀ i∈eM (bt xs),φ.v i=.any i)→(∀ k∈bX (bt xs),φ.c k=k)→aH φ xs=xs:=fun xs ih g h=>by
  induction xs with
  |nil=>rfl
  |cons x r ihr=>
   have g':∀ i∈eM (lv x++bt r),φ.v i=.any i:=g;have h':∀ k∈bX (lv x++bt r),φ.c k=k:=h;rw[mH] at g';rw[pc] at h';show flA φ x::aH φ r=_;rw[ih x (.head _) (fun i hi=>g' i (aK _ hi)) (fun i hi=>h' i (aK _ hi)),ihr (fun y hy=>ih y (.tail _ hy)) (fun i hi=>g' i (bF _ hi)) (fun i hi=>h' i (bF _ hi))]
 refine AV.ind ?_ ?_ ?_ ?_ ?_ ?_ ?_ ?_ ?_ ?_ ?_ ?_ ?_ ?_ ?_
 ·exact fun _ _=>rfl
 ·exact fun _ _ _=>rfl
 ·exact fun l _ _=>congrArg AV.int (hL l)
 ·exact fun s _ _=>congrArg AV.str (hS s)
 ·exact fun k _ h=>congrArg AV.cell (h k (.head _))
 ·exact fun xs ih g h=>by rw[xg] at g h;rw[xL,L xs ih g h]
 ·exact fun C fs ih g h=>by
   rw[zU] at g h;rw[zZ];refine congrArg _ ?_;induction fs with
   |nil=>rfl
   |cons q r ihr=>
    have g':∀ i∈eM (lv q.2++dK r),φ.v i=.any i:=g;have h':∀ k∈bX (lv q.2++dK r),φ.c k=k:=h;rw[mH] at g';rw[pc] at h';show (q.1,flA φ q.2)::fQ φ r=_;rw[ih q (.head _) (fun i hi=>g' i (aK _ hi)) (fun i hi=>h' i (aK _ hi)),ihr (fun y hy=>ih y (.tail _ hy)) (fun i hi=>g' i (bF _ hi)) (fun i hi=>h' i (bF _ hi))]
 ·exact fun _ _=>rfl
 ·exact fun _ _ _=>rfl
 ·exact fun _ _ _=>rfl
 ·exact fun _ _ _=>rfl
 ·exact fun f v ih g h=>congrArg (AV.meth f) (ih g h)
 ·exact fun i g _=>g i (.head _)
 ·exact fun _ _ _ _=>rfl
 ·exact fun _ _ _ _=>rfl
structure iI (x:AV):Prop where
 t:eM (lv x)=[]
 c:bX (lv x)=[]
 f:(lv x).all (dD [])=true
 o:∀ n,d6 n x=true
def iI.fl{φ:cP}(hL:∀ l,φ.L l=l)(hS:∀ s,φ.S s=s){x:AV}(h:iI x):flA φ x=x:=EK hL hS x (fun i hi=>by rw[h.t] at hi;cases hi) (fun i hi=>by rw[h.c] at hi;cases hi)
section
variable {xs:List AV}(h:∀ x∈xs,iI x)
include h
theorem jn{φ:cP}(hL:∀ l,φ.L l=l)(hS:∀ s,φ.S s=s):aH φ xs=xs:=by
 unfold aH;rw[Xr (g:=id) fun x hx=>(h x hx).fl hL hS,List.map_id]
theorem iq:bX (bt xs)=[]:=by
 induction xs with
 |nil=>rfl
 |cons x r ih=>show bX (lv x++bt r)=[];rw[pc,(h x (.head _)).c,ih fun y hy=>h y (.tail _ hy)];rfl
theorem Am:(bt xs).all (dD [])=true:=by
 induction xs with
 |nil=>rfl
 |cons x r ih=>show (lv x++bt r).all (dD [])=true;rw[XR,(h x (.head _)).f,ih fun y hy=>h y (.tail _ hy)];rfl
theorem ur(n:Nat):eB n xs=true:=by
 induction xs with
 |nil=>rfl
 |cons x r ih=>
  show (match d6 n x with|true=>eB n r|false=>false)=true;rw[(h x (.head _)).o n];exact ih fun y hy=>h y (.tail _ hy)
end
def xK(s:ξ):iI (.str (.k s)):=⟨rfl,rfl,by cases s<;>rfl,fun _=>rfl⟩
noncomputable def cps(a r:Nat):List AV:=(List.range r).map fun i=>.cell (a+i)
def gj(row:ak)(pieces:List AV)(top:Fm)(fs:List Fm):St:=[row,.list pieces,.list (cps 4 fs.length++[.cell 3]),top.cell]++fs.map Fm.cell
def xM(h:bX (bt xs)=[]):aH (bA idx) xs=xs:=by
 have:=EK (φ:=bA idx) (fun _=>rfl) (fun _=>rfl) (.tup xs) (fun _ _=>rfl) (by rw[xg,h];exact et);rw[xL] at this;injection this
def Hw(J τ:St)(j:Nat):dr (J++τ) (J.length+j)=dr τ j:=by
 unfold dr;rw[nh]
def By(h:i<r)(g:Nat→Nat):ao ((List.range r).map g) i=some (g i):=by
 rw[cJ,List.getElem?_map,List.getElem?_range h];rfl
def xC{J:St}(hl:J.length=a)(fs:List Fm):((List.range fs.length).map fun i=>fC (bA idx) (dr (J++fs.map Fm.cell) (a+i)))=fs.map Fm.cell:=by
 apply List.ext_getElem?;intro i;rw[List.getElem?_map,List.getElem?_map]
 by_cases hi:i<fs.length
 ·rw[List.getElem?_range hi,List.getElem?_eq_getElem hi]
  show some (fC (bA idx) (dr (J++fs.map Fm.cell) (a+i)))=some (fs[i]).cell;rw[←hl,Hw];unfold dr;rw[ph,cJ,List.getElem?_eq_getElem hi];rfl
 ·have h1:=Nat.le_of_not_lt hi
  rw[WR (by rw[XV];exact h1),WR h1];rfl
def vd{idx:ξ}(nd:idx.Nodup)(h:∀ i,i<r→ao idx (b+i)=some (a+i)):aH (bA idx) (cps a r)=cps b r:=by
 unfold cps aH;rw[Xi];refine Xr fun i hi=>?_;show AV.cell (ey idx (a+i))=.cell (b+i);rw[nt nd (h i (List.mem_range.mp hi))]
noncomputable def gw(r:Nat):ξ:=[0,1,2,5]++((List.range r).map (6+·)++[3])
def Do(r:Nat):(gw r).Nodup:=by
 refine List.nodup_append.mpr ⟨by decide,List.nodup_append.mpr ⟨?_,by simp,fun a ha b hb=>?_⟩,fun a ha b hb=>?_⟩
 ·exact List.pairwise_map.mpr (List.Pairwise.imp (fun {a b} h e=>h (Nat.add_left_cancel e)) (List.nodup_range))
 ·apply af (cC ha);intro i _ e0;clear ha;subst e0
  rw[bU hb];exact Nat.ne_of_gt (Xa (nleT rfl) (W0 _ _))
 ·have h4:=by simpa using ha
  rcases cZ hb with hb|hb
  ·apply af (cC hb);intro i _ e0;clear hb;subst e0
   rcases h4 with e|e|e|e<;>exact e▸WV (Nat.lt_add_right _ (nleT rfl))
  ·rw[bU hb];rcases h4 with e|e|e|e<;>(rw[e];decide)
def VF(h:i<r):ao (gw r) (4+i)=some (6+i):=by
 show ao ([0,1,2,5]++_) (([0,1,2,5]).length+i)=_;rw[nh];exact oa (By h (6+·))
def Ky:ao (gw r) (4+r)=some 3:=by
 show ao ([0,1,2,5]++_) (([0,1,2,5]).length+r)=_;rw[nh];have:=nh ((List.range r).map (6+·)) [3] 0;rw[Wr,XV] at this;exact this
def Ju{top gr:Fm}{fs:List Fm}(h1:fC (bA (gw fs.length)) row=row)(h2:bX (bt pieces)=[]) :
  ig (gw fs.length) ([row,.list pieces,.list (cps 6 fs.length++[.cell 3,.cell 5]),top.cell,.list parts,gr.cell]++fs.map Fm.cell)=gj row pieces gr (fs++[top]):=by
 have nd:=Do fs.length;have e5:ey (gw fs.length) 5=3:=nt nd rfl;have pth:aH (bA (gw fs.length)) (cps 6 fs.length++[.cell 3,.cell 5])=cps 4 (fs++[top]).length++[.cell 3]:=by
  have:aH (bA (gw fs.length)) (cps 6 fs.length++[.cell 3,.cell 5])=aH (bA (gw fs.length)) (cps 6 fs.length)++[.cell (ey (gw fs.length) 3),.cell (ey (gw fs.length) 5)]:=by unfold aH;rw[Wl];rfl
  rw[this,vd nd (fun i hi=>VF hi),nt nd Ky,e5];unfold cps;rw[aB,Xq,List.range_succ,Wl,bP];rfl
 have mid:=xC (idx:=gw fs.length) (J:=[row,.list pieces,.list (cps 6 fs.length++[.cell 3,.cell 5]),top.cell,.list parts,gr.cell]) (a:=6) rfl fs;show (([0,1,2,5])++((List.range fs.length).map (6+·)++[3])).map _=_;rw[Wl,Wl,Xi];show [fC (bA (gw fs.length)) row,.list (aH (bA (gw fs.length)) pieces),.list (aH (bA (gw fs.length)) (cps 6 fs.length++[.cell 3,.cell 5])),fC (bA (gw fs.length)) gr.cell]++((List.range fs.length).map (fun i=>fC (bA (gw fs.length)) (dr _ (6+i)))++[fC (bA (gw fs.length)) top.cell])=_;rw[mid,h1,xM h2,pth];unfold gj;rw[Wl];rfl
noncomputable def iT(r:Nat):ξ:=[0,1,2,3]++(List.range r).map (5+·)
def HR(r:Nat):(iT r).Nodup:=by
 refine List.nodup_append.mpr ⟨by decide,List.pairwise_map.mpr (List.Pairwise.imp (fun {a b} h e=>h (Nat.add_left_cancel e)) (List.nodup_range)),fun a ha b hb=>?_⟩;have h4:=by simpa using ha
 apply af (cC hb);intro i _ e0;clear hb;subst e0;rcases h4 with e|e|e|e<;>exact e▸WV (Nat.lt_add_right _ (nleT rfl))
def K1{top:Fm}{fs:List Fm}(h1:fC (bA (iT fs.length)) row=row)(h2:bX (bt pieces)=[]) :
  ig (iT fs.length) ([row,.list pieces,.list (cps 5 fs.length++[.cell 3]),top.cell,.list parts]++fs.map Fm.cell)=gj row pieces top fs:=by
 have nd:=HR fs.length;have e3:ey (iT fs.length) 3=3:=nt nd rfl;have pth:aH (bA (iT fs.length)) (cps 5 fs.length++[.cell 3])=cps 4 fs.length++[.cell 3]:=by
  have:aH (bA (iT fs.length)) (cps 5 fs.length++[.cell 3])=aH (bA (iT fs.length)) (cps 5 fs.length)++[.cell (ey (iT fs.length) 3)]:=by unfold aH;rw[Wl];rfl
  rw[this,vd nd (fun i hi=>?_),e3];show ao ([0,1,2,3]++_) (([0,1,2,3]).length+i)=_;rw[nh];exact By hi (5+·)
 have mid:=xC (idx:=iT fs.length) (J:=[row,.list pieces,.list (cps 5 fs.length++[.cell 3]),top.cell,.list parts]) (a:=5) rfl fs;show (([0,1,2,3])++(List.range fs.length).map (5+·)).map _=_;rw[Wl,Xi];show [fC (bA (iT fs.length)) row,.list (aH (bA (iT fs.length)) pieces),.list (aH (bA (iT fs.length)) (cps 5 fs.length++[.cell 3])),fC (bA (iT fs.length)) top.cell]++(List.range fs.length).map (fun i=>fC (bA (iT fs.length)) (dr _ (5+i)))=_;rw[mid,h1,xM h2,pth];rfl
def Vk(h:k∈bX (bt (cps a r))):∃ i,i<r∧k=a+i:=by
 have e:bX (bt (cps a r))=(List.range r).map (a+·):=by
  unfold cps;clear h;induction r with
  |zero=>rfl
  |succ r ih=>
   rw[List.range_succ,Wl,Wl,←ih];show bX ((List.map (fun i=>AV.cell (a+i)) (List.range r)++[AV.cell (a+r)]).flatMap lv)=_;rw[XC,pc];rfl
 rw[e] at h;apply af (cC h);intro i h1 h2;exact⟨i,List.mem_range.mp h1,h2.symm⟩
def Ko{idx:ξ}{J:St}(nd:idx.Nodup)(lt:∀ i∈idx,i<J.length)(hc:∀ c∈J,∀ k∈bX (fP c),k∈idx)(hl:∀ k∈bX (dK ls),k∈idx):nT idx ls J=true:=by
 have ndN:∀ {l:ξ},l.Nodup→kY l=true:=by
  intro l;induction l with
  |nil=>exact fun _=>rfl
  |cons a r ih=>
   intro h;apply ay (WH.mp h);intro h1 h2;show (!dB a r&&kY r)=true;cases q:dB a r with
   |true=>exact absurd (mt.mp q) h1
   |false=>exact ih h2
 have ce:∀ {l:List AV},(∀ k∈bX l,k∈idx)→(l.all fun x=>match x with|.cell k=>dB k idx|_=>true)=true:=fun {l} h=>XK.mpr fun x hx=>by
  cases x with
  |cell k=>exact mt.mpr (h k (X4 ⟨_,hx,.head _⟩))
  |_=>rfl
 have at_mem:∀ i∈idx,dr J i∈J:=fun i hi=>by
  unfold dr;rw[cJ,List.getElem?_eq_getElem (lt i hi)];exact List.getElem_mem _
 refine Wp.mpr ⟨ndN nd,Wp.mpr ⟨XK.mpr fun i hi=>?_,Wp.mpr ⟨XK.mpr fun i hi=>ce (hc _ (at_mem i hi)),ce hl⟩⟩⟩;rw[aZ];exact Wn (lt i hi)
def vD{idx:ξ}{A:St}{fs:List Fm}(h:∀ c∈A,∀ k∈bX (fP c),k∈idx):∀ c∈A++fs.map Fm.cell,∀ k∈bX (fP c),k∈idx:=fun c hc k hk=>by
 rcases cZ hc with hc|hc
 ·exact h c hc k hk
 ·apply af (cC hc);intro f _ e0;subst e0
  cases hk
noncomputable def gH(r:Nat):ξ:=[0,1,2,3,4+r]++(List.range r).map (4+·)
noncomputable def iW(r:Nat):ξ:=[0,1,2,4]++(List.range r).map (5+·)
def CU{a:ξ}(h:a.Nodup)(g:∀ x∈a,x<b∨b+r≤x):(a++(List.range r).map (b+·)).Nodup:=by
 refine List.nodup_append.mpr ⟨h,List.pairwise_map.mpr (List.Pairwise.imp (fun {a b} h e=>h (Nat.add_left_cancel e)) (List.nodup_range)),fun x hx y hy=>?_⟩;apply af (cC hy);intro i hi e0;clear hy;subst e0;rcases g x hx with q|q<;>first|exact WV (Xa q (W0 _ _))|exact Nat.ne_of_gt (Xa (Xl (List.mem_range.mp hi) _) q)
def FS(r:Nat):(gH r).Nodup:=CU (by simp;lia) (fun x hx=>by
 simp only [Xf,WA,or_false] at hx;rcases hx with e|e|e|e|e<;>first|exact .inl (e▸nleT rfl)|exact .inr (W7 e.symm))
def E5(r:Nat):(iW r).Nodup:=CU (by decide) (fun x hx=>by
 simp only [Xf,WA,or_false] at hx;rcases hx with e|e|e|e<;>first|exact .inl (e▸nleT rfl)|exact .inr (W7 e.symm))
def CA(h:i<r):ao (a++(List.range r).map (b+·)) (a.length+i)=some (b+i):=by
 rw[nh];exact By h (b+·)
def Ls:cps a (r+1)=cps a r++[.cell (a+r)]:=by unfold cps;rw[List.range_succ,Wl];rfl
def JD{J τ:St}(h:j<J.length):dr (J++τ) j=dr J j:=by
 unfold dr;rw[cJ,cJ,List.getElem?_append_left h]
def OP{l:List Fm}(h1:fC (bA (gH l.length)) row=row)(h2:bX (bt pieces)=[]) :
  ig (gH l.length) (gj row pieces f (l++[f2]))=[row,.list pieces,.list (cps 5 l.length++[.cell 4,.cell 3]),f.cell,f2.cell]++l.map Fm.cell:=by
 have nd:=FS l.length;have e3:ey (gH l.length) 3=3:=nt nd rfl;have e4:ey (gH l.length) (4+l.length)=4:=nt nd rfl;have pth:aH (bA (gH l.length)) (cps 4 (l++[f2]).length++[.cell 3])=cps 5 l.length++[.cell 4,.cell 3]:=by
  rw[aB,Xq,Ls,bP];have:aH (bA (gH l.length)) (cps 4 l.length++([.cell (4+l.length)]++[.cell 3]))=aH (bA (gH l.length)) (cps 4 l.length)++[.cell (ey (gH l.length) (4+l.length)),.cell (ey (gH l.length) 3)]:=by unfold aH;rw[Wl];rfl
  rw[this,vd (b:=5) nd (fun i hi=>CA hi),e3,e4]
 have cn:gj row pieces f (l++[f2])=([row,.list pieces,.list (cps 4 (l++[f2]).length++[.cell 3]),f.cell]++l.map Fm.cell)++[f2.cell]:=by unfold gj;rw[Wl,bP];rfl
 have at4:dr (gj row pieces f (l++[f2])) (4+l.length)=f2.cell:=by
  rw[cn];have:=Hw ([row,.list pieces,.list (cps 4 (l++[f2]).length++[.cell 3]),f.cell]++l.map Fm.cell) [f2.cell] 0;have e:([row,.list pieces,.list (cps 4 (l++[f2]).length++[.cell 3]),f.cell]++l.map Fm.cell).length+0=4+l.length:=aB.trans (congrArg (4+·) (Wr ..));rw[e] at this;exact this
 have mid:((List.range l.length).map fun i=>fC (bA (gH l.length)) (dr (gj row pieces f (l++[f2])) (4+i)))=l.map Fm.cell:=by
  rw[←xC (J:=[row,.list pieces,.list (cps 4 (l++[f2]).length++[.cell 3]),f.cell]) (a:=4) rfl l];refine Xr fun i hi=>?_;rw[cn,JD (by rw[aB,Wr];exact Xl (List.mem_range.mp hi) 4)]
 show (([0,1,2,3,4+l.length])++(List.range l.length).map (4+·)).map _=_;rw[Wl,Xi];show [fC (bA (gH l.length)) row,.list (aH (bA (gH l.length)) pieces),.list (aH (bA (gH l.length)) (cps 4 (l++[f2]).length++[.cell 3])),fC (bA (gH l.length)) f.cell,fC (bA (gH l.length)) (dr (gj row pieces f (l++[f2])) (4+l.length))]++(List.range l.length).map (fun i=>fC (bA (gH l.length)) (dr _ (4+i)))=_;rw[mid,h1,xM h2,pth,at4];rfl
def MH{f f2:Fm}{l:List Fm}(h1:fC (bA (iW l.length)) row=row)(h2:bX (bt pieces)=[]) :
  ig (iW l.length) ([row,.list pieces,.list (cps 5 l.length++[.cell 4]),f.cell,f2.cell]++l.map Fm.cell)=gj row pieces f2 l:=by
 have nd:=E5 l.length;have e4:ey (iW l.length) 4=3:=nt nd rfl;have pth:aH (bA (iW l.length)) (cps 5 l.length++[.cell 4])=cps 4 l.length++[.cell 3]:=by
  have:aH (bA (iW l.length)) (cps 5 l.length++[.cell 4])=aH (bA (iW l.length)) (cps 5 l.length)++[.cell (ey (iW l.length) 4)]:=by unfold aH;rw[Wl];rfl
  rw[this,vd (b:=4) nd (fun i hi=>CA hi),e4]
 have mid:=xC (idx:=iW l.length) (J:=[row,.list pieces,.list (cps 5 l.length++[.cell 4]),f.cell,f2.cell]) (a:=5) rfl l;show (([0,1,2,4])++(List.range l.length).map (5+·)).map _=_;rw[Wl,Xi];show [fC (bA (iW l.length)) row,.list (aH (bA (iW l.length)) pieces),.list (aH (bA (iW l.length)) (cps 5 l.length++[.cell 4])),fC (bA (iW l.length)) f2.cell]++(List.range l.length).map (fun i=>fC (bA (iW l.length)) (dr _ (5+i)))=_;rw[mid,h1,xM h2,pth];rfl
structure Tk where
 k:Nat
 fl:Bool
 an:Nat
 w:ξ
 st:Nat
def gx(i:Nat):AV:=tn .none [.none,.str [.lit [120]],.str [.lit [121]]] i
def Tk.av(t:Tk):AV:=.tup [I t.k,.bool t.fl,gx t.an,.str (.k t.w),fw t.st]
def Tk.ev(t:Tk):AV:=AY t.k (.bool t.fl) (gx t.an) (.str (.k t.w)) (fw t.st)
def PA:List Tk:=([]::gW).flatMap fun w=>[0,1,2].flatMap fun st=>[0,1].map fun an=>⟨4,false,an,w,st⟩
def Qf:List Tk:=[6,8].flatMap fun k=>tf.flatMap fun fl=>[0,1].map fun an=>⟨k,fl,an,[],0⟩
noncomputable def xH:List Tk:=[⟨5,false,2,[],0⟩,⟨5,false,1,[99],0⟩,⟨5,false,0,[],0⟩,⟨6,false,0,[99],0⟩,⟨8,false,0,[99],0⟩,⟨2,true,0,[],0⟩,⟨3,true,0,[],0⟩]++[0,1,2,3,7,9].flatMap fun k=>[[],[99]].map fun w=>⟨k,false,0,w,0⟩
def au:List Tk:=PA++(Qf++xH)
noncomputable def ag(t nx:Tk):Bool:=(t.k.beq 6&&nx.k.beq 7) ||(t.k.beq 8&&nx.k.beq 9)
def Tk.ab(t:Tk)(ho:Bool):Ab:=tn (.no 0) [.no 0,.no 1,.no 2,.no 3,.sc (!bD t.w) t.st (t.an.beq 1),Bool.rec (.al (t.an.beq 2)) (.no 4) (t.an.beq 0),.st false t.fl (t.an.beq 1) ho,.en false,.st true t.fl (t.an.beq 1) ho,.en true] t.k
def Tk.w6(t:Tk):ξ:=Bool.rec t.w [97] (bD t.w)
def Tk.wd(t:Tk):Bool:=!bD t.w&&!t.k.beq 4
structure Md where
 pl:Nat
 fi:Bool
 mr:Bool
 lo:Bool
 fs:List Fm
 tp:κ Fm
def Md.p(m:Md):Ps:=match m.tp with|some f=>f.ps|none=>.root m.mr
def Md.f(m:Md):Fm:=match m.tp with|some f=>f|none=>cH
def Md.Z(P:Params)(b:Nat)(m:Md)(t:Tk):Ev:=m.f.εR P b t.w6 0
def Md.txt(P:Params)(b:Nat)(m:Md)(t:Tk)(e:Ab):ξ:=SS.val (m.Z P b t) (dR m.p m.p.lnR e)
def Md.ld(P:Params)(b:Nat)(m:Md)(t:Tk)(e:Ab):ξ:=SS.val (m.Z P b t) (m.p.lead m.p.lnR e.simple).t
def indN(p:Ps)(e:Ab)(ind b:Nat):Nat:=Bool.rec (Bool.rec (Bool.rec (ind+b) ind (p.mp&&(!e.m&&!p.beh e))) 0 p.isRoot) (Bool.rec (ind+b) b p.isRoot) (e.gr p.flow)
def Md.gr(b:Nat)(m:Md)(e:Ab):Fm:=lH m.p e e.m m.f.col b (indN m.p e m.f.ind b)
noncomputable def eQ:List Addr:=[133,145,165,185,217,197,229,241,253,265]
def Tk.ad(t:Tk)(fi:Bool)(nx:Tk)(qm:Nat):Ad:=tn (.ot (tn 0 eQ t.k)) [.ss,.se,.ds t.fl (Bool.rec 0 (Bool.rec 1 (2+(Bool.rec 0 6 (bD nx.w)+(Bool.rec 0 3 (nx.an.beq 0)+qm))) (nx.k.beq 4)) (fi&&!t.fl)),.de t.fl] t.k
def Md.pd(m:Md)(v:Bool):Pd:=tn .d4 [.d0,.d1 m.fi m.lo,.d4,.d3 v m.lo] m.pl
def iR(pl k:Nat):Bool:=Bool.rec (Bool.rec (pl.beq 3&&k.beq 3) (k.beq 1 ||k.beq 2) (pl.beq 1)) (k.beq 0) (pl.beq 0)
def rD{C:(p k:Nat)→iR p k=true→Prop}(a:C 0 0 rfl)(b:C 1 1 rfl)(c:C 1 2 rfl)(d:C 3 3 rfl)(p k:Nat)(h:iR p k=true):C p k h:=by
 have g:(p=0∧k=0)∨(p=1∧k=1)∨(p=1∧k=2)∨p=3∧k=3:=by
  unfold iR at h;cases q:Nat.beq p 0 with
  |true=>rw[q] at h;exact .inl ⟨aJ q,aJ h⟩
  |false=>
   rw[q] at h;cases r:Nat.beq p 1 with
   |true=>rw[r] at h;exact(X6 h).elim (fun h=>.inr (.inl ⟨aJ r,aJ h⟩)) fun h=>.inr (.inr (.inl ⟨aJ r,aJ h⟩))
   |false=>rw[r] at h;exact .inr (.inr (.inr ⟨aJ (aw h).1,aJ (aw h).2⟩))
 rcases g with ⟨rfl,rfl⟩|⟨rfl,rfl⟩|⟨rfl,rfl⟩|⟨rfl,rfl⟩
 ·exact a
 ·exact b
 ·exact c
 ·exact d
def Md.dn(m:Md)(t nx:Tk):Md:=⟨py (t.ad m.fi nx 0),m.fi&&!t.k.beq 2,Bool.rec m.mr (dO (m.pd true) (t.ad m.fi nx 0)) (t.k.beq 2),m.lo&&!(t.k.beq 3&&t.fl),[],none⟩
inductive eV (P:Params) (b:Nat) (t nx:Tk):Md→κ Md→ξ→Prop
 |doc {m:Md}:Nat.beq m.pl 2=false→iR m.pl t.k=true→eV P b t nx m (some (m.dn t nx)) (SS.val (m.Z P b t) (eI (m.pd true) (t.ad m.fi nx 0)))
 |docx {m:Md}:Nat.beq m.pl 2=false→iR m.pl t.k=false→eV P b t nx m none []
 |root {fi mr lo:Bool} {fs:List Fm}:eo (t.ab (ag t nx))=true→eV P b t nx ⟨2,fi,mr,lo,fs,none⟩ (some ⟨Bool.rec 3 2 (bz (t.ab (ag t nx))),fi,mr,(t.ab (ag t nx)).lo' false,[],Bool.rec none (some (Md.gr b ⟨2,fi,mr,lo,fs,none⟩ (t.ab (ag t nx)))) (bz (t.ab (ag t nx)))⟩) (Md.txt P b ⟨2,fi,mr,lo,fs,none⟩ t (t.ab (ag t nx)))
 |node {fi mr lo:Bool} {fs:List Fm} {f:Fm}:eo (t.ab (ag t nx))=true→eV P b t nx ⟨2,fi,mr,lo,fs,some f⟩ (some ⟨2,fi,mr,lo,Bool.rec fs (fs++[f.adv (t.ab (ag t nx)).simple]) (bz (t.ab (ag t nx))),some (Bool.rec (f.adv (t.ab (ag t nx)).simple) (Md.gr b ⟨2,fi,mr,lo,fs,some f⟩ (t.ab (ag t nx))) (bz (t.ab (ag t nx))))⟩) (Md.txt P b ⟨2,fi,mr,lo,fs,some f⟩ t (t.ab (ag t nx)))
 |end1 {fi mr lo mm:Bool} {f:Fm}:t.ab (ag t nx)=.en mm→fh f.ps mm=true→eV P b t nx ⟨2,fi,mr,lo,[],some f⟩ (some ⟨3,fi,mr,lo,[],none⟩) (ez f.ps)
 |end2 {fi mr lo mm:Bool} {f f2:Fm} {l:List Fm}:t.ab (ag t nx)=.en mm→fh f.ps mm=true→eV P b t nx ⟨2,fi,mr,lo,l++[f2],some f⟩ (some ⟨2,fi,mr,lo,l,some f2⟩) (ez f.ps)
 |ref {fi mr lo:Bool} {fs:List Fm} {o:κ Fm}:eo (t.ab (ag t nx))=false→(∀ mm,t.ab (ag t nx)=.en mm→fh (Md.p ⟨2,fi,mr,lo,fs,o⟩) mm=false)→eV P b t nx ⟨2,fi,mr,lo,fs,o⟩ none (Md.ld P b ⟨2,fi,mr,lo,fs,o⟩ t (t.ab (ag t nx)))
def wn(C:Md→Prop)(o:κ Md):Prop:=Option.rec True C o
def vg(P:Params)(b:Nat)(m:Md)(t nx:Tk):∃ o x,eV P b t nx m o x:=by
 obtain⟨pl,fi,mr,lo,fs,tp⟩:=m;cases h:Nat.beq pl 2 with
 |false=>
  cases q:iR pl t.k with
  |true=>exact⟨_,_,.doc h q⟩
  |false=>exact⟨_,_,.docx h q⟩
 |true=>
  rw[aJ h];clear h;cases q:eo (t.ab (ag t nx)) with
  |true=>
   cases tp with
   |none=>exact⟨_,_,.root q⟩
   |some f=>exact⟨_,_,.node q⟩
  |false=>
   cases tp with
   |none=>exact⟨_,_,.ref q fun _ _=>rfl⟩
   |some f=>
    cases e:t.ab (ag t nx) with
    |en mm=>
     cases g:fh f.ps mm with
     |false=>exact⟨_,_,.ref q fun m' e'=>by rw[e] at e';injection e' with e';exact e'▸g⟩
     |true=>
      rcases List.eq_nil_or_concat fs with w|⟨l,f2,w⟩
      ·rw[w];exact⟨_,_,.end1 e g⟩
      ·rw[w,List.concat_eq_append];exact⟨_,_,.end2 e g⟩
    |no k=>exact⟨_,_,.ref q fun m' e'=>by rw[e] at e';injection e'⟩
    |_=>rw[e] at q;injection q
def hW(m:Md)(j:Nat)(t nx:Tk):Nat→AV:=tO (fun _=>.none) 8 [some (.str (.k m.f.ah)),some (.bool m.f.pr),some (.bool m.fi),some (.bool m.mr),some (.bool m.lo),some (I j),some (.str (.k t.w)),some (fw t.st),none,some (.bool t.fl),some (gx t.an),none,some (.bool nx.fl),some (gx nx.an),some (.str (.k nx.w)),some (fw nx.st),some nx.av]
def eu(b:Nat)(m:Md)(j:Nat):List (Str×AV):=[(bu,.cell 0),(bZ,I b),(c9,.cell 1),(hH,.cell 2),(hK,I m.pl),(ge,.bool m.fi),(gT,.bool m.mr),(g7,.bool m.lo),(cX,I j)]
def eD(b:Nat)(m:Md)(j:Nat)(t nx:Tk):List (Str×AV):=eu b m j++[(jI,I t.k),(mw,.bool t.fl),(dh,gx t.an),(ml,.str (.k t.w)),(gi,fw t.st),(rU,nx.av)]
def dt(t nx:Tk):Nat:=Bool.rec 0 (Bool.rec nx.k 0 (ag t nx)) (t.k.beq 6 ||t.k.beq 8)
def kX(t nx:Tk):Bool:=Nat.ble (dt t nx) (Bool.rec 6 8 (t.ab (ag t nx)).m)
section
variable {f:Fm}
abbrev BA (φ:cP) (e:Ab) (wd:Bool):List AV:=[flA φ (e.tl wd).k,flA φ (e.tl wd).fl,flA φ (e.tl wd).an,flA φ (e.tl wd).w,flA φ (e.tl wd).st]
def LI(ht:t∈au):BA (am (f.εR P b t.w6 nk) (hW m j t nx) z) (t.ab ho) t.wd=[I t.k,.bool t.fl,gx t.an,.str (.k t.w),fw t.st]:=by
 have h:au.map (fun t=>BA (am (f.εR P b t.w6 nk) (hW m j t nx) z) (t.ab true) t.wd)=au.map (fun t=>[I t.k,.bool t.fl,gx t.an,.str (.k t.w),fw t.st])∧au.map (fun t=>BA (am (f.εR P b t.w6 nk) (hW m j t nx) z) (t.ab false) t.wd)=au.map (fun t=>[I t.k,.bool t.fl,gx t.an,.str (.k t.w),fw t.st]):=⟨by kernel_rfl,by kernel_rfl⟩;cases ho with
 |true=>exact X3 h.1 t ht
 |false=>exact X3 h.2 t ht
def cY(ht:t∈au):t.k<10∧1≤t.w6.length∧t.w6.length≤3:=by
 have h:(au.all fun t=>t.k.blt 10&&(Nat.ble 1 t.w6.length&&t.w6.length.ble 3))=true:=by kernel_rfl
 have g:=aw (aV h t ht);have g2:=aw g.2;exact⟨nleT g.1,nleT g2.1,nleT g2.2⟩
def LO(h:ag t nx=true):(t.k=6∧nx.k=7)∨(t.k=8∧nx.k=9):=by
 rcases X6 h with h|h
 ·have h:=aw h;exact .inl ⟨aJ h.1,aJ h.2⟩
 ·have h:=aw h;exact .inr ⟨aJ h.1,aJ h.2⟩
def PD(ht:t∈au)(hn:nx∈au):flA (am (f.εR P b t.w6 (dt t nx)) (hW m j t nx) z) (t.ab (ag t nx)).nx=nx.av:=by
 have av:∀ v:AV,v=I nx.k→AV.tup [v,.bool nx.fl,gx nx.an,.str (.k nx.w),fw nx.st]=nx.av:=fun v e=>by rw[e];rfl
 have k14:flA (am (f.εR P b t.w6 (dt t nx)) (hW m j t nx) z) (lI 14)=I (dt t nx):=by show AV.int (.k ((V 14).val (f.εR P b t.w6 (dt t nx))))=_;rw[co];rfl
 have go:∀ mm,t.ab (ag t nx)=.st mm t.fl (t.an.beq 1) (ag t nx)→t.k=(Bool.rec 6 8 mm:Nat)→flA (am (f.εR P b t.w6 (dt t nx)) (hW m j t nx) z) (t.ab (ag t nx)).nx=nx.av:=fun mm e hk=>by
  rw[e];show AV.tup [flA _ (Bool.rec (lI 14) (I (Bool.rec 7 9 mm)) (ag t nx)),.bool nx.fl,gx nx.an,.str (.k nx.w),fw nx.st]=_;refine av _ ?_;cases h:ag t nx with
  |false=>
   show flA _ (lI 14)=_;rw[k14];unfold dt;rw[h,hk];clear e hk;cases mm<;>rfl
  |true=>
   rcases LO h with ⟨h1,h2⟩|⟨h1,h2⟩
   ·clear e;cases mm with
    |true=>rw[h1] at hk;exact absurd hk (by decide)
    |false=>rw[h2];rfl
   ·clear e;cases mm with
    |false=>rw[h1] at hk;exact absurd hk (by decide)
    |true=>rw[h2];rfl
 have h9:=(cY ht).1;have ab:∀ i,t.k=i→t.ab (ag t nx)=(tn (.no 0) [.no 0,.no 1,.no 2,.no 3,.sc (!bD t.w) t.st (t.an.beq 1),Bool.rec (.al (t.an.beq 2)) (.no 4) (t.an.beq 0),.st false t.fl (t.an.beq 1) (ag t nx),.en false,.st true t.fl (t.an.beq 1) (ag t nx),.en true] i:Ab):=fun i h=>by unfold Tk.ab;rw[h]
 have c:=wr h9;rcases c with c|c|c|c|c|c|c|c|c|c
 ·rw[ab _ c];rfl
 ·rw[ab _ c];rfl
 ·rw[ab _ c];rfl
 ·rw[ab _ c];rfl
 ·rw[ab _ c];rfl
 ·rw[ab _ c]
  show flA _ (Ab.nx (Bool.rec (.al (t.an.beq 2)) (.no 4) (t.an.beq 0)))=_;cases t.an.beq 0<;>rfl
 ·exact go false (ab _ c) c
 ·rw[ab _ c];rfl
 ·exact go true (ab _ c) c
 ·rw[ab _ c];rfl
def Ga(ht:t∈au)(hn:nx∈au):md (kX t nx) (t.ab (ag t nx)).m (dt t nx):=by
 have go:∀ (mm:Bool) (v:Nat),v≤9→v≠(Bool.rec 7 9 mm:Nat)→md (v.ble (Bool.rec 6 8 mm)) mm v:=fun mm v h9 hv=>by
  cases q:Nat.ble v (Bool.rec 6 8 mm) with
  |true=>exact⟨cT _,by cases mm<;>exact bw (nleT q)⟩
  |false=>
   have q2:¬ (v≤(Bool.rec 6 8 mm:Nat)):=fun hh=>by rw[show v.ble _=true from Wn hh] at q;injection q
   refine⟨?_,X5 (WZ h9 (nleT rfl))⟩;cases mm with
   |true=>exact absurd (show v=9 by exact Nat.le_antisymm h9 (Nat.lt_of_not_le q2)) hv
   |false=>have q2:=q2;lia
 refine go _ _ ?_ ?_
 ·unfold dt
  cases (t.k.beq 6 ||t.k.beq 8) with
  |false=>exact WK _
  |true=>cases ag t nx with
   |false=>exact Xm ((cY hn).1)
   |true=>exact WK _
 ·unfold dt
  cases e:(t.k.beq 6 ||t.k.beq 8) with
  |false=>cases (t.ab (ag t nx)).m<;>exact nofun
  |true=>cases h:ag t nx with
   |true=>cases (t.ab true).m<;>exact nofun
   |false=>
    intro hv;replace hv:nx.k=(Bool.rec 7 9 (t.ab false).m:Nat):=hv;rcases X6 e with e|e
    ·have em:(t.ab false).m=false:=by unfold Tk.ab;rw[aJ e];rfl
     rw[em] at hv;unfold ag at h;rw[aJ e,hv] at h;injection h
    ·have em:(t.ab false).m=true:=by unfold Tk.ab;rw[aJ e];rfl
     rw[em] at hv;unfold ag at h;rw[aJ e,hv] at h;injection h
end
def rowC(R:List Tk):ak:=.list (R.map Tk.av)
def aL(S:List ξ):List AV:=S.map fun s=>.str (.k s)
def hU:∀ x∈aL S,iI x:=fun x hx=>by
 apply af (cC hx);intro s _ e0;clear hx;subst e0;exact xK s
def zI{α:Type}{l:List α}{g:α→AV}(h1:l.map (fun t=>eM (lv (g t)))=l.map (fun _=>[]))(h2:l.map (fun t=>bX (lv (g t)))=l.map (fun _=>[]))(h3:(l.all fun t=>(lv (g t)).all (dD []))=true)(h4:(fun n=>l.all fun t=>d6 n (g t))=fun _=>true):∀ t∈l,iI (g t):=fun t ht=>
 ⟨X3 h1 t ht,X3 h2 t ht,aV h3 t ht,fun n=>aV (congrFun h4 n) t ht⟩
def Cr:∀ t∈au,iI t.av:=zI (by kernel_rfl) (by kernel_rfl) (by kernel_rfl) (by kernel_rfl)
def PI:∀ t∈au,iI (gx t.an):=zI (by kernel_rfl) (by kernel_rfl) (by kernel_rfl) (by kernel_rfl)
def Sv:∀ t∈au,iI (fw t.st):=zI (by kernel_rfl) (by kernel_rfl) (by kernel_rfl) (by kernel_rfl)
section
variable {R:List Tk}(hR:∀ t∈R,t∈au)
include hR
theorem jy:∀ x∈R.map Tk.av,iI x:=fun x hx=>by
 apply af (cC hx);intro t ht e0;clear hx;subst e0;exact Cr t (hR t ht)
theorem lD{φ:cP}(hL:∀ l,φ.L l=l)(hS:∀ s,φ.S s=s):fC φ (rowC R)=rowC R:=congrArg ak.list (jn (jy hR) hL hS)
end
def Ip(ht:t∈au)(hn:nx∈au):∀ q∈eD b m j t nx,q.2=.cell 0∨q.2=.cell 1∨q.2=.cell 2∨iI q.2:=fun q hq=>by
 have iv:∀ i,iI (I i):=fun i=>⟨rfl,rfl,rfl,fun _=>rfl⟩;have bv:∀ i,iI (.bool i):=fun i=>⟨rfl,rfl,rfl,fun _=>rfl⟩;unfold eD eu at hq;simp only [WO,WW,Xf,WA,or_false] at hq;rcases hq with rfl|rfl|rfl|rfl|rfl|rfl|rfl|rfl|rfl|rfl|rfl|rfl|rfl|rfl|rfl
 ·exact .inl rfl
 ·exact .inr (.inr (.inr (iv _)))
 ·exact .inr (.inl rfl)
 ·exact .inr (.inr (.inl rfl))
 ·exact .inr (.inr (.inr (iv _)))
 ·exact .inr (.inr (.inr (bv _)))
 ·exact .inr (.inr (.inr (bv _)))
 ·exact .inr (.inr (.inr (bv _)))
 ·exact .inr (.inr (.inr (iv _)))
 ·exact .inr (.inr (.inr (iv _)))
 ·exact .inr (.inr (.inr (bv _)))
 ·exact .inr (.inr (.inr (PI t ht)))
 ·exact .inr (.inr (.inr (xK _)))
 ·exact .inr (.inr (.inr (Sv t ht)))
 ·exact .inr (.inr (.inr (Cr nx hn)))
structure kj (ls:List (Str×AV)):Prop where
 v:∀ q∈ls,q.2=.cell 0∨q.2=.cell 1∨q.2=.cell 2∨iI q.2
 n:nV ls=true
def kR:kj (eu b m j):=⟨fun q hq=>Ip (t:=⟨0,false,0,[],0⟩) (nx:=⟨0,false,0,[],0⟩) (by unfold au xH;simp) (by unfold au xH;simp) q (aK _ hq),by kernel_rfl⟩
def v8(ht:t∈au)(hn:nx∈au):kj (eD b m j t nx):=⟨Ip ht hn,by kernel_rfl⟩
section
variable (h:kj ls)
include h
theorem kj.fl{φ:cP}(hL:∀ l,φ.L l=l)(hS:∀ s,φ.S s=s)(hc:∀ k,k<3→φ.c k=k):fQ φ ls=ls:=by
 unfold fQ;rw[Xr fun q hq=>?_,List.map_id];refine Prod.ext rfl ?_;show flA φ q.2=q.2;rcases h.v q hq with e|e|e|e
 ·rw[e];exact congrArg AV.cell (hc 0 (by decide))
 ·rw[e];exact congrArg AV.cell (hc 1 (by decide))
 ·rw[e];exact congrArg AV.cell (hc 2 (by decide))
 ·exact e.fl hL hS
theorem kj.ok{n:Nat}(hn:3≤n):∀ x v,lk x ls=some v→d6 n v=true:=fun x v hx=>by
 rcases h.v _ (iJ hx) with e|e|e|e
 ·rw[show v=_ from e];exact Wn (WZ (by decide) hn)
 ·rw[show v=_ from e];exact Wn (WZ (by decide) hn)
 ·rw[show v=_ from e];exact Wn hn
 ·exact e.o n
theorem kj.lf:(dK ls).all (dD [])=true:=XK.mpr fun x hx=>by
 apply af (List.mem_flatMap.mp hx);intro q hq hx;rcases h.v q hq with e|e|e|e
 ·rw[e] at hx;obtain rfl:=bU hx;rfl
 ·rw[e] at hx;obtain rfl:=bU hx;rfl
 ·rw[e] at hx;obtain rfl:=bU hx;rfl
 ·exact aV e.f x hx
theorem kj.cl:∀ k∈bX (dK ls),k<3:=fun k hk=>by
 apply af (List.mem_flatMap.mp hk);intro x hx hk;apply af (List.mem_flatMap.mp hx);intro q hq hx;rcases h.v q hq with e|e|e|e
 ·rw[e] at hx;obtain rfl:=bU hx;rw[bU hk];decide
 ·rw[e] at hx;obtain rfl:=bU hx;rw[bU hk];decide
 ·rw[e] at hx;obtain rfl:=bU hx;rw[bU hk];decide
 ·have:k∈bX (lv q.2):=X4 ⟨x,hx,hk⟩
  rw[e.c] at this;cases this
end
noncomputable def fO(r:Nat):List AV:=(List.range r).map fun i=>.any (100+i)
def SR:aH (dS a r) (fO r)=cps a r:=by
 unfold fO cps aH;rw[Xi];refine Xr fun i hi=>?_;show tj a r (100+i)=_;unfold tj nC;rw[show Nat.ble 100 (100+i)=true from Wn (W0 ..),show Nat.blt (100+i) (100+r)=true from Wn (Xl (List.mem_range.mp hi) 100),WD];rfl
def PY(h:eB n xs=true):eB n (fO r++xs)=true:=by
 unfold fO;induction (List.range r) with
 |nil=>exact h
 |cons a l ih=>exact ih
def Q9(h:(bt xs).all (dD [])=true):(bt (fO r++xs)).all (dD [])=true:=by
 unfold fO;induction (List.range r) with
 |nil=>exact h
 |cons a l ih=>exact ih
def MO(fs:List Fm):(fs.map Fm.cell).all yv=true:=XK.mpr fun x hx=>by
 apply af (cC hx);intro f _ e0;clear hx;subst e0;rfl
def vZ{n:Nat}{t:Cx→Sem Flow}{ls ls':List (Str×AV)}(h1:kj ls)(h2:kj ls'){R:List Tk}(hR:∀ t∈R,t∈au){S S':List ξ}{x x':Fm}{X X':St}{fs:List Fm}{f:Fl}{bk bk':List AV}
  (hb:eB (4+X.length) bk=true) (hb2:(bt bk).all (dD [])=true) (hX:fH (4+X.length) X=true) (hX2:(fG X).all (dD [])=true) (hX3:X.all xR=true)
  (gX:∀ r,bE (dS (4+X.length) r) X=X) (gX':∀ r,bE (dS (4+X'.length) r) X'=X') (gb:∀ r,aH (dS (4+X.length) r) bk=bk) (gb':∀ r,aH (dS (4+X'.length) r) bk'=bk') (gf:∀ a r,fF (dS a r) f=f)
  (H:∀ ov,Gk (M.wE M.Z ⟨rfl,M.he⟩ ov M.Z.cv) n 3 t ⟨ls,aI⟩ ([rowC R,.list (aL S),.list (fO fs.length++bk),x.cell]++X) f ⟨ls',aI⟩ ([rowC R,.list (aL S'),.list (fO fs.length++bk'),x'.cell]++X')) :
  Gk M n 3 t ⟨ls,aI⟩ ([rowC R,.list (aL S),.list (cps (4+X.length) fs.length++bk),x.cell]++X++fs.map Fm.cell) f ⟨ls',aI⟩ ([rowC R,.list (aL S'),.list (cps (4+X'.length) fs.length++bk'),x'.cell]++X'++fs.map Fm.cell):=by
 have l1:([rowC R,.list (aL S),.list (fO fs.length++bk),x.cell]++X).length=4+X.length:=aB;have l2:([rowC R,.list (aL S'),.list (fO fs.length++bk'),x'.cell]++X').length=4+X'.length:=aB;have ap:∀ {φ:cP} {xs ys:List AV},aH φ (xs++ys)=aH φ xs++aH φ ys:=Wl;have K:=Gk.frame (A:=[rowC R,.list (aL S),.list (fO fs.length++bk),x.cell]++X) (by rw[l1];exact Xs (by decide)) (MO fs)
  (by
   rw[l1];show (match eB (4+X.length) (R.map Tk.av) with|true=>(match eB (4+X.length) (aL S) with|true=>(match eB (4+X.length) (fO fs.length++bk) with|true=>fH (4+X.length) X|false=>false)|false=>false)|false=>false)=true;rw[ur (jy hR),ur hU,PY hb];exact hX)
  (by rw[l1];exact h1.ok (Xs (by decide))) h1.n
  (by
   show (bt (R.map Tk.av)++(bt (aL S)++(bt (fO fs.length++bk)++(fP x.cell++fG X)))).all (dD [])=true;rw[XR,XR,XR,XR,Am (jy hR),Am hU,Q9 hb2,hX2];have e:(fP x.cell).all (dD [])=true:=by
    show (lv (.str (.k x.ah))++[]).all (dD [])=true;rw[aX];exact(xK x.ah).f
   rw[e];rfl)
  h1.lf hX3 H
 rw[l1,l2,Wr ..] at K;have st:∀ {S:List ξ} {x:Fm} {X:St} {bk:List AV} {a:Nat},bE (dS a fs.length) X=X→aH (dS a fs.length) bk=bk→bE (dS a fs.length) ([rowC R,.list (aL S),.list (fO fs.length++bk),x.cell]++X)=[rowC R,.list (aL S),.list (cps a fs.length++bk),x.cell]++X:=fun {S x X bk a} g g2=>by
  show [fC (dS a fs.length) (rowC R),.list (aH (dS a fs.length) (aL S)),.list (aH (dS a fs.length) (fO fs.length++bk)),x.cell]++bE (dS a fs.length) X=_;rw[lD hR (fun _=>rfl) (fun _=>rfl),jn hU (fun _=>rfl) (fun _=>rfl),ap,SR,g,g2]
 rw[st (gX _) (gb _),st (gX' _) (gb' _),gf] at K;have lc:∀ {ls:List (Str×AV)} {a:Nat},kj ls→b6 (dS a fs.length) ⟨ls,aI⟩=⟨ls,aI⟩:=fun {ls a} h=>congrArg (fun l=>ac.mk l aI) (h.fl (fun _=>rfl) (fun _=>rfl) fun _ _=>rfl);rw[lc h1,lc h2] at K;exact K
section
variable {f:Fm}{b:Nat}{m:Md}
def Jx(p:Ps):SS.val (f.εR P b w nk) p.lnR=SS.val (f.εR P b w 0) p.lnR:=by
 cases p with
 |bq b=>cases b<;>rfl
 |bm s=>cases s<;>rfl
 |_=>rfl
def Hy:SS.val (m.f.εR P b t.w6 nk) (dR m.p m.p.lnR e)=m.txt P b t e:=vP (Z:=m.f.εR P b t.w6 nk) (fun _=>Jx _) rfl e
def zg:flA (am (f.εR P b w nk) (hW m j t nx) z) (lI 8)=I b:=by show AV.int (.k ((V 8).val (f.εR P b w nk)))=_;rw[co];rfl
def QW:flA (am (f.εR P b w nk) (hW m j t nx) z) (di m.p)=.bool m.mr:=by
 unfold Md.p;cases m.tp with
 |none=>rfl
 |some g=>
  have h:∀ p:Ps,p.isRoot=false→di p=.any 11:=fun p h=>by cases p<;>first|rfl|injection h
  rw[h _ hM];rfl
def qU{pl:Nat}{lo:AV}{m':Md}(h1:m'.pl=pl)(h2:m'.fi=m.fi)(h3:m'.mr=m.mr)(h4:flA (am (f.εR P b w nk) (hW m j t nx) z) lo=.bool m'.lo):fQ (am (f.εR P b w nk) (hW m j t nx) z) (gV (I pl) (di m.p) lo)=eu b m' j:=by
 unfold eu;rw[h1,h2,h3];show [(bu,AV.cell 0),(bZ,flA _ (lI 8)),(c9,.cell 1),(hH,.cell 2),(hK,I pl),(ge,.bool m.fi),(gT,flA _ (di m.p)),(g7,flA _ lo),(cX,I j)]=_;rw[zg,QW,h4]
def vT(hp:m.pl=2)(ht:t∈au)(hn:nx∈au):fQ (am (m.f.εR P b t.w6 (dt t nx)) (hW m j t nx) z) (gK (t.ab (ag t nx)) t.wd (I 2) (di m.p) (.any 12))=eD b m j t nx:=by
 have h:=LI (P:=P) (f:=m.f) (b:=b) (nk:=dt t nx) (z:=z) (m:=m) (j:=j) (nx:=nx) (ho:=ag t nx) ht;injection h with h1 h;injection h with h2 h;injection h with h3 h;injection h with h4 h;injection h with h5 h;have e:gK (t.ab (ag t nx)) t.wd (I 2) (di m.p) (.any 12)=gV (I 2) (di m.p) (.any 12)++[(jI,((t.ab (ag t nx)).tl t.wd).k),(mw,((t.ab (ag t nx)).tl t.wd).fl),(dh,((t.ab (ag t nx)).tl t.wd).an),(ml,((t.ab (ag t nx)).tl t.wd).w),(gi,((t.ab (ag t nx)).tl t.wd).st),(rU,(t.ab (ag t nx)).nx)]:=rfl;rw[e];unfold eD fQ;rw[Wl];refine congr (congrArg _ (qU hp rfl rfl rfl)) ?_;show [(jI,flA _ ((t.ab (ag t nx)).tl t.wd).k),(mw,flA _ ((t.ab (ag t nx)).tl t.wd).fl),(dh,flA _ ((t.ab (ag t nx)).tl t.wd).an),(ml,flA _ ((t.ab (ag t nx)).tl t.wd).w),(gi,flA _ ((t.ab (ag t nx)).tl t.wd).st),(rU,flA _ (t.ab (ag t nx)).nx)]=_;rw[h1,h2,h3,h4,h5,PD ht hn]
end
def fZ(b:Bool):b∈tf:=by cases b<;>decide
def R9:(au.all fun t=>t.st.ble 2&&(Bool.rec true (qj t.wd (!Nat.beq t.an 2)) (t.k.beq 5&&!t.an.beq 0)&&Bool.rec true (!t.fl&&!t.an.beq 1) (t.wd&&!t.k.beq 5)))=true:=by kernel_rfl
def ve(ht:t∈au)(h:eo (t.ab ho)=true):t.ab ho∈oZ∧((∃ w q an,t.ab ho=.sc w q an∧t.wd=false)∨(∃ y,t.ab ho=.al y∧t.wd=!y)∨∃ mm fl an,t.ab ho=.st mm fl an ho∧(t.wd=true→(fl ||an)=false)):=by
 have c:=aw (aV R9 t ht);have c2:=aw c.2;have e:∀ i,t.k=i→t.ab ho=(tn (.no 0) [.no 0,.no 1,.no 2,.no 3,.sc (!bD t.w) t.st (t.an.beq 1),Bool.rec (.al (t.an.beq 2)) (.no 4) (t.an.beq 0),.st false t.fl (t.an.beq 1) ho,.en false,.st true t.fl (t.an.beq 1) ho,.en true] i:Ab):=fun i h=>by unfold Tk.ab;rw[h]
 have stm:∀ mm,Ab.st mm t.fl (t.an.beq 1) ho∈oZ:=fun mm=>bF _ (bF _ (X4 ⟨mm,fZ _,X4 ⟨t.fl,fZ _,X4 ⟨_,fZ _,Ws (fZ _)⟩⟩⟩));have wd1:Nat.beq t.k 5=false→t.wd=true→(t.fl ||t.an.beq 1)=false:=fun k5 hw=>by
  have c3:=c2.2;rw[k5,hw] at c3;have c3:=c3;cases q:t.fl<;>cases q2:Nat.beq t.an 1<;>rw[q,q2] at c3<;>first|rfl|injection c3
 have cs:=wr ((cY ht).1);rcases cs with q|q|q|q|q|q|q|q|q|q<;>rw[e _ q] at h ⊢
 ·injection h
 ·injection h
 ·injection h
 ·injection h
 ·refine⟨aK _ (X4 ⟨_,fZ _,X4 ⟨t.st,?_,Ws (fZ _)⟩⟩),.inl ⟨_,_,_,rfl,?_⟩⟩
  ·have:=nleT c.1
   rcases (o3 this) with r|r|r<;>(rw[r];decide)
  ·unfold Tk.wd;rw[q];cases bD t.w<;>rfl
 ·cases r:Nat.beq t.an 0 with
  |true=>rw[r] at h;injection h
  |false=>
   have e2:(tn (Ab.no 0) [.no 0,.no 1,.no 2,.no 3,.sc (!bD t.w) t.st (t.an.beq 1),Bool.rec (.al (t.an.beq 2)) (.no 4) (t.an.beq 0),.st false t.fl (t.an.beq 1) ho,.en false,.st true t.fl (t.an.beq 1) ho,.en true] 5:Ab)=.al (t.an.beq 2):=by
    show (Bool.rec (.al (t.an.beq 2)) (.no 4) (t.an.beq 0):Ab)=_;rw[r]
   rw[show (tn (Ab.no 0) [.no 0,.no 1,.no 2,.no 3,.sc (!bD t.w) t.st (t.an.beq 1),Bool.rec (.al (t.an.beq 2)) (.no 4) false,.st false t.fl (t.an.beq 1) ho,.en false,.st true t.fl (t.an.beq 1) ho,.en true] 5)=.al (t.an.beq 2) from rfl];refine⟨bF _ (aK _ (Ws (fZ _))),.inr (.inl ⟨_,rfl,?_⟩)⟩;have c3:=c2.1;rw[q,r] at c3;exact sO c3
 ·exact⟨stm _,.inr (.inr ⟨_,_,_,rfl,wd1 (by rw[q];rfl)⟩)⟩
 ·injection h
 ·exact⟨stm _,.inr (.inr ⟨_,_,_,rfl,wd1 (by rw[q];rfl)⟩)⟩
 ·injection h
def u4(ht:t∈au)(ho:Bool):bz (t.ab ho)=(t.k.beq 6 ||t.k.beq 8):=by
 have h9:=(cY ht).1;unfold Tk.ab;generalize t.k=k at h9 ⊢;apply kP h9<;>first|rfl|(show bz (Bool.rec (.al (t.an.beq 2)) (.no 4) (t.an.beq 0))=false;cases t.an.beq 0<;>rfl)
def TX(ht:t∈au)(h:bz (t.ab (ag t nx))=false):kX t nx=true:=by
 rw[u4 ht] at h;unfold kX dt;rw[h];cases (t.ab (ag t nx)).m<;>rfl
def LF(h:ag t nx=true):kX t nx=true:=by
 unfold kX dt;rw[h];cases (t.k.beq 6 ||t.k.beq 8)<;>cases (t.ab true).m<;>rfl
def Oz(ht:t∈au)(h:eo (t.ab (ag t nx))=true):(kX t nx,t.wd,t.ab (ag t nx))∈Gy:=by
 apply ay (ve ht h);intro h1 h2;have l1:=TX (nx:=nx) ht;refine X4 ⟨_,h1,?_⟩;rcases h2 with ⟨w,q,an,e,hw⟩|⟨y,e,hw⟩|⟨mm,fl,an,e,hw⟩
 ·rw[e,hw,l1 (by rw[e];rfl)];exact .head _
 ·rw[e,hw,l1 (by rw[e];rfl)];exact .head _
 ·rw[e]
  refine X4 ⟨kX t nx,?_,WY.mpr ⟨t.wd,?_,rfl⟩⟩
  ·cases r:ag t nx with
   |true=>rw[LF r];exact .head _
   |false=>cases kX t nx<;>decide
  ·cases r:(fl ||an) with
   |true=>
    cases r2:t.wd with
    |true=>rw[hw r2] at r;injection r
    |false=>exact .head _
   |false=>cases t.wd<;>decide
def Qj:∀ p∈dA,iF p=true:=G7 (fun b=>by cases b;exact⟨QF,SU,U8⟩;exact⟨OC,N6,NY⟩) fun s hs=>by
 simp only [Xf,WA,or_false] at hs;rcases hs with rfl|rfl|rfl|rfl
 ·exact⟨Vz,Rf⟩
 ·exact⟨I6,Ms⟩
 ·exact⟨Jq,Pv⟩
 ·exact⟨NQ,NS⟩
def DW(hp:p∈dA)(ht:t∈au)(h:eo (t.ab (ag t nx))=true):(rJ (kX t nx) t.wd p (t.ab (ag t nx))).chk=true:=aV (Qj p hp) (kX t nx,t.wd,t.ab (ag t nx)) (Oz ht h)
def GG(hp:p∈dA)(h:fh p m=true)(hd:d∈[1,2]):(rE p d m).chk=true:=aV NT (p,d,m) (X4 ⟨p,hp,X4 ⟨m,fZ m,by rw[h];exact Ws hd⟩⟩)
def DO(ht:t∈au)(hp:p∈dA)(h:eo (t.ab ho)=false)(g:∀ mm,t.ab ho=.en mm→fh p mm=false):(rX p (t.ab ho)).chk=true:=by
 refine aV I3 (p,t.ab ho) (X4 ⟨p,hp,WY.mpr ⟨_,?_,rfl⟩⟩);have en:∀ mm,t.ab ho=.en mm→t.ab ho∈([0,1,2,3,4].map Ab.no)++(tf.filter fun m=>!fh p m).map Ab.en:=fun mm e=>by
  rw[e];exact bF _ (Ws (List.mem_filter.mpr ⟨fZ _,by rw[g mm e];rfl⟩))
 have no:∀ k∈[0,1,2,3,4],t.ab ho=.no k→t.ab ho∈([0,1,2,3,4].map Ab.no)++(tf.filter fun m=>!fh p m).map Ab.en:=fun k hk e=>by
  rw[e];exact aK _ (Ws hk)
 have e:∀ i,t.k=i→t.ab ho=(tn (.no 0) [.no 0,.no 1,.no 2,.no 3,.sc (!bD t.w) t.st (t.an.beq 1),Bool.rec (.al (t.an.beq 2)) (.no 4) (t.an.beq 0),.st false t.fl (t.an.beq 1) ho,.en false,.st true t.fl (t.an.beq 1) ho,.en true] i:Ab):=fun i h=>by unfold Tk.ab;rw[h]
 have cs:=wr ((cY ht).1);rcases cs with q|q|q|q|q|q|q|q|q|q
 ·exact no 0 (by decide) (e _ q)
 ·exact no 1 (by decide) (e _ q)
 ·exact no 2 (by decide) (e _ q)
 ·exact no 3 (by decide) (e _ q)
 ·rw[e _ q] at h;injection h
 ·have e5:=e _ q
  cases r:Nat.beq t.an 0 with
  |true=>rw[r] at e5;exact no 4 (by decide) e5
  |false=>rw[r] at e5;rw[e5] at h;injection h
 ·rw[e _ q] at h;injection h
 ·exact en false (e _ q)
 ·rw[e _ q] at h;injection h
 ·exact en true (e _ q)
structure eK (j:Nat) (f:Fm):Prop where
 col:f.col≤9*j
 bg:f.bg≤j
 ah:f.ah.length≤9*j+1
 ind:f.ind≤9*j
 fl:f.fl=true→f.col=0∧f.ah=[]
 bl:f.fl=false→f.ind=f.col
structure cW (j:Nat) (m:Md):Prop where
 fs:∀ f∈m.fs,eK j f
 tp:∀ f,m.tp=some f→eK j f
 no:m.tp=none→m.fs=[]
 n:m.fs.length≤j
 pl:m.pl≤4
 p2:m.tp≠none→m.pl=2
 lo:m.fi=true→m.lo=false
 f2:m.pl=2∨m.pl=3→m.fi=false
def eK.ok(h:eK j f)(hj:j≤66):na f:=⟨WZ h.col (WZ (W5 _ hj) (nleT rfl)),WZ h.bg (W2 hj),WZ h.ah (WZ (W4 (W5 _ hj) _) (nleT rfl)),h.fl⟩
def wS(R:List Tk)(S:List ξ)(m:Md):St:=match m.tp with|some f=>gj (rowC R) (aL S) f m.fs|none=>[rowC R,.list (aL S),.list []]
def mA{S:List ξ}(h:S.length≤40000):(aL S).length≤40000:=by unfold aL;rw[Wr];exact h
def q4:aL S++[.str (.k x)]=aL (S++[x]):=by unfold aL;rw[Wl];rfl
def zw{l:List SS}:(l.map fun s=>AV.str (.k (SS.val Z s)))=aL (l.map (SS.val Z)):=by unfold aL;rw[Xi];rfl
def uk{idx:ξ}{R:List Tk}(hR:∀ t∈R,t∈au){S:List ξ}{x:Fm}{p:List AV}{X:St}(hp:∀ k∈bX (bt p),k∈idx)(hX:∀ c∈X,∀ k∈bX (fP c),k∈idx):∀ c∈[rowC R,.list (aL S),.list p,x.cell]++X,∀ k∈bX (fP c),k∈idx:=fun c hc k hk=>by
 rcases cZ hc with hc|hc
 ·simp only [Xf,WA,or_false] at hc
  rcases hc with rfl|rfl|rfl|rfl
  ·have:k∈bX (bt (R.map Tk.av)):=hk
   rw[iq (jy hR)] at this;cases this
  ·have:k∈bX (bt (aL S)):=hk
   rw[iq hU] at this;cases this
  ·exact hp k hk
  ·cases hk
 ·exact hX c hc k hk
def Bi{idx:ξ}{f:Fm}:∀ k∈bX (fP f.cell),k∈idx:=fun k hk=>by cases hk
def qN{idx:ξ}{S:List ξ}:∀ k∈bX (fP (.list (aL S))),k∈idx:=fun k hk=>by
 have:k∈bX (bt (aL S)):=hk;rw[iq hU] at this;cases this
def wp{idx:ξ}{a r:Nat}{x:List AV}(h:∀ i,i<r→a+i∈idx)(g:∀ k∈bX (bt x),k∈idx):∀ k∈bX (bt (cps a r++x)),k∈idx:=fun k hk=>by
 have e:bt (cps a r++x)=bt (cps a r)++bt x:=XC ..;rw[e,pc] at hk;rcases cZ hk with hk|hk
 ·apply af (Vk hk);intro i h1 e0;clear hk;subst e0
  exact h i h1
 ·exact g k hk
section
def pj{ls:ac}(h1:kj l1){J J':St}{idx:ξ}(hs:ls.sc=aI)(nd:idx.Nodup)(h3:Ec 3 idx=true)(lt:∀ i∈idx,i<J'.length)(hc:∀ c∈J',∀ k∈bX (fP c),k∈idx)(H:Gk M n 3 t ls J .next ⟨l1,aI⟩ J') :
  Gk M n 3 t ls J .next ⟨l1,aI⟩ (ig idx J'):=by
 have i3:=fun k hk=>by
  have:=Iy h3 k hk;rw[XS] at this;exact this
 have K:=Gk.pick h3 hs.symm (fun _ _ h=>h) (Ko nd lt hc fun k hk=>by
  have:=i3 k (h1.cl k hk);rw[cJ] at this;exact Xp this) H
 rw[show fQ (bA idx) l1=l1 from h1.fl (fun _=>rfl) (fun _=>rfl) fun k hk=>nt nd (i3 k hk)] at K;exact K
end
section
variable {R:List Tk}(hR:∀ t∈R,t∈au){S:List ξ}(hS:S.length≤40000)(hb:2≤b∧b≤9)(ht:t∈au)(hn:nx∈au)(hj:j≤66)
def mf(M:aF)(R:List Tk)(S:List ξ)(b j:Nat)(m:Md)(t nx:Tk)(m':Md)(x:ξ):Prop:=Gk M 150 3 (fun c=>execs gg c.env) ⟨eD b m j t nx,aI⟩ (wS R S m) .next ⟨eu b m' j,aI⟩ (wS R (S++[x]) m')
def xA(M:aF)(R:List Tk)(S:List ξ)(b j:Nat)(m:Md)(t nx:Tk)(x:ξ):Prop:=∃ ls' X,Gk M 150 3 (fun c=>execs gg c.env) ⟨eD b m j t nx,aI⟩ (wS R S m) (.ret (.tup [.cell 1,.str (.k x)])) ls' ([rowC R,.list (aL S)]++X)
variable {lo:Bool}{fs:List Fm}
theorem BO(hl:fs.length≤j)(hj:j≤66):(fO fs.length).length≤40000:=by unfold fO;rw[Wr,XV];exact WZ hl (WZ hj (by decide))
theorem uC:aH (dS a r) [AV.cell 3]=[.cell 3]:=rfl
include hR hS hb ht hn hj in
theorem Q7(hf:eK j f)(hl:fs.length≤j)(hN:eo (t.ab (ag t nx))=true) :
  mf M R S b j ⟨2,fi,mr,lo,fs,some f⟩ t nx ⟨2,fi,mr,lo,Bool.rec fs (fs++[f.adv (t.ab (ag t nx)).simple]) (bz (t.ab (ag t nx))),some (Bool.rec (f.adv (t.ab (ag t nx)).simple) (Md.gr b ⟨2,fi,mr,lo,fs,some f⟩ (t.ab (ag t nx))) (bz (t.ab (ag t nx))))⟩ (Md.txt M.Z.P b ⟨2,fi,mr,lo,fs,some f⟩ t (t.ab (ag t nx))):=by
 have X8:=fun ov=>Nc (M:=M.wE M.Z ⟨rfl,M.he⟩ ov M.Z.cv) (h:=hW ⟨2,fi,mr,lo,fs,some f⟩ j t nx) (row:=rowC R) (hf.ok hj) ⟨bw hb.1,bw hb.2⟩ (cY ht).2 (Ga ht hn) (DW (Fm.ps_mem f) ht hN) (ind:=indN f.ps (t.ab (ag t nx)) f.ind b) rfl rfl rfl (mA hS) (BO hl hj);have T:SS.val (f.εR M.Z.P b t.w6 (dt t nx)) (dR f.ps f.ps.lnR (t.ab (ag t nx)))=Md.txt M.Z.P b ⟨2,fi,mr,lo,fs,some f⟩ t (t.ab (ag t nx)):=Hy (m:=⟨2,fi,mr,lo,fs,some f⟩);have L1:b6 (am (f.εR M.Z.P b t.w6 (dt t nx)) (hW ⟨2,fi,mr,lo,fs,some f⟩ j t nx) (zR (rowC R) (aL S) (fO fs.length))) ⟨gK (t.ab (ag t nx)) t.wd (I 2) (di f.ps) (.any 12),aI⟩=⟨eD b ⟨2,fi,mr,lo,fs,some f⟩ j t nx,aI⟩:=congrArg (fun l=>ac.mk l aI) (vT rfl ht hn);have L2:∀ {fs':List Fm} {tp':κ Fm},b6 (am (f.εR M.Z.P b t.w6 (dt t nx)) (hW ⟨2,fi,mr,lo,fs,some f⟩ j t nx) (zR (rowC R) (aL S) (fO fs.length))) ⟨gV (I 2) (di f.ps) (.any 12),aI⟩=⟨eu b ⟨2,fi,mr,lo,fs',tp'⟩ j,aI⟩:=congrArg (fun l=>ac.mk l aI) (qU rfl rfl rfl rfl);cases s:bz (t.ab (ag t nx)) with
 |false=>
  rw[s] at X8;have K:Gk M 150 3 (fun c=>execs gg c.env) ⟨eD b ⟨2,fi,mr,lo,fs,some f⟩ j t nx,aI⟩ (wS R S ⟨2,fi,mr,lo,fs,some f⟩) .next ⟨eu b ⟨2,fi,mr,lo,fs,some (f.adv (t.ab (ag t nx)).simple)⟩ j,aI⟩ _ :=
   vZ (X':=[.list (aL (((t.ab (ag t nx)).parts f.ps.flow).map (SS.val (f.εR M.Z.P b t.w6 (dt t nx)))))]) (S':=S++[Md.txt M.Z.P b ⟨2,fi,mr,lo,fs,some f⟩ t (t.ab (ag t nx))]) (v8 ht hn) kR hR rfl rfl rfl rfl rfl (fun _=>rfl) (fun r=>congrArg (fun l=>[ak.list l]) (jn hU (fun _=>rfl) fun _=>rfl)) (fun _=>uC) (fun _=>uC) (fun _ _=>rfl)
    fun ov=>((X8 ov).cast L1 rfl rfl L2 (by rw[←q4,←T,←zw];rfl)).gk
  have K2:=pj kR rfl (HR fs.length) rfl (fun i hi=>by
    rw[aB,Wr];rcases cZ hi with h|h
    ·simp only [Xf,WA,or_false] at h
     show i<5+fs.length;exact h.elim (fun e=>e▸Xa (nleT rfl) (W0 _ _)) fun h=>h.elim (fun e=>e▸Xa (nleT rfl) (W0 _ _)) fun h=>h.elim (fun e=>e▸Xa (nleT rfl) (W0 _ _)) fun e=>e▸Xa (nleT rfl) (W0 _ _)
    ·apply af (cC h);intro i2 h2 e0;clear hi h;subst e0
     exact Xl (List.mem_range.mp h2) 5) (vD (uk hR (wp (fun i hi=>bF _ (Ws (dc hi))) fun k hk=>by rw[bU hk];exact aK _ (by decide)) fun c hc=>by rw[bU hc];exact qN)) K
  show Gk _ _ _ _ _ _ _ _ (gj (rowC R) (aL (S++[Md.txt M.Z.P b ⟨2,fi,mr,lo,fs,some f⟩ t (t.ab (ag t nx))])) (f.adv (t.ab (ag t nx)).simple) fs);rw[←(K1 (lD hR (fun _=>rfl) fun _=>rfl) (iq hU))];exact K2
 |true=>
  rw[s] at X8;have K:Gk M 150 3 (fun c=>execs gg c.env) ⟨eD b ⟨2,fi,mr,lo,fs,some f⟩ j t nx,aI⟩ (wS R S ⟨2,fi,mr,lo,fs,some f⟩) .next ⟨eu b ⟨2,fi,mr,lo,fs++[f.adv (t.ab (ag t nx)).simple],some (Md.gr b ⟨2,fi,mr,lo,fs,some f⟩ (t.ab (ag t nx)))⟩ j,aI⟩ _ :=
   vZ (X':=[.list (aL (((t.ab (ag t nx)).parts f.ps.flow).map (SS.val (f.εR M.Z.P b t.w6 (dt t nx))))),(Md.gr b ⟨2,fi,mr,lo,fs,some f⟩ (t.ab (ag t nx))).cell]) (S':=S++[Md.txt M.Z.P b ⟨2,fi,mr,lo,fs,some f⟩ t (t.ab (ag t nx))]) (v8 ht hn) kR hR rfl rfl rfl rfl rfl (fun _=>rfl) (fun r=>congrArg (fun l=>[ak.list l,_]) (jn hU (fun _=>rfl) fun _=>rfl)) (fun _=>uC) (fun _=>rfl) (fun _ _=>rfl)
    fun ov=>((X8 ov).cast L1 rfl rfl L2 (by rw[←q4,←T,←zw];rfl)).gk
  have K2:=pj kR rfl (Do fs.length) rfl (fun i hi=>by
    rw[aB,Wr];show i<6+fs.length;rcases cZ hi with h|h
    ·simp only [Xf,WA,or_false] at h
     exact h.elim (fun e=>e▸Xa (nleT rfl) (W0 _ _)) fun h=>h.elim (fun e=>e▸Xa (nleT rfl) (W0 _ _)) fun h=>h.elim (fun e=>e▸Xa (nleT rfl) (W0 _ _)) fun e=>e▸Xa (nleT rfl) (W0 _ _)
    ·rcases cZ h with h|h
     ·apply af (cC h);intro i2 h2 e0;clear hi h;subst e0
      exact Xl (List.mem_range.mp h2) 6
     ·rw[bU h];exact Xs (Xn _ _)) (vD (uk hR (wp (fun i hi=>bF _ (aK _ (Ws (dc hi)))) fun k hk=>by
      rcases cI hk with e|e
      ·rw[e];exact bF _ (bF _ (.head _))
      ·rw[bU e];exact aK _ (by decide)) fun c hc=>by
      rcases cI hc with e|e
      ·rw[e];exact qN
      ·rw[bU e];exact Bi)) K
  show Gk _ _ _ _ _ _ _ _ (gj (rowC R) (aL (S++[Md.txt M.Z.P b ⟨2,fi,mr,lo,fs,some f⟩ t (t.ab (ag t nx))])) (Md.gr b ⟨2,fi,mr,lo,fs,some f⟩ (t.ab (ag t nx))) (fs++[f.adv (t.ab (ag t nx)).simple]));rw[←(Ju (lD hR (fun _=>rfl) fun _=>rfl) (iq hU))];exact K2
end
section
variable {R:List Tk}(hR:∀ t∈R,t∈au){S:List ξ}(hS:S.length≤40000)(hb:2≤b∧b≤9)(ht:t∈au)(hn:nx∈au)(hj:j≤66)
variable {lo:Bool}
include ht in
theorem Fg{m:Md}(hp:m.pl=2)(hn:nx∈au)(e:t.ab (ag t nx)=.en mm):b6 (am (m.f.εR P b t.w6 0) (hW m j t nx) z) ⟨gK (.en mm) false (I 2) (di m.p) (.any 12),aI⟩=⟨eD b m j t nx,aI⟩:=by
 have h:=vT (P:=P) (b:=b) (j:=j) (z:=z) hp ht hn;have k:dt t nx=0:=by
  have:=u4 ht (ag t nx);rw[e] at this;unfold dt;rw[←this];rfl
 rw[e,k] at h;exact congrArg (fun l=>ac.mk l aI) h
include hR hS hb ht hn hj
theorem ST(hf:eK j f)(e:t.ab (ag t nx)=.en mm)(h:fh f.ps mm=true):mf M R S b j ⟨2,fi,mr,lo,[],some f⟩ t nx ⟨3,fi,mr,lo,[],none⟩ (ez f.ps):=by
 have L2:b6 (am (f.εR M.Z.P b t.w6 0) (hW ⟨2,fi,mr,lo,[],some f⟩ j t nx) (zR (rowC R) (aL S) [])) ⟨gV (I 3) (di f.ps) (.any 12),aI⟩=⟨eu b ⟨3,fi,mr,lo,[],none⟩ j,aI⟩:=congrArg (fun l=>ac.mk l aI) (qU rfl rfl rfl rfl);have K:=(((UO (hf.ok hj) ⟨bw hb.1,bw hb.2⟩ (cY ht).2 ⟨bO 0,by decide⟩ (GG (Fm.ps_mem f) h (.head _)) rfl rfl (mA hS)).cast (Fg ht rfl hn e) rfl rfl L2 rfl).gk (k:=3));have K2:=pj kR (idx:=[0,1,2]) rfl (by decide) rfl (fun i hi=>by
  simp only [Xf,WA,or_false] at hi;show i<4;exact hi.elim (fun e=>e▸nleT rfl) fun h=>h.elim (fun e=>e▸nleT rfl) fun e=>e▸nleT rfl) (uk (X:=[]) (p:=[]) hR (fun k hk=>by cases hk) fun c hc=>by cases hc) (by rw[q4] at K;exact K)
 have E:ig [0,1,2] [rowC R,.list (aL (S++[ez f.ps])),.list [],f.cell]=[rowC R,.list (aL (S++[ez f.ps])),.list []]:=by
  show [fC (bA [0,1,2]) (rowC R),.list (aH (bA [0,1,2]) (aL (S++[ez f.ps]))),.list []]=_;rw[lD hR (fun _=>rfl) (fun _=>rfl),jn hU (fun _=>rfl) fun _=>rfl]
 show Gk _ _ _ _ _ _ _ _ [rowC R,.list (aL (S++[ez f.ps])),.list []];rw[←E];exact K2
theorem M9(hf:eK j f)(hl:(l++[f2]).length≤j)(e:t.ab (ag t nx)=.en mm)(h:fh f.ps mm=true):mf M R S b j ⟨2,fi,mr,lo,l++[f2],some f⟩ t nx ⟨2,fi,mr,lo,l,some f2⟩ (ez f.ps):=by
 have ll:=WZ (by rw[aB];exact W0 ..) hl;have X8:=fun ov=>QJ (M:=M.wE M.Z ⟨rfl,M.he⟩ ov M.Z.cv) (h:=hW ⟨2,fi,mr,lo,l++[f2],some f⟩ j t nx) (row:=rowC R) (hf.ok hj) ⟨bw hb.1,bw hb.2⟩ (cY ht).2 ⟨bO 0,by decide⟩ (GG (Fm.ps_mem f) h (.tail _ (.head _))) rfl rfl (mA hS) (BO ll hj) (nx:=f2.cell);have c0:=v8 (b:=b) (j:=j) (m:=⟨2,fi,mr,lo,l++[f2],some f⟩) ht hn;have K0:=pj (M:=M) (n:=150) c0 (J:=wS R S ⟨2,fi,mr,lo,l++[f2],some f⟩) rfl (FS _) rfl (fun i hi=>by
  show i<([rowC R,_,_,_]++(l++[f2]).map Fm.cell).length;rw[aB,Wr,aB];rcases cZ hi with h|h
  ·simp only [Xf,WA,or_false] at h
   rcases h with e|e|e|e|e<;>rw[e]<;>first|exact Nat.lt_add_right _ (nleT rfl)|exact Nat.lt_succ_self _
  ·apply af (cC h);intro i2 h2 e0;clear hi h;subst e0
   exact Xl (Nat.lt_succ_of_lt (List.mem_range.mp h2)) 4) (vD (uk hR (wp (fun i hi=>by
    rw[aB] at hi;rcases XU i l.length with q|q
    ·exact bF _ (Ws (dc q))
    ·have:=Nat.le_antisymm (Xm hi) q
     rw[this];exact aK _ (.tail _ (.tail _ (.tail _ (.tail _ (.head _)))))) fun k hk=>by rw[bU hk];exact aK _ (.tail _ (.tail _ (.tail _ (.head _))))) fun c hc=>by cases hc)) Gk.nil
 have K0:Gk M 150 3 (fun c=>execs [] c.env) ⟨eD b ⟨2,fi,mr,lo,l++[f2],some f⟩ j t nx,aI⟩ (gj (rowC R) (aL S) f (l++[f2])) .next ⟨eD b ⟨2,fi,mr,lo,l++[f2],some f⟩ j t nx,aI⟩ (ig (gH l.length) (gj (rowC R) (aL S) f (l++[f2]))):=K0;rw[OP (lD hR (fun _=>rfl) fun _=>rfl) (iq hU)] at K0;have K:Gk M 150 3 (fun c=>execs gg c.env) ⟨eD b ⟨2,fi,mr,lo,l++[f2],some f⟩ j t nx,aI⟩ _ .next ⟨eu b ⟨2,fi,mr,lo,l,some f2⟩ j,aI⟩ _ :=
  vZ c0 kR hR rfl rfl rfl (by show ((lv (.str (.k f2.ah))++[])++[]).all (dD [])=true;rw[aX,aX];exact(xK f2.ah).f) rfl (fun _=>rfl) (fun _=>rfl) (fun _=>rfl) (fun _=>rfl) (fun _ _=>rfl)
   fun ov=>((X8 ov).cast (Fg ht rfl hn e) rfl rfl (congrArg (fun l=>ac.mk l aI) (qU rfl rfl rfl rfl)) (by rw[q4];rfl)).gk
 have K2:=pj kR rfl (E5 _) rfl (fun i hi=>by
  rw[aB,Wr];show i<5+l.length;rcases cZ hi with h|h
  ·simp only [Xf,WA,or_false] at h
   exact h.elim (fun e=>e▸Xa (nleT rfl) (W0 _ _)) fun h=>h.elim (fun e=>e▸Xa (nleT rfl) (W0 _ _)) fun h=>h.elim (fun e=>e▸Xa (nleT rfl) (W0 _ _)) fun e=>e▸Xa (nleT rfl) (W0 _ _)
  ·apply af (cC h);intro i2 h2 e0;clear hi h;subst e0
   exact Xl (List.mem_range.mp h2) 5) (vD (uk hR (wp (fun i hi=>bF _ (Ws (dc hi))) fun k hk=>by rw[bU hk];exact aK _ (by decide)) fun c hc=>by rw[bU hc];exact Bi)) (Gk.append K0 K)
 show Gk _ _ _ _ _ _ _ _ (gj (rowC R) (aL (S++[ez f.ps])) f2 l);rw[←(MH (lD hR (fun _=>rfl) fun _=>rfl) (iq hU))];exact K2
end
section
variable {R:List Tk}(hR:∀ t∈R,t∈au){S:List ξ}(hS:S.length≤40000){b j:Nat}(hb:2≤b∧b≤9){t nx:Tk}(ht:t∈au)(hn:nx∈au)(hj:j≤66)
variable {fi mr lo:Bool}{fs l:List Fm}{f:Fm}
include ht in
theorem E8{m:Md}(hp:m.pl=2)(hn:nx∈au)(h:eo (t.ab (ag t nx))=false):b6 (am (m.f.εR P b t.w6 0) (hW m j t nx) z) ⟨gK (t.ab (ag t nx)) false (I 2) (di m.p) (.any 12),aI⟩=⟨eD b m j t nx,aI⟩:=by
 have g:=vT (P:=P) (b:=b) (j:=j) (z:=z) hp ht hn;have k:dt t nx=0:=by
  unfold dt;rw[←(u4 ht (ag t nx))];cases e:t.ab (ag t nx)<;>rw[e] at h<;>first|rfl|injection h
 have d:gK (t.ab (ag t nx)) false (I 2) (di m.p) (.any 12)=gK (t.ab (ag t nx)) t.wd (I 2) (di m.p) (.any 12):=by
  cases e:t.ab (ag t nx)<;>rw[e] at h<;>first|rfl|injection h
 rw[k,←d] at g;exact congrArg (fun l=>ac.mk l aI) g
include hR hS hb ht hn hj
theorem MX(hf:eK j f)(hl:fs.length≤j)(hN:eo (t.ab (ag t nx))=false)(hg:∀ mm,t.ab (ag t nx)=.en mm→fh f.ps mm=false):xA M R S b j ⟨2,fi,mr,lo,fs,some f⟩ t nx (Md.ld M.Z.P b ⟨2,fi,mr,lo,fs,some f⟩ t (t.ab (ag t nx))):=by
 have K:=vZ (f:=.ret (.tup [.cell 1,.str (.k (Md.ld M.Z.P b ⟨2,fi,mr,lo,fs,some f⟩ t (t.ab (ag t nx))))])) (v8 ht hn) (kR) hR rfl rfl rfl rfl rfl (fun _=>rfl) (fun _=>rfl) (fun _=>uC) (fun _=>uC) (fun _ _=>rfl)
  fun ov=>(((fun ov=>OS (M:=M.wE M.Z ⟨rfl,M.he⟩ ov M.Z.cv) (h:=hW ⟨2,fi,mr,lo,fs,some f⟩ j t nx) (row:=rowC R) (hf.ok hj) ⟨bw hb.1,bw hb.2⟩ (cY ht).2 ⟨bO 0,by decide⟩ (DO ht (Fm.ps_mem f) hN hg) rfl rfl (mA hS) (BO hl hj)) ov).cast (E8 ht rfl hn hN) rfl rfl (congrArg (fun l=>ac.mk l aI) (qU rfl rfl rfl rfl)) rfl).gk
 exact⟨_,_,K⟩
theorem J1(hN:eo (t.ab (ag t nx))=false)(hg:∀ mm,t.ab (ag t nx)=.en mm→fh (.root mr) mm=false):xA M R S b j ⟨2,fi,mr,lo,fs,none⟩ t nx (Md.ld M.Z.P b ⟨2,fi,mr,lo,fs,none⟩ t (t.ab (ag t nx))):=by
 exact⟨_,_,((O4 (M:=M) (h:=hW ⟨2,fi,mr,lo,fs,none⟩ j t nx) (row:=rowC R) ⟨bw hb.1,bw hb.2⟩ (cY ht).2 ⟨bO 0,by decide⟩ (DO ht (BN mr) hN hg) (mA hS)).cast (E8 ht rfl hn hN) rfl rfl rfl rfl).gk⟩
theorem Qo(hN:eo (t.ab (ag t nx))=true):mf M R S b j ⟨2,fi,mr,lo,[],none⟩ t nx ⟨Bool.rec 3 2 (bz (t.ab (ag t nx))),fi,mr,(t.ab (ag t nx)).lo' false,[],Bool.rec none (some (Md.gr b ⟨2,fi,mr,lo,[],none⟩ (t.ab (ag t nx)))) (bz (t.ab (ag t nx)))⟩ (Md.txt M.Z.P b ⟨2,fi,mr,lo,[],none⟩ t (t.ab (ag t nx))):=by
 have X8:=KD (M:=M) (h:=hW ⟨2,fi,mr,lo,[],none⟩ j t nx) (row:=rowC R) ⟨bw hb.1,bw hb.2⟩ (cY ht).2 (Ga ht hn) (DW (BN mr) ht hN) (ind:=indN (.root mr) (t.ab (ag t nx)) cH.ind b) rfl (mA hS);have T:SS.val (cH.εR M.Z.P b t.w6 (dt t nx)) (dR (.root mr) ei (t.ab (ag t nx)))=Md.txt M.Z.P b ⟨2,fi,mr,lo,[],none⟩ t (t.ab (ag t nx)):=Hy (m:=⟨2,fi,mr,lo,[],none⟩);have L1:b6 (jg M.Z.P b t.w6 (dt t nx) (hW ⟨2,fi,mr,lo,[],none⟩ j t nx) (rowC R) (aL S)) ⟨gK (t.ab (ag t nx)) t.wd (I 2) (.bool mr) (.any 12),aI⟩=⟨eD b ⟨2,fi,mr,lo,[],none⟩ j t nx,aI⟩:=congrArg (fun l=>ac.mk l aI) (vT rfl ht hn);have L2:∀ {q:Nat} {lo':Bool} {tp:κ Fm},b6 (jg M.Z.P b t.w6 (dt t nx) (hW ⟨2,fi,mr,lo,[],none⟩ j t nx) (rowC R) (aL S)) ⟨gV (I q) (.bool mr) (.bool lo'),aI⟩=⟨eu b ⟨q,fi,mr,lo',[],tp⟩ j,aI⟩:=fun {q lo' tp}=>congrArg (fun l=>ac.mk l aI) (qU rfl rfl rfl rfl);rw[T,zw,q4] at X8;have fl3:∀ {idx:ξ} {S:List ξ},aH (bA idx) (aL S)=aL S:=jn hU (fun _=>rfl) fun _=>rfl;have dm:∀ {idx:ξ} {x:Bool},∀ k∈bX (fP (.list [I 0,ff,I 1,.bool x,I 0,.str []])),k∈idx:=fun k hk=>by cases hk
 cases s:bz (t.ab (ag t nx)) with
 |false=>
  rw[s] at X8;have K:=pj kR (idx:=[0,1,2]) rfl (by decide) rfl (fun i hi=>by
   simp only [Xf,WA,or_false] at hi;show i<5;exact hi.elim (fun e=>e▸nleT rfl) fun h=>h.elim (fun e=>e▸nleT rfl) fun e=>e▸nleT rfl) (fun c hc k hk=>by
   simp only [List.append_nil,Xf,WA,or_false] at hc;rcases hc with rfl|rfl|rfl|rfl|rfl
   ·have:k∈bX (bt (R.map Tk.av)):=hk
    rw[iq (jy hR)] at this;cases this
   ·exact qN k hk
   ·cases hk
   ·exact dm k hk
   ·exact qN k hk) (X8.cast L1 rfl rfl (L2 (tp:=none)) rfl).gk
  have E:ig [0,1,2] ([rowC R,.list (aL (S++[Md.txt M.Z.P b ⟨2,fi,mr,lo,[],none⟩ t (t.ab (ag t nx))])),.list [],.list [I 0,ff,I 1,.bool (t.ab (ag t nx)).simple,I 0,.str []],.list (aL (((t.ab (ag t nx)).parts false).map (SS.val (cH.εR M.Z.P b t.w6 (dt t nx)))))]++[])=[rowC R,.list (aL (S++[Md.txt M.Z.P b ⟨2,fi,mr,lo,[],none⟩ t (t.ab (ag t nx))])),.list []]:=by
   show [fC (bA [0,1,2]) (rowC R),.list (aH (bA [0,1,2]) (aL _)),.list []]=_;rw[lD hR (fun _=>rfl) (fun _=>rfl),fl3]
  show Gk _ _ _ _ _ _ _ _ [rowC R,.list (aL (S++[_])),.list []];rw[←E];exact K
 |true=>
  rw[s] at X8;have K:=pj kR (idx:=[0,1,2,5]) rfl (by decide) rfl (fun i hi=>by
   simp only [Xf,WA,or_false] at hi;show i<6;exact hi.elim (fun e=>e▸nleT rfl) fun h=>h.elim (fun e=>e▸nleT rfl) fun h=>h.elim (fun e=>e▸nleT rfl) fun e=>e▸nleT rfl) (fun c hc k hk=>by
   simp only [WO,WW,Xf,WA,or_false] at hc;rcases hc with rfl|rfl|rfl|rfl|rfl|rfl
   ·have:k∈bX (bt (R.map Tk.av)):=hk
    rw[iq (jy hR)] at this;cases this
   ·exact qN k hk
   ·rw[bU hk];decide
   ·exact dm k hk
   ·exact qN k hk
   ·exact Bi k hk) (X8.cast L1 rfl rfl (L2 (tp:=some (Md.gr b ⟨2,fi,mr,lo,[],none⟩ (t.ab (ag t nx))))) rfl).gk
  have E:ig [0,1,2,5] ([rowC R,.list (aL (S++[Md.txt M.Z.P b ⟨2,fi,mr,lo,[],none⟩ t (t.ab (ag t nx))])),.list [.cell 5],.list [I 0,ff,I 1,.bool (t.ab (ag t nx)).simple,I 0,.str []],.list (aL (((t.ab (ag t nx)).parts false).map (SS.val (cH.εR M.Z.P b t.w6 (dt t nx)))))]++[(Md.gr b ⟨2,fi,mr,lo,[],none⟩ (t.ab (ag t nx))).cell])=gj (rowC R) (aL (S++[Md.txt M.Z.P b ⟨2,fi,mr,lo,[],none⟩ t (t.ab (ag t nx))])) (Md.gr b ⟨2,fi,mr,lo,[],none⟩ (t.ab (ag t nx))) []:=by
   show [fC (bA [0,1,2,5]) (rowC R),.list (aH (bA [0,1,2,5]) (aL _)),.list [.cell 3],_]=_;rw[lD hR (fun _=>rfl) (fun _=>rfl),fl3];rfl
  show Gk _ _ _ _ _ _ _ _ (gj (rowC R) (aL (S++[_])) (Md.gr b ⟨2,fi,mr,lo,[],none⟩ (t.ab (ag t nx))) []);rw[←E];exact K
end
def Di:SS.val Z (eI p e)=SS.val Z' (eI p e):=by
 cases e with
 |ss=>rfl
 |se=>show SS.val Z (Bool.rec [] [.lit [46,46,46,10]] p.oe?)=SS.val Z' (Bool.rec [] [.lit [46,46,46,10]] p.oe?);cases p.oe?<;>rfl
 |ds f k=>show SS.val Z (Bool.rec [] [.lit [45,45,45]] (dO p (.ds f k)))=SS.val Z' (Bool.rec [] [.lit [45,45,45]] (dO p (.ds f k)));cases dO p (.ds f k)<;>rfl
 |de f=>cases f<;>rfl
 |ot C=>rfl
def ib(nx:Tk):Nat:=2+(Bool.rec 0 6 (bD nx.w)+(Bool.rec 0 3 (nx.an.beq 0)+0))
def PN(hn:nx∈au)(h:Nat.beq nx.k 4=true):flA (am (cH.εR P b nx.w6 nk) (hW m j t nx) z) (AP (ib nx))=nx.av:=by
 have g:(au.filter fun nx=>nx.k.beq 4).map (fun nx=>flA (am (cH.εR P b nx.w6 nk) (hW m j t nx) z) (AP (ib nx)))=(au.filter fun nx=>nx.k.beq 4).map Tk.av:=by kernel_rfl
 exact X3 g nx (List.mem_filter.mpr ⟨hn,h⟩)
def NO:ib nx∈(List.range 13).map (·+1):=by unfold ib;cases bD nx.w<;>cases nx.an.beq 0<;>decide
noncomputable def C7(p:Pd):AV:=match p with|.d1 f _=>.bool f|_=>.any 10
noncomputable def Cl(p:Pd):AV:=match p with|.d1 _ o=>.bool o|.d3 _ o=>.bool o|_=>.any 12
section
variable {S:List ξ}(hS:S.length≤40000)(hb:2≤b∧b≤9)(ht:t∈au)(hn:nx∈au)
variable {lo:Bool}
theorem wg(h:f=true→o=false)(g:e∈[Ad.se,.ds true 0]++(Bool.rec [0] ((List.range 13).map (·+1)) f:ξ).map (Ad.ds false)):(Pd.d1 f o,e)∈sz:=by
 have q:(f,o)∈[(true,false),(false,false),(false,true)]:=by
  clear g;cases f with
  |true=>rw[h rfl];decide
  |false=>cases o<;>decide
 refine aK _ (bF _ ?_);refine X4 ⟨_,q,?_⟩;rcases cZ g with g|g
 ·rcases cI g with e|e
  ·rw[e];exact .head _
  ·rw[bU e];exact .tail _ (.head _)
 ·apply af (cC g);intro k h1 h2
  rw[←h2];exact .tail _ (.tail _ (WY.mpr ⟨k,h1,rfl⟩))
theorem DQ(v o f:Bool):(Pd.d3 v o,Ad.de f)∈sz:=bF _ (X4 ⟨v,fZ _,X4 ⟨o,fZ _,Ws (fZ _)⟩⟩)
theorem nL{m:Md}(h1:zu p=m.pl)(h2:knd e=t.k)(h3:t8 e=.bool t.fl∨t8 e=.any 17)(h4:∀ f o,p=.d1 f o→f=m.fi∧o=m.lo)(h5:∀ v o,p=.d3 v o→o=m.lo)(h6:flA (am (cH.εR P b nx.w6 nk) (hW m j t nx) z) e.nx=nx.av) :
  b6 (am (cH.εR P b nx.w6 nk) (hW m j t nx) z) ⟨nM p e,aI⟩=⟨eD b m j t nx,aI⟩:=by
 refine congrArg (fun l=>ac.mk l aI) ?_;have a1:flA (am (cH.εR P b nx.w6 nk) (hW m j t nx) z) (t8 e)=.bool t.fl:=by rcases h3 with h|h<;>rw[h]<;>rfl
 have a2:flA (am (cH.εR P b nx.w6 nk) (hW m j t nx) z) (C7 p)=.bool m.fi:=by
  clear h1 h5;cases p with
  |d1 f o=>exact congrArg AV.bool (h4 f o rfl).1
  |_=>rfl
 have a3:flA (am (cH.εR P b nx.w6 nk) (hW m j t nx) z) (Cl p)=.bool m.lo:=by
  clear h1 a2;cases p with
  |d1 f o=>exact congrArg AV.bool (h4 f o rfl).2
  |d3 v o=>exact congrArg AV.bool (h5 v o rfl)
  |_=>rfl
 show [(bu,AV.cell 0),(bZ,flA _ (lI 8)),(c9,.cell 1),(hH,.cell 2),(hK,I (zu p)),(ge,flA _ (C7 p)),(gT,.bool m.mr),(g7,flA _ (Cl p)),(cX,I j),(jI,I (knd e)),(mw,flA _ (t8 e)),(dh,gx t.an),(ml,.str (.k t.w)),(gi,fw t.st),(rU,flA _ e.nx)]=_;rw[zg,a1,a2,a3,h1,h2,h6];rfl
def AD(p:Pd):Nat:=match p with|.d0=>0|.d1 a b=>1+Bool.rec 0 2 a+Bool.rec 0 1 b|.d3 a b=>5+Bool.rec 0 2 a+Bool.rec 0 1 b|.d4=>9
def Hc:Nat→Pd:=tn .d4 [.d0,.d1 false false,.d1 false true,.d1 true false,.d1 true true,.d3 false false,.d3 false true,.d3 true false,.d3 true true]
theorem ID(p:Pd):Hc (AD p)=p:=by
 cases p with
 |d1 a b=>cases a<;>cases b<;>rfl
 |d3 a b=>cases a<;>cases b<;>rfl
 |_=>rfl
def AH(p:Pd)(C:Addr):Bool:=tF.any fun q=>Nat.beq (AD q.1) (AD p)&&Nat.beq q.2 C
theorem T7(h:AH p C=true):(p,C)∈tF:=by
 apply af (List.any_eq_true.mp h);intro q hq e;have g:=aw e;have e1:=(ID q.1).symm.trans ((congrArg Hc (aJ g.1)).trans (ID p));have e2:=aJ g.2;subst e1 e2;exact hq
theorem MI:([0,1,3,4].all fun pl=>tf.all fun v=>tf.all fun fi=>tf.all fun lo=>(List.range 10).all fun k=>iR pl k ||((fi&&lo) ||AH (tn .d4 [.d0,.d1 fi lo,.d4,.d3 v lo] pl) (tn 0 eQ k)))=true:=by kernel_rfl
theorem Cf(h:p≤4)(n:p≠2):p=0∨p=1∨p=3∨p=4:=by lia
theorem o4(h:p=0∨p=1∨p=3∨p=4):p∈[0,1,3,4]:=by
 rcases h with e|e|e|e<;>(subst e;decide)
theorem DT{m:Md}(hp:m.pl=0∨m.pl=1∨m.pl=3∨m.pl=4)(hl:m.fi=true→m.lo=false)(v:Bool)(hk:k<10)(h:iR m.pl k=false):(m.pd v,tn 0 eQ k)∈tF:=by
 have g:=aV (aV (aV (aV (aV MI _ (o4 hp)) v (fZ v)) m.fi (fZ _)) m.lo (fZ _)) k (dc hk);rw[h] at g;rcases X6 (show ((m.fi&&m.lo) ||AH (m.pd v) (tn 0 eQ k))=true from g) with g|g
 ·have q:=aw g
  exact Bool.noConfusion ((hl q.1).symm.trans q.2)
 ·exact T7 g
include hS hb ht hn
theorem wU{m m':Md}(h0:m.tp=none)(h0':m'.tp=none)(hp:m.pd true=p)(hm:(p,e)∈sz)(nk:Nat)(hk:r4 lo' nk)
  (L1:∀ z,b6 (am (cH.εR M.Z.P b nx.w6 nk) (hW m j t nx) z) ⟨nM p e,aI⟩=⟨eD b m j t nx,aI⟩) (L2:∀ z,fQ (am (cH.εR M.Z.P b nx.w6 nk) (hW m j t nx) z) (dJ lo' p e).out=eu b m' j):mf M R S b j m t nx m' (SS.val (m.Z M.Z.P b t) (eI p e)):=by
 have c:(dJ lo' p e).chk=true:=by
  have g:=aw (aV Q0 (p,e) hm);clear hk L2;cases lo' with
  |true=>exact g.1
  |false=>exact g.2
 have X8:=QM (M:=M) (h:=hW m j t nx) (row:=rowC R) ⟨bw hb.1,bw hb.2⟩ (cY hn).2 hk c (mA hS);rw[Di,q4] at X8;unfold mf wS;rw[h0,h0'];exact(X8.cast (L1 _) rfl rfl (congrArg (fun l=>ac.mk l aI) (L2 _)) rfl).gk
theorem VG(hl:fi=true→lo=false)(h:iR pl t.k=true):mf M R S b j ⟨pl,fi,mr,lo,[],none⟩ t nx (Md.dn ⟨pl,fi,mr,lo,[],none⟩ t nx) (SS.val (Md.Z M.Z.P b ⟨pl,fi,mr,lo,[],none⟩ t) (eI (Md.pd ⟨pl,fi,mr,lo,[],none⟩ true) (t.ad fi nx 0))):=by
 have fb:∀ {nk:Int} {m:Md} {z},flA (am (cH.εR M.Z.P b nx.w6 nk) (hW m j t nx) z) (lI 8)=I b:=zg;obtain⟨k,fl,an,wd,st⟩:=t;induction pl,k,h using rD
 ·refine wU (lo':=true) (e:=.ss) hS hb ht hn rfl rfl rfl (aK _ (aK _ (.head _))) 0 ⟨bO 0,by decide⟩ (fun z=>nL rfl rfl (.inr rfl) (fun f o q=>by injection q) (fun v o q=>by injection q) rfl) fun z=>?_
  show [(bu,AV.cell 0),(bZ,flA _ (lI 8)),(c9,.cell 1),(hH,.cell 2),(hK,I 1),(ge,.bool fi),(gT,.bool mr),(g7,.bool lo),(cX,I j)]=[(bu,AV.cell 0),(bZ,I b),(c9,.cell 1),(hH,.cell 2),(hK,I 1),(ge,.bool (fi&&true)),(gT,.bool mr),(g7,.bool (lo&&true)),(cX,I j)];rw[fb,Xv,Xv]
 ·refine wU (lo':=true) (p:=.d1 fi lo) (e:=.se) hS hb ht hn rfl rfl rfl (wg hl (aK _ (.head _))) 0 ⟨bO 0,by decide⟩ (fun z=>nL rfl rfl (.inr rfl) (fun f o q=>by injection q with q1 q2;exact⟨q1.symm,q2.symm⟩) (fun v o q=>by injection q) rfl) fun z=>?_
  show [(bu,AV.cell 0),(bZ,flA _ (lI 8)),(c9,.cell 1),(hH,.cell 2),(hK,I 4),(ge,.bool fi),(gT,.bool mr),(g7,.bool lo),(cX,I j)]=[(bu,AV.cell 0),(bZ,I b),(c9,.cell 1),(hH,.cell 2),(hK,I 4),(ge,.bool (fi&&true)),(gT,.bool mr),(g7,.bool (lo&&true)),(cX,I j)];rw[fb,Xv,Xv]
 ·have L2:∀ {nk:Int} {lo':Bool} {k:Nat} {z},fQ (am (cH.εR M.Z.P b nx.w6 nk) (hW ⟨1,fi,mr,lo,[],none⟩ j ⟨2,fl,an,wd,st⟩ nx) z) (dJ lo' (.d1 fi lo) (.ds fl k)).out=eu b ⟨2,fi&&false,dO (.d1 fi lo) (.ds fl k),lo&&true,[],none⟩ j:=fun {nk lo' k z}=>by
   show [(bu,AV.cell 0),(bZ,flA _ (lI 8)),(c9,.cell 1),(hH,.cell 2),(hK,I 2),(ge,.bool false),(gT,.bool (dO (.d1 fi lo) (.ds fl k))),(g7,.bool lo),(cX,I j)]=[(bu,AV.cell 0),(bZ,I b),(c9,.cell 1),(hH,.cell 2),(hK,I 2),(ge,.bool (fi&&false)),(gT,.bool (dO (.d1 fi lo) (.ds fl k))),(g7,.bool (lo&&true)),(cX,I j)];rw[fb,Xw,Xv]
  have go:∀ {k:Nat} {nk:Nat} {lo':Bool},Ad.ds fl k∈[Ad.se,.ds true 0]++(Bool.rec [0] ((List.range 13).map (·+1)) fi:ξ).map (Ad.ds false)→r4 lo' nk→(∀ z,flA (am (cH.εR M.Z.P b nx.w6 nk) (hW ⟨1,fi,mr,lo,[],none⟩ j ⟨2,fl,an,wd,st⟩ nx) z) (Ad.ds fl k).nx=nx.av)→mf M R S b j ⟨1,fi,mr,lo,[],none⟩ ⟨2,fl,an,wd,st⟩ nx ⟨2,fi&&false,dO (.d1 fi lo) (.ds fl k),lo&&true,[],none⟩ (SS.val (Md.Z M.Z.P b ⟨1,fi,mr,lo,[],none⟩ ⟨2,fl,an,wd,st⟩) (eI (.d1 fi lo) (.ds fl k))):=fun {k nk lo'} h1 h2 h3=>
   wU (lo':=lo') (p:=.d1 fi lo) (e:=.ds fl k) hS hb ht hn rfl rfl rfl (wg hl h1) nk h2 (fun z=>nL rfl rfl (.inl rfl) (fun f o q=>by injection q with q1 q2;exact⟨q1.symm,q2.symm⟩) (fun v o q=>by injection q) (h3 z)) fun z=>L2
  cases fl with
  |true=>
   have e:Tk.ad ⟨2,true,an,wd,st⟩ fi nx 0=.ds true 0:=by
    show Ad.ds true (Bool.rec 0 (Bool.rec 1 (ib nx) (nx.k.beq 4)) (fi&&false))=_;rw[Xw]
   have G:=go (k:=0) (nk:=0) (lo':=true) (aK _ (.tail _ (.head _))) ⟨bO 0,by decide⟩ fun _=>rfl;rw[←e] at G;exact G
  |false=>
   cases fi with
   |false=>exact go (k:=0) (nk:=0) (lo':=true) (bF _ (.head _)) ⟨bO 0,by decide⟩ fun _=>rfl
   |true=>
    cases q:Nat.beq nx.k 4 with
    |true=>
     have e:Tk.ad ⟨2,false,an,wd,st⟩ true nx 0=.ds false (ib nx):=by
      show Ad.ds false (Bool.rec 1 (ib nx) (nx.k.beq 4))=_;rw[q]
     have two:∃ i,ib nx=i+2:=⟨_,XA ..⟩;apply bn two;intro i hi;have G:=go (k:=ib nx) (nk:=0) (lo':=true) (bF _ (Ws NO)) ⟨bO 0,by decide⟩ fun z=>by
      rw[←PN (P:=M.Z.P) (b:=b) (nk:=(0:Nat)) (m:=⟨1,true,mr,lo,[],none⟩) (j:=j) (t:=⟨2,false,an,wd,st⟩) (z:=z) hn q,hi];rfl
     rw[←e] at G;exact G
    |false=>
     have e:Tk.ad ⟨2,false,an,wd,st⟩ true nx 0=.ds false 1:=by
      show Ad.ds false (Bool.rec 1 (ib nx) (nx.k.beq 4))=_;rw[q]
     have k4:=W6 q;have nkd:r4 (nx.k.ble 3) nx.k:=by
      cases r:Nat.ble nx.k 3 with
      |true=>exact⟨cT _,bw (nleT r)⟩
      |false=>
       have:¬ (nx.k≤3):=fun hh=>by rw[Wn hh] at r;injection r
       exact⟨by lia,W3 (bw (Nat.le_of_lt ((cY hn).1))) (by decide)⟩
     have G:=go (k:=1) (nk:=nx.k) (bF _ (Ws (.head _))) nkd fun z=>by
      show AV.tup [flA _ (lI 14),.bool nx.fl,gx nx.an,.str (.k nx.w),fw nx.st]=_;rw[show flA (am (cH.εR M.Z.P b nx.w6 nx.k) (hW ⟨1,true,mr,lo,[],none⟩ j ⟨2,false,an,wd,st⟩ nx) z) (lI 14)=I nx.k from by show AV.int (.k ((V 14).val (cH.εR M.Z.P b nx.w6 nx.k)))=_;rw[co];rfl];rfl
     rw[←e] at G;exact G
 ·refine wU (lo':=true) (p:=.d3 true lo) (e:=.de fl) hS hb ht hn rfl rfl rfl (DQ true lo fl) 0 ⟨bO 0,by decide⟩ (fun z=>nL rfl rfl (.inl rfl) (fun f o q=>by injection q) (fun v o q=>by injection q with _ q;exact q.symm) rfl) fun z=>?_
  show [(bu,AV.cell 0),(bZ,flA _ (lI 8)),(c9,.cell 1),(hH,.cell 2),(hK,I 1),(ge,.bool fi),(gT,.bool mr),(g7,.bool (lo&&!fl)),(cX,I j)]=[(bu,AV.cell 0),(bZ,I b),(c9,.cell 1),(hH,.cell 2),(hK,I 1),(ge,.bool (fi&&true)),(gT,.bool mr),(g7,.bool (lo&&!(true&&fl))),(cX,I j)];rw[fb,Xv,Bool.true_and]
theorem U1(hp:pl=0∨pl=1∨pl=3∨pl=4)(hl:fi=true→lo=false)(h:iR pl t.k=false):xA M R S b j ⟨pl,fi,mr,lo,[],none⟩ t nx []:=by
 have c:=aV K7 (Md.pd ⟨pl,fi,mr,lo,[],none⟩ true,tn 0 eQ t.k) (DT hp hl true (cY ht).1 h);have k9:=(cY ht).1;have kn:knd (.ot (tn 0 eQ t.k))=t.k:=by
  generalize t.k=k at k9 ⊢;apply kP k9<;>rfl
 have L1:∀ z,b6 (am (cH.εR M.Z.P b nx.w6 (0:Nat)) (hW ⟨pl,fi,mr,lo,[],none⟩ j t nx) z) ⟨nM (Md.pd ⟨pl,fi,mr,lo,[],none⟩ true) (.ot (tn 0 eQ t.k)),aI⟩=⟨eD b ⟨pl,fi,mr,lo,[],none⟩ j t nx,aI⟩:=fun z=>by
  rcases hp with e|e|e|e<;>subst e
  ·exact nL rfl kn (.inr rfl) (fun f o q=>by injection q) (fun v o q=>by injection q) rfl
  ·exact nL rfl kn (.inr rfl) (fun f o q=>by injection q with q1 q2;exact⟨q1.symm,q2.symm⟩) (fun v o q=>by injection q) rfl
  ·exact nL rfl kn (.inr rfl) (fun f o q=>by injection q) (fun v o q=>by injection q with _ q;exact q.symm) rfl
  ·exact nL rfl kn (.inr rfl) (fun f o q=>by injection q) (fun v o q=>by injection q) rfl
 exact⟨_,_,((KK ⟨bw hb.1,bw hb.2⟩ (cY hn).2 ⟨bO 0,by decide⟩ c (mA hS)).cast (L1 _) rfl rfl rfl rfl).gk⟩
end
def QV(h:i+b≤k):indN p e i b≤k:=by
 unfold indN;cases e.gr p.flow<;>cases p.isRoot<;>cases (p.mp&&(!e.m&&!p.beh e))<;>first|exact h|exact(WZ (W0 ..) h)|exact(WZ (Xn ..) h)|exact WK _
def xc(n:Nat):(eF (n:Int)).length=n:=by unfold eF;rw[Wk];rfl
def sf(f:Fm):f.ps.flow=f.fl:=by unfold Fm.ps;cases f.fl<;>cases f.m<;>rfl
def Iw(h:bz e=true)(g:e.gr fl=false):fl=false:=by
 cases e with
 |st m f an ho=>
  have g:(f ||(ho ||fl))=false:=g;cases fl with
  |false=>rfl
  |true=>rw[X2,X2] at g;injection g
 |_=>injection h
def zp(hb:2≤b∧b≤9){m:Md}(hf:eK j m.f)(he:bz e=true):eK (j+1) (m.gr b e):=by
 have h1:=hf.col;have h3:indN m.p e m.f.ind b≤9*(j+1):=QV (by have:=hf.ind;exact Xb this hb.2);have hcb:=Xb h1 hb.2;have z0:=WK (j+1);have bl:e.gr m.p.flow=false→m.p.isRoot=false→m.f.ind=m.f.col:=fun hg hr=>by
  refine hf.bl ?_;have:=Iw he hg;unfold Md.p at this hr;unfold Md.f;cases q:m.tp with
  |none=>rw[q] at hr;injection hr
  |some f=>rw[q] at this;rw[←this];exact(sf f).symm
 unfold Md.gr lH at *
 generalize hi:indN m.p e m.f.ind b=i at *
 unfold indN at hi;cases g:e.gr m.p.flow with
 |true=>exact⟨WK _,z0,WK _,h3,fun _=>⟨rfl,rfl⟩,fun h=>by injection h⟩
 |false=>
  rw[g] at hi;cases r:m.p.isRoot with
  |true=>
   rw[r] at hi;refine⟨WK _,z0,?_,h3,fun h=>by injection h,fun _=>hi.symm⟩;show (Bool.rec [10] [] (m.p.beh e):ξ).length≤_;cases m.p.beh e with
   |true=>exact WK _
   |false=>exact Xn ..
  |false=>
   rw[r] at hi;have bl:=bl g r;cases q:m.p.beh e with
   |true=>
    refine⟨hcb,z0,?_,h3,fun h=>(by injection h),fun _=>?_⟩
    ·show (eF (b+-1)).length≤_
     rw[show b+-1=((b-1:Nat):Int) from (Int.ofNat_sub (Nat.le_of_succ_le hb.1)).symm,xc];exact WZ (WZ (XE _ _) hb.2) (nleT rfl)
    ·rw[q] at hi
     have hi:Bool.rec (m.f.ind+b) m.f.ind (m.p.mp&&(!e.m&&false))=i:=hi;rw[Xw,Xw] at hi;show i=m.f.col+b;rw[←hi,bl]
   |false=>
    rw[q] at hi;have hi:Bool.rec (m.f.ind+b) m.f.ind (m.p.mp&&(!e.m&&true))=i:=hi;rw[Xv] at hi;cases s:(m.p.mp&&!e.m) with
    |true=>
     rw[s] at hi;refine⟨by show m.f.col≤_;exact Xs h1,z0,?_,h3,fun h=>(by injection h),fun _=>?_⟩
     ·show (10::eF (m.f.col)).length≤_
      rw[dH,xc];exact W9 (WZ h1 (W5 9 (Xh j)))
     ·rw[←hi];exact bl
    |false=>
     rw[s] at hi;refine⟨hcb,z0,?_,h3,fun h=>(by injection h),fun _=>?_⟩
     ·show (10::eF ((m.f.col+b:Nat))).length≤_
      rw[dH,xc];exact W4 (Xb h1 hb.2) _
     ·rw[←hi];exact congrArg (·+b) bl
def eK.le(h:eK j f)(hk:j≤k):eK k f:=⟨WZ h.col (W5 9 hk),WZ h.bg hk,WZ h.ah (W4 (W5 9 hk) 1),WZ h.ind (W5 9 hk),h.fl,h.bl⟩
def eK.adv(h:eK j f)(s:Bool):eK (j+1) (f.adv s):=by
 have g:=h.le (Xh j);exact⟨g.col,W9 h.bg,g.ah,g.ind,g.fl,g.bl⟩
def Nk:eK j cH:=⟨WK _,WK _,WK _,WK _,fun h=>(by injection h),fun _=>rfl⟩
def cW.f(h:cW j m):eK j m.f:=by
 unfold Md.f;cases q:m.tp with
 |none=>exact Nk
 |some f=>exact h.tp f q
def yp{pl:Nat}{fi mr lo:Bool}(h:pl≤4)(a:fi=true→lo=false)(c:pl=2∨pl=3→fi=false):cW j ⟨pl,fi,mr,lo,[],none⟩:=⟨et,fun f hf=>(by injection hf),fun _=>rfl,WK _,h,fun h=>absurd rfl h,a,c⟩
def wo{fi mr lo:Bool}{f:Fm}{fs:List Fm}(hf:∀ f∈fs,eK j f)(h:eK j f)(n:fs.length≤j)(a:fi=true→lo=false)(c:fi=false):cW j ⟨2,fi,mr,lo,fs,some f⟩:=⟨hf,fun g e=>(by injection e with e;exact e▸h),fun e=>(by injection e),n,nleT rfl,fun _=>rfl,a,fun _=>c⟩
def yP(hb:2≤b∧b≤9)(h:cW j m)(s:eV P b t nx m o x):wn (cW (j+1)) o:=by
 induction s with
 |@doc m h1 h2=>
  refine yp ?_ (fun hf=>?_) fun hf=>?_
  ·cases t.ad m.fi nx 0<;>exact Xc rfl
  ·rw[h.lo (aw hf).1];rfl
  ·clear h h1;unfold Tk.ad at hf;generalize m.pl=p at h2;generalize t.k=k at h2 hf ⊢
   induction p,k,h2 using rD
   ·rcases hf with hf|hf<;>cases hf
   ·rcases hf with hf|hf<;>cases hf
   ·exact Xw _
   ·rcases hf with hf|hf<;>cases hf
 |@root fi mr lo fs h1=>
  have f2:fi=false:=h.f2 (.inl rfl);have no:∀ {c:Bool},fi=true→c=false:=fun e=>by rw[f2] at e;injection e
  show cW _ _;cases q:bz (t.ab (ag t nx)) with
  |false=>exact yp (nleT rfl) no fun _=>f2
  |true=>exact wo et (zp hb h.f q) (WK _) no f2
 |node h1=>
  have up:=fun f hf=>(h.fs f hf).le (Xh j);show cW _ _;cases q:bz (t.ab (ag t nx)) with
  |false=>exact wo up ((h.tp _ rfl).adv _) (Nat.le_succ_of_le h.n) h.lo (h.f2 (.inl rfl))
  |true=>exact wo (fun g hg=>(cZ hg).elim (up g) fun hg=>bU hg▸(h.tp _ rfl).adv _) (zp hb h.f q) (by rw[aB];exact W9 h.n) h.lo (h.f2 (.inl rfl))
 |end1=>exact yp (nleT rfl) h.lo fun _=>h.f2 (.inl rfl)
 |end2=>exact wo (fun f hf=>(h.fs f (aK _ hf)).le (Xh j)) ((h.fs _ (bF _ (.head _))).le (Xh j)) (WZ (W0 ..) (Nat.le_succ_of_le (by have n:=h.n;rw[aB] at n;exact n))) h.lo (h.f2 (.inl rfl))
 |_=>trivial
noncomputable def q3:Tk:=⟨0,false,0,[],0⟩
def Jj:q3∈au:=by unfold au xH q3;simp
def hG(r:List Tk):Tk:=List.rec q3 (fun a _ _=>a) r
inductive Rn (P:Params) (b:Nat):Md→List Tk→List ξ→ξ→Prop
 |stop {m:Md} {t:Tk} {r:List Tk} {x:ξ}:eV P b t (hG r) m none x→Rn P b m (t::r) [] x
 |go {m m':Md} {t:Tk} {r:List Tk} {x l:ξ} {S:List ξ}:eV P b t (hG r) m (some m') x→Rn P b m' r S l→Rn P b m (t::r) (x::S) l
def E0(h:∀ t∈r,t∈au):hG r∈au:=by
 cases r with
 |nil=>exact Jj
 |cons a r=>exact h a (.head _)
def qR(b:Nat)(m:Md):List (Str×AV):=[(bu,.cell 0),(bZ,I b),(c9,.cell 1),(hH,.cell 2),(hK,I m.pl),(ge,.bool m.fi),(gT,.bool m.mr),(g7,.bool m.lo)]
section
variable {R:List Tk}(hR:∀ t∈R,t∈au){j:Nat}
theorem Gk.post{ls ls' ls1:ac}(hs:ls1.sc=ls.sc)(h:∀ x v,lk x ls1.v=some v→lk x ls'.v=some v)(H:Gk M n k t ls J f ls' J'):Gk M n k t ls J f ls1 J':=⟨by
 intro c A s m imm cs Q E C l R q;exact H.h C l R fun h' tk m' imm' cs' fl R' l' x' y' f'=>q h' tk m' imm' cs' fl ⟨R'.F,R'.N,R'.nd,R'.C,fun x v hx=>R'.l x v (h x v hx)⟩ ⟨hs▸l.sc,fun x v hx=>l'.lo x v (h x v hx),l'.nd⟩ x' y' f'⟩
def Ot(M:aF)(R:List Tk)(S:List ξ)(b j:Nat)(m:Md)(t nx:Tk)(o:κ Md)(x:ξ):Prop:=Option.rec (xA M R S b j m t nx x) (fun m'=>mf M R S b j m t nx m' x) o
theorem CQ(hm:cW j m)(h:Nat.beq m.pl 2=false):m=⟨m.pl,m.fi,m.mr,m.lo,[],none⟩:=by
 have e:m.tp=none:=by
  cases e:m.tp with
  |none=>rfl
  |some f=>exact absurd (hm.p2 (by rw[e];intro h;injection h)) (W6 h)
 have e2:=hm.no e;clear hm h;obtain⟨pl,fi,mr,lo,fs,tp⟩:=m;exact congr (congrArg _ e2) e
include hR in
theorem IE{S:List ξ}(hS:S.length≤40000)(hb:2≤b∧b≤9)(ht:t∈au)(hn:nx∈au)(hj:j≤66)(hm:cW j m)(s:eV M.Z.P b t nx m o x):Ot M R S b j m t nx o x:=by
 induction s with
 |doc h1 h2=>rw[CQ hm h1];exact VG hS hb ht hn hm.lo h2
 |docx h1 h2=>rw[CQ hm h1];exact U1 hS hb ht hn (Cf hm.pl (W6 h1)) hm.lo h2
 |root h=>
  have e:=hm.no rfl;clear hm;replace e:=e;subst e;exact Qo hR hS hb ht hn hj h
 |node h=>exact Q7 hR hS hb ht hn hj (hm.tp _ rfl) hm.n h
 |end1 h3 h4=>exact ST hR hS hb ht hn hj (hm.tp _ rfl) h3 h4
 |end2 h3 h4=>exact M9 hR hS hb ht hn hj (hm.tp _ rfl) hm.n h3 h4
 |@ref _ _ _ _ tp h3 h4=>
  cases tp with
  |none=>exact J1 hR hS hb ht hn hj h3 h4
  |some f=>exact MX hR hS hb ht hn hj (hm.tp _ rfl) hm.n h3 h4
theorem T9(h:j<n):place n (j:Int)=some j:=by
 unfold place seqIndex?;rw[if_neg (by exact Int.not_lt.mpr (W3 (by decide) (cT _)):¬ (j:Int)<0),if_pos (Wp.mpr ⟨decide_eq_true (cT j),decide_eq_true (by exact(bw h))⟩)];rfl
theorem yb(h:xs[j]?=some v):iZ xs (.k (j:Int))=some v:=by
 have hj:j<xs.length:=by
  rcases XU j xs.length with q|q
  ·exact q
  ·rw[WR q] at h;injection h
 show ob (place (lenA xs) j) (fun p=>ao xs p)=_;rw[T9 (by rw[aZ];exact hj)];show ao xs j=_;rw[cJ];exact h
end
def vC:List Stmt:=bN 2 gn.b
def Df:gn.b=vC++gg:=by kernel_rfl
structure gY where
 ts:List Expr
 e:Expr
 p:Pos
def iu(l:List Stmt)(i:Nat):gY:=match ao l i with|some (.Assign ts e p)=>⟨ts,e,p⟩|_=>⟨[],.Constant .none 0 default,default⟩
def ub:gY:=iu gn.b 0
def tV:gY:=iu gn.b 1
def MD:vC=[.Assign ub.ts ub.e ub.p,.Assign tV.ts tV.e tV.p]:=by kernel_rfl
def V9:(aA [] aq 12).ev ⟨eu b m j,aI⟩ (.list xs::J) ub.e=ob (iZ xs (.k (j:Int))) fun r=>some (r,.list xs::J):=by kernel_rfl
def I5{t:Tk}:(aA [] aq 12).ev ⟨eu b m j++[(jI,I t.k),(mw,.bool t.fl),(dh,gx t.an),(ml,.str (.k t.w)),(gi,fw t.st)],aI⟩ (.list xs::J) tV.e=Bool.rec (some (q3.av,.list xs::J)) (ob (iZ xs (.k ((j:Int)+1))) fun r=>some (r,.list xs::J)) (jY ((j:Int)+1) (lenA xs:Int)):=by kernel_rfl
def Ty{t:Tk}:(aA [] aq 12).asgm ⟨eu b m j,aI⟩ J t.av ub.ts=some (⟨eu b m j++[(jI,I t.k),(mw,.bool t.fl),(dh,gx t.an),(ml,.str (.k t.w)),(gi,fw t.st)],aI⟩,J):=by kernel_rfl
def TR{t nx:Tk}:(aA [] aq 12).asgm ⟨eu b m j++[(jI,I t.k),(mw,.bool t.fl),(dh,gx t.an),(ml,.str (.k t.w)),(gi,fw t.st)],aI⟩ J nx.av tV.ts=some (⟨eD b m j t nx,aI⟩,J):=by kernel_rfl
def RK:(aA [] aq 0).asg ⟨qR b m,aI⟩ J (.int (.k (.ofNat j))) gn.t=some (⟨eu b m j,aI⟩,J):=by kernel_rfl
def w8(a b:Nat):jY (a:Int) (b:Int)=a.blt b:=rfl
def xU(hf:gt f jb=some (bR f))(hb:fE (bR f).args (bR f).dflt vs []=some ls)
  (D:bc M n (bR f).body ⟨ls,(bR f).sc⟩ J (.ret r) L J') (hl:gN (lenA J) r J'=σ2):fnIn M.K f=true∧Rz M (n+5) J f vs r σ2:=by
 apply ay ((yC (Ai _)).hf f _ hf);intro g1 g2;refine⟨g1,?_⟩;have H:bV M (n+5) J f vs [] r (gN (lenA J) r J'):=uF g2 hb (Wm _) (.inl rfl) D.h;rw[hl] at H;exact⟨@H⟩
section
def KR(h1:R[j]?=some t)(h2:nx=(R[j+1]?).getD q3):bc M 150 vC ⟨eu b m j,aI⟩ (rowC R::X) .next ⟨eD b m j t nx,aI⟩ (rowC R::X):=by
 have A:=cU (kd (M:=M)) 300 12;have g:∀ {i:Nat} {t:Tk},R[i]?=some t→iZ (R.map Tk.av) (.k (i:Int))=some t.av:=fun h=>yb (by rw[List.getElem?_map,h];rfl);have y1:=cO (M:=M) (Wm _) (v:=nx.av) ((I5 (b:=b) (m:=m) (t:=t) (J:=X)).trans (by
  rw[show ((j:Int)+1)=((j+1:Nat):Int) from rfl,w8,aZ,Wr];rcases XU (j+1) R.length with q|q
  ·have e:=List.getElem?_eq_getElem q
   rw[e] at h2;rw[g e,show Nat.blt (j+1) R.length=true from Wn q,h2];rfl
  ·rw[WR q] at h2
   rw[show Nat.blt (j+1) R.length=false from Gz (Nat.lt_succ_of_le q),h2];rfl))
 rw[MD];exact(Dz.asg A.E A.S (by kernel_rfl) (cO (Wm _) ((V9).trans (by rw[g h1];rfl))) Ty).cons (Dz.asg A.E A.S (by kernel_rfl) y1 TR).one
def JE(hR:∀ t∈R,t∈au)(hl:R.length≤66)(hb:2≤b∧b≤9)(h:Rn M.Z.P b m suf S' l):∀ {pre:List Tk} {S:List ξ},R=pre++suf→S.length=pre.length→cW pre.length m →
  ∃ ls' X,jh M 150 3 gn.t gn.b pre.length suf.length ⟨qR b m,aI⟩ (wS R S m) (.ret (.tup [.cell 1,.str (.k l)])) ls' ([rowC R,.list (aL (S++S'))]++X):=by
 have az:∀ {j:Nat} {m:Md} {J:St},Az M 150 gn.t (.int (.k (.ofNat j))) ⟨qR b m,aI⟩ J ⟨eu b m j,aI⟩ J:=kK RK;have st:∀ (S:List ξ) (m:Md),∃ X,wS R S m=rowC R::X:=fun S m=>by unfold wS;cases m.tp<;>exact⟨_,rfl⟩
 have bd:∀ {pre r:List Tk} {t:Tk} {S:List ξ} {m:Md},R=pre++t::r→bc M 150 vC ⟨eu b m pre.length,aI⟩ (wS R S m) .next ⟨eD b m pre.length t (hG r),aI⟩ (wS R S m):=fun {pre r t S m} e=>by
  apply bn (st S m);intro X e2;rw[e2];refine KR (by rw[e,List.getElem?_append_right (Wm _),XT];rfl) ?_;rw[e,List.getElem?_append_right (Xh _),show pre.length.succ-pre.length=1 from WD pre.length 1];cases r<;>rfl
 have mem:∀ {pre r:List Tk} {t:Tk},R=pre++t::r→t∈au∧hG r∈au∧pre.length≤65:=fun {pre r t} e=>by
  refine⟨hR t (by rw[e];exact bF _ (.head _)),E0 fun u hu=>hR u (by rw[e];exact bF _ (.tail _ hu)),?_⟩;have:=hl;rw[e,aB,dH] at this;exact WZ (W0 _ _) (Xm this)
 induction h with
 |stop s=>
  intro pre S e hS hm;apply cw (mem e);intro h1 h2 h3;apply bJ ((IE hR (WZ (WZ (W7 hS) h3) (nleT rfl)) hb h1 h2 (W2 h3) hm s));intro ls' X K;refine⟨ls',X,?_⟩;rw[aX];refine jh.ret az ?_;rw[Df];exact Gk.append (bd e).gk K
 |@go m m' t r x l S' s hr ih=>
  intro pre S e hS hm;apply cw (mem e);intro h1 h2 h3;apply bJ (ih (pre:=pre++[t]) (S:=S++[x]) (by rw[e,bP];rfl) (by rw[aB,aB,hS];rfl) (by rw[aB];exact yP hb hm s));intro ls' X IH;refine⟨ls',X,?_⟩;rw[show S++x::S'=(S++[x])++S' from (bP S [x] S').symm];rw[aB] at IH;refine jh.step az ?_ IH;rw[Df];exact Gk.post rfl (fun x v h=>oG h) (Gk.append (bd e).gk ((IE hR (WZ (WZ (W7 hS) h3) (nleT rfl)) hb h1 h2 (W2 h3) hm s)))
def Ge:List Stmt:=bN 6 w0
def Iu:List Stmt:=bT 7 w0
def Ng:w0=Ge++(.For gn.t gn.it gn.b [] gn.p::Iu):=by kernel_rfl
noncomputable def gQ:Md:=⟨0,true,false,false,[],none⟩
def Js{b:Nat}{x:ak}:(aA [] aq 3).exs ⟨[(bu,.cell 0),(bZ,I b)],aI⟩ [x] Ge=some (.next,⟨qR b gQ,aI⟩,[x,.list [],.list []]):=by kernel_rfl
def Pf:(aA [] aq 6).ev ⟨qR b gQ,aI⟩ (.list xs::J) gn.it=gd (Nat.ble (lenA xs) 1000) (some (.rng 0 (lenA xs),.list xs::J)):=by kernel_rfl
def Vj:fE (bR 824).args (bR 824).dflt [.cell 0,I b] []=some [(bu,.cell 0),(bZ,I b)]:=by kernel_rfl
def Pu:gt 824 jb=some (bR 824):=by kernel_rfl
def IQ(hR:∀ t∈R,t∈au)(hl:R.length≤66)(hb:2≤b∧b≤9)(h:Rn M.Z.P b gQ R S l):∃ X,fnIn M.K 824=true∧Rz M 155 [rowC R] 824 [.cell 0,I b] (.tup [.cell 1,.str (.k l)]) ([rowC R,.list (aL S)]++X):=by
 obtain⟨ls',X,L⟩:=JE hR hl hb h (pre:=[]) (S:=[]) rfl rfl ⟨fun f h=>(by cases h),fun f h=>(by cases h),fun _=>rfl,WK _,WK _,fun h=>absurd rfl h,fun _=>rfl,fun h=>by rcases h with h|h<;>cases h⟩;have F:Gk M 150 3 (fun c=>exec (.For gn.t gn.it gn.b [] gn.p) c.env) ⟨qR b gQ,aI⟩ (wS R [] gQ) _ _ _:=Gk.range (by kernel_rfl) (by kernel_rfl) (cO (by decide) ((Pf).trans (by rw[aZ,Wr,Wn (WZ hl (by decide))];rfl))) L;have G:=Gk.append (cV (by decide) (Js)).gk (Gk.ret (r:=Iu) F);rw[←Ng] at G;exact⟨X,xU Pu Vj (Gk.dz (by show 1≤3;decide) G) rfl⟩
end
def KU:(fun P:Params=>[4,7,9].map fun i=>(List.range 10).map fun k=>kitOne (bY P) (.ref (tn 0 eQ k)) (.ref (tn 0 eQ i)))=fun _=>[4,7,9].map fun i=>(List.range 10).map fun k=>some (k.beq i):=by kernel_rfl
def Vt:(fun P:Params=>(List.range 10).all fun k=>hasDictIn (bY P) (tn 0 eQ k)&&plainGet (bY P) (tn 0 eQ k) "__class__")=fun _=>true:=by kernel_rfl
def Mp:(fun P:Params=>(List.range 10).map fun k=>findIn (bY P) (.ref (tn 0 eQ k)) "__class__")=fun _=>(List.range 10).map fun _=>some (some (.builtin "object.__class__")):=by kernel_rfl
def VD:(fun P:Params=>(specialIn (bY P) (.builtin "object.__class__") "__get__",takesIn (bY P) (.builtin "object.__class__")))=fun _=>(some (some (.builtin "getset_descriptor.__get__")),some true):=by kernel_rfl
def Lc:(fun P:Params=>(List.range 10).map fun k=>mroIn (bY P) (tn 0 eQ k) (.type "object"))=fun _=>(List.range 10).map fun _=>some true:=by kernel_rfl
def AR(hk:k<10)(hi:i∈[4,7,9]):qC (bY P) (tn 0 eQ k) (tn 0 eQ i) (k.beq i):=by
 have m:=dc hk;have h2:=aw (aV (congrFun Vt P) k m);have h4:=congrFun VD P;injection h4 with h4 h5;exact⟨X3 (X3 (congrFun KU P) i hi) k m,h2.1,h2.2,X3 (congrFun Mp P) k m,h4,h5,X3 (congrFun Lc P) k m⟩
def Tk.fs(t:Tk):List (Str×AV):=match t.ev with|.obj _ fs=>fs|_=>[]
def uS{t:Tk}(h:t.k<10):t.ev=.obj (tn 0 eQ t.k) t.fs:=by
 obtain⟨k,fl,an,w,st⟩:=t;have h:k<10:=h;apply kP h<;>rfl
structure Es where
 T:ξ
 n:Int
 line:Int
 col:Int
 ws:Bool
 idn:Bool
def Md.sta(m:Md):Addr:=Bool.rec (m.pd true).fn m.p.fn (m.pl.beq 2)
def dM(m:Md):List AV:=match m.tp with|some _=>cL 388::m.fs.map fun g=>cL g.ps.fn|none=>[]
def dN(m:Md):List AV:=match m.tp with|some _=>.none::m.fs.map fun g=>I g.ind|none=>[]
noncomputable def flN(l:List Fm):Nat:=(l.filter fun f=>f.fl).length
def Md.lvl(m:Md):Nat:=match m.tp with|some f=>Bool.rec 0 (flN m.fs+1) f.fl|none=>0
def Md.inv(m:Md):AV:=match m.tp with|some f=>I f.ind|none=>.none
def Md.oe(m:Md):AV:=Bool.rec ff (.bool m.lo) (m.pl.beq 1 ||m.pl.beq 3)
def aW(b:Nat)(z:Nat→ak)(m:Md)(v:Es)(q:List AV)(en ev:AV)(y:Nat→AV):St:=lY b z v.T v.n (.list q) (.list (dM m)) (.list (dN m)) en (cL m.sta) ev m.inv (m.lvl:Nat) (I v.line) (I v.col) (.bool v.ws) (.bool v.idn) m.oe y
inductive Ch:List Fm→Fm→Prop
 |one {f:Fm}:Ch [] f
 |on {l:List Fm} {f2 f:Fm}:Ch l f2→(f2.fl=true→f.fl=true)→(f.fl=false→f2.ind≤f.ind∧¬(f2.m=true∧f2.s=2))→f2.bg≠0→Ch (l++[f2]) f
def mj(f:Fm)(col:Int)(ws idn:Bool):Prop:=Bool.rec (Bool.rec (f.ps.post f.ind col ws idn) (fY idn ws col f.ind=f.ah) (f.bg.beq 0)) (f.ps.pre col ws idn) f.fl
structure dU (m:Md) (v:Es):Prop where
 d:m.pl=0∨m.pl=1→v.col=0∧v.ws=true∧v.idn=true
 r:m.pl=2→m.tp=none→(Ps.root m.mr).pre v.col v.ws v.idn
 f:∀ f,m.tp=some f→mj f v.col v.ws v.idn∧Ch m.fs f∧m.lo=false
 e:m.pl=3→v.idn=false∨1≤v.col
 z:m.pl=0→m.fi=true
structure jX (m:Md) (t:Tk):Prop where
 r:m.pl=2→m.tp=none→m.mr=false→¬(t.k=4∧t.an=0∧t.w=[])
 f:∀ f,m.tp=some f→f.fl=false→f.bg=0→t.k≠Bool.rec 7 9 f.m
structure eP (j:Nat) (v:Es):Prop where
 T:v.T.length≤600*j
 n:0≤v.n∧v.n≤20*(j:Int)
 line:0≤v.line∧v.line≤20*(j:Int)
 col:0≤v.col∧v.col≤12*(j:Int)
def jQ(m:Md):Int:=Bool.rec 1 ((flN m.fs:Int)+1) m.f.fl
def Md.nd(b:Nat)(m:Md)(v:Es)(w:ξ):Nd:=⟨v.T,v.n,v.line,v.col,m.f.ind,b,jQ m,v.ws,v.idn,w⟩
def qF(h:t∈au):t.w6∈gW:=by
 have g:(au.all fun t=>gW.any fun w=>gy w t.w6)=true:=by kernel_rfl
 apply af (List.any_eq_true.mp (aV g t h));intro w h1 h2;rw[←jf.mp h2];exact h1
def PW(l:List Fm):flN l≤l.length:=List.length_filter_le ..
def ue(hj:j≤65)(hb:2≤b∧b≤9)(hm:cW j m)(hv:eP j v)(hw:w∈gW):kF (m.nd b v w):=by
 have n':=hv.n;have l:=hv.line;have c:=hv.col;refine⟨WZ (mB hj hv.T) (nleT rfl),⟨n'.1,W3 (ol hj n'.2) (by decide)⟩,⟨l.1,W3 (ol hj l.2) (by decide)⟩,⟨c.1,W3 (ol hj c.2) (by decide)⟩,⟨cT _,bw ((WZ (mB hj hm.f.ind) (nleT rfl)))⟩,⟨bw hb.1,bw hb.2⟩,?_,hw⟩;show 1≤jQ m∧jQ m≤900;unfold jQ;cases m.f.fl with
 |true=>exact⟨bw (W9 (WK _)),bw (WZ (W9 (WZ (PW m.fs) (WZ hm.n hj))) (nleT rfl))⟩
 |false=>exact⟨bO 1,by show (1)≤900;decide⟩
def Ah(f:Fm)(s:Bool):(f.adv s).ps=f.ps.nx s:=by
 have g:(f.adv s).s=Bool.rec 1 (Bool.rec 3 2 s) (f.s.ble 1):=by
  show (Bool.rec (Bool.rec 3 2 s) 1 (Nat.beq ((f.bg+1) % 2) 0):Nat)=_;unfold Fm.s;cases q:Nat.beq f.bg 0 with
  |true=>rw[aJ q];rfl
  |false=>
   rcases ((Nat.mod_two_eq_zero_or_one f.bg).imp (fun h=>And.intro h (show (f.bg+1) % 2=1 by rw[Nat.add_mod,h])) fun h=>And.intro h (show (f.bg+1) % 2=0 by rw[Nat.add_mod,h])) with ⟨h1,h2⟩|⟨h1,h2⟩<;>rw[h1,h2]
   ·rfl
   ·cases f.pr<;>rfl
 unfold Fm.ps;rw[g];cases h1:f.fl<;>cases h2:f.m<;>(dsimp only [Fm.adv];rw[h1,h2];rfl)
def F7{f:Fm}(h:f.bg=0):f.ps=qX f.m f.fl:=by
 unfold Fm.ps Fm.s;rw[h];cases f.fl<;>cases f.m<;>rfl
def UX(m fl:Bool):(qX m fl).fn=tB m fl:=by cases m<;>cases fl<;>rfl
def yV{m:Md}:(m.gr b e).fl=e.gr m.p.flow∧(m.gr b e).m=e.m∧(m.gr b e).bg=0∧(m.gr b e).ind=indN m.p e m.f.ind b:=by
 unfold Md.gr lH;cases e.gr m.p.flow<;>cases m.p.isRoot<;>cases m.p.beh e<;>cases (m.p.mp&&!e.m)<;>exact⟨rfl,rfl,rfl,rfl⟩
def Dh(h:idn=false∨i+1≤col):fY idn ws col i=10::eF i:=by
 unfold fY brk;rcases h with h|h
 ·rw[h];rfl
 ·rw[decide_eq_true (by exact h)]
  cases idn<;>rfl
def QU(hf:eK j f)(h:mj f col ws idn)(hw:f.ps.wi=true):fY idn ws col f.ind=f.line:=by
 have hfl:f.fl=false:=by
  cases q:f.fl with
  |false=>rfl
  |true=>
   unfold Fm.ps at hw;rw[q] at hw;cases r:f.m<;>rw[r] at hw<;>injection hw
 unfold mj at h;rw[hfl] at h;unfold Fm.line;cases q:Nat.beq f.bg 0 with
 |true=>rw[q] at h;exact h
 |false=>
  rw[q] at h;have h:=h;rw[←hf.bl hfl];refine Dh ?_;unfold Fm.ps at h hw;rw[hfl] at h hw;cases r:f.m with
  |false=>rw[r] at h;exact h
  |true=>
   rw[r] at h hw;have hw:(Bool.rec true false (f.s.beq 2):Bool)=true:=hw;have h:(Bool.rec (idn=false∨(f.ind:Int)+1≤col) (ws=false∧idn=false) (f.s.beq 2):Prop):=h;cases s:Nat.beq f.s 2 with
   |true=>rw[s] at hw;injection hw
   |false=>rw[s] at h;exact h
def Rw{f:Fm}(hw:f.ps.wi=true):SS.val (f.εR P b w nk) f.ps.lnR=f.line:=by
 have l0:=aX f.ah;have l1:SS.val (f.εR P b w nk) [.lit [10],.rep 32 (V 6)]=10::eF f.col:=by
  show 10::(eF ((V 6).val (f.εR P b w nk))++[])=_;rw[xl,aX]
 unfold Fm.line;unfold Fm.ps at hw ⊢;cases efl:f.fl<;>cases em:f.m<;>rw[efl,em] at hw
 ·cases q:Nat.beq f.bg 0 with
  |true=>exact l0
  |false=>exact l1
 ·unfold Fm.s
  cases q:Nat.beq f.bg 0 with
  |true=>exact l0
  |false=>cases Nat.beq (f.bg % 2) 0 with
   |true=>exact l1
   |false=>cases f.pr<;>exact l1
 ·injection hw
 ·injection hw
def Mc(p:Pc)(c:Nat×Nat):κ (Nat×Nat):=match p with|.lit l=>some (lenA l+c.1,c.2)|.var i=>Bool.rec (Bool.rec none (some (c.1,c.2+1)) (i.beq 7)) (some (3+c.1,c.2)) (i.beq 6)|_=>none
def Bp(s:SS):κ (Nat×Nat):=List.rec (some (0,0)) (fun p _ ih=>ob ih fun c=>Mc p c) s
def OZ{Z:Ev}(h6:(Z.sv 6).length≤3)(h7:(Z.sv 7).length≤L):∀ {s:SS} {c:Nat×Nat},Bp s=some c→(SS.val Z s).length≤c.1+c.2*L:=by
 intro s;induction s with
 |nil=>intro c h;(apply r1 h;clear h);exact WK _
 |cons p r ih=>
  intro c h;have h:=h;apply aG h;clear h;intro d h1 h;show (p.val Z++SS.val Z r).length≤_;rw[aB];have go:∀ {a k:Nat},(p.val Z).length≤a+k*L→c=(a+d.1,d.2+k)→(p.val Z).length+(SS.val Z r).length≤c.1+c.2*L:=fun {a k} h e=>by
   rw[e];rw[Nat.add_mul,XA (d.2*_)];exact WZ (Xb h (ih h1)) (W7 (Nat.add_add_add_comm _ _ _ _))
  cases p with
  |lit l=>exact go (k:=0) (by rw[aZ,Nat.zero_mul];exact Wm _) (bM h).symm
  |var i=>
   have h:(Bool.rec (Bool.rec none (some (d.1,d.2+1)) (i.beq 7)) (some (3+d.1,d.2)) (i.beq 6):κ (Nat×Nat))=some c:=h;cases q:Nat.beq i 6 with
   |true=>rw[q] at h;exact go (by rw[Nat.zero_mul,aJ q];exact h6) (bM h).symm
   |false=>
    rw[q] at h;cases r:Nat.beq i 7 with
    |true=>rw[r] at h;exact go (by rw[Nat.one_mul,XS,aJ r];exact h7) ((bM h).symm.trans (by rw[XS]))
    |false=>rw[r] at h;injection h
  |rep c n=>injection h
def Vr:(dA.all fun p=>oZ.all fun e=>match Bp (dR p ei e) with|some c=>Nat.ble c.1 12&&Nat.ble c.2 1|none=>false)=true:=by kernel_rfl
def Qs{idn ws:Bool}{col:Int}{i:Nat}(h:0≤col):(fY idn ws col i).length≤i+1:=by
 unfold fY;cases brk idn ws col i with
 |true=>rw[dH,xc];exact Wm _
 |false=>unfold eF;rw[Wk];exact Int.toNat_le.mpr (W3 (XI _ h) (bw (Xh _)))
section
variable {m:Md}{t:Tk}
def Br(hm:cW j m)(hj:j≤65)(hv:eP j v)(ht:t∈au){p:Ps}(hp:p∈dA){e:Ab}(he:e∈oZ):((m.nd b v t.w6).out P p e).length≤600:=by
 have g:=aV (aV Vr p hp) e he;cases q:Bp (dR p ei e) with
 |none=>rw[q] at g;injection g
 |some c=>
  rw[q] at g;have g:=aw g;have:c.2*(m.f.ind+1)≤1*(m.f.ind+1):=Nat.mul_le_mul_right _ (nleT g.2);exact WZ (OZ (cY ht).2.2 (Qs hv.col.1) q) (WZ (Xb (nleT g.1) (WZ this (W5 1 (W9 (mB hj hm.f.ind))))) (nleT rfl))
def UU(hp:m.pl=2)(ht:m.tp=none):(m.nd b v t.w6).out P m.p e=m.txt P b t e:=vP (Z:=(m.nd b v t.w6).Z P) (Z':=m.f.εR P b t.w6 0) (by
 unfold Md.p;rw[ht];exact fun h=>by injection h) rfl e
def w7:SS.val ((m.nd b v t.w6).Z P) ei=fY v.idn v.ws v.col m.f.ind:=aX _
def z8(hm:cW j m)(hv:dU m v)(ht:m.tp=some f):m.p=f.ps∧m.f=f∧(f.ps.wi=true→SS.val ((m.nd b v t.w6).Z P) ei=SS.val (m.f.εR P b t.w6 0) m.p.lnR):=by
 have e1:m.p=f.ps:=by unfold Md.p;rw[ht]
 have e2:m.f=f:=by unfold Md.f;rw[ht]
 refine⟨e1,e2,fun h=>?_⟩;rw[w7,e1,e2,Rw h,QU (hm.tp f ht) (hv.f f ht).1 h]
def ti(ht:t∈au):flA (fN P (m.nd b v t.w6) (tO y 40 [some (.bool t.fl)]) h z q ss is l1 l2) (d9 (t.ab ho))=t.ev:=by
 have g:au.map (fun t=>flA (fN P (m.nd b v t.w6) (tO y 40 [some (.bool t.fl)]) h z q ss is l1 l2) (d9 (t.ab true)))=au.map Tk.ev∧au.map (fun t=>flA (fN P (m.nd b v t.w6) (tO y 40 [some (.bool t.fl)]) h z q ss is l1 l2) (d9 (t.ab false)))=au.map Tk.ev:=⟨by kernel_rfl,by kernel_rfl⟩;cases ho with
 |true=>exact X3 g.1 t ht
 |false=>exact X3 g.2 t ht
end
def Co:∀ p∈dA,(iE p).all (Tj.chk p)=true:=G7 (fun b=>by cases b;exact⟨JT,KI,TB⟩;exact⟨Nx,M3,Qg⟩) fun s hs=>by
 simp only [Xf,WA,or_false] at hs;rcases hs with rfl|rfl|rfl|rfl
 ·exact⟨PU,JX⟩
 ·exact⟨Pt,JA⟩
 ·exact⟨Qb,Kx⟩
 ·exact⟨MR,IX⟩
def Bf(hp:p∈dA)(he:e∈oZ)(hb:lT p e=false):Tj.chk p e=true:=aV (Co p hp) e (aK _ (List.mem_filter.mpr ⟨he,by rw[hb];rfl⟩))
def Lk(hp:p∈dA)(h:uH p (.en mm)=true):Tj.chk p (.en mm)=true:=aV (Co p hp) _ (bF _ (List.mem_filter.mpr ⟨Ws (fZ _),h⟩))
def PF{p:Ps}(h:p.isRoot=false)(e:Ab):lT p e=false:=by cases p<;>first|rfl|injection h
def yA(y:Nat→AV)(en:AV)(m:Md)(fl:Bool):Nat→AV:=tO (tO y 1 [some en,none,some (cL m.sta)]) 40 [some (.bool fl)]
section
variable {m:Md}
def jS(M:aF)(b j:Nat)(z:Nat→ak)(m:Md)(v:Es)(q:List AV)(en:AV)(t:Tk)(y:Nat→AV)(m':Md)(x:ξ):Prop:=∃ (v':Es) (y':Nat→AV),fnIn M.K m.sta=true∧Rz M 295 (aW b z m v q en t.ev y) m.sta [.cell 5] .none (aW b z m' v' q en t.ev y')∧v'.T=v.T++x∧eP (j+1) v'∧dU m' v'
def zD(M:aF)(b:Nat)(z:Nat→ak)(m:Md)(v:Es)(q:List AV)(en:AV)(t:Tk)(y:Nat→AV)(x:ξ):Prop:=∃ (n:Int) (c:Nat→ak) (xx:Nat→AV),fnIn M.K m.sta=true∧fg false M 300 (aW b z m v q en t.ev y) m.sta [.cell 5] [] (xV c xx (v.T++x) n)
def jD(hp:m.pl=2):m.sta=m.p.fn:=by unfold Md.sta;rw[hp];rfl
def Bx(hp:m.pl=2):m.oe=ff:=by unfold Md.oe;rw[hp];rfl
def DG:m.p.inV m.f.ind=m.inv:=by
 unfold Md.inv Md.p Md.f;cases m.tp with
 |none=>rfl
 |some f=>unfold Ps.inV;rw[hM]
def Av:m.p.lvV (jQ m)=(m.lvl:Nat):=by
 unfold Md.lvl Md.p jQ Md.f;cases m.tp with
 |none=>rfl
 |some f=>
  show (Bool.rec 0 _ f.ps.flow:Int)=_;rw[sf];show (Bool.rec 0 (Bool.rec 1 ((flN m.fs)+1) f.fl) f.fl)=((Bool.rec 0 (flN m.fs+1) f.fl:Nat):Int);cases f.fl<;>rfl
def tH(hp:m.pl=2)(h1:i9 m.p.isRoot (ss++[l1])=dM m)(h2:i9 m.p.isRoot (is++[l2])=dN m):nP (m.nd b v wd) m.p z (yA y en m fl) q ss is l1 l2 ev=aW b z m v q en ev y:=by
 unfold nP aW;rw[h1,h2,show (m.nd b v wd).ind=(m.f.ind:Int) from rfl,show (m.nd b v wd).lv=jQ m from rfl,DG,Av,Bx hp];kernel_rfl
def Ia(h:l≠[]):∃ s a,l=s++[a]:=by
 rcases List.eq_nil_or_concat l with e|⟨s,a,e⟩
 ·exact absurd e h
 ·exact⟨s,a,e.trans List.concat_eq_append⟩
def wz(hm:cW j m)(hj:j≤65):∃ ss is l1 l2,i9 m.p.isRoot (ss++[l1])=dM m∧i9 m.p.isRoot (is++[l2])=dN m∧ss.length≤40000∧is.length≤40000:=by
 unfold dM dN Md.p;cases q:m.tp with
 |none=>exact⟨[],[],.none,.none,rfl,rfl,WK _,WK _⟩
 |some f=>
  apply bJ (Ia (Wu _ _));intro s a e;apply bJ (Ia (Wu _ _));intro s2 a2 e2;have n:=hm.n;refine⟨s,s2,a,a2,?_,?_,?_,?_⟩
  ·rw[hM,←e];rfl
  ·rw[hM,←e2];rfl
  ·have:=congrArg List.length e
   rw[dH,Wr,aB,Xq] at this;lia
  ·have:=congrArg List.length e2
   rw[dH,Wr,aB,Xq] at this;lia
def vz(hv:eP j v)(hj:j≤65)(hi:i≤9*j)(hx:x.length≤600)(b1:0≤n-v.n∧n-v.n≤20)(b2:0≤col-Bool.rec v.col (i:Int) wi∧col-Bool.rec v.col (i:Int) wi≤12)(b3:v.line≤ln∧ln≤v.line+20):eP (j+1) ⟨v.T++x,n,ln,col,ws,idn⟩:=by
 have h4:=hv.col;refine⟨by rw[aB];exact Xb hv.T hx,hB hv.n b1,hB hv.line ⟨XB b3.1,Int.sub_left_le_of_le_add b3.2⟩,?_⟩;cases wi<;>(dsimp only at b2 ⊢;lia)
def yO:v.line≤(m.nd b v wd).lnV p∧(m.nd b v wd).lnV p≤v.line+20:=by
 have g:∀ c:Bool,v.line+Bool.rec 0 1 c=v.line∨v.line+Bool.rec 0 1 c=v.line+1:=fun c=>by
  cases c
  ·exact .inl (wM _)
  ·exact .inr rfl
 have e:(m.nd b v wd).ln=v.line∨(m.nd b v wd).ln=v.line+1:=g _;unfold Nd.lnV;cases p.wi with
 |false=>exact⟨bO _,by show v.line≤v.line+20;lia⟩
 |true=>rcases e with e|e<;>(rw[e];lia)
def Ha{p:Ps}(h:p.flow=true)(g:p.post base col ws idn):p.pre col ws idn:=by cases p<;>first|exact g|injection h
def HM{f:Fm}(hb:f.bg≠0)(h:f.ps.post f.ind col ws idn):mj f col ws idn:=by
 unfold mj;cases q:f.fl with
 |true=>exact Ha (by rw[sf,q]) h
 |false=>
  cases r:Nat.beq f.bg 0 with
  |true=>exact absurd (aJ r) hb
  |false=>exact h
def PC(hf:eK j f)(h:mj f col ws idn):f.ps.pre col ws idn:=by
 unfold mj at h;cases q:f.fl with
 |true=>rw[q] at h;exact h
 |false=>
  rw[q] at h;unfold Fm.ps at *
  rw[q] at h ⊢;cases r:f.m with
  |false=>exact trivial
  |true=>
   rw[r] at h;intro s;cases k:Nat.beq f.bg 0 with
   |true=>unfold Fm.s at s;rw[k] at s;injection s
   |false=>
    rw[k] at h;have h:(Bool.rec (idn=false∨(f.ind:Int)+1≤col) (ws=false∧idn=false) (f.s.beq 2):Prop):=h;rw[s] at h;exact h
def uj(hp:m.pl=2)(hm:cW j m)(hi:dU m v):m.p.pre v.col v.ws v.idn:=by
 unfold Md.p;cases q:m.tp with
 |none=>exact(hi.r hp) q
 |some f=>exact PC (hm.tp f q) (hi.f f q).1
def mL:m.p∈dA:=by
 unfold Md.p;cases m.tp with
 |none=>exact BN _
 |some f=>exact Fm.ps_mem f
def D8(h:Ch l f):Ch l (f.adv s):=by
 cases h with
 |one=>exact .one
 |on a b c d=>exact .on a b c d
def zS(hp:m.pl=2)(ht:t∈au)(hk:jX m t):lT m.p (t.ab ho)=false:=by
 have r:=hk.r hp;unfold Md.p;cases q:m.tp with
 |some f=>exact PF hM _
 |none=>
  have r:=r q;cases k:m.mr with
  |true=>rfl
  |false=>
   cases e:lT (.root false) (t.ab ho) with
   |false=>rfl
   |true=>
    refine absurd ?_ (r k);have g:(au.all fun t=>Bool.rec true (t.k.beq 4&&(t.an.beq 0&&bD t.w)) (lT (.root false) (t.ab true) ||lT (.root false) (t.ab false)))=true:=by kernel_rfl
    have g:=aV g t ht;have o:(lT (.root false) (t.ab true) ||lT (.root false) (t.ab false))=true:=by cases ho<;>rw[e]<;>first|rfl|exact X2 _
    rw[o] at g;have g:=aw g;have g2:=aw g.2;exact⟨aJ g.1,aJ g2.1,qY g2.2⟩
def KW(hb:2≤b∧b≤9)(hj:j≤65)(hm:cW j m)(hv:eP j v)(hi:dU m v)(hk:jX m t)(ht:t∈au)(hn:nx∈au)(hp:m.pl=2)(htp:m.tp=some f)(hN:eo (t.ab (ag t nx))=true)(hS:bz (t.ab (ag t nx))=false) :
  jS M b j z m v q en t y {m with fs:=m.fs,tp:=some (f.adv (t.ab (ag t nx)).simple)} (m.txt M.Z.P b t (t.ab (ag t nx))):=by
 apply dZ (wz hm hj);intro ss is l1 l2 h1 h2 n1 n2;apply cw (z8 hm hi htp);intro e1 e2 hl;have hmem:=(ve ht hN).1;have T:=vP hl rfl (t.ab (ag t nx));have T:(m.nd b v t.w6).out M.Z.P m.p (t.ab (ag t nx))=m.txt M.Z.P b t (t.ab (ag t nx)):=by unfold Md.txt Nd.out;rw[e1];rw[e1] at T;exact T
 apply rT (GI (Bf mL hmem (zS hp ht hk)) ⟨hN,hS⟩ (ue hj hb hm hv (qF ht)) (uj hp hm hi) n1 n2);intro n col ws idn y' f1 Rr b1 b2 po;have EF:flA (fN M.Z.P (m.nd b v t.w6) (yA y en m t.fl) (fun _=>.none) z q ss is l1 l2) (d9 (t.ab (ag t nx)))=t.ev:=ti ht;rw[EF,tH hp h1 h2] at Rr;refine⟨⟨v.T++m.txt M.Z.P b t (t.ab (ag t nx)),n,(m.nd b v t.w6).lnV m.p,col,ws,idn⟩,y',by rw[jD hp];exact f1,?_,rfl,vz hv hj hm.f.ind (by rw[←T];exact Br hm hj hv ht mL hmem) b1 b2 yO,?_⟩
 ·rw[jD hp]
  refine Rr.cast rfl rfl rfl ?_;unfold nQ aW;rw[T,h1,h2,show (m.nd b v t.w6).ind=(m.f.ind:Int) from rfl,show (m.nd b v t.w6).lv=jQ m from rfl,DG,Av];have a1:oI m.p (t.ab (ag t nx))=ff:=by
   rw[e1];cases t.ab (ag t nx) with
   |sc a b c=>show AV.bool (f.ps.isRoot&&_)=_;rw[hM];rfl
   |_=>rfl
  have a2:m.p.fol (t.ab (ag t nx)).simple=Md.sta {m with fs:=m.fs,tp:=some (f.adv (t.ab (ag t nx)).simple)}:=by
   rw[jD (by exact hp),e1];show (Bool.rec (f.ps.nx _).fn 388 f.ps.isRoot)=(f.adv _).ps.fn;rw[hM,Ah]
  have a3:m.inv=Md.inv {m with fs:=m.fs,tp:=some (f.adv (t.ab (ag t nx)).simple)}:=by unfold Md.inv;rw[htp];rfl
  have a4:m.lvl=Md.lvl {m with fs:=m.fs,tp:=some (f.adv (t.ab (ag t nx)).simple)}:=by unfold Md.lvl;rw[htp];rfl
  have a5:dM m=dM {m with fs:=m.fs,tp:=some (f.adv (t.ab (ag t nx)).simple)}:=by unfold dM;rw[htp]
  have a6:dN m=dN {m with fs:=m.fs,tp:=some (f.adv (t.ab (ag t nx)).simple)}:=by unfold dN;rw[htp]
  rw[a1,a2,a3,a4,a5,a6,Bx (m:={m with fs:=m.fs,tp:=some (f.adv (t.ab (ag t nx)).simple)}) hp];rfl
 ·refine⟨fun h=>?_,fun _ h=>(by injection h),fun g h=>?_,fun h=>?_,fun h=>?_⟩
  ·rw[show m.pl=2 from hp] at h;rcases h with h|h<;>cases h
  ·injection h with h
   rw[←h];have h0:=hi.f f htp;refine⟨HM (Nat.succ_ne_zero _) ?_,D8 h0.2.1,h0.2.2⟩;rw[Ah];rw[e1,show (m.nd b v t.w6).ind=(m.f.ind:Int) from rfl,e2] at po;exact po
  ·rw[show m.pl=2 from hp] at h;cases h
  ·rw[show m.pl=2 from hp] at h;cases h
end
section
variable {m:Md}
def H1(hm:cW j m)(hi:dU m v)(hp:m.pl=2):(m.nd b v t.w6).out M.Z.P m.p e=m.txt M.Z.P b t e:=by
 cases q:m.tp with
 |none=>exact UU hp q
 |some f=>
  apply cw (z8 hm hi q);intro e1 e2 hl;have T:=vP hl rfl e;unfold Md.txt Nd.out;rw[e1] at T ⊢;exact T
def Tq(hb:2≤b∧b≤9)(hj:j≤65)(hm:cW j m)(hv:eP j v)(hi:dU m v)(hk:jX m t)(ht:t∈au)(hp:m.pl=2)(htp:m.tp=none)(hN:eo (t.ab (ag t nx))=true)(hS:bz (t.ab (ag t nx))=false) :
  jS M b j z m v q en t y ⟨3,m.fi,m.mr,(t.ab (ag t nx)).lo' false,[],none⟩ (m.txt M.Z.P b t (t.ab (ag t nx))):=by
 apply dZ (wz hm hj);intro ss is l1 l2 h1 h2 n1 n2;have hmem:=(ve ht hN).1;have T:=H1 (M:=M) (b:=b) (t:=t) hm hi hp (e:=t.ab (ag t nx));have e1:m.p=.root m.mr:=by unfold Md.p;rw[htp]
 apply rT (GI (Bf mL hmem (zS hp ht hk)) ⟨hN,hS⟩ (ue hj hb hm hv (qF ht)) (uj hp hm hi) n1 n2);intro n col ws idn y' f1 Rr b1 b2 po;have EF:flA (fN M.Z.P (m.nd b v t.w6) (yA y en m t.fl) (fun _=>.none) z q ss is l1 l2) (d9 (t.ab (ag t nx)))=t.ev:=ti ht;rw[EF,tH hp h1 h2] at Rr;refine⟨⟨v.T++m.txt M.Z.P b t (t.ab (ag t nx)),n,(m.nd b v t.w6).lnV m.p,col,ws,idn⟩,y',by rw[jD hp];exact f1,?_,rfl,vz hv hj hm.f.ind (by rw[←T];exact Br hm hj hv ht mL hmem) b1 b2 yO,?_⟩
 ·rw[jD hp]
  refine Rr.cast rfl rfl rfl ?_;unfold nQ aW;rw[T,e1];have a1:oI (.root m.mr) (t.ab (ag t nx))=.bool ((t.ab (ag t nx)).lo' false):=by
   cases e:t.ab (ag t nx)<;>rw[e] at hS<;>first|rfl|injection hS
  rw[a1];rfl
 ·rw[e1] at po
  exact⟨fun h=>(by rcases h with h|h<;>cases h),fun h=>(by cases h),fun g h=>(by cases h),fun _=>po,fun h=>by cases h⟩
def GW(h:Ch l f):f.fl=false→flN l=0:=by
 induction h with
 |one=>exact fun _=>rfl
 |@on l f2 f _ h2 _ _ ih=>
  intro hf;have h3:f2.fl=false:=by
   cases q:f2.fl with
   |false=>rfl
   |true=>rw[h2 q] at hf;injection hf
  unfold flN;rw[List.filter_append];rw[show [f2].filter (fun f=>f.fl)=[] from by show (match f2.fl with|true=>_|false=>_)=_;rw[h3];rfl,aX];exact ih h3
def GP:flN (l++[f])=flN l+Bool.rec 0 1 f.fl:=by
 unfold flN;rw[List.filter_append,aB]
 congr 1
 show (match f.fl with|true=>[f]|false=>[]).length=_;cases f.fl<;>rfl
def OF:uG (m.nd b v wd) m.p e e.m=(indN m.p e m.f.ind b:Nat):=by
 unfold uG indN;cases e.gr m.p.flow<;>cases m.p.isRoot<;>cases (m.p.mp&&(!e.m&&!m.p.beh e))<;>rfl
def Ri(h:bz e=true):eo e=true:=by
 cases e<;>first|rfl|injection h
def Dy(hb:2≤b∧b≤9)(hj:j≤65)(hm:cW j m)(hv:eP j v)(hi:dU m v)(hk:jX m t)(ht:t∈au)(hq:∀ mm fl an ho,t.ab (ag t nx)=.st mm fl an ho→nq M (.st mm fl an ho) (.list q))(hp:m.pl=2){e:Ab}(he:t.ab (ag t nx)=e)(hS:bz e=true){fs:List Fm}{lo:Bool}
  (A1:cL 388::fs.map (fun g=>cL g.ps.fn)=dM m++[cL (m.p.fol e.simple)]) (A2:AV.none::fs.map (fun g=>I g.ind)=dN m++[m.p.inV m.f.ind]) (A3:m.lvl=flN fs) (A4:Ch fs (m.gr b e)) (A5:lo=false) :
  jS M b j z m v q en t y ⟨2,m.fi,m.mr,lo,fs,some (m.gr b e)⟩ (m.txt M.Z.P b t e):=by
 apply dZ (wz hm hj);intro ss is l1 l2 h1 h2 n1 n2;have hN:eo (t.ab (ag t nx))=true:=by rw[he];exact Ri hS
 have hmem:=(ve ht hN).1;have hc:=Bf (mL) hmem (zS hp ht hk);have T:=H1 (M:=M) (b:=b) (t:=t) hm hi hp (e:=e);have L:=Br (P:=M.Z.P) (b:=b) hm hj hv ht (mL (m:=m)) hmem;have EF:flA (fN M.Z.P (m.nd b v t.w6) (yA y en m t.fl) (fun _=>.none) z q ss is l1 l2) (d9 (t.ab (ag t nx)))=t.ev:=ti ht;rw[he] at hc L EF;cases e with
 |st mm fl an ho=>
  apply rT (Oq hc (ue hj hb hm hv (qF ht)) (uj hp hm hi) n1 n2 (hq _ _ _ _ he));intro n col ws idn y' f1 Rr b1 b2 po;rw[EF,tH hp h1 h2] at Rr;apply ej (yV);intro g1 g2 g3 g4;refine⟨⟨v.T++m.txt M.Z.P b t (.st mm fl an ho),n,(m.nd b v t.w6).lnV m.p,col,ws,idn⟩,y',by rw[jD hp];exact f1,?_,rfl,vz hv hj hm.f.ind (by rw[←T];exact L) b1 b2 yO,?_⟩
  ·rw[jD hp]
   refine Rr.cast rfl rfl rfl ?_;unfold nS aW;rw[T,h1,h2,show (m.nd b v t.w6).ind=(m.f.ind:Int) from rfl,show (m.nd b v t.w6).lv=jQ m from rfl,OF,Av,←A1,←A2,A3];have a1:tB (Ab.m (.st mm fl an ho)) (Ab.gr (.st mm fl an ho) m.p.flow)=Md.sta ⟨2,m.fi,m.mr,lo,fs,some (m.gr b (.st mm fl an ho))⟩:=by
    rw[jD rfl];show _=(m.gr b (.st mm fl an ho)).ps.fn;rw[F7 g3,g1,g2,UX]
   have a2:I (indN m.p (.st mm fl an ho) m.f.ind b:Nat)=Md.inv ⟨2,m.fi,m.mr,lo,fs,some (m.gr b (.st mm fl an ho))⟩:=by
    show _=I (m.gr b (.st mm fl an ho)).ind;rw[g4]
   have a3:(Bool.rec 0 ((flN fs:Int)+1) (Ab.gr (.st mm fl an ho) m.p.flow):Int)=((Md.lvl ⟨2,m.fi,m.mr,lo,fs,some (m.gr b (.st mm fl an ho))⟩ : Nat):Int):=by
    show _=((Bool.rec 0 (flN fs+1) (m.gr b (.st mm fl an ho)).fl:Nat):Int);rw[g1];cases Ab.gr (.st mm fl an ho) m.p.flow<;>rfl
   rw[a1,a2,a3];rfl
  ·refine⟨fun h=>(by rcases h with h|h<;>cases h),fun _ h=>(by injection h),fun g h=>?_,fun h=>(by cases h),fun h=>by cases h⟩
   injection h with h;subst h;refine⟨?_,A4,A5⟩;unfold mj;rw[g1,g3,F7 g3,g1,g2];cases r:Ab.gr (.st mm fl an ho) m.p.flow with
   |true=>
    rw[r] at po;exact Ha (by cases mm<;>rfl) po
   |false=>
    rw[r] at po;have po:=po;show fY idn ws col ((m.gr b (.st mm fl an ho)).ind)=(m.gr b (.st mm fl an ho)).ah;have bl:=(zp hb hm.f rfl).bl (by rw[g1,r]);unfold uv at po;cases bh:m.p.beh (.st mm fl an ho) with
    |false=>
     rw[bh] at po;rw[Dh (.inl po),bl];unfold Md.gr lH;rw[r,bh];cases m.p.isRoot with
     |true=>rfl
     |false=>cases (m.p.mp&&!Ab.m (.st mm fl an ho))<;>rfl
    |true=>
     rw[bh] at po;rw[g4];unfold indN Md.gr lH;rw[r,bh];cases rt:m.p.isRoot with
     |true=>
      rw[rt] at po;apply cw po;intro p1 p2 p3;rw[p1,p2,p3];rfl
     |false=>
      rw[rt] at po;apply cw po;intro p1 p2 p3;have p3:=p3;rw[p1,p2,p3];have s:(m.p.mp&&(!Ab.m (.st mm fl an ho)&&!true))=false:=by rw[Bool.not_true,Xw,Xw]
      rw[s];show fY true false ((m.f.ind)+1) ((m.f.ind+b:Nat))=eF (b+-1);unfold fY brk;rw[WG (Int.not_lt.mpr (bw (W1 (Nat.le_of_succ_le hb.1) _)):¬ (((m.f.ind+b:Nat):Int)<(m.f.ind:Int)+1)),WG (fun e=>WV (Xl hb.1 _) (Int.ofNat.inj e):¬ ((m.f.ind)+1=((m.f.ind+b:Nat):Int)))];show eF (((m.f.ind+b:Nat))-((m.f.ind)+1))=_;rw[show ((m.f.ind+b:Nat))-((m.f.ind)+1)=(b:Int)+-1 by lia]
 |_=>injection hS
end
def O3(ht:t∈au)(h:t.ab ho=.en mm):t.k=Bool.rec 7 9 mm:=by
 have g:(au.all fun t=>tf.all fun ho=>match t.ab ho with|.en mm=>t.k.beq (Bool.rec 7 9 mm)|_=>true)=true:=by kernel_rfl
 have g:=aV (aV g t ht) ho (fZ ho);rw[h] at g;exact aJ g
def VH{f:Fm}(h:fh f.ps mm=true)(g:f.fl=false→f.bg=0→mm≠f.m):uH f.ps (.en mm)=true∧(f.fl=false→f.bg≠0∧f.ps=Bool.rec (.bq true) (.bm 1) f.m):=by
 unfold Fm.ps at *
 cases q:f.fl with
 |true=>rw[q] at h;cases r:f.m<;>rw[r] at h<;>exact⟨h,fun h=>by injection h⟩
 |false=>
  rw[q] at h;have g:=g q;cases r:f.m with
  |false=>
   rw[r] at h;cases k:Nat.beq f.bg 0 with
   |true=>
    have h:=h;exact absurd (by rw[r];clear g h;cases mm<;>first|rfl|injection h) (g (aJ k))
   |false=>exact⟨h,fun _=>⟨W6 k,rfl⟩⟩
  |true=>
   rw[r] at h;have h:=aw h;cases k:Nat.beq f.bg 0 with
   |true=>exact absurd (by rw[r];exact h.1) (g (aJ k))
   |false=>
    have s1:f.s=1:=by
     have h2:=h.2;unfold Fm.s at h2 ⊢;rw[k] at h2 ⊢;cases d:Nat.beq (f.bg % 2) 0 with
     |true=>rfl
     |false=>rw[d] at h2;cases e:f.pr<;>rw[e] at h2<;>injection h2
    refine⟨?_,fun _=>⟨W6 k,?_⟩⟩
    ·rw[h.1,s1];rfl
    ·rw[s1]
def TL:(dA.all fun p=>tf.all fun mm=>fh p mm ||(!uH p (.en mm)&&!(match p with|.bq b=>!b&&!mm|.bm 0=>mm|_=>false)))=true:=by kernel_rfl
def LQ(ht:t∈au)(hp:p∈dA)(h:eo (t.ab ho)=false)(g:∀ mm,t.ab ho=.en mm→fh p mm=false):Xj.chk p (t.ab ho)=true:=by
 refine aV tX (p,t.ab ho) (X4 ⟨p,hp,WY.mpr ⟨_,?_,rfl⟩⟩);cases e:t.ab ho with
 |en mm=>
  refine bF _ (List.mem_filter.mpr ⟨by clear e;cases mm<;>simp,?_⟩);have c:=aV (aV TL p hp) mm (fZ mm);rw[g mm e] at c;exact c
 |no k=>
  refine aK _ (Ws ?_);have c:(au.all fun t=>tf.all fun ho=>match t.ab ho with|.no k=>dB k [0,1,2,3,4]|_=>true)=true:=by kernel_rfl
  have c:=aV (aV c t ht) ho (fZ ho);rw[e] at c;exact mt.mp c
 |_=>rw[e] at h;injection h
section
variable {t:Tk}
def Wb(hb:2≤b∧b≤9)(hj:j≤65)(hm:cW j m)(hv:eP j v)(hi:dU m v)(hk:jX m t)(ht:t∈au)(hq:∀ mm fl an ho,t.ab (ag t nx)=.st mm fl an ho→nq M (.st mm fl an ho) (.list q))(hp:m.pl=2)(he:t.ab (ag t nx)=e)(hS:bz e=true)(htp:m.tp=some f) :
  jS M b j z m v q en t y ⟨2,m.fi,m.mr,m.lo,m.fs++[f.adv e.simple],some (m.gr b e)⟩ (m.txt M.Z.P b t e):=by
 have h0:=hi.f f htp;have e1:m.p=f.ps:=by unfold Md.p;rw[htp]
 have e2:m.f=f:=by unfold Md.f;rw[htp]
 apply ej (yV);intro g1 g2 g3 g4;refine Dy hb hj hm hv hi hk ht hq hp he hS ?_ ?_ ?_ (.on (D8 h0.2.1) (fun hf=>?_) (fun hf=>?_) (Nat.succ_ne_zero _)) h0.2.2
 ·unfold dM
  rw[htp,e1,Wl];show cL 388::(_++[cL (f.adv e.simple).ps.fn])=cL 388::(_++[cL (Bool.rec (f.ps.nx e.simple).fn 388 f.ps.isRoot)]);rw[Ah,hM]
 ·unfold dN
  rw[htp,e1,e2,Wl];show AV.none::(_++[I f.ind])=.none::(_++[f.ps.inV f.ind]);unfold Ps.inV;rw[hM]
 ·rw[GP]
  unfold Md.lvl;rw[htp];show (Bool.rec 0 (flN m.fs+1) f.fl)=flN m.fs+Bool.rec 0 1 f.fl;cases r:f.fl with
  |true=>rfl
  |false=>rw[GW h0.2.1 r];rfl
 ·rw[g1,e1]
  cases r:e.gr f.ps.flow with
  |true=>rfl
  |false=>have:=Iw hS r;rw[sf] at this;rw[show f.fl=true from hf] at this;injection this
 ·have hg:e.gr m.p.flow=false:=by rw[←g1];exact hf
  refine⟨?_,fun ⟨_,s2⟩=>?_⟩
  ·rw[g4,e2]
   unfold indN;rw[hg,e1,hM];cases (f.ps.mp&&(!e.m&&!f.ps.beh e)) with
   |true=>exact Wm _
   |false=>exact W0 ..
  ·have sm:e.simple=false:=by
    cases e with
    |st mm fl an ho=>
     have hg:(fl ||(ho ||m.p.flow))=false:=hg;cases ho with
     |false=>rfl
     |true=>rw[Bool.true_or,X2] at hg;injection hg
    |_=>injection hS
   rw[sm] at s2;have s2:=s2;have s2:(Bool.rec 3 1 (Nat.beq ((f.bg+1) % 2) 0):Nat)=2:=s2;cases r:Nat.beq ((f.bg+1) % 2) 0<;>rw[r] at s2<;>cases s2
def Jg(h:bz e=true):e.lo' false=false:=by
 cases e<;>first|rfl|injection h
def MT(hb:2≤b∧b≤9)(hj:j≤65)(hm:cW j m)(hv:eP j v)(hi:dU m v)(hk:jX m t)(ht:t∈au)(hq:∀ mm fl an ho,t.ab (ag t nx)=.st mm fl an ho→nq M (.st mm fl an ho) (.list q))(hp:m.pl=2)(he:t.ab (ag t nx)=e)(hS:bz e=true)(htp:m.tp=none) :
  jS M b j z m v q en t y ⟨2,m.fi,m.mr,e.lo' false,[],some (m.gr b e)⟩ (m.txt M.Z.P b t e):=by
 have e1:m.p=.root m.mr:=by unfold Md.p;rw[htp]
 refine Dy hb hj hm hv hi hk ht hq hp he hS ?_ ?_ ?_ .one ?_
 ·unfold dM;rw[htp,e1];rfl
 ·unfold dN;rw[htp,e1];rfl
 ·unfold Md.lvl;rw[htp];rfl
 ·exact Jg hS
def H9(hb:2≤b∧b≤9)(hj:j≤65)(hm:cW j m)(hv:eP j v)(hi:dU m v)(hk:jX m t)(ht:t∈au)(hp:m.pl=2)(htp:m.tp=some f)(he:t.ab (ag t nx)=.en mm)(hE:fh f.ps mm=true)
  (A0:m'.oe=ff) (A1:dM m=dM m'++[cL m'.sta]) (A2:dN m=dN m'++[m'.inv]) (A3:(Bool.rec 0 (jQ m-1) f.fl:Int)=(m'.lvl:Nat)) (A4:∀ v',(Bool.rec (v'.ws=v.ws∧v'.idn=v.idn∧v'.col=v.col) (v'.ws=false∧v'.idn=false) f.fl:Prop)→(f.fl=false→f.ps=Bool.rec (.bq true) (.bm 1) f.m∧f.ps.post f.ind v.col v.ws v.idn)→dU m' v') :
  jS M b j z m v q en t y m' (ez f.ps):=by
 have e1:m.p=f.ps:=by unfold Md.p;rw[htp]
 have e2:m.f=f:=by unfold Md.f;rw[htp]
 have hS:bz (t.ab (ag t nx))=false:=by rw[he];rfl
 apply ay (VH hE fun a c=>fun e=>hk.f f htp a c (by rw[O3 ht he,e]));intro i1 i2;have n:=hm.n;have s1:(dM m').length≤40000:=by
  have:=congrArg List.length A1;unfold dM at this;rw[htp] at this;rw[aB,dH,Wr] at this;have h:∀ a b:Nat,m.fs.length+1=a+b→a≤40000:=fun a b h=>WZ (WZ (W0 a b) (W7 h.symm)) (WZ (W9 (WZ n hj)) (nleT rfl));exact h _ _ this
 have s2:(dN m').length≤40000:=by
  have:=congrArg List.length A2;unfold dN at this;rw[htp] at this;rw[aB,dH,Wr] at this;have h:∀ a b:Nat,m.fs.length+1=a+b→a≤40000:=fun a b h=>WZ (WZ (W0 a b) (W7 h.symm)) (WZ (W9 (WZ n hj)) (nleT rfl));exact h _ _ this
 have hr:m.p.isRoot=false:=by rw[e1];exact hM
 have h1:i9 m.p.isRoot (dM m'++[cL m'.sta])=dM m:=by rw[hr,A1];rfl
 have h2:i9 m.p.isRoot (dN m'++[m'.inv])=dN m:=by rw[hr,A2];rfl
 apply rT (Tg (Lk mL (by rw[e1];exact i1)) hr (ue hj hb hm hv (qF ht)) (uj hp hm hi) s1 s2);intro n col ws idn y' f1 Rr b1 b2 po;have EF:flA (fN M.Z.P (m.nd b v t.w6) (yA y en m t.fl) (fun _=>.none) z q (dM m') (dN m') (cL m'.sta) m'.inv) (d9 (t.ab (ag t nx)))=t.ev:=ti ht;rw[he] at EF;rw[EF,tH hp h1 h2] at Rr;refine⟨⟨v.T++ez f.ps,n,v.line,col,ws,idn⟩,y',by rw[jD hp];exact f1,?_,rfl,vz (wi:=false) hv hj hm.f.ind ?_ b1 b2 ⟨bO _,by lia⟩,A4 _ ?_ fun hf=>⟨(i2 hf).2,?_⟩⟩
 ·rw[jD hp]
  refine Rr.cast rfl rfl rfl ?_;unfold nE aW;rw[A0,←A3,e1,sf];rfl
 ·unfold ez
  cases f.ps.flow with
  |true=>show 1≤600;decide
  |false=>exact WK _
 ·rw[e1,sf] at po;exact po
 ·have:=(hi.f f htp).1
  unfold mj at this;rw[hf] at this;cases k:Nat.beq f.bg 0 with
  |true=>exact absurd (aJ k) ((i2 hf).1)
  |false=>rw[k] at this;exact this
def Jv(hb:2≤b∧b≤9)(hj:j≤65)(hm:cW j m)(hv:eP j v)(hi:dU m v)(ht:t∈au)(hp:m.pl=2)(hN:eo (t.ab (ag t nx))=false)(hg:∀ mm,t.ab (ag t nx)=.en mm→fh m.p mm=false) :
  zD M b z m v q en t y (m.ld M.Z.P b t (t.ab (ag t nx))):=by
 apply dZ (wz hm hj);intro ss is l1 l2 h1 h2 n1 n2;have hS:bz (t.ab (ag t nx))=false:=by cases e:t.ab (ag t nx)<;>rw[e] at hN<;>first|rfl|injection hN
 apply jo (U0 (LQ ht mL hN hg) hS (ue hj hb hm hv (qF ht)) (uj hp hm hi) n1 n2);intro n c xx f1 Rr;have EF:flA (fN M.Z.P (m.nd b v t.w6) (yA y en m t.fl) (fun _=>.none) z q ss is l1 l2) (d9 (t.ab (ag t nx)))=t.ev:=ti ht;have L:SS.val ((m.nd b v t.w6).Z M.Z.P) (m.p.lead ei (t.ab (ag t nx)).simple).t=m.ld M.Z.P b t (t.ab (ag t nx)):=by
  refine(II ?_ _).1;cases q:m.tp with
  |none=>unfold Md.p;rw[q];exact fun h=>by injection h
  |some f=>
   apply cw (z8 hm hi q);intro e1 e2 hl;exact fun h=>hl (by rw[←e1];exact h)
 rw[EF,tH hp h1 h2,L] at Rr;exact⟨n,c,xx,by rw[jD hp];exact f1,by rw[jD hp];exact Rr⟩
end
def My(h:Ch (l++[f2]) f):Ch l f2∧(f2.fl=true→f.fl=true)∧(f.fl=false→f2.ind≤f.ind∧¬(f2.m=true∧f2.s=2))∧f2.bg≠0:=by
 generalize e:l++[f2]=k at h;cases h with
 |one=>cases l<;>cases e
 |on a b c d=>
  apply ay (List.append_inj' e rfl);intro e1 e2;injection e2 with e2;subst e1 e2;exact⟨a,b,c,d⟩
section
def Mu(hb:2≤b∧b≤9)(hj:j≤65)(hm:cW j m)(hv:eP j v)(hi:dU m v)(hk:jX m t)(ht:t∈au)(hp:m.pl=2)(htp:m.tp=some f)(he:t.ab (ag t nx)=.en mm)(hE:fh f.ps mm=true)(hf:m.fs=[]) :
  jS M b j z m v q en t y ⟨3,m.fi,m.mr,m.lo,[],none⟩ (ez f.ps):=by
 refine H9 hb hj hm hv hi hk ht hp htp he hE ?_ ?_ ?_ ?_ fun v' h1 h2=>⟨fun h=>(by rcases h with h|h<;>cases h),fun h=>(by cases h),fun g h=>(by cases h),fun _=>?_,fun h=>by cases h⟩
 ·rw[(hi.f f htp).2.2];rfl
 ·unfold dM;rw[htp,hf];rfl
 ·unfold dN;rw[htp,hf];rfl
 ·unfold jQ;rw[hf,show m.f=f from by unfold Md.f;rw[htp]];cases f.fl<;>rfl
 ·cases q:f.fl with
  |true=>rw[q] at h1;exact .inl h1.2
  |false=>
   rw[q] at h1;apply ay (h2 q);intro g1 g2;rw[h1.2.1,h1.2.2];rw[g1] at g2;have g3:=by
    cases r:f.m<;>rw[r] at g2<;>exact g2
   rcases g3 with g3|g3
   ·exact .inl g3
   ·exact .inr (W3 (bw (W9 (WK f.ind))) g3)
def Ji{f:Fm}(hb:f.bg≠0)(h1:ws=false)(h2:idn=false):f.ps.post base col ws idn:=by
 subst h1 h2;have k:Nat.beq f.bg 0=false:=by
  cases q:Nat.beq f.bg 0 with
  |false=>rfl
  |true=>exact absurd (aJ q) hb
 have s0:Nat.beq f.s 0=false:=by
  unfold Fm.s;rw[k];cases Nat.beq (f.bg % 2) 0 with
  |true=>rfl
  |false=>cases f.pr<;>rfl
 unfold Fm.ps;cases f.fl<;>cases f.m
 ·exact .inl rfl
 ·show (Bool.rec (false=false∨_) (false=false∧false=false) (f.s.beq 2))
  cases f.s.beq 2
  ·exact .inl rfl
  ·exact⟨rfl,rfl⟩
 ·rw[k];exact⟨rfl,rfl⟩
 ·show false=f.s.beq 0∧_
  rw[s0];exact⟨rfl,rfl⟩
def Oc(hb:2≤b∧b≤9)(hj:j≤65)(hm:cW j m)(hv:eP j v)(hi:dU m v)(hk:jX m t)(ht:t∈au)(hp:m.pl=2)(htp:m.tp=some f)(he:t.ab (ag t nx)=.en mm)(hE:fh f.ps mm=true)(hf:m.fs=l++[f2]) :
  jS M b j z m v q en t y {m with fs:=l,tp:=some f2} (ez f.ps):=by
 apply cw (hi.f f htp);intro h0 hc hlo;rw[hf] at hc;apply ej (My hc);intro c1 c2 c3 c4;refine H9 hb hj hm hv hi hk ht hp htp he hE (Bx hp) ?_ ?_ ?_ fun v' h1 h2=>⟨fun h=>?_,fun _ h=>(by cases h),fun g h=>?_,fun h=>?_,fun h=>?_⟩
 ·unfold dM
  rw[htp,hf,jD (m:={m with fs:=l,tp:=some f2}) hp];rw[Wl];rfl
 ·unfold dN
  rw[htp,hf];rw[Wl];rfl
 ·unfold jQ
  rw[hf,GP,show m.f=f from by unfold Md.f;rw[htp]];show _=((Bool.rec 0 (flN l+1) f2.fl:Nat):Int);cases q:f2.fl with
  |true=>rw[c2 q];exact sS _
  |false=>
   rw[GW c1 q];cases f.fl<;>rfl
 ·rw[show m.pl=2 from hp] at h;rcases h with h|h<;>cases h
 ·injection h with h
  subst h;refine⟨HM c4 ?_,c1,hlo⟩;cases q:f.fl with
  |true=>rw[q] at h1;exact Ji c4 h1.1 h1.2
  |false=>
   rw[q] at h1;apply ay (c3 q);intro i1 i2;have f2l:f2.fl=false:=by
    cases r:f2.fl with
    |false=>rfl
    |true=>rw[c2 r] at q;injection q
   apply ay (h2 q);intro g1 g2;rw[g1] at g2;have g3:=by
    cases r:f.m<;>rw[r] at g2<;>exact g2
   have g4:v'.idn=false∨(f2.ind:Int)+1≤v'.col:=by
    rw[h1.2.1,h1.2.2];rcases g3 with g3|g3
    ·exact .inl g3
    ·exact .inr (W3 (Int.add_le_add_right (bw (c3 q).1) 1) g3)
   unfold Fm.ps;rw[f2l];cases r:f2.m with
   |false=>exact g4
   |true=>
    show (Bool.rec (v'.idn=false∨(f2.ind)+1≤v'.col) (v'.ws=false∧v'.idn=false) (f2.s.beq 2));cases s:Nat.beq f2.s 2 with
    |true=>exact absurd ⟨r,aJ s⟩ i2
    |false=>exact g4
 ·rw[show m.pl=2 from hp] at h;cases h
 ·rw[show m.pl=2 from hp] at h;cases h
def JZ(s:eV P b t nx m o x)(ht:t∈au)(h1:∀ f∈m.fs,f.bg≠0):wn (fun m'=>jX m' nx) o:=by
 have grT:∀ {e:Ab},t.ab (ag t nx)=e→bz e=true→∀ f,some (m.gr b e)=some f→f.fl=false→f.bg=0→nx.k≠Bool.rec 7 9 f.m:=fun {e} he hS f hf hfl _ hn=>by
  injection hf with hf;subst hf;apply ej (yV);intro g1 g2 _ _;rw[g1] at hfl;rw[g2] at hn;have k9:=(cY ht).1;have ks:=u4 ht (ag t nx);rw[he,hS] at ks;have kk:t.k=6∨t.k=8:=by
   rcases X6 ks.symm with h|h
   ·exact .inl (aJ h)
   ·exact .inr (aJ h)
  have ho:ag t nx=true:=by
   rcases kk with k|k
   ·have em:e.m=false:=by rw[←he];unfold Tk.ab;rw[k];rfl
    rw[em] at hn;unfold ag;rw[k,hn];rfl
   ·have em:e.m=true:=by rw[←he];unfold Tk.ab;rw[k];rfl
    rw[em] at hn;unfold ag;rw[k,hn];rfl
  rw[ho] at he;have:e.gr m.p.flow=true:=by
   rcases kk with k|k
   ·rw[←he];unfold Tk.ab;rw[k];show (t.fl ||(true ||_))=true;rw[Bool.true_or,X2]
   ·rw[←he];unfold Tk.ab;rw[k];show (t.fl ||(true ||_))=true;rw[Bool.true_or,X2]
  rw[this] at hfl;injection hfl
 induction s with
 |@doc m a c=>
  refine⟨fun hp _ hmr hn=>?_,fun f hf=>by cases hf⟩;have hp:py (t.ad m.fi nx 0)=2:=hp;have hmr:(Bool.rec m.mr (dO (m.pd true) (t.ad m.fi nx 0)) (t.k.beq 2):Bool)=false:=hmr;have k9:=(cY ht).1;have k2:t.k=2:=by
   unfold Tk.ad at hp;revert hp;generalize t.k=k at k9 ⊢;apply kP k9<;>intro hp<;>first|rfl|cases hp
  have p1:m.pl=1:=by
   clear hp hmr;generalize m.pl=p at c ⊢;generalize t.k=k at c k2;induction p,k,c using rD<;>first|rfl|cases k2
  have e1:m.pd true=.d1 m.fi m.lo:=by unfold Md.pd;rw[p1];rfl
  have e2:t.ad m.fi nx 0=.ds t.fl (Bool.rec 0 (Bool.rec 1 (2+(Bool.rec 0 6 (bD nx.w)+(Bool.rec 0 3 (nx.an.beq 0)+0))) (nx.k.beq 4)) (m.fi&&!t.fl)):=by unfold Tk.ad;rw[k2];rfl
  rw[k2,e1,e2,hn.1,hn.2.1,hn.2.2] at hmr;revert hmr;cases t.fl<;>cases m.fi<;>(intro h;injection h)
 |root=>
  refine⟨fun hp h=>?_,fun f hf=>?_⟩
  ·cases q:bz _ with
   |true=>rw[q] at h;cases h
   |false=>rw[q] at hp;cases hp
  ·cases q:bz _ with
   |true=>rw[q] at hf;exact grT rfl q f hf
   |false=>rw[q] at hf;cases hf
 |node=>
  refine⟨fun _ h=>(by cases h),fun f hf=>?_⟩;cases q:bz _ with
  |true=>rw[q] at hf;exact grT rfl q f hf
  |false=>rw[q] at hf;injection hf with hf;rw[←hf];exact fun _ h=>absurd h (Nat.succ_ne_zero _)
 |end1=>exact⟨fun h=>(by cases h),fun f hf=>by cases hf⟩
 |end2=>exact⟨fun _ h=>(by cases h),fun f hf=>(by injection hf with hf;rw[←hf];exact fun _ h=>absurd h (h1 _ (bF _ (.head _))))⟩
 |_=>trivial
end
def yD(y:Nat→AV)(en:AV)(m:Md)(v:Es)(t nx:Tk)(r:List AV):Nat→AV:=tO (tO (tO (tO y 1 [some en,none,some (cL m.sta)]) 15 [some (.bool v.ws),some (.bool v.idn)]) 40 (t.fs.map fun q=>some q.2)) 50 (some (fw nx.st)::r.map some)
def kD(b:Nat)(m:Md)(v:Es)(nx:Tk):Nd:=⟨v.T,v.n,v.line,v.col-Bool.rec 0 1 (m.pl.beq 3&&v.idn),0,b,1,v.ws,v.idn,nx.w6⟩
abbrev fD (P:Params) (b:Nat) (m:Md) (v:Es) (t nx:Tk) (z:Nat→ak) (q r:List AV) (en:AV) (y:Nat→AV):cP:=am ((kD b m v nx).Z P) (vW (yD y en m v t nx r) fun _=>.none) (tO z 7 [some (.list q)])
section
def CO(hb:2≤b∧b≤9)(hj:j≤65)(hv:eP j v)(hi:dU m v)(hn:nx∈au):kF (kD b m v nx):=by
 have n':=hv.n;have l:=hv.line;have c:=hv.col;refine⟨WZ (mB hj hv.T) (nleT rfl),⟨n'.1,W3 (ol hj n'.2) (by decide)⟩,⟨l.1,W3 (ol hj l.2) (by decide)⟩,?_,⟨bO 0,by show (0)≤900;decide⟩,⟨bw hb.1,bw hb.2⟩,⟨bO 1,by show (1)≤900;decide⟩,qF hn⟩;show 0≤v.col-Bool.rec 0 1 (m.pl.beq 3&&v.idn)∧v.col-Bool.rec 0 1 (m.pl.beq 3&&v.idn)≤900;cases k:(m.pl.beq 3&&v.idn) with
 |false=>exact⟨XB c.1,W3 (XI _ (by decide)) (W3 (ol hj c.2) (by decide))⟩
 |true=>
  have k:=aw k;have:=hi.e (aJ k.1);rw[k.2] at this;rcases this with h|h
  ·injection h
  ·exact⟨XB h,W3 (XI _ (by decide)) (W3 (ol hj c.2) (by decide))⟩
def Ci(hp:m.pl=0∨m.pl=1∨m.pl=3∨m.pl=4)(ht:m.tp=none)(hi:dU m v):dP (kD b m v nx) (tO z 7 [some (.list q)]) (yD y en m v t nx r) (.list q) ev (flA (fD P b m v t nx z q r en y) (m.pd (!v.idn)).col) (flA (fD P b m v t nx z q r en y) (m.pd (!v.idn)).ws) (flA (fD P b m v t nx z q r en y) (m.pd (!v.idn)).ind) (m.pd (!v.idn)).oe=aW b z m v q en ev y:=by
 have s1:dM m=[]:=by unfold dM;rw[ht]
 have s2:dN m=[]:=by unfold dN;rw[ht]
 have s3:m.inv=.none:=by unfold Md.inv;rw[ht]
 have s4:m.lvl=0:=by unfold Md.lvl;rw[ht]
 have key:∀ {c a i o:AV},c=I v.col→a=.bool v.ws→i=.bool v.idn→o=m.oe→dP (kD b m v nx) (tO z 7 [some (.list q)]) (yD y en m v t nx r) (.list q) ev c a i o=aW b z m v q en ev y:=fun {c a i o} e1 e2 e3 e4=>by
  unfold dP aW;rw[e1,e2,e3,e4,s1,s2,s3,s4];kernel_rfl
 have d0:=hi.d;rcases hp with h|h|h|h
 ·apply cw (d0 (.inl h));intro c1 c2 c3
  refine key ?_ ?_ ?_ ?_
  ·unfold Md.pd;rw[h,c1];rfl
  ·unfold Md.pd;rw[h,c2];rfl
  ·unfold Md.pd;rw[h,c3];rfl
  ·unfold Md.pd Md.oe;rw[h];rfl
 ·apply cw (d0 (.inr h));intro c1 c2 c3
  refine key ?_ ?_ ?_ ?_
  ·unfold Md.pd;rw[h,c1];rfl
  ·unfold Md.pd;rw[h,c2];rfl
  ·unfold Md.pd;rw[h,c3];rfl
  ·unfold Md.pd Md.oe;rw[h];rfl
 ·have cl:(kD b m v nx).col=v.col-Bool.rec 0 1 v.idn:=by show v.col-Bool.rec 0 1 (m.pl.beq 3&&v.idn)=_;rw[h];rfl
  refine key ?_ ?_ ?_ ?_
  ·unfold Md.pd
   rw[h];have e4:(V 4).val ((kD b m v nx).Z P)=v.col-Bool.rec 0 1 v.idn:=by rw[sH,cl]
   cases k:v.idn with
   |true=>
    rw[k] at e4;show AV.int (.k (((V 4).add (.k 1)).val ((kD b m v nx).Z P)))=_;rw[du,bH,e4];rw[Int.sub_add_cancel];rfl
   |false=>
    rw[k] at e4;show AV.int (.k ((V 4).val ((kD b m v nx).Z P)))=_;rw[e4];rw[Int.sub_zero];rfl
  ·unfold Md.pd;rw[h];kernel_rfl
  ·unfold Md.pd;rw[h]
   cases v.idn<;>rfl
  ·unfold Md.pd Md.oe;rw[h];rfl
 ·refine key ?_ ?_ ?_ ?_
  ·unfold Md.pd
   rw[h];show AV.int (.k ((V 4).val ((kD b m v nx).Z P)))=_;rw[sH];show AV.int (.k (v.col-Bool.rec 0 1 (m.pl.beq 3&&v.idn)))=_;rw[h];show AV.int (.k (v.col-0))=I v.col;rw[Int.sub_zero];rfl
  ·unfold Md.pd;rw[h];kernel_rfl
  ·unfold Md.pd;rw[h];kernel_rfl
  ·unfold Md.pd Md.oe;rw[h];rfl
def SW(hb:2≤b∧b≤9)(hj:j≤65)(hm:cW j m)(hv:eP j v)(hi:dU m v)(ht:t∈au)(hp:Nat.beq m.pl 2=false)(hd:iR m.pl t.k=false):zD M b z m v q en t y []:=by
 have p2:=W6 hp;have p4:=hm.pl;have hp:m.pl=0∨m.pl=1∨m.pl=3∨m.pl=4:=Cf p4 p2;have htp:m.tp=none:=by
  cases k:m.tp with
  |none=>rfl
  |some f=>exact absurd (hm.p2 (by rw[k];simp)) p2
 have k9:=(cY ht).1;have c:=aV Mj (m.pd (!v.idn),tn 0 eQ t.k) (DT hp hm.lo _ k9 hd);apply jo (Jy (M:=M) (E:=kD b m v t) (y:=yD y en m v t t []) (h:=fun _=>.none) (z:=tO z 7 [some (.list q)]) (p:=m.pd (!v.idn)) (C:=tn 0 eQ t.k) c (CO hb hj hv hi ht));intro n cc xx f1 Rr;have EV:flA (fD M.Z.P b m v t t z q [] en y) (js (.ot (tn 0 eQ t.k)))=t.ev:=by
  clear ht hd c Rr;obtain⟨k,fl,an,wd,st⟩:=t;have k9:k<10:=k9;apply kP k9<;>kernel_rfl
 have sta:m.sta=(m.pd (!v.idn)).fn:=by
  unfold Md.sta;unfold Md.pd;rcases hp with h|h|h|h<;>rw[h]<;>rfl
 have Rr:fg false M 300 (dP (kD b m v t) (tO z 7 [some (.list q)]) (yD y en m v t t []) (.list q) (flA (fD M.Z.P b m v t t z q [] en y) (js (.ot (tn 0 eQ t.k)))) (flA (fD M.Z.P b m v t t z q [] en y) (m.pd (!v.idn)).col) (flA (fD M.Z.P b m v t t z q [] en y) (m.pd (!v.idn)).ws) (flA (fD M.Z.P b m v t t z q [] en y) (m.pd (!v.idn)).ind) (m.pd (!v.idn)).oe) (m.pd (!v.idn)).fn [.cell 5] [] (xV cc xx v.T n):=Rr;rw[EV,Ci hp htp hi] at Rr;exact⟨n,cc,xx,by rw[sta];exact f1,by rw[sta,aX];exact Rr⟩
end
def NX:(SS.val Z (eI p e)).length≤600:=by
 cases e with
 |ss=>exact WK _
 |se=>show (SS.val Z (Bool.rec [] [.lit [46,46,46,10]] p.oe?)).length≤_;cases p.oe?<;>(show _≤600;exact Xc rfl)
 |ds f k=>show (SS.val Z (Bool.rec [] [.lit [45,45,45]] (dO p (.ds f k)))).length≤_;cases dO p (.ds f k)<;>exact Xc rfl
 |de f=>cases f<;>exact Xc rfl
 |ot C=>exact WK _
section
def xJ(hb:2≤b∧b≤9)(hj:j≤65)(hv:eP j v)(hi:dU m v)(hn:nx∈au)(hp:m.pl=0∨m.pl=1∨m.pl=3∨m.pl=4)(htp:m.tp=none){p:Pd}{e:Ad}(hpd:m.pd (!v.idn)=p)(hmem:(p,e)∈sz)(ho:BC e=false)
  (hq1:fC (fD M.Z.P b m v t nx z q r en y) e.q=.list q) (hq2:oW M (fD M.Z.P b m v t nx z q r en y) e.q) (hev:flA (fD M.Z.P b m v t nx z q r en y) (js e)=t.ev) {mk:Bool} (A1:AA e=m'.sta) (A2:uP p e=m'.oe) (A3:m'.tp=none) (A4:mG p e=.root mk)
  (A6:∀ v',v'.col=Bool.rec 0 3 mk∧v'.ws=Bool.rec true false mk∧v'.idn=Bool.rec true false mk→dU m' v'):jS M b j z m v q en t y m' (SS.val (m.Z M.Z.P b t) (eI p e)):=by
 apply cj (UA (aV tD (p,e) hmem) ho (CO hb hj hv hi hn) hq2);intro n line y' f1 Rr b1 b2;have sta:m.sta=p.fn:=by
  rw[←hpd];unfold Md.sta;unfold Md.pd;rcases hp with h|h|h|h<;>rw[h]<;>rfl
 have D:=Ci (P:=M.Z.P) (b:=b) (nx:=nx) (z:=z) (y:=y) (q:=q) (r:=r) (en:=en) (t:=t) hp htp hi (ev:=t.ev);rw[hpd] at D;have Rr:=Rr;rw[hq1,hev,D] at Rr;refine⟨⟨v.T++SS.val (m.Z M.Z.P b t) (eI p e),n,line,Bool.rec 0 3 mk,Bool.rec true false mk,Bool.rec true false mk⟩,y',by rw[sta];exact f1,?_,rfl,⟨?_,?_,?_,?_⟩,A6 _ ⟨rfl,rfl,rfl⟩⟩
 ·rw[sta]
  refine Rr.cast rfl rfl rfl ?_;unfold dQ aW;have s1:dM m'=[]:=by unfold dM;rw[A3]
  have s2:dN m'=[]:=by unfold dN;rw[A3]
  have s3:m'.inv=.none:=by unfold Md.inv;rw[A3]
  have s4:m'.lvl=0:=by unfold Md.lvl;rw[A3]
  rw[A1,A2,A4,s1,s2,s3,s4,Di (Z':=m.Z M.Z.P b t)];clear A4 A6;cases mk<;>kernel_rfl
 ·have:=NX (Z:=m.Z M.Z.P b t) (p:=p) (e:=e)
  rw[aB];exact Xb hv.T this
 ·exact hB hv.n b1
 ·exact hB hv.line b2
 ·clear A4 A6;have z:(12:Int)*((1:Nat):Int)≤12*((j+1:Nat):Int):=Int.mul_le_mul_of_nonneg_left (bw (W9 (WK j))) (by decide);cases mk with
  |true=>exact⟨(by decide:(0:Int)≤3),W3 (by decide:(3:Int)≤12*((1:Nat):Int)) z⟩
  |false=>exact⟨Int.le_refl 0,W3 (by decide:(0:Int)≤12*((1:Nat):Int)) z⟩
def E9(a c:Bool){n:Nat}(h:n≤2):jm (2+(Bool.rec 0 6 a+(Bool.rec 0 3 c+n)))=⟨!a,!c,n⟩:=by
 rcases (o3 h) with e|e|e<;>subst e<;>cases a<;>cases c<;>rfl
def Q4{φ:cP}{r:List AV}(h:r.length≤2)(h0:∀ a s,r=a::s→φ.v 81=a)(h1:∀ a c s,r=a::c::s→φ.v 82=c):aH φ (u7 81 r.length)=r:=by
 rcases r with _|⟨a,_|⟨c,_|⟨d,s⟩⟩⟩
 ·rfl
 ·show [φ.v 81]=_;rw[h0 _ _ rfl]
 ·show [φ.v 81,φ.v 82]=_;rw[h0 _ _ rfl,h1 _ _ _ rfl]
 ·exact absurd h (by show ¬ (s.length+3≤2);lia)
def Oe(hn:nx∈au)(h:Nat.beq nx.k 4=true):flA (fD P b m v t nx z q r en y) (pi (km (!Nat.beq nx.an 0)) (.str (kg (!bD nx.w))) (.any 80))=nx.ev:=by
 have g:(au.filter fun nx=>nx.k.beq 4).map (fun nx=>flA (fD P b m v t nx z q r en y) (pi (km (!Nat.beq nx.an 0)) (.str (kg (!bD nx.w))) (.any 80)))=(au.filter fun nx=>nx.k.beq 4).map Tk.ev:=by kernel_rfl
 exact X3 g nx (List.mem_filter.mpr ⟨hn,h⟩)
def QE(hb:2≤b∧b≤9)(hj:j≤65)(hm:cW j m)(hv:eP j v)(hi:dU m v)(ht:t∈au)(hn:nx∈au)(hp:Nat.beq m.pl 2=false)(hd:iR m.pl t.k=true)(hq:t.k=2→q=nx.ev::r∧r.length≤2) :
  jS M b j z m v q en t y (m.dn t nx) (SS.val (m.Z M.Z.P b t) (eI (m.pd true) (t.ad m.fi nx 0))):=by
 have p2:=W6 hp;have htp:m.tp=none:=by
  cases k:m.tp with
  |none=>rfl
  |some f=>exact absurd (hm.p2 (by rw[k];simp)) p2
 have hlo:=hm.lo;have f2:=hm.f2;have z0:=hi.z;clear hm hp ht p2;obtain⟨k,fl,an,wd,st⟩:=t;obtain⟨pl,fi,mr,lo,fs,tp⟩:=m;induction pl,k,hd using rD
 ·clear hq f2
  have eq9:fi=true:=z0 rfl;subst eq9;have eq9:lo=false:=hlo rfl;subst eq9;exact xJ (r:=[]) (mk:=false) (p:=.d0) (e:=.ss) hb hj hv hi hn (.inl rfl) htp rfl (aK _ (aK _ (.head _))) rfl rfl trivial rfl rfl rfl rfl rfl fun v' h=>⟨fun _=>h,fun h=>(by cases h),fun f h=>(by cases h),fun h=>(by cases h),fun h=>by cases h⟩
 ·clear hq f2 z0
  exact xJ (r:=[]) (mk:=false) (p:=.d1 fi lo) (e:=.se) hb hj hv hi hn (.inr (.inl rfl)) htp rfl (wg hlo (aK _ (.head _))) rfl rfl trivial rfl rfl rfl rfl rfl fun v' h=>⟨fun h=>(by rcases h with h|h<;>cases h),fun h=>(by cases h),fun f h=>(by cases h),fun h=>(by cases h),fun h=>by cases h⟩
 ·clear f2 z0
  apply ay (hq rfl);intro q1 q2;have A6:∀ {mk:Bool} v',v'.col=Bool.rec 0 3 mk∧v'.ws=Bool.rec true false mk∧v'.idn=Bool.rec true false mk→dU ⟨2,fi&&false,mk,lo&&true,[],none⟩ v':=fun {mk} v' h=>⟨fun h=>(by rcases h with h|h<;>cases h),fun _ _=>⟨h.2.1,h.2.2,h.1⟩,fun f h=>(by cases h),fun h=>(by cases h),fun h=>by cases h⟩;have go:∀ {k:Nat},Ad.ds fl k∈[Ad.se,.ds true 0]++(Bool.rec [0] ((List.range 13).map (·+1)) fi:ξ).map (Ad.ds false)→fC (fD M.Z.P b ⟨1,fi,mr,lo,fs,tp⟩ v ⟨2,fl,an,wd,st⟩ nx z q r en y) (Ad.ds fl k).q=.list q→oW M (fD M.Z.P b ⟨1,fi,mr,lo,fs,tp⟩ v ⟨2,fl,an,wd,st⟩ nx z q r en y) (Ad.ds fl k).q→∀ {k':Nat},dO (.d1 fi lo) (.ds fl k)=dO (.d1 fi lo) (.ds fl k') →
    jS M b j z ⟨1,fi,mr,lo,fs,tp⟩ v q en ⟨2,fl,an,wd,st⟩ y ⟨2,fi&&false,dO (.d1 fi lo) (.ds fl k'),lo&&true,[],none⟩ (SS.val (Md.Z M.Z.P b ⟨1,fi,mr,lo,fs,tp⟩ ⟨2,fl,an,wd,st⟩) (eI (.d1 fi lo) (.ds fl k'))):=fun {k} h1 h2 h3 {k'} e=>by
   have G:=xJ (m':=⟨2,fi&&false,dO (.d1 fi lo) (.ds fl k'),lo&&true,[],none⟩) (j:=j) (mk:=dO (.d1 fi lo) (.ds fl k)) (p:=.d1 fi lo) (e:=.ds fl k) hb hj hv hi hn (.inr (.inl rfl)) htp rfl (wg hlo h1) rfl h2 h3 rfl rfl rfl rfl rfl (by rw[e];exact A6);have o:eI (.d1 fi lo) (.ds fl k)=eI (.d1 fi lo) (.ds fl k'):=by
    show (Bool.rec [] [.lit [45,45,45]] (dO (.d1 fi lo) (.ds fl k)):SS)=Bool.rec [] [.lit [45,45,45]] (dO (.d1 fi lo) (.ds fl k'));rw[e]
   rw[o] at G;exact G
  cases fl with
  |true=>
   have e:∀ n,Tk.ad ⟨2,true,an,wd,st⟩ fi nx n=.ds true 0:=fun n=>by
    show Ad.ds true (Bool.rec 0 _ (fi&&false))=_;rw[Xw]
   have G:=go (k:=0) (aK _ (.tail _ (.head _))) rfl trivial (k':=0) rfl;rw[←e 0] at G;exact G
  |false=>
   cases fi with
   |false=>exact go (k:=0) (bF _ (.head _)) rfl trivial rfl
   |true=>
    cases k4:Nat.beq nx.k 4 with
    |true=>
     have e:Tk.ad ⟨2,false,an,wd,st⟩ true nx 0=.ds false (ib nx):=by
      show Ad.ds false (Bool.rec 1 (ib nx) (nx.k.beq 4))=_;rw[k4]
     have s1:=E9 (bD nx.w) (nx.an.beq 0) q2;have qe:(Ad.ds false (2+(Bool.rec 0 6 (bD nx.w)+(Bool.rec 0 3 (nx.an.beq 0)+r.length)))).q=.list (pi (km (!Nat.beq nx.an 0)) (.str (kg (!bD nx.w))) (.any 80)::u7 81 r.length):=by
      have two:∀ i,(Ad.ds false (2+i)).q=.list (pi (km (jm (2+i)).an) (.str (kg (jm (2+i)).w)) (.any 80)::u7 81 (jm (2+i)).m):=fun i=>by rw[XA];rfl
      rw[two,s1]
     have G:=go (k:=2+(Bool.rec 0 6 (bD nx.w)+(Bool.rec 0 3 (nx.an.beq 0)+r.length))) (bF _ (Ws (by
       rcases (o3 q2) with h|h|h<;>rw[h]<;>cases bD nx.w<;>cases nx.an.beq 0<;>decide))) (by
       rw[qe];show ak.list (flA _ (pi (km (!Nat.beq nx.an 0)) (.str (kg (!bD nx.w))) (.any 80))::aH _ (u7 81 r.length))=_;rw[Oe hn k4,q1,Q4 q2 (fun a s e=>by rw[e];rfl) (fun a c s e=>by rw[e];rfl)]) (by rw[qe];exact trivial) (k':=ib nx) (by
       have two:∀ i,dO (.d1 true lo) (.ds false (2+i))=(!(jm (2+i)).w&&!(jm (2+i)).an):=fun i=>by rw[XA];rfl
       unfold ib;rw[two,two,s1,E9 (bD nx.w) (nx.an.beq 0) (WK 2)])
     rw[←e] at G;exact G
    |false=>
     have e:Tk.ad ⟨2,false,an,wd,st⟩ true nx 0=.ds false 1:=by
      show Ad.ds false (Bool.rec 1 (ib nx) (nx.k.beq 4))=_;rw[k4]
     have ek:=AR (P:=M.w.params) (cY hn).1 (i:=4) (.head _);rw[k4] at ek;have G:=go (k:=1) (bF _ (Ws (.head _))) rfl (.inr ⟨_,_,r,by
      show ak.list q=_;rw[q1,uS (cY hn).1],ek⟩) (k':=1) rfl
     rw[←e] at G;exact G
 ·clear hq z0 hlo
  have eq9:fi=false:=f2 (.inr rfl);subst eq9;have G:=xJ (M:=M) (m':=⟨1,false,mr,lo&&!(true&&fl),[],none⟩) (j:=j) (b:=b) (en:=en) (z:=z) (y:=y) (q:=q) (t:=⟨3,fl,an,wd,st⟩) (r:=[]) (mk:=false) (p:=.d3 (!v.idn) lo) (e:=.de fl) hb hj hv hi hn (.inr (.inr (.inl rfl))) htp rfl (DQ _ lo fl) rfl rfl trivial rfl rfl (by
   cases fl<;>cases lo<;>rfl) rfl rfl fun v' h=>⟨fun _=>h,fun h=>(by cases h),fun f h=>(by cases h),fun h=>(by cases h),fun h=>by cases h⟩
  cases fl<;>exact G
end
def Me(h:Ch l f):∀ g∈l,g.bg≠0:=by
 induction h with
 |one=>exact fun g h=>by cases h
 |on _ _ _ h4 ih=>
  intro g hg;rcases cZ hg with hg|hg
  ·exact ih g hg
  ·rw[bU hg];exact h4
structure jj (j:Nat) (m:Md) (v:Es) (t:Tk):Prop where
 b:cW j m
 n:eP j v
 i:dU m v
 k:jX m t
section
def J7(ht:t∈au)(hn:nx∈au)(hq:t.k=2∨t.k=6∨t.k=8→∃ r,q=nx.ev::r∧r.length≤2):∀ mm fl an ho,t.ab (ag t nx)=.st mm fl an ho→nq M (.st mm fl an ho) (.list q):=fun mm fl an ho e=>by
 have ks:=u4 ht (ag t nx);rw[e] at ks;rcases X6 ks.symm with k|k
 ·have k:=aJ k
  apply af (hq (.inr (.inl k)));intro r h1 _;unfold Tk.ab at e;rw[k] at e;injection e with e1 e2 e3 e4;have ek:=AR (P:=M.w.params) (cY hn).1 (i:=7) (by decide);have hh:ag t nx=nx.k.beq 7:=by
   unfold ag;rw[k];show (nx.k.beq 7 ||false)=_;rw[Bool.or_false]
  rw[←hh,e4] at ek;rw[←e1];exact⟨_,_,r,by rw[h1,uS (cY hn).1],ek⟩
 ·have k:=aJ k
  apply af (hq (.inr (.inr k)));intro r h1 _;unfold Tk.ab at e;rw[k] at e;injection e with e1 e2 e3 e4;have ek:=AR (P:=M.w.params) (cY hn).1 (i:=9) (by decide);have hh:ag t nx=nx.k.beq 9:=by
   unfold ag;rw[k];rfl
  rw[←hh,e4] at ek;rw[←e1];exact⟨_,_,r,by rw[h1,uS (cY hn).1],ek⟩
def x6(M:aF)(b j:Nat)(z:Nat→ak)(m:Md)(v:Es)(q:List AV)(en:AV)(t:Tk)(y:Nat→AV)(o:κ Md)(x:ξ):Prop:=Option.rec (zD M b z m v q en t y x) (fun m'=>jS M b j z m v q en t y m' x) o
def UQ{X:Prop}(h:jj j m v t)(k:cW j m→eP j v→dU m v→jX m t→X):X:=k h.b h.n h.i h.k
def O0(hb:2≤b∧b≤9)(hj:j≤65)(h:jj j m v t)(ht:t∈au)(hn:nx∈au)(hq:t.k=2∨t.k=6∨t.k=8→∃ r,q=nx.ev::r∧r.length≤2)(s:eV M.Z.P b t nx m o x):x6 M b j z m v q en t y o x:=by
 have qo:=J7 (M:=M) ht hn hq;apply UQ h;intro hm hv hi hk;clear h;induction s with
 |doc h1 h2=>
  have hq':∃ r,t.k=2→q=nx.ev::r∧r.length≤2:=by
   by_cases k:t.k=2
   ·apply bn (hq (.inl k));intro r h;exact⟨r,fun _=>h⟩
   ·exact⟨[],fun h=>absurd h k⟩
  apply bn hq';intro r hr;exact QE hb hj hm hv hi ht hn h1 h2 hr
 |docx h1 h2=>exact SW hb hj hm hv hi ht h1 h2
 |root h4=>
  unfold x6;cases k:bz (t.ab (ag t nx)) with
  |false=>exact Tq hb hj hm hv hi hk ht rfl rfl h4 k
  |true=>exact MT hb hj hm hv hi hk ht qo rfl rfl k rfl
 |node h4=>
  unfold x6;cases k:bz (t.ab (ag t nx)) with
  |false=>exact KW hb hj hm hv hi hk ht hn rfl rfl h4 k
  |true=>exact Wb hb hj hm hv hi hk ht qo rfl rfl k rfl
 |end1 h3 h4=>exact Mu hb hj hm hv hi hk ht rfl rfl h3 h4 rfl
 |end2 h3 h4=>exact Oc hb hj hm hv hi hk ht rfl rfl h3 h4 rfl
 |ref h3 h4=>exact Jv hb hj hm hv hi ht rfl h3 h4
def MK(hb:2≤b∧b≤9)(h:jj j m v t)(ht:t∈au)(s:eV P b t nx m (some m') x)(h1:eP (j+1) v')(h2:dU m' v'):jj (j+1) m' v' nx:=⟨yP hb h.b s,h1,h2,JZ s ht fun f hf=>by
 cases q:m.tp with
 |none=>rw[h.b.no q] at hf;cases hf
 |some g=>exact Me (h.i.f g q).2.1 f hf⟩
def N3(h1:eP 0 v)(h2:v.col=0∧v.ws=true∧v.idn=true):jj 0 ⟨0,true,false,false,[],none⟩ v t:=⟨⟨fun f h=>(by cases h),fun f h=>(by cases h),fun _=>rfl,WK _,WK _,fun h=>absurd rfl h,fun _=>rfl,fun h=>by rcases h with h|h<;>cases h⟩,h1,⟨fun _=>h2,fun h=>(by cases h),fun f h=>(by cases h),fun h=>(by cases h),fun _=>rfl⟩,⟨fun h=>(by cases h),fun f h=>by cases h⟩⟩
end
section
def aj.okL(H:∀ x∈xs,∀ v,VR M imm ρ v x→d6 ρ.length x=true):∀ vs,aj M imm ρ vs xs→eB ρ.length xs=true:=by
 induction xs with
 |nil=>exact fun _ _=>rfl
 |cons x r ih=>
  intro vs h;apply cD (aj.inv h);intro _ _ e0 a b;show (match d6 ρ.length x with|true=>eB ρ.length r|false=>false)=true;rw[H x (.head _) _ a];exact ih (fun y hy=>H y (.tail _ hy)) _ b
def aT.okL(H:∀ q∈xs,∀ v,VR M imm ρ v q.2→d6 ρ.length q.2=true):∀ vs,aT M imm ρ vs xs→jO ρ.length xs=true:=by
 induction xs with
 |nil=>exact fun _ _=>rfl
 |cons x r ih=>
  intro vs h;apply lw (aT.inv h);intro _ _ _ _ e0 a b;show (match d6 ρ.length x.2 with|true=>jO ρ.length r|false=>false)=true;rw[H x (.head _) _ a];exact ih (fun y hy=>H y (.tail _ hy)) _ b
def VR.okA:∀ (x:AV) (v:π),VR M imm ρ v x→d6 ρ.length x=true:=by
 refine AV.ind ?_ ?_ ?_ ?_ ?_ ?_ ?_ ?_ ?_ ?_ ?_ ?_ ?_ ?_ ?_
 ·exact fun _ _=>rfl
 ·exact fun _ _ _=>rfl
 ·exact fun _ _ _=>rfl
 ·exact fun _ _ _=>rfl
 ·exact fun k v h=>by
   apply af h.inv;intro a e0 e;clear h;subst e0;exact Wn (vp e)
 ·exact fun xs ih v h=>by
   apply dj h.inv;intro _ _ _ e0 a b;clear h;subst e0;exact aj.okL ih _ b
 ·exact fun C fs ih v h=>by
   apply nz h.inv;intro _ _ _ _ e0 a b c d e;clear h;subst e0;exact aT.okL ih _ c
 ·exact fun _ _=>rfl
 ·exact fun _ _ _=>rfl
 ·exact fun _ _ _=>rfl
 ·exact fun _ _ _=>rfl
 ·exact fun f x ih v h=>by
   apply cD h.inv;intro _ _ e0 a b;clear h;subst e0;exact ih _ b
 ·exact fun _ _ _=>rfl
 ·exact fun _ _ _ _=>rfl
 ·exact fun _ _ _ _=>rfl
def aj.okA(h:aj M imm ρ vs xs):eB ρ.length xs=true:=aj.okL (fun x _=>VR.okA x) vs h
def CR.okC(h:CR M imm ρ c x):ew ρ.length x=true:=by
 cases h with
 |list a _=>exact a.okA
 |inst a _ _=>exact aT.okL (fun q _=>VR.okA q.2) _ a
 |spl _ _ a _=>exact a.okA
 |seg a _=>exact a.okA
 |_=>rfl
def aN.okC(h:aN M imm ρ cs J):fH ρ.length J=true:=by
 induction h with
 |nil=>rfl
 |@cons c x cs xs a _ ih=>
  show (match ew ρ.length x with|true=>fH ρ.length xs|false=>false)=true;rw[a.okC];exact ih
end
def Rz.okd(H:fH (lenA J) J=true→Rz M n J f vs r J'):Rz M n J f vs r J':=⟨by
 intro c A s m ls imm cs vals kwv Rq C R;have:=R.C.okC;rw[show (ae cs).length=lenA J from by unfold ae;rw[Wr,R.C.len,aZ]] at this;exact(H this).h C R⟩
def gz(k l:Nat):κ Nat:=tn (some l) [some l,none,some (l+1),Bool.rec (some (l-1)) none (l.beq 0),some l,some l,some (l+1),Bool.rec (some (l-1)) none (l.beq 0),some (l+1),Bool.rec (some (l-1)) none (l.beq 0)] k
def ed(ks:ξ):Nat→Bool:=List.rec (fun _=>false) (fun k _ ih l=>Option.rec true ih (gz k l)) ks
def wt(k:Nat):Nat:=tn 0 [0,0,1,0,0,0,2,0,3,0] k
def FA(k:Nat):wt k≤3:=by
 rcases XU k 10 with h|h
 ·apply kP h<;>decide
 ·apply bn (Nat.exists_eq_add_of_le' h);intro n e;rw[e];exact WK _
def cM(ks:ξ):Bool:=List.rec true (fun k r _=>Bool.rec (!ed r 0&&Nat.blt (lenA r) (wt k)) false (Nat.beq (wt k) 0)) ks
def bj(c:Nat→ak)(x:Nat→AV)(q:List AV):St:=bB (tO c 7 [some (.list q)]) (tO x 4 [some (.cell 7)])
def evL(k:Nat)(fs:List (Str×AV)):AV:=.obj (tn 0 eQ k) fs
def oh:List Stmt:=(bR 344).body
def vq:List (Str×NameKind):=(bR 344).sc
def gB:nR:=qD oh 1
def fU(cn l:Nat)(e:List (Str×AV)):ac:=⟨[(aO,.cell 5),(sI,I cn),(xY,I l)]++e,vq⟩
def FB:oh=bN 1 oh++(.For gB.t gB.it gB.b [] gB.p::bT 2 oh):=by kernel_rfl
def UF{c:Nat→ak}{x:Nat→AV}{q:List AV}{cn:Nat}:(aA [] aq 3).exs ⟨[(aO,.cell 5),(sI,I cn)],vq⟩ (bj c x q) (bN 1 oh)=some (.next,fU cn 0 [],bj c x q):=by kernel_rfl
def Q6:(aA [] aq 6).ev (fU cn 0 []) (bj c x (a::r)) gB.it=some (.cell 10,bj c x (a::r)++[.list (cut (a::r) (some 1) none)]):=by kernel_rfl
def FL:(aA [] aq 0).asg (fU cn l []) J v gB.t=some (fU cn l [(cQ,v)],J)∧(aA [] aq 0).asg (fU cn l [(cQ,e)]) J v gB.t=some (fU cn l [(cQ,v)],J):=⟨by kernel_rfl,by kernel_rfl⟩
def yJ(k l cn:Nat)(fs:List (Str×AV))(J:St):κ (Fl×ac×St):=Option.rec (some (.ret ff,⟨[(aO,.cell 5),(sI,I cn),(xY,I (-1)),(cQ,evL k fs)],vq⟩,J)) (fun l'=>some (.next,fU cn l' [(cQ,evL k fs)],J)) (gz k l)
def Lw:(List.range 10).map (fun k=>(List.range 4).map fun l=>(aA [] aq 8).exs (fU cn l [(cQ,evL k fs)]) J gB.b)=(List.range 10).map (fun k=>(List.range 4).map fun l=>yJ k l cn fs J):=by kernel_rfl
def RM{e:List (Str×AV)}:(aA [] aq 6).exs (fU cn l []) (bj c x q++[d]) (bT 2 oh)=some (.ret (.bool (jY (lenA q:Int) ((cn:Int)+1))),fU cn l [],bj c x q++[d]):=by kernel_rfl
def evs(T:List Tk):List AV:=T.map Tk.ev
noncomputable def aP(T:List Tk):ξ:=T.map fun t=>t.k
def Dz.retE(I:aS M n R)(H:Yz M n e ls J v σ1):bc M n (.Return (some e) pos::r) ls J (.ret v) ls σ1:=by
 have D:bG M n (fun c=>exec (.Return (some e) pos) c.env) ls J (.ret v) ls σ1:=IA (jw I H) _ (show y9 (ovR R ls J e v σ1) ls J (some e)=some (.ret v,ls,σ1) by
  show obp ((ovR R ls J e v σ1).ev ls J e) (fun v J=>some (Fl.ret v,ls,J))=_;rw[jp];rfl)
 exact Dz.ret ⟨@D⟩
def FE(hk:k<10)(h:gz k l=some l'):l'≤l+1:=by
 have e:∀ {z:Nat},(Bool.rec (some (l-1)) none (l.beq 0):κ Nat)=some z→z≤l+1:=fun {z} g=>by
  cases q:Nat.beq l 0<;>rw[q] at g
  ·exact bM g▸WZ (XE _ _) (Xh _)
  ·injection g
 have s:∀ {z:Nat},some l=some z→z≤l+1:=fun g=>bM g▸Xh _;have u:∀ {z:Nat},some (l+1)=some z→z≤l+1:=fun g=>bM g▸Wm _;revert h;apply kP hk<;>intro h
 ·exact s h
 ·injection h
 ·exact u h
 ·exact e h
 ·exact s h
 ·exact s h
 ·exact u h
 ·exact e h
 ·exact u h
 ·exact e h
section
def Uq(hT:∀ t∈T,t∈au)(hl:T.length≤3):∀ {pre:List Tk} {l:Nat} {e:List (Str×AV)},T=pre++suf→l≤pre.length→(e=[]∨∃ v,e=[(cQ,v)]) →
  (ed (aP suf) l=true→∃ ls',Fz M 150 gB.t gB.b (.lst 10 pre.length) (fU cn l e) (bj c x (a::evs T)++[.list (evs T)]) (.ret ff) ls' (bj c x (a::evs T)++[.list (evs T)])) ∧
  (ed (aP suf) l=false→∃ l' e',(e'=[]∨∃ v,e'=[(cQ,v)])∧Fz M 150 gB.t gB.b (.lst 10 pre.length) (fU cn l e) (bj c x (a::evs T)++[.list (evs T)]) .next (fU cn l' e') (bj c x (a::evs T)++[.list (evs T)])):=by
 have nx:∀ i,mN (bj c x (a::evs T)++[.list (evs T)]) (.lst 10 i)=some (pQ 10 i (evs T)):=fun i=>rfl;induction suf with
 |nil=>
  intro pre l e h1 h2 h3;refine⟨fun h=>by (injection h),fun _=>⟨l,e,h3,.stop ?_⟩⟩;rw[nx];unfold pQ;rw[cJ,WR (by unfold evs;rw[Wr,h1,aX];exact Wm _)];rfl
 |cons t suf ih=>
  intro pre l e h1 h2 h3;have k9:=(cY (hT t (by rw[h1];exact bF _ (.head _)))).1;have lp:=by rw[h1,aB,dH] at hl;exact WZ (W0 _ _) (Xm hl)
  have at1:ao (evs T) pre.length=some (evL t.k t.fs):=by
   rw[cJ,h1];unfold evs;rw[Wl,List.getElem?_append_right (by rw[Wr];exact Wm _),Wr,XT];show some t.ev=_;rw[uS k9];rfl
  have n1:mN (bj c x (a::evs T)++[.list (evs T)]) (.lst 10 pre.length)=some (some (evL t.k t.fs,.lst 10 (pre++[t]).length)):=by
   rw[nx];unfold pQ;rw[at1,aB];rfl
  have az:Az M 150 gB.t (evL t.k t.fs) (fU cn l e) (bj c x (a::evs T)++[.list (evs T)]) (fU cn l [(cQ,evL t.k t.fs)]) (bj c x (a::evs T)++[.list (evs T)]):=by
   rcases h3 with h3|⟨v,h3⟩<;>subst h3
   ·exact kK (FL (e:=.none)).1
   ·exact kK FL.2
  have bd:=X3 (X3 (Lw (cn:=cn) (fs:=t.fs) (J:=bj c x (a::evs T)++[.list (evs T)])) t.k (dc k9)) l (dc (W8 (WZ h2 lp) (nleT rfl)));cases q:gz t.k l with
  |none=>
   have sc:ed (aP (t::suf)) l=true:=by show (Option.rec true _ (gz t.k l))=true;rw[q]
   refine⟨fun _=>?_,fun h=>by rw[sc] at h;injection h⟩;unfold yJ at bd;rw[q] at bd;exact⟨_,.ret n1 az (cV (by decide) bd)⟩
  |some l'=>
   have sc:ed (aP (t::suf)) l=ed (aP suf) l':=by show (Option.rec true (ed (aP suf)) (gz t.k l):Bool)=_;rw[q]
   unfold yJ at bd;rw[q] at bd;have D:=cV (M:=M) (by decide) bd;apply ay ((fun l=>ih (pre:=pre++[t]) (by rw[h1,bP];rfl)) l' (by rw[aB];exact WZ (FE k9 q) (W4 h2 _)) (.inr ⟨_,rfl⟩));intro i1 i2;rw[sc];refine⟨fun h=>?_,fun h=>?_⟩
   ·apply bn (i1 h);intro ls' F;exact⟨ls',.step n1 az D F⟩
   ·apply gF (i2 h);intro l2 e' h4 F;exact⟨l2,e',h4,.step n1 az D F⟩
def O7{T:List Tk}(hT:∀ t∈T,t∈au)(hl:T.length≤3){a:AV}{cn:Nat}:fnIn M.K 344=true∧Rz M 155 (bj c x (a::evs T)) 344 [.cell 5,I cn] (.bool (!ed (aP T) 0&&T.length.blt cn)) (bj c x (a::evs T)):=by
 have cu:cut (a::evs T) (some 1) none=evs T:=by
  show bN (lenA (a::evs T)-clip (lenA (a::evs T)) 1) (bT (clip (lenA (a::evs T)) 1) (a::evs T))=_;have:clip (lenA (a::evs T)) 1=1:=by unfold clip;rw[aZ,dH,if_neg (by decide),Int.min_eq_left (show (1:Int)≤((evs T).length+1:Nat) from bw (W9 (WK _)))];rfl
  rw[this,aZ,k8];exact List.take_length
 have y:=cO (M:=M) (by decide) (Q6 (c:=c) (x:=x) (a:=a) (r:=evs T) (cn:=cn));rw[cu] at y;have F0:=cV (M:=M) (by decide) (UF (c:=c) (x:=x) (q:=a::evs T) (cn:=cn));apply ay (Uq hT hl (pre:=[]) rfl (Wm _) (.inl rfl));intro i1 i2;have fin:∀ {r:Bool} {L:ac},bc M 150 oh ⟨[(aO,.cell 5),(sI,I cn)],vq⟩ (bj c x (a::evs T)) (.ret (.bool r)) L (bj c x (a::evs T)++[.list (evs T)])→fnIn M.K 344=true∧Rz M 155 (bj c x (a::evs T)) 344 [.cell 5,I cn] (.bool r) (bj c x (a::evs T)):=fun {r L} D=>by
  have hf:gt 344 jb=some (bR 344):=by kernel_rfl
  have hb:fE (bR 344).args (bR 344).dflt [.cell 5,I cn] []=some [(aO,.cell 5),(sI,I cn)]:=by kernel_rfl
  have G:=xU hf hb D rfl;refine⟨G.1,Rz.okd fun ok=>?_⟩;have t:gN (lenA (bj c x (a::evs T))) (.bool r) (bj c x (a::evs T)++[.list (evs T)])=bj c x (a::evs T):=by
   show (match fH 10 (bj c x (a::evs T)) with|true=>bj c x (a::evs T)|false=>_)=_;rw[show fH 10 (bj c x (a::evs T))=true from ok]
  rw[t] at G;exact G.2
 cases q:ed (aP T) 0 with
 |true=>
  apply bn (i1 q);intro ls' F;refine fin (L:=ls') ?_;rw[FB];exact F0.append (Dz.ret (Dz.for_ (by kernel_rfl) (by kernel_rfl) y rfl F))
 |false=>
  apply gF (i2 q);intro l' e' h4 F;have X9:=cV (M:=M) (d:=6) (by decide) (RM (c:=c) (x:=x) (q:=a::evs T) (cn:=cn) (l:=l') (e:=[]) (d:=.list (evs T)));have e1:(jY (lenA (a::evs T):Int) ((cn:Int)+1))=T.length.blt cn:=by
   rw[show ((cn:Int)+1)=((cn+1:Nat):Int) from rfl,w8,aZ];unfold evs;rw[dH,Wr];rfl
  rw[e1] at X9;refine fin (L:=fU cn l' []) ?_;rw[FB];have F2:jt M 150 (.For gB.t gB.it gB.b [] gB.p) (fU cn 0 []) (bj c x (a::evs T)) .next (fU cn l' []) (bj c x (a::evs T)++[.list (evs T)]):=by
   have G:=Dz.for_ (pos:=gB.p) (by kernel_rfl) (by kernel_rfl) y rfl F;rcases h4 with h4|⟨v,h4⟩<;>subst h4
   ·exact G
   ·exact G.post (ls0:=fU cn l' []) rfl fun x u hx=>oG (b:=[(cQ,v)]) hx
  exact F0.append (F2.cons X9)
end
structure jZ where
 t:Expr
 b:List Stmt
 o:List Stmt
 p:Pos
def kM(l:List Stmt)(i:Nat):jZ:=match ao l i with|some (.If t b o p)=>⟨t,b,o,p⟩|_=>⟨.Constant .none 0 default,[],[],default⟩
structure jl where
 o:Expr
 x:Str
 ap:Pos
 as:List Expr
 cp:Pos
 p:Pos
def iw(l:List Stmt):jl:=match ao l 0 with|some (.Return (some (.Call (.Attribute o x ap) as [] cp)) p)=>⟨o,x,ap,as,cp,p⟩|_=>⟨.Constant .none 0 default,"",default,[],default,default⟩
noncomputable def jl.st(r:jl):Stmt:=.Return (some (.Call (.Attribute r.o r.x r.ap) r.as [] r.cp)) r.p
def oY:List Stmt:=(bR 337).body
def IU:List (Str×NameKind):=(bR 337).sc
def qH:gY:=iu oY 1
def eg:jZ:=kM oY 2
def iK:jZ:=kM eg.o 0
def kG:jZ:=kM iK.o 0
def fe(e:List (Str×AV)):ac:=⟨(aO,.cell 5)::e,IU⟩
def SG:oY=bN 1 oY++[.Assign qH.ts qH.e qH.p,.If eg.t eg.b eg.o eg.p]:=by kernel_rfl
def LJ:eg.o=[.If iK.t iK.b iK.o iK.p]∧iK.o=[.If kG.t kG.b kG.o kG.p]∧eg.b=[(iw eg.b).st]∧iK.b=[(iw iK.b).st]∧kG.b=[(iw kG.b).st]:=⟨by kernel_rfl,by kernel_rfl,by kernel_rfl,by kernel_rfl,by kernel_rfl⟩
section
def T5:(aA [] aq 6).exs (fe []) (bj c x []) oY=some (.ret tr,fe [],bj c x []):=by kernel_rfl
def OW:(aA [] aq 6).exs (fe []) (bj c x (a::r)) (bN 1 oY)=some (.next,fe [],bj c x (a::r)):=by kernel_rfl
def KA:(aA [] aq 12).ev (fe []) (bj c x (a::r)) qH.e=ob (iZ (a::r) (.k ((0:Nat):Int))) fun v=>some (v,bj c x (a::r)):=by kernel_rfl
def IZ:(aA [] aq 12).asgm (fe []) (bj c x (a::r)) a qH.ts=some (fe [(cQ,a)],bj c x (a::r)):=by kernel_rfl
def PJ:[0,1,3,4,5,7,9].map (fun k=>(aA [] aq 8).exs (fe [(cQ,evL k fs)]) (bj c x (evL k fs::r)) [.If eg.t eg.b eg.o eg.p])=[0,1,3,4,5,7,9].map (fun k=>some (.ret ff,fe [(cQ,evL k fs)],bj c x (evL k fs::r))):=by kernel_rfl
abbrev qJ (c:Nat→ak) (x:Nat→AV) (r:List AV) (fs:List (Str×AV)) (k:Nat) (e:Expr) (v:Bool):Prop:=(aA [] aq 8).tst (fe [(cQ,evL k fs)]) (bj c x (evL k fs::r)) e=some (v,bj c x (evL k fs::r))
def N9:qJ c x r fs 2 eg.t true∧qJ c x r fs 6 eg.t false∧qJ c x r fs 6 iK.t true∧qJ c x r fs 8 eg.t false∧qJ c x r fs 8 iK.t false∧qJ c x r fs 8 kG.t true:=⟨by kernel_rfl,by kernel_rfl,by kernel_rfl,by kernel_rfl,by kernel_rfl,by kernel_rfl⟩
def SZ:[(iw eg.b,1),(iw iK.b,2),(iw kG.b,3)].map (fun q:jl×Nat=>((aA [] aq 0).ev (fe [(cQ,a)]) (bj c x r) q.1.o,hY (eY [] aq) (bj c x r) (.cell 5) q.1.x,(aA [] aq 0).evs (fe [(cQ,a)]) (bj c x r) q.1.as,(jk q.1.o&&Nat.beq q.1.ap.endLine q.1.cp.line&&Nat.blt (lenA q.1.as+lenA ([]:List Keyword)+1) 30))) =
 [(iw eg.b,1),(iw iK.b,2),(iw kG.b,3)].map (fun q:jl×Nat=>(some (.cell 5,bj c x r),some (.meth 344 (.cell 5)),some ([I q.2],bj c x r),true)):=by kernel_rfl
end
def c6(b:Nat):jB M b (eY [] aq):=q8 (fun U U h=>by injection h) lX
section
def AI(hT:∀ t∈T,t∈au)(hl:T.length≤3)(hq:q∈[(iw eg.b,1),(iw iK.b,2),(iw kG.b,3)]):bc M 160 [q.1.st] (fe [(cQ,a)]) (bj c x (a::evs T)) (.ret (.bool (!ed (aP T) 0&&T.length.blt q.2))) (fe [(cQ,a)]) (bj c x (a::evs T)):=by
 have N:=O7 (M:=M) (c:=c) (x:=x) hT hl (a:=a) (cn:=q.2);have h:=X3 (SZ (c:=c) (x:=x) (a:=a) (r:=a::evs T)) q hq;injection h with h1 h;injection h with h2 h;injection h with h3 h4;have y:Yz M 160 (.Call (.Attribute q.1.o q.1.x q.1.ap) q.1.as [] q.1.cp) (fe [(cQ,a)]) (bj c x (a::evs T)) (.bool (!ed (aP T) 0&&T.length.blt q.2)) (bj c x (a::evs T)) :=
  BL (c6 130) N.1 N.2 h4 h1 h2 h3 rfl
 exact Dz.retE (cU (c6 130) 300 0).E y
def RC(hT:∀ t∈T,t∈au)(hl:T.length≤4):fnIn M.K 337=true∧Rz M 165 (bj c x (evs T)) 337 [.cell 5] (.bool (cM (aP T))) (bj c x (evs T)):=by
 have hf:gt 337 jb=some (bR 337):=by kernel_rfl
 have hb:fE (bR 337).args (bR 337).dflt [.cell 5] []=some [(aO,.cell 5)]:=by kernel_rfl
 have fin:∀ {r:Bool} {L:ac},bc M 160 oY (fe []) (bj c x (evs T)) (.ret (.bool r)) L (bj c x (evs T))→fnIn M.K 337=true∧Rz M 165 (bj c x (evs T)) 337 [.cell 5] (.bool r) (bj c x (evs T)):=fun {r L} D=>xU hf hb D rfl;cases T with
 |nil=>exact fin ((cV (by decide) T5).le (by decide))
 |cons t T=>
  have k9:=(cY (hT t (.head _))).1;have hT':=fun u hu=>hT u (.tail _ hu);have hl':=by rw[dH] at hl;exact XF hl
  have e0:evs (t::T)=evL t.k t.fs::evs T:=by
   show t.ev::evs T=_;rw[uS k9];rfl
  rw[e0] at fin ⊢;have A:=cU (kd (M:=M)) 300 12;have D1:=(Dz.asg A.E A.S (pos:=qH.p) (by kernel_rfl) (cO (Wm _) ((KA (c:=c) (x:=x) (a:=evL t.k t.fs) (r:=evs T)).trans (by rw[yb rfl];rfl))) IZ).le (show 150≤160 by decide);have go:∀ {r:Bool} {L:ac},bc M 160 [.If eg.t eg.b eg.o eg.p] (fe [(cQ,evL t.k t.fs)]) (bj c x (evL t.k t.fs::evs T)) (.ret (.bool r)) L (bj c x (evL t.k t.fs::evs T))→cM (aP (t::T))=r→fnIn M.K 337=true∧Rz M 165 (bj c x (evL t.k t.fs::evs T)) 337 [.cell 5] (.bool (cM (aP (t::T)))) (bj c x (evL t.k t.fs::evs T)):=fun {r L} D e=>by
   rw[e];refine fin (L:=L) ?_;rw[SG];exact((cV (by decide) (OW)).le (show 150≤160 by decide)).append (D1.cons D)
  have m0:∀ k,Nat.beq (wt k) 0=true→cM (k::aP T)=false:=fun k h=>by
   show (Bool.rec _ false (Nat.beq (wt k) 0))=false;rw[h]
  have m1:∀ k n,wt k=n+1→cM (k::aP T)=(!ed (aP T) 0&&T.length.blt (n+1)):=fun k n h=>by
   show (Bool.rec (!ed (aP T) 0&&Nat.blt (lenA (aP T)) (wt k)) false (Nat.beq (wt k) 0):Bool)=_;rw[h,aZ];unfold aP;rw[Wr];rfl
  apply mq LJ;intro o1 o2 b1 b2 b3;apply j7 (N9);intro t21 t61 t62 t81 t82 t83;have no:∀ k∈[0,1,3,4,5,7,9],t.k=k→fnIn M.K 337=true∧Rz M 165 (bj c x (evL t.k t.fs::evs T)) 337 [.cell 5] (.bool (cM (aP (t::T)))) (bj c x (evL t.k t.fs::evs T)):=fun k hk e=>by
   have hw0:=by
    have:([0,1,3,4,5,7,9].all fun k=>Nat.beq (wt k) 0)=true:=rfl;exact aV this k hk
   refine go (L:=fe [(cQ,evL t.k t.fs)]) ?_ (by show cM (t.k::aP T)=false;rw[e];exact m0 k hw0);rw[e];exact(cV (by decide) (X3 (PJ) k hk)).le (by decide)
  rcases (wr k9) with e|e|e|e|e|e|e|e|e|e
  ·exact no 0 (by decide) e
  ·exact no 1 (by decide) e
  ·refine go (r:=!ed (aP T) 0&&T.length.blt 1) (L:=fe [(cQ,evL t.k t.fs)]) ?_ (by show cM (t.k::aP T)=_;rw[e];exact m1 2 0 rfl)
   rw[e];refine Dz.ret (Dz.if_ ((iM (by decide) t21).le (by decide)) ?_);rw[b1];exact AI hT' hl' (q:=(iw eg.b,1)) (.head _)
  ·exact no 3 (by decide) e
  ·exact no 4 (by decide) e
  ·exact no 5 (by decide) e
  ·refine go (r:=!ed (aP T) 0&&T.length.blt 2) (L:=fe [(cQ,evL t.k t.fs)]) ?_ (by show cM (t.k::aP T)=_;rw[e];exact m1 6 1 rfl)
   rw[e];refine Dz.ret (Dz.if_ (q:=false) ((iM (by decide) t61).le (by decide)) ?_);rw[o1];refine Dz.ret (Dz.if_ (q:=true) ((iM (by decide) t62).le (by decide)) ?_);rw[b2];exact AI hT' hl' (q:=(iw iK.b,2)) (.tail _ (.head _))
  ·exact no 7 (by decide) e
  ·refine go (r:=!ed (aP T) 0&&T.length.blt 3) (L:=fe [(cQ,evL t.k t.fs)]) ?_ (by show cM (t.k::aP T)=_;rw[e];exact m1 8 2 rfl)
   rw[e];refine Dz.ret (Dz.if_ (q:=false) ((iM (by decide) t81).le (by decide)) ?_);rw[o1];refine Dz.ret (Dz.if_ (q:=false) ((iM (by decide) t82).le (by decide)) ?_);rw[o2];refine Dz.ret (Dz.if_ (q:=true) ((iM (by decide) t83).le (by decide)) ?_);rw[b3];exact AI hT' hl' (q:=(iw kG.b,3)) (.tail _ (.tail _ (.head _)))
  ·exact no 9 (by decide) e
end
open Classical in
def ovT(R:aM)(ls0:ac)(σ0:St)(e0:Expr)(b:Bool)(σ1:St):aM:={R with tst:=fun ls J e=>if ls=ls0∧J=σ0∧e=e0 then some (b,σ1) else R.tst ls J e}
section
variable {Y:Pi}
def vO:(ovT R ls J e b σ1).tst ls J e=some (b,σ1):=if_pos ⟨rfl,rfl,rfl⟩
def vk(I:aS M n R)(H:Tz M n e ls J b σ1):aS M n (ovT R ls J e b σ1):=⟨I.ev,I.evo,I.evs,I.evk,I.bl,I.cc,by
 intro l2 s2 e2 b2 s3 h
 by_cases q:l2=ls∧s2=J∧e2=e
 ·have h2:(ovT R ls J e b σ1).tst l2 s2 e2=some (b,σ1):=if_pos q
  apply cw q;intro e0 e01 e02;subst e0;subst e01;subst e02;rw[h2] at h;(apply j2 h;clear h;rintro rfl rfl);exact H.h
 ·have h2:(ovT R ls J e b σ1).tst l2 s2 e2=R.tst l2 s2 e2:=if_neg q
  rw[h2] at h;exact I.tst h,I.tb⟩
def zy(I:aS M n R):aS M n {R with tb:=pU Y R}:=⟨I.ev,I.evo,I.evs,I.evk,I.bl,I.cc,I.tst,fun h=>DV (Y:=Y) I h⟩
def C1(I:aS M n R):aS M n {R with evs:=Ar Y R}:=⟨I.ev,I.evo,fun h=>Fx (Y:=Y) I h,I.evk,I.bl,I.cc,I.tst,I.tb⟩
def AQ(hb:aU Y.B M.Z)(I:aS M n R):aS M n {R with bl:=qA Y R}:=⟨I.ev,I.evo,I.evs,I.evk,fun h pos=>HD hb I h pos,I.cc,I.tst,I.tb⟩
def Tz.of(hb:aU Y.B M.Z)(I:aS M n R)(h:Bj Y R ls J e=some (b,σ1)):Tz M n e ls J b σ1:=by
 have D:eG M n (fun c=>isTrue e c.env (eval e c.env)) ls J (lu b) σ1:=FQ hb I h;exact⟨@D⟩
def Tz.call(hb:aU Y.B M.Z)(I:aS M n R)(H:Yz M n (.Call f as ks pos) ls J (.bool b) σ1):Tz M n (.Call f as ks pos) ls J b σ1:=Tz.of hb (jw I H) (by
 show obp ((ovR R ls J (.Call f as ks pos) (.bool b) σ1).ev ls J (.Call f as ks pos)) (fun v J=>ob (o0 Y.B J v) fun b=>some (b,J))=_;rw[jp];rfl)
def Tz.not(hb:aU Y.B M.Z)(I:aS M n R)(H:Tz M n e ls J b σ1):Tz M n (.UnaryOp .Not e pos) ls J (!b) σ1:=Tz.of hb (vk I H) (by
 show obp ((ovT R ls J e b σ1).tst ls J e) (fun b J=>some (!b,J))=_;rw[vO];rfl)
def Tz.cmp(hb:aU Y.B M.Z)(I:aS M n R)(H:Yz M n e ls J v σ1)(h:R.cc ls σ1 v ops rs=some (b,σ2)):Tz M n (.Compare e ops rs pos) ls J b σ2:=Tz.of hb (jw I H) (by
 show obp ((ovR R ls J e v σ1).ev ls J e) (fun a J=>R.cc ls J a ops rs)=_;rw[jp];exact h)
def Yz.cmp(I:aS M n R)(H:Yz M n e ls J v σ1)(h:R.cc ls σ1 v ops rs=some (b,σ2)):Yz M n (.Compare e ops rs pos) ls J (.bool b) σ2:=by
 have D:cS M n (fun c=>eval (.Compare e ops rs pos) c.env) ls J (.bool b) σ2:=Cg (jw I H) (by
  show obp ((ovR R ls J e v σ1).ev ls J e) (fun a J=>obp (R.cc ls J a ops rs) fun b J=>some (AV.bool b,J))=_;rw[jp];show obp (R.cc ls σ1 v ops rs) (fun b J=>some (AV.bool b,J))=_;rw[h];rfl)
 exact⟨@D⟩
def Tz.and_no(hb:aU Y.B M.Z)(I:aS M n R)(H:Tz M n e ls J false σ1):Tz M n (.BoolOp .And [e,e2] pos) ls J false σ1:=Tz.of hb (zy (Y:=Y) (vk I H)) (by
 show obp ((ovT R ls J e false σ1).tst ls J e) (fun b J=>match oK .And b with|true=>some (b,J)|false=>(ovT R ls _ e false σ1).tb ls J .And [e2])=_;rw[vO];rfl)
def Tz.and(hb:aU Y.B M.Z)(I:aS M n R)(H:Tz M n e ls J true σ1)(H2:Tz M n e2 ls σ1 b σ2):Tz M n (.BoolOp .And [e,e2] pos) ls J b σ2:=by
 refine Tz.of hb (zy (Y:=Y) (vk (zy (Y:=Y) (vk I H2)) H)) ?_;show obp ((ovT {ovT R ls σ1 e2 b σ2 with tb:=pU Y (ovT R ls σ1 e2 b σ2)} ls J e true σ1).tst ls J e) (fun b' J=>match oK .And b' with|true=>some (b',J)|false=>pU Y (ovT R ls σ1 e2 b σ2) ls J .And [e2])=_;rw[vO];exact vO
def Yz.bl(I:aS M n R)(h:R.bl ls J op vs=some (v,σ1)):Yz M n (.BoolOp op vs pos) ls J v σ1:=by
 have D:cS M n (fun c=>eval (.BoolOp op vs pos) c.env) ls J v σ1:=I.bl h pos;exact⟨@D⟩
def Yz.and_no(hb:aU Y.B M.Z)(I:aS M n R)(H:Yz M n e ls J (.bool false) σ1):Yz M n (.BoolOp .And [e,e2] pos) ls J (.bool false) σ1:=Yz.bl (AQ hb (jw I H)) (by
 show obp ((ovR R ls J e (.bool false) σ1).ev ls J e) (fun v J=>ob (o0 Y.B J v) fun b=>match oK .And b with|true=>some (v,J)|false=>(ovR R ls _ e (.bool false) σ1).bl ls J .And [e2])=_;rw[jp];rfl)
def Yz.and(hb:aU Y.B M.Z)(I:aS M n R)(H:Yz M n e ls J (.bool true) σ1)(H2:Yz M n e2 ls σ1 v σ2):Yz M n (.BoolOp .And [e,e2] pos) ls J v σ2:=by
 refine Yz.bl (AQ hb (jw (AQ hb (jw I H2)) H)) ?_;show obp ((ovR {ovR R ls σ1 e2 v σ2 with bl:=qA Y (ovR R ls σ1 e2 v σ2)} ls J e (.bool true) σ1).ev ls J e) (fun v' J=>ob (o0 Y.B J v') fun b=>match oK .And b with|true=>some (v',J)|false=>qA Y (ovR R ls σ1 e2 v σ2) ls J .And [e2])=_;rw[jp];exact jp
def Dz.augN(hb:aU Y.B M.Z)(I:aS M n R)(h0:(lr x ls.sc&&oH op)=true)(h1:lk x ls.v=some a)(H:Yz M n e ls J v σ1)(h3:lV Y.B op a v=some r)(h4:mZ ls x r=some ls1):jt M n (.AugAssign (.Name x q) op e pos) ls J .next ls1 σ1:=by
 have D:bG M n (fun c=>exec (.AugAssign (.Name x q) op e pos) c.env) ls J .next ls1 σ1:=Cc hb (jw I H) _ (show Au Y (ovR R ls J e v σ1) ls J x op e=some (.next,ls1,σ1) by
  show gd (lr x ls.sc&&oH op) (ob (lk x ls.v) fun a=>obp ((ovR R ls J e v σ1).ev ls J e) fun b J=>ob (lV Y.B op a b) fun r=>ob (mZ ls x r) fun ls=>some (Fl.next,ls,J))=_;rw[h0,h1];rw[jp];show ob (lV Y.B op a v) (fun r=>ob (mZ ls x r) fun ls=>some (Fl.next,ls,σ1))=_;rw[h3];show ob (mZ ls x r) (fun ls=>some (Fl.next,ls,σ1))=_;rw[h4];rfl)
 exact⟨@D⟩
end
structure zb where
 t:Expr
 b:List Stmt
 p:Pos
def Fp(l:List Stmt)(i:Nat):zb:=match ao l i with|some (.While t b _ p)=>⟨t,b,p⟩|_=>⟨.Constant .none 0 default,[],default⟩
noncomputable def Nf(e:Expr):jl:=match e with|.UnaryOp .Not (.Call (.Attribute o x ap) as [] cp) p=>⟨o,x,ap,as,cp,p⟩|_=>⟨.Constant .none 0 default,"",default,[],default,default⟩
def D5(l:List Stmt)(i:Nat):jl:=match ao l i with|some (.Expr (.Call (.Attribute o x ap) as [] cp) p)=>⟨o,x,ap,as,cp,p⟩|_=>⟨.Constant .none 0 default,"",default,[],default,default⟩
noncomputable def jl.e(r:jl):Expr:=.Call (.Attribute r.o r.x r.ap) r.as [] r.cp
def oX:List Stmt:=(bR 330).body
def Wa:List (Str×NameKind):=(bR 330).sc
def fp:zb:=Fp oX 1
def Ak:jl:=Nf fp.t
def xO:jl:=D5 fp.b 1
def gq(ev:AV):ac:=⟨[(aO,.cell 5),(cQ,ev)],Wa⟩
def uJ:oX=bN 1 oX++[.While fp.t fp.b [] fp.p]∧fp.t=.UnaryOp .Not Ak.e Ak.p∧fp.b=bN 1 fp.b++(.Expr xO.e xO.p::bT 2 fp.b):=⟨by kernel_rfl,by kernel_rfl,by kernel_rfl⟩
abbrev IL (r:jl) (f:Addr) (ls:ac) (J:St):Prop:=(jk r.o&&r.ap.endLine.beq r.cp.line&&Nat.blt (lenA r.as+lenA ([]:List Keyword)+1) 30)=true∧(aA [] aq 0).ev ls J r.o=some (.cell 5,J)∧hY (eY [] aq) J (.cell 5) r.x=some (.meth f (.cell 5))∧(aA [] aq 0).evs ls J r.as=some ([],J)
section
def JU:IL Ak 337 (gq ev) (bj c x q):=⟨by kernel_rfl,by kernel_rfl,by kernel_rfl,by kernel_rfl⟩
def EA:IL xO m.sta (gq ev) (aW b z m v q en a y):=⟨by kernel_rfl,by kernel_rfl,by kernel_rfl,by kernel_rfl⟩
def HE:(aA [] aq 6).exs (gq ev) (aW b z m v (a::q) en .none y) (bN 1 fp.b)=some (.next,gq ev,aW b z m v q en a y):=by kernel_rfl
def Je:(aA [] aq 6).exs (gq ev) (aW b z m v q en a y) (bT 2 fp.b)=some (.next,gq ev,aW b z m v q en .none y):=by kernel_rfl
def C8:∃ c x,∀ q,aW b z m v q en e y=bj c x q:=⟨tO z 3 [some (.inst 771 [(ir,.cell 4)]),some (.rows (.k v.T) (.k v.n)),none,some (.list (dM m)),none,some (.list (dN m))],tO y 0 [some (.cell 3),some en,some (.cell 6),some (cL m.sta),some (.cell 7),some e,some (.cell 8),some m.inv,some (.int (.k (m.lvl))),none,none,none,none,some (I v.line),some (I v.col),some (.bool v.ws),some (.bool v.idn),some m.oe,some .none,some .none,some (I b),some (I 1000),some (.str (.k [10])),none,some .none,some .none,some .none,some .none],fun q=>by kernel_rfl⟩
end
inductive Go:List ξ→List Tk→Nat→List ξ→List Tk→Nat→ξ→Prop
 |stop {S:List ξ} {u:List Tk} {p:Nat}:S=[]∨cM (aP (u.take p))=true→Go S u p S u p []
 |step {S S':List ξ} {t:Tk} {u u':List Tk} {p p':Nat} {x tx:ξ}:cM (aP ((t::u).take (p+1)))=false→Go S u p S' u' p' tx→Go (x::S) (t::u) (p+1) S' u' p' (x++tx)
def LR(h:cM (k::r)=false)(hk:k=2∨k=6∨k=8):r≠[]:=fun e=>by
 subst e;rcases hk with rfl|rfl|rfl<;>injection h
section
variable (hb:2≤b∧b≤9)
theorem Iz(hT:∀ t∈T,t∈au)(hl:T.length≤4):Tz M 300 fp.t (gq ev) (aW b z m v (evs T) en .none y) (!cM (aP T)) (aW b z m v (evs T) en .none y):=by
 apply bJ (C8);intro c x e;rw[e];have N:=RC (M:=M) (c:=c) (x:=x) hT hl;apply ej (JU);intro h4 h1 h2 h3;rw[uJ.2.1];exact(Tz.not (Y:=eY [] aq) (fun U U h=>by injection h) (cU (c6 140) 300 0).E (Tz.call (Y:=eY [] aq) (fun U U h=>by injection h) (cU (c6 140) 300 0).E (BL (c6 140) N.1 N.2 h4 h1 h2 h3 rfl))).le (by decide)
theorem yd{u:List Tk}(h:∀ t∈u,t∈au)(hp:p≤4):(∀ t∈u.take p,t∈au)∧(u.take p).length≤4:=⟨fun t ht=>h t (List.mem_of_mem_take ht),WZ (XN _ _) hp⟩
include hb in
theorem Ey{t:Tk}{u:List Tk}(h:∀ t'∈t::u,t'∈au)(hp:p+1≤4)(hj:j+(t::u).length≤66)(hi:jj j m v t)(hm:cM (t.k::aP (u.take p))=false)(s:eV M.Z.P b t (hG u) m o x) :
   x6 M b j z m v (evs (u.take p)) en t y o x:=by
 refine O0 hb (by rw[dH] at hj;exact WZ (W0 _ _) (Xm hj)) hi (h t (.head _)) (E0 fun u' hu=>h u' (.tail _ hu)) (fun hk=>?_) s;have ne:=LR hm hk;clear s hj hm;cases p with
 |zero=>exact absurd rfl ne
 |succ p=>
  cases u with
  |nil=>exact absurd rfl ne
  |cons a u=>exact⟨evs (u.take p),rfl,by unfold evs;rw[Wr];exact WZ (XN _ _) (Nat.le_sub_one_of_lt (Xm hp))⟩
theorem Ml{t:Tk}(h1:fnIn M.K m.sta=true)(h2:Rz M 295 (aW b z m v q en t.ev y) m.sta [.cell 5] .none (aW b z m' v' q en t.ev y')):bc M 300 fp.b (gq ev) (aW b z m v (t.ev::q) en .none y) .next (gq ev) (aW b z m' v' q en .none y'):=by
 apply ej (EA);intro g4 g1 g2 g3;rw[uJ.2.2];exact((cV (by decide) HE).le (by decide)).append ((Dz.expr (cU (c6 270) 300 0).E (by kernel_rfl) (BL (c6 270) h1 h2 g4 g1 g2 g3 rfl)).cons ((cV (by decide) Je).le (by decide)))
theorem LT{t:Tk}(h1:fnIn M.K m.sta=true)(h2:fg false M 300 (aW b z m v q en t.ev y) m.sta [.cell 5] [] J):fj false M 300 (fun c=>execs fp.b c.env) (gq ev) (aW b z m v (t.ev::q) en .none y) J:=by
 apply ej (EA);intro g4 g1 g2 g3;have A:=cU (M:=M) (c6 270) 300 0;have G:=BG (pos:=xO.cp) (ls:=gq ev) (c6 270).hy A.E (ks:=[]) g2 g3 rfl h1 h2;have S:=cV (M:=M) (by decide) (HE (b:=b) (z:=z) (m:=m) (v:=v) (q:=q) (en:=en) (ev:=ev) (a:=t.ev) (y:=y));rw[uJ.2.2];have e1:bN 1 fp.b=[(ao fp.b 0).getD (.Pass default)]:=by kernel_rfl
 rw[e1] at S ⊢;exact fj.cons ⟨A.S.ex (by kernel_rfl)⟩ (fj.head (fj.exp (by kernel_rfl) (Bw A.E g4 g1 G.1.1 G.1.2 G.2)))
def Ku(P:Params)(b:Nat)(m:Md)(u:List Tk)(S:List ξ)(l:ξ):Prop:=List.rec False (fun t r _=>List.rec (eV P b t (hG r) m none l) (fun x S _=>∃ m',eV P b t (hG r) m (some m') x∧Rn P b m' r S l) S) u
theorem Rn.inv(r:Rn P b m u S l):Ku P b m u S l:=Rn.casesOn r (fun s=>s) fun s r=>⟨_,s,r⟩
include hb in
theorem KC(g:Go S u p S' u' p' tx):∀ {m:Md} {j:Nat} {v:Es} {y:Nat→AV},Rn M.Z.P b m u S l→(∀ t∈u,t∈au)→p≤4→p≤u.length→j+u.length≤66→jj j m v (hG u) →
  (cM (aP (u'.take p'))=true→∃ (m':Md) (j':Nat) (v':Es) (y':Nat→AV),Wz M 300 fp.t fp.b (gq ev) (aW b z m v (evs (u.take p)) en .none y) (gq ev) (aW b z m' v' (evs (u'.take p')) en .none y')∧v'.T=v.T++tx∧Rn M.Z.P b m' u' S' l∧jj j' m' v' (hG u')∧j'+u'.length=j+u.length) ∧
  (cM (aP (u'.take p'))=false→∃ c xx n,m8 M 300 fp.t fp.b (gq ev) (aW b z m v (evs (u.take p)) en .none y) (xV c xx (v.T++tx++l) n)∧(v.T++tx).length≤40000):=by
 induction g with
 |@stop S u p hs=>
  intro m j v y r h hp hl hj hi;have T:=Iz (M:=M) (ev:=ev) (b:=b) (z:=z) (en:=en) (m:=m) (v:=v) (y:=y) (yd h hp).1 (yd h hp).2;refine⟨fun hm=>⟨m,j,v,y,.stop (by rw[hm] at T;exact T),(aX _).symm,r,hi,rfl⟩,fun hm=>?_⟩;rw[hm] at T;rw[hs.elim id fun e=>by rw[hm] at e;injection e] at r;cases p with
  |zero=>injection hm
  |succ p=>
   cases u with
   |nil=>exact r.inv.elim
   |cons t u=>
   have s:=r.inv;clear r hs;apply jo ((Ey hb h hp hj hi hm s));intro n c xx f1 R;rw[aX];exact⟨c,xx,n,m8.stop T (LT f1 R),WZ (mB (WZ (W0 _ _) hj) hi.n.T) (nleT rfl)⟩
 |@step S S' t u u' p p' x tx hm _ ih=>
  intro m j v y r h hp hl hj hi;have T:=Iz (M:=M) (ev:=ev) (b:=b) (z:=z) (en:=en) (m:=m) (v:=v) (y:=y) (yd h hp).1 (yd h hp).2;rw[hm] at T;apply af r.inv;intro m' s r;apply m7 ((Ey hb h hp hj hi hm s));intro v' y' f1 R h1 h2 h3;apply ay (ih r (fun t' ht=>h t' (.tail _ ht)) (Nat.le_of_succ_le hp) (by rw[dH] at hl;exact XF hl) (show j+1+u.length≤66 by rw[dH] at hj;exact WZ (W7 (Xo _ _ _)) hj) (MK hb hi (h t (.head _)) s h2 h3));intro i1 i2;have Yb:=Ml (ev:=ev) f1 R;rw[h1] at i1 i2;refine⟨fun hm'=>?_,fun hm'=>?_⟩
  ·apply kb (i1 hm');intro m2 j2 v2 y2 W e1 r2 i3 e2
   exact⟨m2,j2,v2,y2,.go T Yb W,by rw[e1,bP],r2,i3,by rw[e2,dH];exact Xo _ _ _⟩
  ·apply jo (i2 hm');intro c xx n W L
   rw[bP v.T x tx] at W L;exact⟨c,xx,n,.go T Yb W,L⟩
end
def Il:jT where
 B:=[]
 sp:=aq
 d:=5
 fr:=[]
 ls:=gq (.any 1)
 P:=bB (tO ak.any 7 [some (.spl 7 [])]) (tO (fun i=>.any (30+i)) 4 [some (.cell 7)])
 ss:=bN 1 oX
 f:=.next
 k:=2
 out:=[(aO,.cell 5),(cQ,.any 1)]
 Q:=bB (tO ak.any 7 [some (.spl 7 [.any 1])]) (tO (fun i=>.any (30+i)) 4 [some (.cell 7)])
def Nw:Il.chk=true:=by kernel_rfl
section
def SJ{q:List AV}(hq:q.length≤1000):bc M 150 (bN 1 oX) (gq ev) (bj c x q) .next (gq ev) (bj c x (q++[ev])):=by
 refine(jP (v:=vW x (tn .none [.none,ev])) (z:=tO c 7 [some (.seg q)]) rfl M.he Il (fun U U h=>by injection h) ⟨rfl,(by decide),rfl⟩ Nw).cast rfl ?_ rfl rfl ?_
 ·show bB (tO c 7 [some (dq (.seg q) [])]) (tO x 4 [some (.cell 7)])=_
  rw[(dk (WZ hq (by decide)) (by decide)).trans (by rw[aX])];rfl
 ·show bB (tO c 7 [some (dq (.seg q) [ev])]) (tO x 4 [some (.cell 7)])=_
  rw[dk (WZ hq (by decide)) (by show 1≤50000;decide)];rfl
def IG(hf:gt f jb=some (bR f))(hb:fE (bR f).args (bR f).dflt vs []=some ls)
  (D:bc M n (bR f).body ⟨ls,(bR f).sc⟩ J .next L J') (hl:gN (lenA J) .none J'=σ2):fnIn M.K f=true∧Rz M (n+5) J f vs .none σ2:=by
 apply ay ((yC (Ai _)).hf f _ hf);intro g1 g2;refine⟨g1,?_⟩;have H:bV M (n+5) J f vs [] .none (gN (lenA J) .none J'):=uF g2 hb (Wm _) (.inr ⟨rfl,rfl⟩) D.h;rw[hl] at H;exact⟨@H⟩
def Ts(hb:2≤b∧b≤9)(g:Go S u p S' u' p' tx)(hT:T0++[t]=u.take p)(r:Rn M.Z.P b m u S l)(hu:∀ t∈u,t∈au)(hp:p≤4)(hpu:p≤u.length)(hj:j+u.length≤66)(hi:jj j m v (hG u)) :
  (cM (aP (u'.take p'))=true→∃ (m':Md) (j':Nat) (v':Es) (y':Nat→AV),(fnIn M.K 330=true∧Rz M 305 (aW b z m v (evs T0) en .none y) 330 [.cell 5,t.ev] .none (aW b z m' v' (evs (u'.take p')) en .none y'))∧v'.T=v.T++tx∧Rn M.Z.P b m' u' S' l∧jj j' m' v' (hG u')∧j'+u'.length=j+u.length) ∧
  (cM (aP (u'.take p'))=false→∃ c xx n,fnIn M.K 330=true∧fg false M 305 (aW b z m v (evs T0) en .none y) 330 [.cell 5,t.ev] [] (xV c xx (v.T++tx++l) n)∧(v.T++tx).length≤40000):=by
 apply ay (KC hb g r hu hp hpu hj hi);intro i1 i2;have hf:gt 330 jb=some (bR 330):=by kernel_rfl
 have hbd:fE (bR 330).args (bR 330).dflt [.cell 5,t.ev] []=some [(aO,.cell 5),(cQ,t.ev)]:=by kernel_rfl
 apply bJ (C8);intro c x e;have l4:(evs T0).length≤1000:=by
  have:=congrArg List.length hT;rw[aB] at this;unfold evs;rw[Wr];exact WZ (WZ (W0 _ _) (W7 this)) (WZ (XN _ _) (WZ hp (nleT rfl)))
 have A:=(SJ (M:=M) (c:=c) (x:=x) (ev:=t.ev) l4).le (show 150≤300 by decide);have ea:evs T0++[t.ev]=evs (u.take p):=by rw[←hT];unfold evs;rw[Wl];rfl
 rw[ea,←e,←e] at A;refine⟨fun h=>?_,fun h=>?_⟩
 ·apply bJ (i1 h);intro m' j' hr1;apply gF hr1;intro v' y' W h1
  refine⟨m',j',v',y',IG hf hbd (L:=gq t.ev) (J':=aW b z m' v' (evs (u'.take p')) en .none y') ?_ rfl,h1⟩;show bc _ _ oX _ _ _ _ _;rw[uJ.1];exact A.append (Dz.one (Dz.while_ W))
 ·apply jo (i2 h);intro c' xx n W L
  refine⟨c',xx,n,?_⟩;have P:=(c6 (M:=M) 0).hf 330 _ hf;refine⟨P.1,MU P.2 hbd (n':=300) (by decide) ?_,L⟩;show jx _ _ (fun c=>execs oX c.env) _ _ _;rw[uJ.1];exact jx.append A (jx.head (jx.while_ W))
end
structure Dg where
 k1:Expr
 k2:Expr
 k3:Expr
 v1:Expr
 v2:Expr
 v3:Expr
 dp:Pos
 x:Str
 ap:Pos
 as:List Expr
 cp:Pos
noncomputable def ML(e:Expr):Dg:=match e with|.Call (.Attribute (.Dict [some k1,some k2,some k3] [v1,v2,v3] dp) x ap) as [] cp=>⟨k1,k2,k3,v1,v2,v3,dp,x,ap,as,cp⟩|e=>⟨e,e,e,e,e,e,default,"",default,[],default⟩
noncomputable def Dg.e(g:Dg):Expr:=.Call (.Attribute (.Dict [some g.k1,some g.k2,some g.k3] [g.v1,g.v2,g.v3] g.dp) g.x g.ap) g.as [] g.cp
noncomputable def jA(e:Expr):κ Int:=match e with|.Constant (.int i) _ _=>some i|_=>none
def pK(h:jA e=some i):∃ q p,e=.Constant (.int i) q p:=by
 cases e with
 |Constant c q p=>cases c<;>first|(have eq9:=bM h;subst eq9;exact⟨q,p,rfl⟩)|injection h
 |_=>injection h
structure GY (g:Dg):Prop where
 k1:jA g.k1=some 2
 k2:jA g.k2=some 6
 k3:jA g.k3=some 8
 v1:jA g.v1=some 1
 v2:jA g.v2=some 2
 v3:jA g.v3=some 3
 x:g.x="get"
 ap:g.ap.endLine=g.cp.line
 as:g.as.length=2
def L6{E:Θ}{Q:List (π×π)→χ→Prop}
  (h:∀ tk u1 u2 u3 t1 t2 t3,Q [(.int a1 u1,.int b1 t1),(.int a2 u2,.int b2 t2),(.int a3 u3,.int b3 t3)] {s with toks:=tk}):wpAny (model prog w) A (evalPairs [(mkInt a1,do let x ←mkInt b1;standAt dp;pure x),(mkInt a2,do let x ←mkInt b2;standAt dp;pure x),(mkInt a3,do let x ←mkInt b3;standAt dp;pure x)]) Q E s:=by
 refine evalPairs_cons (wpAny_mkInt (Wg (wpAny_mkInt (Wg (Wt (Wi ?_))))));refine evalPairs_cons (wpAny_mkInt (Wg (wpAny_mkInt (Wg (Wt (Wi ?_))))));refine evalPairs_cons (wpAny_mkInt (Wg (wpAny_mkInt (Wg (Wt (Wi ?_))))));exact evalPairs_nil (h _ _ _ _ _ _ _)
def QN{k:Nat}(hk:k<10){t1 t2 t3 u:Tok}:∃ t,((valueAt [((2:Int),Value.int 1 t1),(6,.int 2 t2),(8,.int 3 t3)] (k:Int)).getD (.int 0 u))=.int (wt k:Nat) t:=by
 apply kP hk<;>exact⟨_,rfl⟩
section
def Oi(IO:aS M n R){g:Dg}(hg:GY g){k:Nat}(hk:k<10)(h1:R.evs ls J g.as=some ([I k,I 0],σ1)):Yz M n g.e ls J (I (wt k)) σ1:=⟨by
 obtain⟨k1,k2,k3,v1,v2,v3,dp,x,ap,as,cp⟩:=g;obtain⟨a1,a2,a3,b1,b2,b3,hx,hap,has⟩:=hg;dsimp only at a1 a2 a3 b1 b2 b3 hx hap has h1;apply bJ (pK a1);intro _ _ e0;clear a1;subst e0;apply bJ (pK a2);intro _ _ e0;clear a2;subst e0;apply bJ (pK a3);intro _ _ e0;clear a3;subst e0;apply bJ (pK b1);intro _ _ e0;clear b1;subst e0;apply bJ (pK b2);intro _ _ e0;clear b2;subst e0;apply bJ (pK b3);intro _ _ e0;clear b3;subst e0;subst hx;have n1:=(IO.evs h1).1.1;intro c A s m imm cs Q E C l Rp kk;have form:methodCallForm (as.length+([]:List Keyword).length) (backTo cp (starEach as c.env)) (backToKw cp (keywordEach [] c.env))=true:=by
  rw[m9 cp n1,ye];unfold methodCallForm;simp only [Wj,List.all_map,XK,decide_eq_true_eq];refine⟨⟨fun U U=>rfl,et⟩,?_⟩;rw[has]
  split<;>simp
 show wpAny _ _ (do
  let ov ←eval (.Dict [some (.Constant (.int 2) _ _),some (.Constant (.int 6) _ _),some (.Constant (.int 8) _ _)] [.Constant (.int 1) _ _,.Constant (.int 2) _ _,.Constant (.int 3) _ _] dp) c.env
  standAt ap.atName
  methodCall (.Dict [some (.Constant (.int 2) _ _),some (.Constant (.int 6) _ _),some (.Constant (.int 8) _ _)] [.Constant (.int 1) _ _,.Constant (.int 2) _ _,.Constant (.int 3) _ _] dp) "get" ap cp c.env ov (as.length+([]).length) (backTo cp (starEach as c.env)) (backToKw cp (keywordEach [] c.env))) _ _ _
 refine Wg ?_;refine wpAny_Dict_pairs (knd:=intKind ar M.w) (pairs:=[(mkInt 2,do let x ←mkInt 1;standAt dp;pure x),(mkInt 6,do let x ←mkInt 2;standAt dp;pure x),(mkInt 8,do let x ←mkInt 3;standAt dp;pure x)]) rfl nofun (Xc rfl) ?_;refine L6 fun tk u1 u2 u3 t1 t2 t3=>?_;refine⟨[(2,.int 1 t1),(6,.int 2 t2),(8,.int 3 t3)],⟨intKind_is _ _ _ _,rfl,intKind_is _ _ _ _,rfl,intKind_is _ _ _ _,rfl,trivial⟩,Heap.DictOf.new s.heap,fun h' hd hs=>?_⟩;rw[merged_nil_of_nodup _ (by simp)] at hd;apply af (Heap.dictOf_iff.mp hd);intro o ho hdo;have kp:=fun b o e=>hs.extBut b o (WV (WI e)) (Heap.get?_push_of_some _ e);have R1:=Rp.kept kp (Wm _) ho;refine Wg (Wt ?_);unfold methodCall;rw[form];have hpos:∀ (o:Expr),methodCallPos true o c.env ap cp=pure cp:=fun o=>by
  unfold methodCallPos;rw[if_pos (by simp [hap])]
 refine Wg (Wo (kdg_method R1.N (aK _ (.head _)) hdo ?_));show wpAny _ _ (methodCallPos true _ c.env ap cp >>= fun callPos=>callWith callPos _ _ _ _) _ _ _;rw[hpos];refine Wg (Wi ?_);refine B5 IO h1 C l R1 fun h2 tk2 i2 c2 vals R2 x2 v2=>?_;apply cD v2.inv;intro va r1 e1 q1 v3;apply cD v3.inv;intro vb r2 e2 q2 v4;have e3:=v4.inv;subst e1 e2;replace e3:=e3;clear v4 v3 v2;subst e3;apply bn q1.inv;intro ta ea;apply bn q2.inv;intro tb eb;subst ea eb;rw[bH,bH];apply bn (QN hk);intro t ht;refine kdg_get2 R2.N (aK _ (x2.i _ (.head _))) hdo (IB C.T.g Rp.F.keep) (intKind_is _ _ _ _) _ rfl ?_;rw[ht];exact kk h2 (tk2+1) i2 c2 _ R2 ⟨fun p hp=>x2.i p (.tail _ hp),x2.r⟩ (.int (bH _).symm)⟩
end
structure Sx where
 o:Expr
 s:Expr
 p:Pos
noncomputable def Ej(e:Expr):Sx:=match e with|.Subscript o s p=>⟨o,s,p⟩|e=>⟨e,e,default⟩
def Yz.idx{Y:Pi}(P:jB M b Y){R:aM}(I:aS M n R)(H:Yz M n o ls J v σ1)(hne:s≠o)(h2:R.ev ls σ1 s=some (i,σ2))(h3:mc Y.B σ2 v i=some r):Yz M n (.Subscript o s pos) ls J r σ2:=by
 have D:cS M n (fun c=>eval (.Subscript o s pos) c.env) ls J r σ2:=G5 (jw I H) (show z5 Y (ovR R ls J o v σ1) ls J o s=some (r,σ2) by
  have e:(ovR R ls J o v σ1).ev ls σ1 s=R.ev ls σ1 s:=if_neg fun h=>hne h.2.2;show obp ((ovR R ls J o v σ1).ev ls J o) (fun v' J'=>obp ((ovR R ls J o v σ1).ev ls J' s) fun i J=>ob (mc Y.B J v' i) fun r=>some (r,J))=_;rw[jp];show obp ((ovR R ls J o v σ1).ev ls σ1 s) (fun i J=>ob (mc Y.B J v i) fun r=>some (r,J))=_;rw[e,h2];show ob (mc Y.B σ2 v i) (fun r=>some (r,σ2))=_;rw[h3];rfl)
 exact⟨@D⟩
def l5:List Stmt:=(bR 810).body
def iV:List (Str×NameKind):=(bR 810).sc
def oi:gY:=iu l5 0
def lU:Dg:=ML oi.e
def fX:Sx:=Ej ((ao lU.as 0).getD oi.e)
def dL:nR:=qD l5 2
def nY:gY:=iu dL.b 0
def iY:Sx:=Ej nY.e
def wH:l5=.Assign oi.ts lU.e oi.p::([(ao l5 1).getD (.Pass default)]++.For dL.t dL.it dL.b [] dL.p::bT 3 l5)∧lU.as=.Subscript fX.o fX.s fX.p::bT 1 lU.as∧dL.b=.Assign nY.ts (.Subscript iY.o iY.s iY.p) nY.p::bT 1 dL.b:=⟨by kernel_rfl,by kernel_rfl,by kernel_rfl⟩
def Ud:GY lU:=⟨by kernel_rfl,by kernel_rfl,by kernel_rfl,by kernel_rfl,by kernel_rfl,by kernel_rfl,by kernel_rfl,by kernel_rfl,by kernel_rfl⟩
def yZ:fX.s≠fX.o∧iY.s≠iY.o:=by
 have h:jA fX.s=some 0∧jA fX.o=none∧jA iY.s=some 0∧jA iY.o=none:=⟨by kernel_rfl,by kernel_rfl,by kernel_rfl,by kernel_rfl⟩;refine⟨fun e=>?_,fun e=>?_⟩
 ·injection (h.1.symm.trans ((congrArg jA e).trans h.2.1))
 ·injection (h.2.2.1.symm.trans ((congrArg jA e).trans h.2.2.2))
def dg(d w:Nat)(l:AV)(e:List (Str×AV)):ac:=⟨[(bu,.cell 0),(cX,I d),(tu,I w),(xY,l)]++e,iV⟩
def gJ(m:Nat)(k:AV):List (Str×AV):=[(mR,I m),(jI,k)]
def eS(w:Nat):ξ→Nat→Nat:=Nat.rec (fun _ _=>0) (fun _ ih ks l=>List.rec 0 (fun k r _=>Option.rec 1 (fun l'=>1+ih r l') (gz k l)) ks) w
section
variable {d w m:Nat}{t:Tk}
def TI:(aA [] aq 12).ev ⟨[(bu,.cell 0),(cX,I d)],iV⟩ (.list xs::X) fX.o=ob (iZ xs (.k (d:Int))) fun r=>some (r,.list xs::X):=by kernel_rfl
def KO:(aA [] aq 12).ev (dg d w (I l) [(mR,I m)]) (.list xs::X) iY.o=ob (iZ xs (.k (m:Int))) fun r=>some (r,.list xs::X):=by kernel_rfl
def UG:(aA [] aq 12).ev (dg d w (I l) (gJ m e)) (.list xs::X) iY.o=ob (iZ xs (.k (m:Int))) fun r=>some (r,.list xs::X):=by kernel_rfl
def zF:(aA [] aq 12).ev ⟨[(bu,.cell 0),(cX,I d)],iV⟩ X fX.s=some (I 0,X)∧(aA [] aq 12).ev (dg d w (I l) [(mR,I m)]) X iY.s=some (I 0,X)∧(aA [] aq 12).ev (dg d w (I l) (gJ m e)) X iY.s=some (I 0,X)∧mc [] X t.av (I 0)=some (I t.k):=⟨by kernel_rfl,by kernel_rfl,by kernel_rfl,by kernel_rfl⟩
def OJ:(aA [] aq 12).evs ⟨[(bu,.cell 0),(cX,I d)],iV⟩ X (bT 1 lU.as)=some ([I 0],X):=by kernel_rfl
def JL:(aA [] aq 12).asgm ⟨[(bu,.cell 0),(cX,I d)],iV⟩ X (I w) oi.ts=some (⟨[(bu,.cell 0),(cX,I d),(tu,I w)],iV⟩,X):=by kernel_rfl
def P2:(aA [] aq 6).exs ⟨[(bu,.cell 0),(cX,I d),(tu,I w)],iV⟩ X [(ao l5 1).getD (.Pass default)]=some (.next,dg d w (I 0) [],X):=by kernel_rfl
def Kq:(aA [] aq 6).ev (dg d w (I 0) []) X dL.it=gd (Nat.ble (d+w+1) 1000) (gd (Nat.ble (d+1) (d+w+1)) (some (.rng (d+1) (d+w+1-(d+1)),X))):=by kernel_rfl
def GO:(aA [] aq 0).asg (dg d w (I l) []) X (.int (.k (.ofNat m))) dL.t=some (dg d w (I l) [(mR,I m)],X)∧(aA [] aq 0).asg (dg d w (I l) (gJ k e)) X (.int (.k (.ofNat m))) dL.t=some (dg d w (I l) (gJ m e),X):=⟨by kernel_rfl,by kernel_rfl⟩
def Hz:(aA [] aq 12).asgm (dg d w (I l) [(mR,I m)]) X (I k) nY.ts=some (dg d w (I l) (gJ m (I k)),X)∧(aA [] aq 12).asgm (dg d w (I l) (gJ m e)) X (I k) nY.ts=some (dg d w (I l) (gJ m (I k)),X):=⟨by kernel_rfl,by kernel_rfl⟩
def HN(k l d w m:Nat)(X:St):κ (Fl×ac×St):=Option.rec (some (.ret (I m),dg d w (Bool.rec (I (-1)) (I l) (k.beq 1)) (gJ m (I k)),X)) (fun l'=>some (.next,dg d w (I l') (gJ m (I k)),X)) (gz k l)
def PZ:(List.range 10).map (fun (k:Nat)=>(List.range 4).map fun (l:Nat)=>(aA [] aq 8).exs (dg d w (I l) (gJ m (I k))) X (bT 1 dL.b))=(List.range 10).map (fun (k:Nat)=>(List.range 4).map fun (l:Nat)=>HN k l d w m X):=by kernel_rfl
def QH:(aA [] aq 6).exs (dg d w e []) X (bT 3 l5)=some (.ret (I (d+w:Nat)),dg d w e [],X):=by kernel_rfl
end
section
variable {R:List Tk}(hR:∀ t∈R,t∈au)
theorem uA{i:Nat}{t:Tk}(h:R[i]?=some t):iZ (R.map Tk.av) (.k (i:Int))=some t.av:=yb (by rw[List.getElem?_map,h];rfl)
def hJ(suf:List Tk):Prop:=∃ p t,suf=p++[t]∧t.k=1
theorem Ma{l:Nat}(at1:R[m]?=some t)(h4:e=[]∨∃ k v,e=gJ k v):∃ e0,Az M 150 dL.t (.int (.k (.ofNat m))) (dg d wv (I l) e) (rowC R::X) e0 (rowC R::X)∧jt M 150 (.Assign nY.ts (.Subscript iY.o iY.s iY.p) nY.p) e0 (rowC R::X) .next (dg d wv (I l) (gJ m (I t.k))) (rowC R::X):=by
 have A:=cU (kd (M:=M)) 300 12;refine h4.elim (fun h=>?_) fun h=>?_
 ·apply ej (zF (d:=d) (w:=wv) (l:=l) (m:=m) (X:=rowC R::X) (t:=t) (e:=.none));intro _ s1 s2 s3
  rw[h];exact⟨_,kK (GO (k:=0) (e:=.none)).1,Dz.asg (n:=150) A.E A.S (by kernel_rfl) (Yz.idx kd A.E (cO (M:=M) (d:=12) (Wm _) (v:=t.av) (J':=rowC R::X) ((KO (d:=d) (w:=wv) (m:=m) (l:=l) (xs:=R.map Tk.av) (X:=X)).trans (by rw[uA at1];rfl))) yZ.2 s1 s3) (Hz (e:=.none)).1⟩
 ·apply bJ h;intro k v h
  apply ej (zF (d:=d) (w:=wv) (l:=l) (m:=m) (X:=rowC R::X) (t:=t) (e:=v));intro _ _ s5 s3;rw[h];exact⟨_,kK GO.2,Dz.asg (n:=150) A.E A.S (by kernel_rfl) (Yz.idx kd A.E (cO (M:=M) (d:=12) (Wm _) (v:=t.av) (J':=rowC R::X) ((UG (d:=d) (w:=wv) (m:=m) (l:=l) (e:=v) (xs:=R.map Tk.av) (X:=X)).trans (by rw[uA at1];rfl))) yZ.2 s5 s3) Hz.2⟩
include hR in
theorem Qw{wt:Nat}:∀ {m l:Nat} {pre suf:List Tk} {e:List (Str×AV)},R=pre++suf→pre.length=m→l+wt≤3→(e=[]∨∃ k v,e=gJ k v)→(wt=0∨hJ suf) →
  (∃ ls' r,m+eS wt (aP suf) l=r+1∧jh M 150 (lenA X+1) dL.t dL.b m wt (dg d wv (I l) e) (rowC R::X) (.ret (I r)) ls' (rowC R::X)) ∨
  (eS wt (aP suf) l=wt∧∃ lv e',(e'=[]∨∃ k v,e'=gJ k v)∧jh M 150 (lenA X+1) dL.t dL.b m wt (dg d wv (I l) e) (rowC R::X) .next (dg d wv lv e') (rowC R::X)):=by
 induction wt with
 |zero=>exact fun {m l pre suf e} _ _ _ h _=>.inr ⟨rfl,_,e,h,.done⟩
 |succ wt ih=>
  intro m l pre suf e h1 h2 h3 h4 h5;apply gF (h5.resolve_left (Nat.succ_ne_zero _));intro p z h5 hz;cases suf with
  |nil=>cases p<;>cases h5
  |cons t suf=>
   have k9:=(cY (hR t (by rw[h1];exact bF _ (.head _)))).1;have at1:R[m]?=some t:=by rw[h1,List.getElem?_append_right (h2▸Wm _),h2,XT];rfl
   apply af (Ma (M:=M) (wv:=wv) (d:=d) (X:=X) (l:=l) at1 h4);intro e0 az D;have bd:=X3 (X3 (PZ (d:=d) (w:=wv) (m:=m) (X:=rowC R::X)) t.k (dc k9)) l (dc (W8 (WZ (W0 _ _) h3) (nleT rfl)));unfold HN at bd;have hr:eS (wt+1) (aP (t::suf)) l=Option.rec 1 (fun l'=>1+eS wt (aP suf) l') (gz t.k l):=rfl;rw[hr];cases q:gz t.k l with
   |none=>
    rw[q] at bd;have C:=(D.cons (cV (M:=M) (f:=.ret (I m)) (ls':=dg d wv (Bool.rec (I (-1)) (I l) (t.k.beq 1)) (gJ m (I t.k))) (J':=rowC R::X) (d:=8) (by decide) bd)).gk (k:=lenA X+1);rw[←wH.2.2] at C;exact .inl ⟨_,m,rfl,.ret az C⟩
   |some l'=>
    rw[q] at bd;have Yb:Gk M 150 (lenA X+1) (fun c=>execs dL.b c.env) e0 (rowC R::X) .next (dg d wv (I l') (gJ m (I t.k))) (rowC R::X):=by
     rw[wH.2.2];exact(D.cons (cV (d:=8) (by decide) bd)).gk
    have en:wt=0∨hJ suf:=by
     cases p with
     |nil=>
      injection h5 with h5 _;rw[h5,hz] at q;injection q
     |cons a p=>
      injection h5 with _ h5;exact .inr ⟨p,z,h5,hz⟩
    refine(ih (m:=m+1) (l:=l') (pre:=pre++[t]) (e:=gJ m (I t.k)) (by rw[h1,bP];rfl) (by rw[aB,h2];rfl) (WZ (W4 (FE k9 q) _) (WZ (W7 (Xo ..)) h3)) (.inr ⟨_,_,rfl⟩) en).elim (fun h=>?_) fun h=>?_
    ·apply gF h;intro ls' r i1 i2
     exact .inl ⟨ls',r,by rw[←i1,Xo];exact(Nat.add_assoc m _ 1).symm▸congrArg _ (XA 1 _),.step az Yb i2⟩
    ·apply ay h;intro i1 h;apply gF h;intro lv e' i2 i3
     exact .inr ⟨by show 1+eS wt (aP suf) l'=wt+1;rw[i1];exact XA _ _,lv,e',i2,.step az Yb i3⟩
include hR in
theorem MJ{pre suf:List Tk}{t:Tk}(hl:R.length≤66)(h1:R=pre++t::suf)(h2:wt t.k=0∨hJ suf):fnIn M.K 810=true∧Rz M 155 (rowC R::X) 810 [.cell 0,I pre.length] (I (pre.length+eS (wt t.k) (aP suf) 0:Nat)) (rowC R::X):=by
 have w3:=FA t.k;have at1:R[pre.length]?=some t:=by rw[h1,List.getElem?_append_right (Wm _),XT];rfl
 have A:=cU (kd (M:=M)) 300 12;apply ej (zF (w:=0) (l:=0) (m:=0) (e:=.none));intro s1 _ _ s3;have y2:=Yz.idx (pos:=fX.p) (kd) A.E (cO (Wm _) ((TI (X:=X)).trans (by rw[uA at1];rfl))) yZ.1 s1 s3;have D0:jt M 150 (.Assign oi.ts lU.e oi.p) ⟨[(bu,.cell 0),(cX,I pre.length)],iV⟩ (rowC R::X) .next ⟨[(bu,.cell 0),(cX,I pre.length),(tu,I (wt t.k))],iV⟩ (rowC R::X):=by
  refine Dz.asg A.E A.S (by kernel_rfl) (Oi (C1 (Y:=eY [] aq) (jw A.E y2)) Ud ((cY (hR t (by rw[h1];exact bF _ (.head _)))).1) ?_) JL;rw[wH.2.1];show gd (fJ (.Subscript fX.o fX.s fX.p)) (obp ((ovR (aA [] aq 12) (⟨[(bu,.cell 0),(cX,I pre.length)],iV⟩) (rowC R::X) (.Subscript fX.o fX.s fX.p) (I t.k) (rowC R::X)).ev (⟨[(bu,.cell 0),(cX,I pre.length)],iV⟩) (rowC R::X) (.Subscript fX.o fX.s fX.p)) fun v J=>obp ((aA [] aq 12).evs (⟨[(bu,.cell 0),(cX,I pre.length)],iV⟩) J (bT 1 lU.as)) fun vs J=>some (v::vs,J))=_;rw[jp];show obp ((aA [] aq 12).evs (⟨[(bu,.cell 0),(cX,I pre.length)],iV⟩) (rowC R::X) (bT 1 lU.as)) (fun vs J=>some (I t.k::vs,J))=_;rw[OJ];rfl
 have yi:=cO (M:=M) (by decide) ((Kq (X:=rowC R::X)).trans (by
  rw[Wn (by exact W8 (Xb (WZ (by rw[h1,aB];exact W0 ..) hl) w3) (nleT rfl)),Wn (by exact XD (Xy _)),show pre.length+wt t.k+1-(pre.length+1)=wt t.k from (Nat.succ_sub_succ _ _).trans (WD ..)];rfl))
 have hf:gt 810 jb=some (bR 810):=by kernel_rfl
 have hb:fE (bR 810).args (bR 810).dflt [.cell 0,I pre.length] []=some [(bu,.cell 0),(cX,I pre.length)]:=by kernel_rfl
 have fin:∀ {r:Nat} {L:ac},Gk M 150 (lenA X+1) (fun c=>execs (.For dL.t dL.it dL.b [] dL.p::bT 3 l5) c.env) (dg pre.length (wt t.k) (I 0) []) (rowC R::X) (.ret (I r)) L (rowC R::X)→fnIn M.K 810=true∧Rz M 155 (rowC R::X) 810 [.cell 0,I pre.length] (I r) (rowC R::X):=fun {r L} D=>by
  have X9:bc M 150 l5 ⟨[(bu,.cell 0),(cX,I pre.length)],iV⟩ (rowC R::X) (.ret (I r)) L (rowC R::X):=by
   rw[wH.1];exact D0.cons ((cV (M:=M) (d:=6) (by decide) (P2 (d:=pre.length) (w:=wt t.k) (X:=rowC R::X))).append (Gk.dz (Wm _) D))
  refine xU hf hb X9 ?_;show (match Nat.beq (lenA (rowC R::X)) (lenA (rowC R::X)) with|true=>_|false=>_)=_;rw[Xz]
 rcases (Qw (M:=M) hR (X:=X) (d:=pre.length) (wv:=wt t.k) (wt:=wt t.k) (m:=pre.length+1) (l:=0) (pre:=pre++[t]) (suf:=suf) (e:=[]) (by rw[h1,bP];rfl) (by rw[aB];rfl) (W1 w3 _) (.inl rfl) h2) with ⟨ls',r,i1,i2⟩|⟨i1,lv,e',i2,i3⟩
 ·have:pre.length+eS (wt t.k) (aP suf) 0=r:=by lia
  rw[this];exact fin (Gk.ret (Gk.range (by kernel_rfl) (by kernel_rfl) yi i2))
 ·rw[i1]
  have G:Gk M 150 (lenA X+1) (fun c=>exec (.For dL.t dL.it dL.b [] dL.p) c.env) (dg pre.length (wt t.k) (I 0) []) (rowC R::X) .next (dg pre.length (wt t.k) lv []) (rowC R::X):=by
   refine Gk.post (ls':=dg pre.length (wt t.k) lv e') rfl (fun x v hx=>oG (b:=e') (show lk x [(bu,.cell 0),(cX,I pre.length),(tu,I (wt t.k)),(xY,lv)]=some v from hx)) (Gk.range (by kernel_rfl) (by kernel_rfl) yi i3)
  exact fin (Gk.cons G (cV (M:=M) (d:=6) (by decide) (QH (d:=pre.length) (w:=wt t.k) (e:=lv) (X:=rowC R::X))).gk)
end
def O2:(fun P:Params=>nsIn (bY P) mainGlobals dI)=fun _=>some (some (.ref 277)):=by kernel_rfl
def Mh:(fun P:Params=>excIn (bY P) 277 qG "Exception.__new__")=fun _=>true:=by kernel_rfl
structure Tc (c:Cx) (A:Around):Prop where
 h:∃ A₀,A=A₀.deeper c.env∧Below A₀ c.h₀ c.outer c.h₀
 b:c.base=c.h₀
structure Td (M:aF) (n:Nat) (t:Cx→Sem Flow) (ls:ac) (J:St) (f:Fl) (ls':ac) (J':St):Prop where
 h:∀ {c A s m imm cs} {Q:Flow→χ→Prop} {E:Θ},Tc c A→aR M c A n→bL c ls→ai M c.h₀ c.L s.heap m ls.v J imm cs →
  (∀ h' tk m' imm' cs' fl,ai M c.h₀ c.L h' m' ls'.v J' imm' cs'→bL c ls'→aE imm cs imm' cs'→FR M imm' cs' fl f→Q fl (sU s h' tk))→wpAny (model ar M.w) A (t c) Q E s
section
def Dz.td(h:Dz M n t ls J f ls' J'):Td M n t ls J f ls' J':=⟨fun _ C l R k=>h.h C l R k⟩
def Td.le(hn:n'≤n)(h:Td M n' t ls J f ls' J'):Td M n t ls J f ls' J':=⟨fun T C=>h.h T (C.le hn)⟩
def Td.cons{st:Stmt}{r:List Stmt}{ls ls1 ls2:ac}{J σ1 σ2:St}{f:Fl}(h1:Td M n (fun c=>exec st c.env) ls J .next ls1 σ1)(h2:Td M n (fun c=>execs r c.env) ls1 σ1 f ls2 σ2):Td M n (fun c=>execs (st::r) c.env) ls J f ls2 σ2:=⟨by
 intro c A s m imm cs Q E T C l Rp k;refine WX (h1.h T C l Rp fun hx tx mx ix cx fl Rx lx xx fx=>?_);(obtain e:_=_:=FR.inv fx;clear fx;subst e);exact h2.h T C lx Rx fun h2 t2 m2 i2 c2 fl R2 l2 x2 f2=>k h2 t2 m2 i2 c2 fl R2 l2 (xx.trans x2) f2⟩
def Td.append(h1:Td M n (fun c=>execs a c.env) ls J .next ls1 σ1)(h2:Td M n (fun c=>execs b c.env) ls1 σ1 f ls2 σ2):Td M n (fun c=>execs (a++b) c.env) ls J f ls2 σ2:=⟨by
 intro c A s m imm cs Q E T C l Rp k;rw[qL];refine Wg (h1.h T C l Rp fun hx tx mx ix cx fl Rx lx xx fx=>?_);(obtain e:_=_:=FR.inv fx;clear fx;subst e);exact h2.h T C lx Rx fun h2 t2 m2 i2 c2 fl R2 l2 x2 f2=>k h2 t2 m2 i2 c2 fl R2 l2 (xx.trans x2) f2⟩
def Td.ret{st:Stmt}{r:List Stmt}{ls ls1:ac}{J σ1:St}{v:AV}(h1:Td M n (fun c=>exec st c.env) ls J (.ret v) ls1 σ1):Td M n (fun c=>execs (st::r) c.env) ls J (.ret v) ls1 σ1:=⟨by
 intro c A s m imm cs Q E T C l Rp k;refine WX (h1.h T C l Rp fun hx tx mx ix cx fl Rx lx xx fx=>?_);apply af (FR.inv fx);intro _ e0 hv;clear fx;subst e0;exact k hx tx mx ix cx _ Rx lx xx (.ret hv)⟩
def Td.try_ok(h:bc M n body ls J .next ls' J'):Td M n (fun c=>exec (.Try body (h0::hs) [] [] pos) c.env) ls J .next ls' J':=⟨by
 intro c A s m imm cs Q E T C l Rp k;refine wpAny_Try_except (h.h C l Rp fun hx tx mx ix cx fl Rx lx xx fx=>?_);have fx':=fx;(obtain e:_=_:=FR.inv fx;clear fx;subst e);exact wpAny_execs_nil (k hx tx mx ix cx _ Rx lx xx fx')⟩
end
section
def Td.try_x{ls:ac}(h0:ke e=true)(hg:nj dI ls.sc=true)(hx:lr x ls.sc=true)(H:tJ false M n (fun c=>eval e c.env) ls J J') :
  Td M n (fun c=>exec (.Try (.Expr e ep::rest) [.ExceptHandler (some (.Name dI np)) none [.Assign [.Name x xp] (.Constant (.bool true) q cp2) ap] hp] [] [] pos) c.env) ls J .next {ls with v:=Mine.put x (.bool true) ls.v} J':=⟨by
 intro c A s m imm cs Q E T C l Rp k;apply af T.h;intro A₀ eA Yb;have hint:interactive c.env=false:=by
  unfold interactive;rw[c.parts.1,C.k];rfl
 have ee:c.env=envOf c.cn c.cs c.L c.a c.cd:=rfl;apply ay (c.fr_is);intro f1 f2;have gl:=by
  have:=Fe hg;rw[l.sc] at this;exact this
 refine wpAny_Try_except (WX (wpAny_Expr_any (H.h C l Rp fun e h' tk imm' cs' G x'=>?_) hint (wP h0 _ _ _)));rcases G.g with ⟨g,_⟩|⟨g₂,t,vs,G1,G2,G3⟩
 ·injection g
 ·rw[T.b,f1] at G3
  have done:∀ {h2:Heap} {A':Around} {Q':Flow→χ→Prop} {E':Θ},Fr c.h₀ c.L h2 m→News c.h₀ c.L h2 (imm'++aQ cs')→(∀ h3 tk m3,ai M c.h₀ c.L h3 m3 (Mine.put x (.bool true) ls.v) J' imm' cs'→bL c {ls with v:=Mine.put x (.bool true) ls.v}→Q' .next (sU s h3 tk))→wpAny (model ar M.w) A' (execs [.Assign [.Name x xp] (.Constant (.bool true) q cp2) ap] c.env) Q' E' (sU s h2 tk):=fun {h2 A' Q' E'} F N kk=>by
   have R2:ai M c.h₀ c.L h2 m ls.v J' imm' cs':=⟨F,N,G.nd,G.C,G.l⟩;have hk:=by
    have h1:=yG hx;rw[l.sc] at h1;exact h1
   refine WX (wpAny_Assign_Name (wpAny_Constant_bool ?_));apply ej c.parts;intro p1 p2 p3 p4;refine wpAny_storeName_local (by unfold Env.kindOf;rw[p1];exact hk) (by rw[p2];exact R2.F.ns) (fun h' hn hs=>?_) (by rw[p1,C.k];rfl);rw[p2] at hn hs;refine wpAny_execs_nil (kk h' _ _ (R2.store (.bool true) hn hs) ⟨l.sc,fun y u hy=>?_,l.nd⟩);replace hy:=hy;rw[y5] at hy
   by_cases e:y=x
   ·rw[e];exact hk
   ·rw[if_neg e] at hy;exact l.lo y u hy
  subst eA;rw[ee] at G3 done ⊢;have X:=caught_O0 (s':=sU s h' tk) (np:=np) (pos:=hp) (rest:=[]) Yb G1 G2 G3 C.X C.T (congrFun O2 M.w.params) (congrFun Mh M.w.params) (by decide)
   (fun h2 news₂ F N2 _ N=>done F N fun h3 tk3 m3 R3 l3=>k h3 tk3 m3 imm' cs' _ R3 l3 x' .next) C.k gl (by decide +kernel) .never
  refine WQ X (fun _ s2 h2=>WQ h2 (fun _ s3 h3=>WQ h3 (fun _ _ z=>z) fun _ _ z=>z.elim) fun _ _ z=>z.elim) fun _ _ z=>z.elim⟩
end
section
inductive oz (M:aF) (n:Nat) (t:Expr) (b:List Stmt):Nat→Nat→ac→St→Fl→ac→St→Prop
 |done {j:Nat} {ls:ac} {J:St}:oz M n t b j 0 ls J .next ls J
 |step {j m:Nat} {ls ls0 ls1 ls2:ac} {J σ0 σ1 σ2:St} {f:Fl}:Az M n t (.int (.k (.ofNat j))) ls J ls0 σ0→Td M n (fun c=>execs b c.env) ls0 σ0 .next ls1 σ1→oz M n t b (j+1) m ls1 σ1 f ls2 σ2→oz M n t b j (m+1) ls J f ls2 σ2
 |ret {j m:Nat} {ls ls0 ls1:ac} {J σ0 σ1:St} {v:AV}:Az M n t (.int (.k (.ofNat j))) ls J ls0 σ0→Td M n (fun c=>execs b c.env) ls0 σ0 (.ret v) ls1 σ1→oz M n t b j (m+1) ls J (.ret v) ls1 σ1
def UJ(ht:jv t=true)(h:oz M n t b j m ls J f ls' J') :
  ∀ {c A s mm imm cs I} {Rq:Result→χ→Prop},Tc c A→aR M c A n→bL c ls→ai M c.h₀ c.L s.heap mm ls.v J imm cs→(I,dW j m)∈imm →
  (∀ h' tk m' imm' cs' fl,ai M c.h₀ c.L h' m' ls'.v J' imm' cs'→bL c ls'→(∀ q∈imm,q.1≠I→q∈imm')→(∀ k a,ao (ae cs) k=some a→ao (ae cs') k=some a)→FR M imm' cs' fl f→Rq (.ok fl) (sU s h' tk))→codeAny (model ar M.w) A (.forLoop t (.ref I) b [] c.env) Rq s:=by
 induction h with
 |done=>
  intro c A s mm imm cs I Rq T C l R hi q;refine kE (Ho C R hi fun h' tk imm' R' x'=>?_);exact wpAny_execs_nil (q h' tk mm imm' cs _ R' l x' (fun _ _ h=>h) .next)
 |step hs hg _ ih=>
  intro c A s mm imm cs I Rq T C l R hi q;refine kE (vc C R hi fun h' tk imm' val R' x' hi' hv=>?_);refine nF ht (R'.N _ (aK _ hi')).1 ⟨by dsimp only [cF,dW];decide,by dsimp only [lE,dW];decide⟩ ?_;refine hs.h C l R' hv fun ha ta ma ia ca Ra la xa=>?_;refine hg.h T C la Ra fun hz tz mz iz cz fl Rz lz xz fz=>?_;(obtain e:_=_:=FR.inv fz;clear fz;subst e);exact ih T C lz Rz (xz.i _ (xa.i _ hi')) fun h2 t2 m2 i2 c2 fl R2 l2 x2 y2 f2=>q h2 t2 m2 i2 c2 fl R2 l2 (fun p hp hne=>x2 p (xz.i p (xa.i p (x' p hp hne))) hne) (fun i a h=>y2 i a (xz.r i a (xa.r i a h))) f2
 |ret hs hg=>
  intro c A s mm imm cs I Rq T C l R hi q;refine kE (vc C R hi fun h' tk imm' val R' x' hi' hv=>?_);refine nF ht (R'.N _ (aK _ hi')).1 ⟨by dsimp only [cF,dW];decide,by dsimp only [lE,dW];decide⟩ ?_;refine hs.h C l R' hv fun ha ta ma ia ca Ra la xa=>?_;refine hg.h T C la Ra fun hz tz mz iz cz fl Rz lz xz fz=>?_;apply af (FR.inv fz);intro _ e0 hv2;clear fz;subst e0;exact q hz tz mz iz cz _ Rz lz (fun p hp hne=>xz.i p (xa.i p (x' p hp hne))) (fun i a h=>xz.r i a (xa.r i a h)) (.ret hv2)
def Td.range(ht:jv t=true)(hit:lh it=true)(hy:Yz M n it ls J (.rng a j) σ0)(h:oz M n t b a j ls σ0 f ls' J') :
  Td M n (fun c=>exec (.For t it b [] pos) c.env) ls J f ls' J':=⟨by
 intro c A s m imm cs Q E T C l R q;rw[exec_For];refine Wg (Wt (Wg (hy.h C l R fun hx tx ix cx va Rx xx qx=>?_)));apply lw qx.inv;intro aa tt uu vv e0 hb hle;clear qx;subst e0;have hfold:foldedSetIterable it c.env (.ref aa)=pure (.ref aa):=by
  clear hy;induction it using PySem.Expr.casesOn<;>first|rfl|(exact Bool.noConfusion hit)
 rw[hfold];refine Wg (Wi (Wg (Wt (Wg (Wo ?_)))));refine wpAny_pyIter_range ((Rx.N _ (aK _ hb)).1) (small_one (cT _) (Xe (bw (WZ (W0 _ _) hle)) (by decide)) (cT _) (Xe (X5 hle) (by decide))) ?_;rw[AE a j];refine wpAny_runOwn (UJ ht h T C l (Rx.newI (dW a j) rfl) (.head _) fun h' tk m' imm' cs' fl R' l' x' y' f'=>?_);refine q h' tk m' imm' cs' _ R' l' ⟨fun p hp=>x' p (.tail _ (xx.i p hp)) fun e=>?_,fun i a h=>y' i a (xx.r i a h)⟩ f';have:=WI (Rx.N p (aK _ (xx.i p hp))).1;rw[e] at this;exact X0 _ this⟩
end
def Eg(h:hJ (t::r))(e:gz t.k l≠none):hJ r:=by
 apply gF h;intro p x e1 e2;cases p with
 |nil=>
  injection e1 with e3 e4;subst e3;exact absurd (by rw[e2];rfl) e
 |cons a p=>injection e1 with e3 e4;exact⟨p,x,e4,e2⟩
def E1(h:hJ []):False:=by
 apply gF h;intro p x e1 _;cases p<;>cases e1
def LS:∀ {suf:List Tk} {q l:Nat},(w=0∨hJ suf)→q≤suf.length→(!ed (aP (suf.take q)) l&&q.blt w)=q.blt (eS w (aP suf) l):=by
 induction w with
 |zero=>exact fun {suf q l} _ _=>by cases ed (aP (suf.take q)) l<;>rfl
 |succ w ih=>
  intro suf q l h hq;cases suf with
  |nil=>exact(h.elim (fun e=>by cases e) E1).elim
  |cons t r=>
   cases q with
   |zero=>
    show true=Nat.blt 0 (Option.rec 1 (fun l'=>1+eS w (aP r) l') (gz t.k l));cases gz t.k l with
    |none=>rfl
    |some l'=>
     show true=Nat.blt 0 (1+eS w (aP r) l');rw[XA];rfl
   |succ q=>
    show (!(Option.rec true (ed (aP (r.take q))) (gz t.k l))&&Nat.blt (q+1) (w+1))=Nat.blt (q+1) (Option.rec 1 (fun l'=>1+eS w (aP r) l') (gz t.k l));cases e:gz t.k l with
    |none=>clear hq;cases q<;>rfl
    |some l'=>
     have:=ih (l:=l') (.inr (Eg (h.elim (fun e=>by cases e) id) (by rw[e];exact Option.some_ne_none _))) (XF hq);show (!(ed (aP (r.take q)) l')&&q.blt w)=Nat.blt (q+1) (1+eS w (aP r) l');rw[XA 1];exact this
def Qe:∀ {suf:List Tk} {l:Nat},(w=0∨hJ suf)→eS w (aP suf) l≤suf.length:=by
 induction w with
 |zero=>exact fun {suf l} _=>WK _
 |succ w ih=>
  intro suf l h;cases suf with
  |nil=>exact(h.elim (fun e=>by cases e) E1).elim
  |cons t r=>
   show (Option.rec 1 (fun l'=>1+eS w (aP r) l') (gz t.k l))≤r.length+1;cases e:gz t.k l with
   |none=>exact W9 (WK _)
   |some l'=>
    have:=ih (l:=l') (.inr (Eg (h.elim (fun e=>by cases e) id) (by rw[e];exact Option.some_ne_none _)));lia
def Gw{t:Tk}(h:wt t.k=0∨hJ suf)(hq:q≤suf.length):cM (aP ((t::suf).take (q+1)))=q.blt (eS (wt t.k) (aP suf) 0):=by
 show (Bool.rec (!ed (aP (suf.take q)) 0&&Nat.blt (lenA (aP (suf.take q))) (wt t.k)) false (Nat.beq (wt t.k) 0):Bool)=_;have e:lenA (aP (suf.take q))=q:=by
  rw[aZ];unfold aP;rw[Wr,Xk];exact Xx hq
 rw[e,←LS h hq];cases hb:Nat.beq (wt t.k) 0 with
 |false=>rfl
 |true=>
  rw[aJ hb];cases ed (aP (suf.take q)) 0<;>rfl
def IS{e:Tk}(he:e.k=1):∀ {pre suf:List Tk} {t:Tk},R++[e]=pre++t::suf→wt t.k=0∨hJ suf:=by
 intro pre suf t h;rcases List.eq_nil_or_concat suf with g|⟨s,x,g⟩
 ·subst g
  have:=by
   have:=congrArg List.getLast? h;rw[List.getLast?_concat,List.getLast?_concat] at this;injection this
  left;rw[←this,he];rfl
 ·right
  have g':suf=s++[x]:=by rw[g,List.concat_eq_append]
  have:=by
   have:=congrArg List.getLast? h;rw[g',←WO,←XW,List.getLast?_concat,List.getLast?_concat] at this;injection this
  exact⟨s,x,g',by rw[←this];exact he⟩
def Tr:∀ {S:List ξ} {u:List Tk} {p:Nat},∃ S' u' p' tx,Go S u p S' u' p' tx:=by
 intro S;induction S with
 |nil=>exact fun {u p}=>⟨[],u,p,[],.stop (.inl rfl)⟩
 |cons x S ih=>
  intro u p;cases hm:cM (aP (u.take p)) with
  |true=>exact⟨_,_,_,_,.stop (.inr hm)⟩
  |false=>
   cases u with
   |nil=>rw[List.take_nil] at hm;cases hm
   |cons t u=>
    cases p with
    |zero=>cases hm
    |succ p=>
     apply bJ (ih);intro S' u' hr1;apply bJ hr1;intro p' tx g;exact⟨S',u',p',_,.step hm g⟩
def LG(h:Rn P b m u S l):S.length<u.length:=by
 induction h with
 |stop=>exact Xy _
 |go _ _ ih=>exact Nat.succ_lt_succ ih
section
variable {m:Md}{t:Tk}
def wQ(h:eV P b t nx m o x)(hk:t.k=0∨t.k=1∨t.k=3):wn (fun m'=>iR m.pl t.k=true∧m'=m.dn t nx) o:=by
 have e:t.ab (ag t nx)=.no t.k:=by
  rcases hk with e|e|e<;>(unfold Tk.ab;rw[e];rfl)
 induction h with
 |doc _ a=>exact⟨a,rfl⟩
 |root d=>rw[e] at d;cases d
 |node d=>rw[e] at d;cases d
 |end1 a=>rw[e] at a;cases a
 |end2 a=>rw[e] at a;cases a
 |_=>trivial
def Hp(h:eV P b t nx m o x):wn (fun m'=>m'.pl≠0∧(m'.pl=1→t.k=0∨t.k=3)) o:=by
 have two:∀ {p:Nat},p=2→p≠0∧(p=1→t.k=0∨t.k=3):=fun e=>by rw[e];exact⟨by decide,fun h=>by cases h⟩
 induction h with
 |@doc m _ d=>
  show py (t.ad m.fi nx 0)≠0∧(py (t.ad m.fi nx 0)=1→_);unfold Tk.ad;generalize m.pl=p at d;generalize t.k=k at d ⊢;induction p,k,d using rD
  ·exact⟨(by decide:(1:Nat)≠0),fun _=>.inl rfl⟩
  ·exact⟨(by decide:(4:Nat)≠0),fun h=>by cases h⟩
  ·exact⟨(by decide:(2:Nat)≠0),fun h=>by cases h⟩
  ·exact⟨(by decide:(1:Nat)≠0),fun _=>.inr rfl⟩
 |root=>
  show (Bool.rec 3 2 _)≠0∧((Bool.rec 3 2 _)=1→_);cases bz (t.ab (ag t nx)) with
  |true=>exact two rfl
  |false=>exact⟨(by decide),fun h=>by cases h⟩
 |node=>exact two rfl
 |end1=>exact⟨(by decide:(3:Nat)≠0),fun h=>by cases h⟩
 |end2=>exact two rfl
 |_=>trivial
def Aa(h:iR m.pl t.k=true)(hk:t.k=0∨t.k=1∨t.k=3):m.pl=t.k:=by
 generalize m.pl=p at h ⊢;generalize t.k=k at h hk ⊢;induction p,k,h using rD<;>first|rfl|(rcases hk with h|h|h<;>cases h)
end
def Oy{p al e:Tk}(hp:p.k=0∨p.k=1∨p.k=3∨p.k=al.k)(he:e.k=1):∀ {R:List Tk} {m:Md},∃ S l,Rn P b m (R++[p,al,e]) S l:=by
 intro R;induction R with
 |nil=>
  intro m;apply bJ (vg P b m p al);intro o x h1;cases o with
  |none=>exact⟨_,_,.stop h1⟩
  |some m1=>
   apply bJ (vg P b m1 al e);intro o y h2;cases o with
   |none=>exact⟨_,_,.go h1 (.stop h2)⟩
   |some m2=>
    apply bJ (vg P b m2 e q3);intro o z h3;cases o with
    |none=>exact⟨_,_,.go h1 (.go h2 (.stop h3))⟩
    |some m3=>
     exfalso;have a:=Aa (wQ h3 (.inr (.inl he))).1 (.inr (.inl he));rw[he] at a;rcases (Hp h2).2 a with k|k
     ·have q:=Aa (wQ h2 (.inl k)).1 (.inl k)
      rw[k] at q;exact(Hp h1).1 q
     ·have q:=Aa (wQ h2 (.inr (.inr k))).1 (.inr (.inr k))
      rw[k] at q hp;have hp':p.k=0∨p.k=1∨p.k=3:=by rcases hp with h|h|h|h<;>simp [h]
      rw[(wQ h1 hp').2] at q;replace q:py (p.ad m.fi al 0)=3:=q;rcases hp' with h|h|h<;>(unfold Tk.ad at q;rw[h] at q;cases q)
 |cons t R ih=>
  intro m;apply bJ (vg P b m t (hG (R++[p,al,e])));intro o x h1;cases o with
  |none=>exact⟨_,_,.stop h1⟩
  |some m1=>
   apply bJ (ih);intro S l h;exact⟨_,_,.go h1 h⟩
structure ow where
 a:Expr
 x:Str
 q:Pos
 as:List Expr
 cp:Pos
 ops:List CmpOp
 rs:List Expr
 p:Pos
 p2:Pos
noncomputable def FG(e:Expr):ow:=match e with|.BoolOp .And [a,.Compare (.Call (.Name x q) as [] cp) ops rs p] p2=>⟨a,x,q,as,cp,ops,rs,p,p2⟩|e=>⟨e,"",default,[],default,[],[],default,default⟩
noncomputable def ow.c(r:ow):Expr:=.Call (.Name r.x r.q) r.as [] r.cp
def ow.e(r:ow):Expr:=.BoolOp .And [r.a,.Compare r.c r.ops r.rs r.p] r.p2
structure C4 where
 x:Str
 q:Pos
 op:Operator
 e:Expr
 p:Pos
def ND(l:List Stmt)(i:Nat):C4:=match ao l i with|some (.AugAssign (.Name x q) op e p)=>⟨x,q,op,e,p⟩|_=>⟨"",default,.Add,.Constant .none 0 default,default⟩
structure El where
 b:List Stmt
 np:Pos
 x:Str
 xp:Pos
 q:Nat
 ap:Pos
 kp:Pos
 hp:Pos
 p:Pos
def M8(l:List Stmt)(i:Nat):El:=match ao l i with|some (.Try b [.ExceptHandler (some (.Name _ np)) none [.Assign [.Name x xp] (.Constant (.bool true) q kp) ap] hp] [] [] p)=>⟨b,np,x,xp,q,ap,kp,hp,p⟩|_=>⟨[],default,"",default,0,default,default,default,default⟩
def gO:List Stmt:=(bR 829).body
def dE:List (Str×NameKind):=(bR 829).sc
def eH:nR:=qD gO 17
def ic:zb:=Fp eH.b 0
def j9:ow:=FG ic.t
def j0:C4:=ND ic.b 0
def jq:gY:=iu eH.b 1
def ko:ow:=FG jq.e
def df:El:=M8 eH.b 2
def gM:jl:=D5 df.b 0
structure uV where
 x:Str
 q:Pos
 as:List Expr
 cp:Pos
noncomputable def Ew(e:Expr):uV:=match e with|.Call (.Name x q) as [] cp=>⟨x,q,as,cp⟩|_=>⟨"",default,[],default⟩
noncomputable def uV.e(r:uV):Expr:=.Call (.Name r.x r.q) r.as [] r.cp
def mK:uV:=Ew ((ao gM.as 0).getD jq.e)
def ng:eH.b=.While ic.t ic.b [] ic.p::.Assign jq.ts jq.e jq.p::.Try df.b [.ExceptHandler (some (.Name dI df.np)) none [.Assign [.Name df.x df.xp] (.Constant (.bool true) df.q df.kp) df.ap] df.hp] [] [] df.p::bT 3 eH.b∧ic.t=j9.e∧jq.e=ko.e ∧
 ic.b=.AugAssign (.Name j0.x j0.q) j0.op j0.e j0.p::bT 1 ic.b∧df.b=.Expr gM.e gM.p::bT 1 df.b∧gM.as=[mK.e]∧df.x=iH:=⟨by kernel_rfl,by kernel_rfl,by kernel_rfl,by kernel_rfl,by kernel_rfl,by kernel_rfl,by kernel_rfl⟩
def bx(l T:ξ)(d:Nat)(e:List (Str×AV)):ac:=⟨[(bu,.cell 0),(c9,.cell 1),(ip,.str (.k l)),(mM,.cell 5),(fK,.str (.k T)),(nw,I d)]++e,dE⟩
section
def JB:(aA [] aq 12).tst (bx l T d [(bI,I i)]) (.list xs::.list ps::X) j9.a=some (jY (d:Int) (lenA ps:Int),.list xs::.list ps::X):=by kernel_rfl
def J8:(aA [] aq 0).ev (bx l T d [(bI,I i)]) X (.Name j9.x j9.q)=some (.fn 810,X)∧(aA [] aq 0).evs (bx l T d [(bI,I i)]) X j9.as=some ([.cell 0,I d],X)∧∀ r:Nat,(aA [] aq 0).cc (bx l T d [(bI,I i)]) X (I r) j9.ops j9.rs=some (!jY (i:Int) (r:Int),X):=⟨by kernel_rfl,by kernel_rfl,fun r=>by kernel_rfl⟩
def Jp:(aA [] aq 0).ev (bx l T d [(bI,I i)]) X (.Name ko.x ko.q)=some (.fn 810,X)∧(aA [] aq 0).evs (bx l T d [(bI,I i)]) X ko.as=some ([.cell 0,I d],X)∧∀ r:Nat,(aA [] aq 0).cc (bx l T d [(bI,I i)]) X (I r) ko.ops ko.rs=some (!jY (i:Int) (r:Int),X):=⟨by kernel_rfl,by kernel_rfl,fun r=>by kernel_rfl⟩
def Ny:(aA [] aq 12).ev (bx l T d [(bI,I i)]) (.list xs::.list ps::X) ko.a=some (.bool (jM (d:Int) (lenA ps:Int)),.list xs::.list ps::X):=by kernel_rfl
def Ul:(aA [] aq 12).ev (bx l T d [(bI,I i)]) (.list xs::.list ps::X) j0.e=ob (iZ ps (.k (d:Int))) fun r=>some (r,.list xs::.list ps::X):=by kernel_rfl
def Ro:(lr j0.x dE&&oH j0.op)=true∧lk j0.x (bx l T d [(bI,I i)]).v=some (.str (.k T))∧mZ (bx l T d [(bI,I i)]) j0.x (.str (.k x))=some (bx l x d [(bI,I i)])∧j0.op=.Add:=⟨by kernel_rfl,by kernel_rfl,by kernel_rfl,by kernel_rfl⟩
def TH:(aA [] aq 6).exs (bx l T d [(bI,I i)]) X (bT 1 ic.b)=some (.next,bx l T (d+1) [(bI,I i)],X):=by kernel_rfl
end
def MZ{p:Ps}:(SS.val Z (p.lead ln s).t).length≤(SS.val Z ln).length+3:=by
 have a:∀ l:ξ,l.length≤3→(SS.val Z [.lit l]).length≤(SS.val Z ln).length+3:=fun l h=>by
  show (l++[]).length≤_;rw[aX];exact WZ h (Xn ..)
 have z:(SS.val Z []).length≤(SS.val Z ln).length+3:=WK _;have c:∀ x:Nat,(SS.val Z (ln.app (dy x))).length≤(SS.val Z ln).length+3:=fun x=>by
  rw[cE,aB];exact W1 (by decide:1≤3) _
 cases p with
 |root mk=>exact z
 |fq b=>cases b<;>first|exact z|exact a _ (by decide)
 |bq b=>exact c _
 |fm q=>
  show (SS.val Z (Bool.rec (Bool.rec (Bool.rec ⟨[.lit [32,58]],true,false⟩ ⟨dy 58,true,false⟩ (q.beq 2)) (Bool.rec ⟨[.lit [44,32,63]],true,false⟩ ⟨dy 44,true,false⟩ s) (q.beq 1)) (Bool.rec ⟨dy 63,true,false⟩ ⟨[],false,false⟩ s) (q.beq 0):Ld).t).length≤_;cases q.beq 0<;>cases s<;>cases q.beq 1<;>cases q.beq 2<;>first|exact z|exact a [32,58] (by decide)|exact a [58] (by decide)|exact a [44,32,63] (by decide)|exact a [44] (by decide)|exact a [63] (by decide)
 |bm q=>
  show (SS.val Z (Bool.rec (Bool.rec (Bool.rec ⟨SS.app ln (dy 63),true,true⟩ ⟨ln,false,false⟩ s) ⟨SS.app ln (dy 58),true,true⟩ (q.beq 3)) ⟨dy 58,true,false⟩ (q.beq 2):Ld).t).length≤_;cases q.beq 2<;>cases q.beq 3<;>cases s<;>first|exact a [58] (by decide)|exact c 63|exact c 58|exact W0 (SS.val Z ln).length 3
def QX{f:Fm}{p:Ps}:(SS.val (f.εR P b w nk) p.lnR).length≤f.col+f.ah.length+1:=by
 have a:(SS.val (f.εR P b w nk) [.lit [10],.rep 32 (V 6)]).length≤f.col+f.ah.length+1:=by
  show ([10]++(List.replicate ((V 6).val (f.εR P b w nk)).toNat 32++[])).length≤_;rw[xl,aB,aX,Wk,Int.toNat_natCast];show 1+f.col≤_;lia
 have z:(SS.val (f.εR P b w nk) ei).length≤f.col+f.ah.length+1:=by
  show (f.ah++[]).length≤_;rw[aX];exact Xs (Xn _ _)
 cases p with
 |root mk=>exact z
 |fq b=>exact z
 |bq b=>cases b<;>first|exact a|exact z
 |fm q=>exact z
 |bm q=>cases q<;>first|exact a|exact z
def O8(h:cW j m)(s:eV P b t nx m o x):(Option.rec (x.length≤18*j+5) (fun _=>True) o:Prop):=by
 induction s with
 |docx=>exact WK _
 |@ref _ _ _ _ o=>
  show _≤_;unfold Md.ld;refine WZ MZ ?_;unfold Md.Z;refine WZ (W4 QX 3) ?_;unfold Md.f;cases o with
  |none=>exact Xn 4 _
  |some f=>
   have a:=(h.tp f rfl).col;have c:=(h.tp f rfl).ah;clear h;show f.col+f.ah.length+1+3≤_;lia
 |_=>trivial
def UY(hb:2≤b∧b≤9)(r:Rn P b m u S l):∀ {j:Nat},cW j m→j+u.length≤66→l.length≤2000:=by
 induction r with
 |stop s=>exact fun {j} h hj=>WZ (O8 h s) (WZ (W4 (W5 _ (WZ (W0 _ _) hj)) _) (nleT rfl))
 |go s _ ih=>exact fun {j} h hj=>ih (yP hb h s) (by rw[dH] at hj;exact WZ (W7 (Xo _ _ _)) hj)
def LW:(SS.k a).app (SS.k b)=SS.k (a++b):=by
 cases a with
 |nil=>rfl
 |cons x a=>
  cases b with
  |nil=>show [Pc.lit (x::a)]=[.lit (x::a++[])];rw[aX]
  |cons y b=>rfl
def Uo:(SS.k a).len=.k (a.length:Int):=by
 cases a with
 |nil=>rfl
 |cons x a=>
  show (aD.k (.ofNat (lenA (x::a)))).add (.k 0)=_;rw[aZ];rfl
def Uy{a:ξ}(h:a.length≤1000000):i7 [] (.k a)=some (.str (.k a)):=by
 have e:me [] (SS.k a).len (.k 1000000)=some true:=by
  rw[Uo];show some (!Nat.blt 1000000 a.length)=_;cases q:Nat.blt 1000000 a.length with
  |false=>rfl
  |true=>exact absurd (Xc q) (Nat.not_lt_of_le h)
 unfold i7;rw[e]
section
variable {R:List Tk}(hR:∀ t∈R,t∈au)(hl:R.length≤66){p:Nat}
include hR hl
theorem Ue(h1:R=pre++t::suf)(h2:wt t.k=0∨hJ suf)(hd:pre.length=d)(hi:i+1=d+p)(hp:p≤suf.length+1):fnIn M.K 810=true∧∃ r:Nat,Rz M 155 (rowC R::X) 810 [.cell 0,I d] (I r) (rowC R::X)∧(!jY (i:Int) (r:Int))=!cM (aP ((t::suf).take p)):=by
 apply ay (MJ hR hl h1 h2);intro r1 r2;rw[hd] at r2;refine⟨r1,_,r2,?_⟩;rw[w8];cases p with
 |zero=>
  show (!Nat.blt i (d+eS (wt t.k) (aP suf) 0))=!true;rw[show i.blt (d+eS (wt t.k) (aP suf) 0)=true from Wn (Xs (W7 hi))]
 |succ q=>
  rw[Gw h2 (XF hp)];have:i=d+q:=(Nat.succ.inj hi);rw[this];cases z:Nat.blt q (eS (wt t.k) (aP suf) 0) with
  |true=>
   rw[show Nat.blt (d+q) (d+eS (wt t.k) (aP suf) 0)=true from Wn (Xl (Xc z) _)]
  |false=>
   cases y:Nat.blt (d+q) (d+eS (wt t.k) (aP suf) 0) with
   |false=>rfl
   |true=>
    rw[show q.blt (eS (wt t.k) (aP suf) 0)=true from Wn (Nat.lt_of_add_lt_add_left (Xc y))] at z;cases z
theorem Ol(h1:R=pre++t::suf)(h2:wt t.k=0∨hJ suf)(hd:pre.length=d)(hi:i+1=d+p)(hp:p≤suf.length+1):Tz M 160 (.Compare j9.c j9.ops j9.rs j9.p) (bx l T d [(bI,I i)]) (rowC R::X) (!cM (aP ((t::suf).take p))) (rowC R::X)∧Yz M 160 (.Compare ko.c ko.ops ko.rs ko.p) (bx l T d [(bI,I i)]) (rowC R::X) (.bool (!cM (aP ((t::suf).take p)))) (rowC R::X):=by
 apply ay (Ue hR hl h1 h2 hd hi hp);intro f1 hr1;apply af hr1;intro r f2 f3;have A:=cU (c6 (M:=M) 130) 300 0;apply cw (J8);intro a1 a2 a3;apply cw (Jp);intro b1 b2 b3;rw[←f3];exact⟨Tz.cmp (Y:=eY [] aq) (fun U U h=>by injection h) A.E (sC (c6 130) f1 f2 a1 a2 rfl) (a3 r),Yz.cmp A.E (sC (c6 130) f1 f2 b1 b2 rfl) (b3 r)⟩
end
section
variable (hR:∀ t∈R,t∈au)(hl:R.length≤66)(hE:∀ {pre suf:List Tk} {t:Tk},R=pre++t::suf→wt t.k=0∨hJ suf){S:List ξ}(hS:S.length<R.length)
structure At (R:List Tk) (S S1:List ξ) (u:List Tk) (d:Nat):Prop where
 r:∃ pre,R=pre++u∧pre.length=d
 s:∃ sp,S=sp++S1∧sp.length=d
theorem At.cons(h:At R S (x::S1) (t::u) d):At R S S1 u (d+1):=by
 obtain⟨hq68,hq69⟩:=h;apply af hq68;intro pre h1 h2;apply af hq69;intro sp h3 h4;exact⟨⟨pre++[t],by rw[h1,bP];rfl,by rw[aB,h2];rfl⟩,⟨sp++[x],by rw[h3,bP];rfl,by rw[aB,h4];rfl⟩⟩
theorem At.lt(h:At R S S1 u d):S.length=d+S1.length∧R.length=d+u.length:=by
 obtain⟨hq70,hq71⟩:=h;apply af hq70;intro pre h1 h2;apply af hq71;intro sp h3 h4;rw[h1,h3,aB,aB,h2,h4];exact⟨rfl,rfl⟩
theorem At.ne(h:At R S S1 u d)(hS:S.length<R.length):∃ t s,u=t::s:=by
 apply ay h.lt;intro h1 h2;clear h;cases u with
 |nil=>rw[h1,h2] at hS;exact absurd hS (Nat.not_lt_of_le (W0 _ _))
 |cons t s=>exact⟨t,s,rfl⟩
include hR hl hE hS
theorem A7(h:At R S S1 u d)(hi:i+1=d+p)(hp:p≤u.length):Tz M 160 ic.t (bx l T d [(bI,I i)]) (rowC R::.list (aL S)::X) (!bD S1&&!cM (aP (u.take p))) (rowC R::.list (aL S)::X) ∧
  Yz M 160 jq.e (bx l T d [(bI,I i)]) (rowC R::.list (aL S)::X) (.bool (bD S1&&!cM (aP (u.take p)))) (rowC R::.list (aL S)::X):=by
 have A:=cU (c6 (M:=M) 130) 300 0;apply ay h.lt;intro n1 n2;apply bJ (h.ne hS);intro t s e0;subst e0;obtain⟨hq72,_⟩:=h;apply af hq72;intro pre h1 h2;apply ay (Ol hR hl h1 (hE h1) h2 hi hp);intro c1 c2;have a1:=(iM (M:=M) (by decide) (JB (l:=l) (T:=T) (d:=d) (i:=i) (xs:=R.map Tk.av) (ps:=aL S) (X:=X))).le (show 150≤160 by decide);have a2:=(cO (M:=M) (by decide) (Ny (l:=l) (T:=T) (d:=d) (i:=i) (xs:=R.map Tk.av) (ps:=aL S) (X:=X))).le (show 150≤160 by decide);have e:lenA (aL S)=d+S1.length:=by rw[aZ];unfold aL;rw[Wr];exact n1
 rw[e,w8] at a1;rw[e,show jM (d:Int) ((d+S1.length:Nat):Int)=d.beq (d+S1.length) from rfl] at a2;rw[ng.2.1,ng.2.2.1];cases S1 with
 |nil=>
  rw[show d.blt (d+[].length)=false from Bool.eq_false_iff.mpr fun h=>absurd (Xc h) (Nat.not_succ_le_self _)] at a1;rw[show d.beq (d+[].length)=true from Xz d] at a2;exact⟨Tz.and_no (Y:=eY [] aq) (fun U U h=>by injection h) A.E a1,Yz.and (Y:=eY [] aq) (fun U U h=>by injection h) A.E a2 c2⟩
 |cons x S1=>
  rw[show d.blt (d+(x::S1).length)=true from Wn (by rw[dH];exact XD (Xy _))] at a1;rw[show d.beq (d+(x::S1).length)=false from Bool.eq_false_iff.mpr fun h=>absurd (aJ h) (by rw[dH];exact WV (XD (Xy _)))] at a2;exact⟨Tz.and (Y:=eY [] aq) (fun U U h=>by injection h) A.E a1 c1,Yz.and_no (Y:=eY [] aq) (fun U U h=>by injection h) A.E a2⟩
theorem NF(g:Go S1 u p S' u' p' tx):∀ {d:Nat} {T:ξ},At R S S1 u d→i+1=d+p→p≤u.length→(T++tx).length≤1000000 →
  ∃ d',At R S S' u' d'∧i+1=d'+p'∧p'≤u'.length∧(S'=[]∨cM (aP (u'.take p'))=true)∧Wz M 160 ic.t ic.b (bx l T d [(bI,I i)]) (rowC R::.list (aL S)::X) (bx l (T++tx) d' [(bI,I i)]) (rowC R::.list (aL S)::X):=by
 induction g with
 |@stop S1 u p hs=>
  intro d T h hi hp hT;have t:=(A7 (M:=M) (l:=l) (T:=T) (X:=X) hR hl hE hS h hi hp).1;rw[show (!bD S1&&!cM (aP (u.take p)))=false by rcases hs with rfl|e<;>simp [*,bD]] at t;rw[aX];exact⟨d,h,hi,hp,hs,.stop t⟩
 |@step S1 S' t u u' p p' x tx hm g ih=>
  intro d T h hi hp hT;have tt:=(A7 (M:=M) (l:=l) (T:=T) (X:=X) hR hl hE hS h hi hp).1;rw[hm] at tt;have hT':=by rw[aB,aB] at hT;exact WZ (W1 (W0 _ _) _) hT
  apply pf (ih h.cons (by lia) (XF hp) (by rw[bP];exact hT));intro d' i1 i2 i3 i4 i5;refine⟨d',i1,i2,i3,i4,?_⟩;rw[←bP];refine .go tt ?_ i5;apply af h.s;intro sp s1 s2;apply ej (Ro);intro h1 h2 h3 h4;have y:=cO (M:=M) (Wm _) ((Ul (l:=l) (T:=T) (i:=i) (xs:=R.map Tk.av) (ps:=aL S) (X:=X)).trans (by
   rw[yb (by unfold aL;rw[List.getElem?_map,s1,List.getElem?_append_right (by rw[s2];exact Wm _),s2,XT];rfl)];rfl))
  rw[ng.2.2.2.1];refine(Dz.augN (Y:=eY [] aq) (fun U U h=>by injection h) (cU (c6 130) 300 0).E h1 h2 (y.le (show 150≤160 by decide)) ?_ h3).cons ((cV (by decide) TH).le (by decide));rw[h4];show i7 [] ((SS.k T).app (SS.k x))=_;rw[LW,Uy (by rw[aB];exact hT')]
end
section
def Ql:iS jq.ts jq.e=true∧(aA [] aq 0).asgm (bx l T d [(bI,I i)]) X (.bool a) jq.ts=some (bx l T d [(bI,I i),(dl,.bool a)],X):=⟨by kernel_rfl,by kernel_rfl⟩
def HP:(aA [] aq 0).ev (bx l T d [(bI,I i),(dl,.bool a)]) X (.Name mK.x mK.q)=some (.fn 796,X)∧(aA [] aq 0).evs (bx l T d [(bI,I i),(dl,.bool a)]) (.list xs::X) mK.as=obp (ob (iZ xs (.k (i:Int))) fun r=>some (r,.list xs::X)) fun v J=>some ([v],J):=⟨by kernel_rfl,by kernel_rfl⟩
def BK:(jk gM.o&&gM.ap.endLine.beq gM.cp.line&&Nat.blt (lenA gM.as+lenA ([]:List Keyword)+1) 30)=true∧(aA [] aq 0).ev (bx l T d [(bI,I i),(dl,.bool a)]) X gM.o=some (.cell 5,X)∧hY (eY [] aq) (aW b z m v q en e y) (.cell 5) gM.x=some (.meth 330 (.cell 5))∧jk gM.o=true∧ke gM.e=true:=⟨by kernel_rfl,by kernel_rfl,by kernel_rfl,by kernel_rfl,by kernel_rfl⟩
def EE:(aA [] aq 6).exs (bx l T d [(bI,I i),(dl,.bool a)]) X (bT 1 df.b)=some (.next,bx l T d [(bI,I i),(dl,.bool a),(iH,.bool false)],X)∧nj dI dE=true∧lr iH dE=true∧Mine.put iH (.bool true) (bx l T d [(bI,I i),(dl,.bool a)]).v=(bx l T d [(bI,I i),(dl,.bool a),(iH,.bool true)]).v:=⟨by kernel_rfl,by kernel_rfl,by kernel_rfl,by kernel_rfl⟩
def UR:∃ c x,aW b z m v q en e y=bB c x:=⟨_,_,rfl⟩
end
section
variable (hR:∀ t∈R,t∈au){i:Nat}{z:Nat→ak}(hz:z 0=rowC R)(at1:R[i]?=some t)
include hR hz at1
theorem Ux:Yz M 80 mK.e (bx l T d [(bI,I i),(dl,.bool a)]) (aW b z m v q en .none y) t.ev (aW b z m v q en .none y):=by
 apply bJ (UR);intro c x e;have E:=MA (M:=M) (c:=c) (x:=x) (cY (hR t (Xp at1))).1 (fl:=.bool t.fl) (an:=gx t.an) (v:=.str (.k t.w)) (st:=fw t.st);rw[←e] at E;obtain⟨X,eX⟩ : ∃ X,aW b z m v q en .none y=rowC R::X:=⟨_,by rw[←hz];rfl⟩;apply ay (HP);intro a1 a2;refine sC (c6 50) E.1 E.2 (HP (xs:=[])).1 ?_ rfl;rw[eX];refine a2.trans ?_;rw[uA at1];rfl
theorem CV(hn:80≤n)(Ix:aS M n Rr)(h0:∀ ls J,Rr.evs ls J []=some ([],J)):∃ R',aS M n R'∧R'.evs (bx l T d [(bI,I i),(dl,.bool a)]) (aW b z m v q en .none y) gM.as=some ([t.ev],aW b z m v q en .none y)∧R'.ev (bx l T d [(bI,I i),(dl,.bool a)]) (aW b z m v q en .none y) gM.o=Rr.ev (bx l T d [(bI,I i),(dl,.bool a)]) (aW b z m v q en .none y) gM.o∧R'.evk=Rr.evk:=by
 have Y:=(Ux (M:=M) (l:=l) (T:=T) (d:=d) (a:=a) (b:=b) (m:=m) (v:=v) (q:=q) (en:=en) (y:=y) hR hz at1).le hn;refine⟨_,C1 (Y:=eY [] aq) (jw Ix Y),?_,?_,rfl⟩
 ·rw[ng.2.2.2.2.2.1]
  show gd (fJ mK.e) (obp ((ovR Rr (bx l T d [(bI,I i),(dl,.bool a)]) (aW b z m v q en .none y) mK.e t.ev (aW b z m v q en .none y)).ev (bx l T d [(bI,I i),(dl,.bool a)]) (aW b z m v q en .none y) mK.e) fun v' J=>obp (Rr.evs (bx l T d [(bI,I i),(dl,.bool a)]) J []) fun vs J=>some (v'::vs,J))=_;rw[jp];show obp (Rr.evs (bx l T d [(bI,I i),(dl,.bool a)]) (aW b z m v q en .none y) []) (fun vs J=>some (t.ev::vs,J))=_;rw[h0];rfl
 ·exact if_neg fun h=>by
   have h1:=(BK (l:=l) (T:=T) (d:=d) (i:=i) (a:=a) (X:=[]) (b:=b) (z:=z) (m:=m) (v:=v) (q:=q) (en:=en) (e:=.none) (y:=y)).2.2.2.1;rw[h.2.2] at h1;injection h1
end
def wG(t:SS):St:=bB (tO ak.any 3 [some (.inst 771 [(ir,.cell 4)]),some (.rows t (V 4))]) (tO (fun i=>.any (30+i)) 0 [some (.cell 3)])
def AU(a:Bool):List (Str×AV):=[(bu,.cell 0),(c9,.cell 1),(ip,.str [.var 1]),(mM,.cell 5),(fK,.str [.var 0]),(nw,.any 1),(bI,.any 2),(dl,.bool a),(iH,.bool a)]
def wF(a:Bool)(t:SS)(f:Fl):jT where
 B:=[(0,0),(0,60000),(0,0),(0,60000)]
 sp:=aq
 d:=5
 fr:=[]
 ls:=⟨AU a,dE⟩
 P:=wG t
 ss:=bT 3 eH.b
 f:=f
 k:=9
 out:=AU a
 Q:=wG t
def HC:(wF false [.var 0] .next).chk=true∧(wF true [.var 0,.var 1] (.ret (.bool true))).chk=true:=⟨by kernel_rfl,by kernel_rfl⟩
section
def D3(hT:T.length≤60000)(hl:l.length≤60000) :
  bc M 150 (bT 3 eH.b) (bx l T d [(bI,I i),(dl,.bool false),(iH,.bool false)]) (xV c x T n) .next (bx l T d [(bI,I i),(dl,.bool false),(iH,.bool false)]) (xV c x T n) ∧
  bc M 150 (bT 3 eH.b) (bx l T d [(bI,I i),(dl,.bool true),(iH,.bool true)]) (xV c x (T++l) n) (.ret (.bool true)) (bx l T d [(bI,I i),(dl,.bool true),(iH,.bool true)]) (xV c x (T++l) n):=by
 have e0:(0:Int)≤0∧(0:Int)≤0:=⟨bO _,bO _⟩;have bd:aU [(0,0),(0,60000),(0,0),(0,60000)] (gS M.Z.P (tn 0 [0,0,n]) (tn [] [T,l])):=qi ⟨e0,⟨cT _,bw hT⟩,e0,⟨cT _,bw hl⟩,trivial⟩;have eL:∀ a,b6 (am (gS M.Z.P (tn 0 [0,0,n]) (tn [] [T,l])) (vW x (tn .none [.none,I d,I i])) c) ⟨AU a,dE⟩=bx l T d [(bI,I i),(dl,.bool a),(iH,.bool a)]:=fun a=>by
  show (⟨[(bu,.cell 0),(c9,.cell 1),(ip,.str (.k (l++[]))),(mM,.cell 5),(fK,.str (.k (T++[]))),(nw,I d),(bI,I i),(dl,.bool a),(iH,.bool a)],dE⟩ : ac)=_;rw[aX,aX];rfl
 have eS1:bE (am (gS M.Z.P (tn 0 [0,0,n]) (tn [] [T,l])) (vW x (tn .none [.none,I d,I i])) c) (wG [.var 0])=xV c x T n:=by
  show xV c (fun k:Nat=>vW x (tn .none [.none,I d,I i]) (30+k)) (T++[]) ((V 4).val (gS M.Z.P (tn 0 [0,0,n]) (tn [] [T,l])))=_;rw[aX,co,show (fun k:Nat=>vW x (tn .none [.none,I d,I i]) (30+k))=x from funext fun k=>rK _ _ k];rfl
 have eS2:bE (am (gS M.Z.P (tn 0 [0,0,n]) (tn [] [T,l])) (vW x (tn .none [.none,I d,I i])) c) (wG [.var 0,.var 1])=xV c x (T++l) n:=by
  show xV c (fun k:Nat=>vW x (tn .none [.none,I d,I i]) (30+k)) (T++(l++[])) ((V 4).val (gS M.Z.P (tn 0 [0,0,n]) (tn [] [T,l])))=_;rw[aX,co,show (fun k:Nat=>vW x (tn .none [.none,I d,I i]) (30+k))=x from funext fun k=>rK _ _ k];rfl
 exact⟨(jP (Z:=gS M.Z.P (tn 0 [0,0,n]) (tn [] [T,l])) rfl (fR _ _ _) (wF false [.var 0] .next) bd ⟨rfl,(by decide),rfl⟩ HC.1).cast (eL false) eS1 rfl (eL false) eS1,(jP (Z:=gS M.Z.P (tn 0 [0,0,n]) (tn [] [T,l])) rfl (fR _ _ _) (wF true [.var 0,.var 1] (.ret (.bool true))) bd ⟨rfl,(by decide),rfl⟩ HC.2).cast (eL true) eS2 rfl (eL true) eS2⟩
end
def zc:Stmt:=.Try df.b [.ExceptHandler (some (.Name dI df.np)) none [.Assign [.Name df.x df.xp] (.Constant (.bool true) df.q df.kp) df.ap] df.hp] [] [] df.p
section
variable (hR:∀ t∈R,t∈au){i:Nat}{z:Nat→ak}(hz:z 0=rowC R)(at1:R[i]?=some t)
include hR hz at1
theorem VB(hf:fnIn M.K 330=true)(h:Rz M 305 (aW b z m v q en .none y) 330 [.cell 5,t.ev] .none (aW b z m' v' q' en .none y')) :
  Td M 310 (fun c=>exec zc c.env) (bx l T d [(bI,I i),(dl,.bool a)]) (aW b z m v q en .none y) .next (bx l T d [(bI,I i),(dl,.bool a),(iH,.bool false)]) (aW b z m' v' q' en .none y'):=by
 refine Td.try_ok ?_;have A:=cU (c6 (M:=M) 280) 300 0;apply mq (BK);intro h1 h2 h3 h4 h5;apply mV (CV hR hz at1 (by decide) A.E (fun _ _=>rfl));intro R' j1 j2 j3 j4;rw[ng.2.2.2.2.1];exact(Dz.expr A.E h5 (H6 (c6 280) j1 hf h h1 (j3.trans h2) h3 j2 (by rw[j4];rfl))).cons ((cV (by decide) EE.1).le (by decide))
theorem Kr(hf:fnIn M.K 330=true)(h:fg false M 305 (aW b z m v q en .none y) 330 [.cell 5,t.ev] [] J') :
  Td M 310 (fun c=>exec zc c.env) (bx l T d [(bI,I i),(dl,.bool a)]) (aW b z m v q en .none y) .next (bx l T d [(bI,I i),(dl,.bool a),(iH,.bool true)]) J':=by
 apply mq (BK);intro h1 h2 h3 h4 h5;apply mV (CV hR hz at1 (by decide) (cU (c6 275) 300 0).E (fun _ _=>rfl));intro R' j1 j2 j3 j4;have G:=BG (pos:=gM.cp) (c6 275).hy j1 (ks:=[]) h3 j2 (by rw[j4];rfl) hf h;unfold zc;rw[ng.2.2.2.2.1,ng.2.2.2.2.2.2];apply ej (EE (X:=[]));intro _ y2 y3 y4;have X9:=Td.try_x (q:=df.q) (rest:=bT 1 df.b) (ep:=gM.p) (pos:=df.p) (np:=df.np) (hp:=df.hp) (xp:=df.xp) (ap:=df.ap) (cp2:=df.kp) h5 y2 y3 (Bw j1 h1 (j3.trans h2) G.1.1 G.1.2 G.2);exact(y4▸X9).le (by decide)
end
def Td.post{ls ls' ls1:ac}(hs:ls1.sc=ls.sc)(h:∀ x v,lk x ls1.v=some v→lk x ls'.v=some v)(H:Td M n t ls J f ls' J'):Td M n t ls J f ls1 J':=⟨by
 intro c A s m imm cs Q E T C l R q;exact H.h T C l R fun h' tk m' imm' cs' fl R' l' x' f'=>q h' tk m' imm' cs' fl ⟨R'.F,R'.N,R'.nd,R'.C,fun x v hx=>R'.l x v (h x v hx)⟩ ⟨hs▸l.sc,fun x v hx=>l'.lo x v (h x v hx),l'.nd⟩ x' f'⟩
def MV:∃ c x,aW b z m v q en e y=xV c x v.T v.n:=⟨tO z 6 [some (.list (dM m)),some (.list q),some (.list (dN m))],tO y 0 [some (.cell 3),some en,some (.cell 6),some (cL m.sta),some (.cell 7),some e,some (.cell 8),some m.inv,some (.int (.k (m.lvl))),none,none,none,none,some (I v.line),some (I v.col),some (.bool v.ws),some (.bool v.idn),some m.oe,some .none,some .none,some (I b),some (I 1000),some (.str (.k [10])),none,some .none,some .none,some .none,some .none],by kernel_rfl⟩
def UC(h:cM (aP T)=true):T.length≤3:=by
 cases T with
 |nil=>exact WK _
 |cons t r=>
  have h:(Bool.rec (!ed (aP r) 0&&Nat.blt (lenA (aP r)) (wt t.k)) false (Nat.beq (wt t.k) 0):Bool)=true:=h;cases q:Nat.beq (wt t.k) 0 with
  |true=>rw[q] at h;cases h
  |false=>
   rw[q] at h;have g:=Xc (aw h).2;rw[aZ] at g;have e:(aP r).length=r.length:=Wr ..;rw[e] at g;exact WZ g (FA t.k)
def Lp(P:Params)(b:Nat)(R:List Tk)(S:List ξ)(l:ξ)(i:Nat)(S1:List ξ)(u:List Tk)(d p:Nat)(m:Md)(j:Nat)(v:Es):Prop:=At R S S1 u d∧i=d+p∧cM (aP (u.take p))=true∧Rn P b m u S1 l∧j+u.length≤66∧jj j m v (hG u)
def Hm{α1 α2 α3 α4 α5 α6 α7 α8:Type}{p q r:α1→α2→α3→α4→α5→α6→α7→α8→Prop}{P:Prop}(h:∃ a b c d e f g h,p a b c d e f g h∧q a b c d e f g h∧r a b c d e f g h)(k:∀ a b c d e f g h,p a b c d e f g h→q a b c d e f g h→r a b c d e f g h→P):P:=h.elim fun a h=>h.elim fun b h=>h.elim fun c h=>h.elim fun d h=>h.elim fun e h=>h.elim fun f h=>h.elim fun g h=>h.elim fun i h=>k a b c d e f g i h.1 h.2.1 h.2.2
section
variable (hb:2≤b∧b≤9)(hR:∀ t∈R,t∈au)(hl:R.length≤66)(hE:∀ {pre suf:List Tk} {t:Tk},R=pre++t::suf→wt t.k=0∨hJ suf)(hS:S.length<R.length){l:ξ}(hll:l.length≤2000){z:Nat→ak}(hz:z 0=rowC R)(hz1:z 1=.list (aL S))
include hb hR hl hE hS hll hz hz1
theorem turn(L:Lp M.Z.P b R S l i S1 u d p m j v)(hp:p<u.length) :
  (∃ ls' J',Td M 310 (fun c=>execs eH.b c.env) (bx l v.T d [(bI,I i)]) (aW b z m v (evs (u.take p)) en .none y) (.ret (.bool true)) ls' J') ∨
  (∃ S2 u2 d2 p2 m2 j2 v2 y2,Lp M.Z.P b R S l (i+1) S2 u2 d2 p2 m2 j2 v2∧p2≤u2.length ∧
   Td M 310 (fun c=>execs eH.b c.env) (bx l v.T d [(bI,I i)]) (aW b z m v (evs (u.take p)) en .none y) .next (bx l v2.T d2 []) (aW b z m2 v2 (evs (u2.take p2)) en .none y2)):=by
 apply j7 L;intro h hi hm r hj iv;clear L;have p3:p≤3:=by
  have:=UC hm;rw[Xk,Xx (Nat.le_of_lt hp)] at this;exact this
 apply af h.r;intro pre hr1 hr2;obtain⟨t,ht⟩ : ∃ t,u[p]?=some t:=⟨u[p],List.getElem?_eq_getElem hp⟩;have at1:R[i]?=some t:=by rw[hr1,hi,List.getElem?_append_right (by rw[hr2];exact W0 ..),hr2,WD];exact ht
 have hT:u.take p++[t]=u.take (p+1):=by rw[List.take_add_one,ht];rfl
 have hu:∀ t∈u,t∈au:=fun t ht=>hR t (by rw[hr1];exact bF _ ht);apply bJ (Tr (S:=S1) (u:=u) (p:=p+1));intro S2 u2 hr1;apply bJ hr1;intro p2 tx g;apply ay (Ts (M:=M) (z:=z) (en:=en) (y:=y) hb g hT r hu (W4 p3 _) hp hj iv);intro e1 e2;obtain⟨d2,a1,a2,a3,a4,W⟩:=NF (M:=M) (l:=l) (i:=i) (X:=(aW b z m v (evs (u.take p)) en .none y).drop 2) hR hl hE hS g (T:=v.T) h (congrArg _ hi) hp (by
  cases q:cM (aP (u2.take p2)) with
  |true=>
   apply kb (e1 q);intro m' j' v' y' _ h1 _ h2 h3;rw[←h1];exact WZ (mB (WZ (WZ (W0 _ _) (W7 h3)) hj) h2.n.T) (nleT rfl)
  |false=>
   apply dj (e2 q);intro c xx n _ _ L;exact WZ L (nleT rfl))
 have eX:aW b z m v (evs (u.take p)) en .none y=rowC R::.list (aL S)::(aW b z m v (evs (u.take p)) en .none y).drop 2:=by rw[←hz,←hz1];rfl
 have D:=(A7 (M:=M) (l:=l) (T:=v.T++tx) (X:=(aW b z m v (evs (u.take p)) en .none y).drop 2) hR hl hE hS a1 a2 a3).2;rw[←eX] at W D;have A:=cU (c6 (M:=M) 130) 300 0;apply ay (Ql (l:=l) (T:=v.T++tx) (d:=d2) (i:=i) (X:=aW b z m v (evs (u.take p)) en .none y) (a:=bD S2&&!cM (aP (u2.take p2))));intro o1 o2;have Yb:Td M 310 (fun c=>execs [.While ic.t ic.b [] ic.p,.Assign jq.ts jq.e jq.p] c.env) (bx l v.T d [(bI,I i)]) (aW b z m v (evs (u.take p)) en .none y) .next (bx l (v.T++tx) d2 [(bI,I i),(dl,.bool (bD S2&&!cM (aP (u2.take p2))))]) (aW b z m v (evs (u.take p)) en .none y) :=
  Dz.td (((Dz.while_ W).cons (Dz.one (Dz.asg A.E A.S o1 D o2))).le (by decide))
 rw[ng.1];cases q:cM (aP (u2.take p2)) with
 |true=>
  apply kb (e1 q);intro m' j' v' y' hq74 h1 h2 h3 h4;apply ay hq74;intro f1 f2;rw[q,show (bD S2&&!true)=false from Xw _,←h1] at Yb;refine .inr ⟨S2,u2,d2,p2,m',j',v',y',⟨a1,a2,q,h2,WZ (W7 h4) hj,h3⟩,a3,?_⟩;apply bJ (MV (b:=b) (z:=z) (m:=m') (v:=v') (q:=evs (u2.take p2)) (en:=en) (e:=.none) (y:=y'));intro c x e;have C:=(D3 (M:=M) (T:=v'.T) (l:=l) (d:=d2) (i:=i) (c:=c) (x:=x) (n:=v'.n) (WZ (mB (WZ (WZ (W0 _ _) (W7 h4)) hj) h3.n.T) (nleT rfl)) (W2 hll)).1;rw[←e] at C;refine Td.post (ls':=bx l v'.T d2 [(bI,I i),(dl,.bool false),(iH,.bool false)]) rfl (fun x v hx=>oG hx) (Td.append Yb (Td.cons (VB (M:=M) (l:=l) (T:=v'.T) (d:=d2) (a:=false) hR hz at1 f1 f2) (Dz.td (C.le (by decide)))))
 |false=>
  apply dj (e2 q);intro c xx n f1 f2 L;rw[q,a4.resolve_right (by rw[q];exact XH)] at Yb;exact .inl ⟨_,_,Td.append Yb (Td.cons (Kr (M:=M) (l:=l) (T:=v.T++tx) (d:=d2) (a:=true) hR hz at1 f1 f2) (Dz.td (((D3 (M:=M) (T:=v.T++tx) (l:=l) (d:=d2) (i:=i) (c:=c) (x:=xx) (n:=n) (WZ L (nleT rfl)) (W2 hll)).2).le (by decide))))⟩
end
section
variable (hb:2≤b∧b≤9)(hR:∀ t∈R,t∈au)(hl:R.length≤66)(hE:∀ {pre suf:List Tk} {t:Tk},R=pre++t::suf→wt t.k=0∨hJ suf)(hS:S.length<R.length){l:ξ}(hll:l.length≤2000){z:Nat→ak}(hz:z 0=rowC R)(hz1:z 1=.list (aL S))
theorem Gr:(aA [] aq 0).asg (bx l T d []) X (I i) eH.t=some (bx l T d [(bI,I i)],X):=by kernel_rfl
theorem Ic:jv eH.t=true∧lh eH.it=true:=⟨by kernel_rfl,by kernel_rfl⟩
theorem OG:(aA [] aq 6).ev (bx l T d []) (.list xs::X) eH.it=Bool.rec none (some (.rng 0 (lenA xs),.list xs::X)) (Nat.ble (lenA xs) 1000):=by kernel_rfl
include hb hR hl hE hS hll hz hz1
theorem RD:∀ {r i:Nat} {S1:List ξ} {u:List Tk} {d p:Nat} {m:Md} {j:Nat} {v:Es} {y:Nat→AV},i+(r+1)=R.length→Lp M.Z.P b R S l i S1 u d p m j v →
  ∃ ls' J',oz M 310 eH.t eH.b i (r+1) (bx l v.T d []) (aW b z m v (evs (u.take p)) en .none y) (.ret (.bool true)) ls' J':=by
 have go:∀ {r i:Nat} {S1:List ξ} {u:List Tk} {d p:Nat} {m:Md} {j:Nat} {v:Es},i+(r+1)=R.length→Lp M.Z.P b R S l i S1 u d p m j v→p<u.length:=fun {r i S1 u d p m j v} hi L=>Nat.lt_of_add_lt_add_left (n:=d) (by rw[←L.2.1,←L.1.lt.2,←hi];exact XD (Xy _));intro r;induction r with
 |zero=>
  intro i S1 u d p m j v y hi L;refine(turn (M:=M) (en:=en) (y:=y) hb hR hl hE hS hll hz hz1 L (go hi L)).elim (fun h=>?_) fun h=>?_
  ·apply bJ h;intro ls' J' T
   exact⟨ls',J',.ret ((kK (M:=M) Gr).le (by decide)) T⟩
  ·exfalso
   apply Hm h;intro S2 u2 d2 p2 m2 j2 v2 y2 L2 a3 _;apply j7 L2;intro a1 a2 a4 _ _ _;clear L2 h L;apply bJ (a1.ne hS);intro t s e;have n2:=a1.lt.2;apply af a1.r;intro pre q1 q2;rw[e] at q1 a4 n2 a3;rw[dH] at n2 a3;rw[Nat.add_left_cancel (a2.symm.trans (hi.trans n2)),Gw (hE q1) (Wm _)] at a4;have:=Xc a4;have:=Qe (l:=0) (hE q1);lia
 |succ r ih=>
  intro i S1 u d p m j v y hi L;have az:Az M 310 eH.t (.int (.k (.ofNat i))) (bx l v.T d []) (aW b z m v (evs (u.take p)) en .none y) _ _:=(kK (M:=M) Gr).le (by decide);refine(turn (M:=M) (en:=en) (y:=y) hb hR hl hE hS hll hz hz1 L (go hi L)).elim (fun h=>?_) fun h=>?_
  ·apply bJ h;intro ls' J' T
   exact⟨ls',J',.ret az T⟩
  ·apply Hm h;intro S2 u2 d2 p2 m2 j2 v2 y2 L2 _ T
   apply bJ (ih (i:=i+1) (y:=y2) ((Xo i 1 (r+1)).trans hi) L2);intro ls' J' L;exact⟨ls',J',.step az T L⟩
theorem KG{v:Es}(hv:v.T=[])(rn:Rn M.Z.P b gQ R S l)(iv:jj 0 gQ v (hG R)):∃ ls' J',Td M 310 (fun c=>execs (bT 17 gO) c.env) (bx l [] 0 []) (aW b z gQ v [] en .none y) (.ret (.bool true)) ls' J':=by
 obtain⟨r,hr⟩ : ∃ r,r+1=R.length:=⟨R.length-1,Nat.sub_add_cancel (Nat.zero_lt_of_lt hS)⟩;apply bJ (RD (M:=M) (en:=en) (y:=y) hb hR hl hE hS hll hz hz1 (r:=r) (i:=0) (S1:=S) (u:=R) (d:=0) (p:=0) (by rw[hr];exact XS _) ⟨⟨⟨[],rfl,rfl⟩,[],rfl,rfl⟩,rfl,rfl,rn,W1 hl _,iv⟩);intro ls' J' L;rw[hv] at L;obtain⟨X,eX⟩ : ∃ X,aW b z gQ v [] en .none y=rowC R::X:=⟨_,by rw[←hz];rfl⟩;have Y:Yz M 310 eH.it (bx l [] 0 []) (aW b z gQ v [] en .none y) (.rng 0 (r+1)) (aW b z gQ v [] en .none y):=by
  rw[eX];refine(cO (M:=M) (d:=6) (by decide) ((OG (l:=l) (T:=[]) (d:=0) (xs:=R.map Tk.av) (X:=X)).trans ?_)).le (by decide);rw[aZ,Wr,Wn (WZ hl (by decide)),hr];rfl
 have e:bT 17 gO=.For eH.t eH.it eH.b [] eH.p::bT 18 gO:=by kernel_rfl
 rw[e];exact⟨ls',J',Td.ret (Td.range Ic.1 Ic.2 Y L)⟩
end
def oq:List Stmt:=(bR 803).body
def UH:List (Str×NameKind):=(bR 803).sc
def jH:jZ:=kM oq 3
def iD:jZ:=kM jH.o 0
def iO:nR:=qD iD.o 3
structure sP where
 x:Str
 q:Pos
 as:List Expr
 cp:Pos
 p:Pos
def FV(l:List Stmt)(i:Nat):sP:=match ao l i with|some (.Expr (.Call (.Name x q) as [] cp) p)=>⟨x,q,as,cp,p⟩|_=>⟨"",default,[],default,default⟩
noncomputable def sP.e(r:sP):Expr:=.Call (.Name r.x r.q) r.as [] r.cp
def mP:sP:=FV iO.b 0
def ou:oq=bN 3 oq++[.If jH.t jH.b jH.o jH.p]∧jH.o=[.If iD.t iD.b iD.o iD.p]∧iD.o=bN 3 iD.o++(.For iO.t iO.it iO.b [] iO.p::bT 4 iD.o)∧iO.b=[.Expr mP.e mP.p]:=⟨by kernel_rfl,by kernel_rfl,by kernel_rfl,by kernel_rfl⟩
def RB(i:Nat):ξ:=tn [] [[97],[100,32,101],[],[55,98],[99]] i
def Q1(i:Nat):Nat:=tn 0 [0,1,2,0] i
def zV(n:Nat):Nat:=Bool.rec 0 1 (Nat.beq (n % 3) 1)
def cG(D:Nat)(e:List (Str×AV)):ac:=⟨[(gR,.cell 0),(yg,I D),(bu,.cell 2)]++e,UH⟩
def fL(n s:Nat):List (Str×AV):=[(kl,I n),(dh,gx (zV n)),(L3,I s)]
noncomputable def cN(T:List AV)(c:ak)(R:List AV)(g:ak):St:=[.list T,c,.list R,g]
section
variable {T R:List AV}{c g:ak}{D:Nat}
def Mt:(aA [] aq 6).exs (cG D []) (cN [] c R g) (bN 3 oq)=some (.next,cG D (fL 0 0),cN [] c R g):=by kernel_rfl
def QZ:(List.range 420).map (fun n:Nat=>(aA [] aq 6).exs (cG D []) (cN (I n::T) c R g) (bN 3 oq))=(List.range 420).map fun n:Nat=>some (.next,cG D (fL n (n % 7)),cN T c R g):=by kernel_rfl
def iC(s:Nat):Nat:=Bool.rec 8 6 (s.beq 2 ||s.beq 5)
def oj(k m:Nat):Nat:=Bool.rec (m % 3*2) (m % 4) (k.beq 6)
noncomputable def CJ:ak:=.list [.str [.lit [97]],.str [.lit [100,32,101]],.str [],.str [.lit [55,98]],.str [.lit [99]]]
noncomputable def Ex:ak:=.list [.none,.str [.lit [39]],.str [.lit [34]],.none]
def kU(q:Bool)(ls:ac)(J:St):κ (Fl×ac×St):=kQ (obp (gd q (some (AV.none,J))) fun _ J=>some (Fl.next,ls,J)) fun f ls J=>Fl.rec (some (.next,ls,J)) (fun v=>some (.ret v,ls,J)) f
def lb(a b:Tk):Bool:=a.k.beq b.k&&(qj a.fl b.fl&&(a.an.beq b.an&&(gy a.w b.w&&a.st.beq b.st)))
noncomputable def oo:Tk:=⟨5,false,2,[],0⟩
def pq(n:Nat):Tk:=⟨4,false,zV n,RB (n % 5),Q1 (n % 4)⟩
def lN(n:Nat):Tk:=⟨iC (n % 7),Nat.beq (n % 4) 1,zV n,[],0⟩
noncomputable def tW(k:Nat):Tk:=⟨k+1,false,0,[],0⟩
def g9(n s m k:Nat)(e:List (Str×AV)):List (Str×AV):=fL n s++([(mR,I m),(jI,I k)]++e)
section
variable {n m:Nat}
def KY:(List.range 7).map (fun s:Nat=>(List.range 4).map fun D:Nat=>((aA [] aq 4).tst (cG D (fL n s)) X jH.t,(aA [] aq 4).tst (cG D (fL n s)) X iD.t))=(List.range 7).map fun s:Nat=>(List.range 4).map fun D:Nat=>(some (s.beq 4,X),some (D.beq 0 ||s.blt 2,X)):=by kernel_rfl
def Kc:(aA [] aq 6).exs (cG D (fL n s)) (cN T c R g) jH.b=kU (Nat.ble (lenA R) 100000) (cG D (fL n s)) (cN T c (R++[oo.av]) g):=by kernel_rfl
def K3:(List.range 420).map (fun n:Nat=>(aA [] aq 6).exs (cG D (fL n s)) (cN T c R g) iD.b)=(List.range 420).map fun n:Nat=>kU (Nat.ble (lenA R) 100000) (cG D (fL n s)) (cN T c (R++[(pq n).av]) g++[CJ,Ex]):=by kernel_rfl
def TJ:(List.range 420).map (fun n:Nat=>(aA [] aq 6).exs (cG D (fL n (n % 7))) (cN [] c R g) (bN 3 iD.o))=(List.range 420).map fun n:Nat=>kU (Nat.ble (lenA R) 100000) (cG D (g9 n (n % 7) 0 (iC (n % 7)) [])) (cN [] c (R++[(lN n).av]) g):=by kernel_rfl
def N1:(List.range 420).map (fun n:Nat=>(aA [] aq 6).exs (cG D (fL n (n % 7))) (cN (I m::T) c R g) (bN 3 iD.o))=(List.range 420).map fun n:Nat=>kU (Nat.ble (lenA R) 100000) (cG D (g9 n (n % 7) m (iC (n % 7)) [])) (cN T c (R++[(lN n).av]) g):=by kernel_rfl
def V8:[6,8].map (fun k:Nat=>(List.range 420).map fun m:Nat=>(aA [] aq 6).ev (cG D (g9 n s m k [])) X iO.it)=[6,8].map fun k:Nat=>(List.range 420).map fun m:Nat=>some (.rng 0 (oj k m),X):=by kernel_rfl
def QR:(List.range 3).map (fun D:Nat=>(aA [] aq 0).evs (cG (D+1) (g9 n s m k [(d8,I i)])) X mP.as)=(List.range 3).map fun D:Nat=>some ([.cell 0,I D,.cell 2],X):=by kernel_rfl
def Ut:(aA [] aq 0).ev (cG D (g9 n s m k [(d8,I i)])) X (.Name mP.x mP.q)=some (.fn 803,X):=by kernel_rfl
def RF:(aA [] aq 0).asg (cG D (g9 n s m k [])) X (I i) iO.t=some (cG D (g9 n s m k [(d8,I i)]),X):=by kernel_rfl
def NK:(aA [] aq 0).asg (cG D (g9 n s m k [(d8,v)])) X (I i) iO.t=some (cG D (g9 n s m k [(d8,I i)]),X):=by kernel_rfl
def zT:jv iO.t=true∧lh iO.it=true∧ke mP.e=true:=⟨by kernel_rfl,by kernel_rfl,by kernel_rfl⟩
def Pn:[6,8].map (fun k:Nat=>(aA [] aq 6).exs (cG D (g9 n s m k [])) (cN T c R g) (bT 4 iD.o))=[6,8].map fun k:Nat=>kU (Nat.ble (lenA R) 100000) (cG D (g9 n s m k [])) (cN T c (R++[(tW k).av]) g):=by kernel_rfl
def Bg:((List.range 420).all fun n=>(au.any fun t=>lb t (pq n))&&au.any fun t=>lb t (lN n))=true∧([6,8].all fun k=>au.any fun t=>lb t (tW k))=true∧(au.any fun t=>lb t oo)=true:=⟨by kernel_rfl,by kernel_rfl,by kernel_rfl⟩
end
end
def QL(h:lb a b=true):a=b:=by
 obtain⟨k,fl,an,w,st⟩:=a;obtain⟨k2,fl2,an2,w2,st2⟩:=b;have h:=aw h;have h2:=aw h.2;have h3:=aw h2.2;have h4:=aw h3.2;have e1:k=k2:=aJ h.1;have e2:fl=fl2:=sO h2.1;have e3:an=an2:=aJ h3.1;have e4:w=w2:=jf.mp h4.1;have e5:st=st2:=aJ h4.2;rw[e1,e2,e3,e4,e5]
def mW(h:(au.any fun s=>lb s t)=true):t∈au:=by
 apply af (List.any_eq_true.mp h);intro s h1 h2;rw[←QL h2];exact h1
def vn(h:n<420):pq n∈au∧lN n∈au :=
 have a:=aw (aV Bg.1 n (dc h))
 ⟨mW a.1,mW a.2⟩
def PB(h:k∈[6,8]):tW k∈au:=mW (aV Bg.2.1 k h)
def Vb:oo∈au:=mW Bg.2.2
def aC(T:ξ):List AV:=T.map fun n:Nat=>I n
def pp:∀ x∈aC T,iI x:=fun x hx=>by
 apply af (cC hx);intro n _ e0;clear hx;subst e0;exact⟨rfl,rfl,rfl,fun _=>rfl⟩
abbrev Tp (T:ξ):Prop:=∀ n∈T,n<420
abbrev dF (K:List Tk):Prop:=∀ t∈K,t∈au
def d7{K L:List Tk}(h:dF K)(g:dF L):dF (K++L):=fun t ht=>(List.mem_append.mp ht).elim (h t) (g t)
def g8(h:t∈au):dF [t]:=fun s hs=>by rw[List.mem_singleton.mp hs];exact h
def uf{R:List Tk}{t:Tk}:R.map Tk.av++[t.av]=(R++[t]).map Tk.av:=by rw[Wl];rfl
def Mv(s:Nat):iC s∈[6,8]:=by unfold iC;cases (s.beq 2 ||s.beq 5)<;>decide
def Qd(h:k∈[6,8]):oj k m≤4:=by
 unfold oj;cases k.beq 6 with
 |true=>exact WZ (Nat.le_of_lt (XY _ (nleT rfl))) (nleT rfl)
 |false=>exact Nat.mul_le_mul_right 2 (Xm (XY m (nleT rfl)))
def noT(T:ξ)(c:ak)(R:List Tk)(g:ak):St:=cN (aC T) c (R.map Tk.av) g
section
variable (hc:ew 4 c=true)(hg:ew 4 g=true)
include hc hg
theorem PH(hR:dF R):gN (lenA (noT T c R g)) .none (noT T c R g++x::G)=noT T c R g:=by
 have o1:ew 4 (.list (aC T))=true:=ur pp 4;have o2:ew 4 (.list (R.map Tk.av))=true:=ur (jy hR) 4;have ok:fH 4 (bN 4 (noT T c R g++x::G))=true:=by
  show (match ew 4 (.list (aC T)) with|true=>(match ew 4 c with|true=>(match ew 4 (.list (R.map Tk.av)) with|true=>(match ew 4 g with|true=>true|false=>false)|false=>false)|false=>false)|false=>false)=true;rw[o1,hc,o2,hg]
 show (match fH 4 (bN 4 (noT T c R g++x::G)) with|true=>bN 4 (noT T c R g++x::G)|false=>noT T c R g++x::G)=_;rw[ok];rfl
end
def l9{xs:List AV}(h:xs.length≤100000):kU (Nat.ble (lenA xs) 100000) ls J=some (.next,ls,J):=by
 rw[aZ,Wn h];rfl
section
variable (hc:ew 4 c=true)(hg:ew 4 g=true)
theorem CW(hT:Tp T):∃ n T0,n<420∧Tp T0∧(T0.length+1=T.length∨(T0.length=T.length∧n % 7=0))∧bc M 150 (bN 3 oq) (cG D []) (noT T c R g) .next (cG D (fL n (n % 7))) (noT T0 c R g):=by
 cases T with
 |nil=>exact⟨0,[],by decide,hT,.inr ⟨rfl,rfl⟩,cV (by decide) Mt⟩
 |cons n T=>
  have hn:=hT n (.head _);exact⟨n,T,hn,fun x hx=>hT x (.tail _ hx),.inl rfl,cV (d:=6) (by decide) (X3 QZ n (dc hn))⟩
theorem DE(hD:D≤3):Tz M 150 jH.t (cG D (fL n (n % 7))) X (Nat.beq (n % 7) 4) X∧Tz M 150 iD.t (cG D (fL n (n % 7))) X (D.beq 0 ||Nat.blt (n % 7) 2) X:=by
 have h:=X3 (X3 (KY (n:=n) (X:=X)) (n % 7) (dc (XY _ (by decide)))) D (dc (W8 hD (nleT rfl)));exact⟨iM (d:=4) (by decide) (congrArg Prod.fst h),iM (d:=4) (by decide) (congrArg Prod.snd h)⟩
include hc hg
theorem Ds(hn:n<420)(hD:D≤3)(h:Nat.beq (n % 7) 4=true∨(D.beq 0 ||Nat.blt (n % 7) 2)=true)(hR:dF R)(hl:R.length≤100000):∃ t J',t∈au∧bc M 150 [.If jH.t jH.b jH.o jH.p] (cG D (fL n (n % 7))) (noT T c R g) .next (cG D (fL n (n % 7))) J'∧gN (lenA (noT T c R g)) .none J'=noT T c (R++[t]) g:=by
 have l1:(R.map Tk.av).length≤100000:=by rw[Wr];exact hl
 apply ay (DE (M:=M) (n:=n) hD (X:=noT T c R g));intro t1 t2;cases q:Nat.beq (n % 7) 4 with
 |true=>
  rw[q] at t1;refine⟨oo,noT T c (R++[oo]) g,Vb,Dz.one (Dz.if_ t1 ?_),rfl⟩;refine cV (d:=6) (by decide) ?_;rw[show noT T c (R++[oo]) g=cN (aC T) c (R.map Tk.av++[oo.av]) g by rw[uf];rfl];exact Kc.trans (l9 l1)
 |false=>
  rw[q] at t1;rw[h.resolve_left (by rw[q];exact XH)] at t2;refine⟨pq n,noT T c (R++[pq n]) g++[CJ,Ex],(vn hn).1,Dz.one (Dz.if_ t1 ?_),PH hc hg (d7 hR (g8 (vn hn).1))⟩
  ·rw[ou.2.1]
   refine Dz.one (Dz.if_ t2 ?_);refine cV (d:=6) (by decide) ((X3 K3 n (dc hn)).trans ((l9 l1).trans ?_));rw[show noT T c (R++[pq n]) g=cN (aC T) c (R.map Tk.av++[(pq n).av]) g by rw[uf];rfl]
end
section
variable (hc:ew 4 c=true)(hg:ew 4 g=true)
structure Kk (M:aF) (c g:ak) (D:Nat) (T:ξ) (R:List Tk) (K:List Tk) (T':ξ):Prop where
 k:dF K
 t:Tp T'
 n:K.length+4*T'.length≤2+4*T.length
 r:Rz M (155+10*D) (noT T c R g) 803 [.cell 0,I D,.cell 2] .none (noT T' c (R++K) g)
abbrev C2 (M:aF) (c g:ak) (D:Nat):Prop:=∀ {T:ξ} {R:List Tk},Tp T→dF R→R.length+4*T.length+10*D≤50000→∃ K T',Kk M c g D T R K T'
theorem TO(hf:fnIn M.K 803=true)(hD:D+1≤3)(ih:C2 M c g D):∀ {r j:Nat} {e:List (Str×AV)} {T:ξ} {R:List Tk},(e=[]∨∃ v,e=[(d8,v)])→Tp T→dF R→R.length+4*T.length+2*r+10*D≤50000 →
  ∃ K T' e',dF K∧Tp T'∧K.length+4*T'.length≤2*r+4*T.length∧(e'=[]∨∃ v,e'=[(d8,v)])∧jh M (160+10*D) 4 iO.t iO.b j r (cG (D+1) (g9 n s m k e)) (noT T c R g) .next (cG (D+1) (g9 n s m k e')) (noT T' c (R++K) g):=by
 intro r;induction r with
 |zero=>exact fun {j e T R} h hT hR hl=>⟨[],T,e,fun _ h=>(by cases h),hT,by exact Wm _,h,by rw[aX];exact .done⟩
 |succ r ihr=>
  intro j e T R h hT hR hl;apply bJ (ih hT hR (WZ (W4 (W0 _ _) _) hl));intro K T1 N;have n1:=N.n;apply cj (ihr (j:=j+1) (e:=[(d8,I j)]) (T:=T1) (R:=R++K) (.inr ⟨_,rfl⟩) N.t (d7 hR N.k) (by rw[aB];lia));intro K2 T2 e2 a1 a2 a3 hr1;apply ay hr1;intro a4 a5;refine⟨K++K2,T2,e2,d7 N.k a1,a2,by rw[aB];lia,a4,?_⟩;rw[←bP];have H:Rz M (10*0+(130+10*D)+25) (noT T c R g) 803 [.cell 0,I D,.cell 2] .none (noT T1 c (R++K) g):=by
   have e:10*0+(130+10*D)+25=155+10*D:=by lia
   rw[e];exact N.r
  have Yb:=Dz.one (Dz.expr (pos:=mP.p) (cU (c6 (M:=M) (130+10*D)) 300 0).E zT.2.2 (sC (c6 (M:=M) (130+10*D)) (N:=300) (d:=0) hf H (cp:=mP.cp) (Ut (D:=D+1) (n:=n) (s:=s) (m:=m) (k:=k) (i:=j)) (X3 (QR (n:=n) (s:=s) (m:=m) (k:=k) (i:=j)) D (dc (hD))) rfl));have e:10*0+(130+10*D)+30=160+10*D:=by lia
  rw[e] at Yb;refine .step (ls0:=cG (D+1) (g9 n s m k [(d8,I j)])) ((?_:Az M 150 _ _ _ _ _ (noT T c R g)).le (by lia)) ?_ a5
  ·rcases h with rfl|⟨v,rfl⟩
   ·exact kK RF
   ·exact kK NK
  ·rw[ou.2.2.2]
   exact Yb.gk
include hc hg
theorem Qq:∀ {D:Nat},D≤3→C2 M c g D∧fnIn M.K 803=true:=by
 have hf:gt 803 jb=some (bR 803):=by kernel_rfl
 have h0:=((c6 (M:=M) 0).hf 803 _ hf).1;have fin:∀ {n D:Nat} {T T':ξ} {R R':List Tk} {L:ac} {J':St},bc M n oq (cG D []) (noT T c R g) .next L J'→gN 4 .none J'=noT T' c R' g→Rz M (n+5) (noT T c R g) 803 [.cell 0,I D,.cell 2] .none (noT T' c R' g):=fun {n D T T' R R' L J'} X9 e=>(IG hf ((fun D=>by kernel_rfl) D) X9 e).2;intro D;induction D with
 |zero=>
  refine fun hD=>⟨fun {T R} hT hR hl=>?_,h0⟩;apply t9 (CW hT);intro n T0 a1 a2 a3 A;apply cD (Ds hc hg a1 hD (.inr rfl) hR (WZ (WZ (W0 _ _) hl) (nleT rfl)));intro t J' b1 b2 b3;refine⟨[t],T0,g8 b1,a2,Xb (nleT rfl) (W5 4 (a3.elim (fun e=>Nat.le_of_lt (Nat.lt_of_succ_le (W7 e))) fun e=>W7 e.1)),fin (L:=cG 0 (fL n (n % 7))) ?_ b3⟩;rw[ou.1];exact A.append b2
 |succ D ih=>
  refine fun hD=>⟨fun {T R} hT hR hl=>?_,h0⟩;apply t9 (CW hT);intro n T0 a1 a2 a3 A
  by_cases hL:Nat.beq (n % 7) 4=true∨(Nat.beq (D+1) 0 ||Nat.blt (n % 7) 2)=true
  ·apply cD (Ds hc hg a1 hD hL hR (WZ (WZ (WZ (W0 _ _) (W0 _ _)) hl) (nleT rfl)));intro t J' b1 b2 b3
   refine⟨[t],T0,g8 b1,a2,Xb (nleT rfl) (W5 4 (a3.elim (fun e=>Nat.le_of_lt (Nat.lt_of_succ_le (W7 e))) fun e=>W7 e.1)),?_⟩;exact⟨bV.le (W0 _ _) (fin (by rw[ou.1];exact A.append b2) b3).h⟩
  ·have q2:=Bool.eq_false_iff.mpr fun h=>hL (.inr h)
   have a4:=a3.resolve_right fun h=>by rw[h.2] at q2;cases q2
   apply ay (DE hD);intro t1 t2;rw[Bool.eq_false_iff.mpr fun h=>hL (.inl h)] at t1;rw[q2] at t2;have l1:(R.map Tk.av).length≤100000:=by rw[Wr];exact WZ (WZ (WZ (W0 _ _) (W0 _ _)) hl) (nleT rfl)
   have eR:∀ {T:ξ} {R:List Tk} {t:Tk},cN (aC T) c (R.map Tk.av++[t.av]) g=noT T c (R++[t]) g:=fun {T R t}=>by rw[uf];rfl
   obtain⟨m,T1,b1,b2,b3,P⟩ : ∃ m T1,m<420∧Tp T1∧T1.length≤T0.length∧(T1.length+1=T0.length∨m=0)∧bc M 150 (bN 3 iD.o) (cG (D+1) (fL n (n % 7))) (noT T0 c R g) .next (cG (D+1) (g9 n (n % 7) m (iC (n % 7)) [])) (noT T1 c (R++[lN n]) g):=by
    cases T0 with
    |nil=>exact⟨0,[],by decide,a2,Wm _,.inr rfl,cV (by decide) ((X3 TJ n (dc a1)).trans ((l9 l1).trans (by rw[←eR];rfl)))⟩
    |cons m T1=>exact⟨m,T1,a2 m (.head _),fun x hx=>a2 x (.tail _ hx),Xh _,.inl rfl,cV (by decide) ((X3 N1 n (dc a1)).trans ((l9 l1).trans (by rw[←eR];rfl)))⟩
   apply ay P;intro b4 P;have kin:=Mv (n % 7);have cle:oj (iC (n % 7)) m≤4:=Qd kin;have c0:m=0→oj (iC (n % 7)) m=0:=fun h=>by rw[h];unfold oj;cases Nat.beq (iC (n % 7)) 6<;>rfl
   apply cj (TO h0 hD (ih (WZ (Xh _) hD)).1 (r:=oj (iC (n % 7)) m) (.inl rfl) b2 (d7 hR (g8 (vn a1).2)) (by rw[aB];show _+1+_+_+_≤_;lia));intro K T2 e2 d1 d2 d3 hr1;apply ay hr1;intro d4 L;have F:=Gk.range (pos:=iO.p) zT.1 zT.2.1 ((cO (by decide) (X3 (X3 (V8) _ kin) m (dc b1))).le (show 150≤160+10*D by lia)) L;have F2:=Gk.dz (Wm 4) (Gk.post rfl (fun x v hx=>by
    show lk x ([(gR,.cell 0),(yg,I (D+1)),(bu,.cell 2)]++(fL n (n % 7)++([(mR,I m),(jI,I (iC (n % 7)))]++e2)))=_;rw[←bP,←bP];exact oG (show lk x ([(gR,.cell 0),(yg,I (D+1:Nat)),(bu,.cell 2)]++fL n (n % 7)++[(mR,I m),(jI,I (iC (n % 7)))])=some v from hx)) F)
   have l2:((R++[lN n]++K).map Tk.av).length≤100000:=by rw[Wr,aB,aB];show _+1+_≤_;lia
   refine⟨[lN n]++K++[tW (iC (n % 7))],T2,d7 (d7 (g8 (vn a1).2) d1) (g8 (PB kin)),d2,?_,?_⟩
   ·rw[aB,aB]
    show 1+_+1+_≤_;rcases b4 with b4|b4
    ·lia
    ·have:=c0 b4;lia
   ·have e:155+10*(D+1)=160+10*D+5:=by lia
    rw[e];refine fin (L:=cG (D+1) (g9 n (n % 7) m (iC (n % 7)) [])) (J':=noT T2 c (R++[lN n]++K++[tW (iC (n % 7))]) g) ?_ (by rw[←bP,←bP];rfl);rw[ou.1];refine(A.le (by lia)).append (Dz.one (Dz.if_ (t1.le (by lia)) ?_));rw[ou.2.1];refine Dz.one (Dz.if_ (t2.le (by lia)) ?_);rw[ou.2.2.1];exact(P.le (by lia)).append (F2.cons ((cV (M:=M) (d:=6) (by decide) ((X3 (Pn (D:=D+1) (n:=n) (s:=n % 7) (m:=m) (T:=aC T2) (c:=c) (R:=(R++[lN n]++K).map Tk.av) (g:=g)) _ kin).trans ((l9 l2).trans (by rw[eR])))).le (by lia)))
end
section
def Yz.addL(h1:Yz M n el ls J (.cell i) σ1)(h2:Yz M n er ls σ1 (.cell j) σ2)(hx:ao σ2 i=some (.list xs))(hy:ao σ2 j=some (.list ys))(hl:xs.length+ys.length≤100000):Yz M n (.BinOp el .Add er pos) ls J (.cell (lenA σ2)) (σ2++[.list (xs++ys)]):=⟨by
 intro c A s m imm cs Q E C l Rp k;refine wpAny_BinOp (h1.h C l Rp fun hx' tx ix cx va Rx xx qx=>h2.h C l Rx fun hy' ty iy cy vb Ry xy qy=>?_);exact HU hx hy (by rw[aZ,aZ];exact hl) C Ry (qx.ext xy) qy fun h' tk cs' val R' x' q'=>k h' tk iy cs' val R' (xx.trans (xy.trans x')) q'⟩
end
section
def xw(n k:Nat):clip n (k:Int)=min k n:=by
 unfold clip;rw[if_neg (Int.not_lt.mpr (cT k))];rcases Nat.le_total k n with h|h
 ·rw[Int.min_eq_left (bw h),Int.max_eq_right (cT _),Xx h];rfl
 ·rw[Int.min_eq_right (bw h),Int.max_eq_right (cT _),XZ h];rfl
def qO(k:Nat):cut l (some (k:Int)) none=l.drop k:=by
 rw[ms];show (l.drop (clip l.length k)).take (l.length-clip l.length k)=_;rw[xw,WP (by rw[Xg];exact Wm _)];rcases Nat.le_total k l.length with h|h
 ·rw[Xx h]
 ·rw[XZ h,XG h,XG (Wm _)]
def pD(k:Nat):cut l none (some (k:Int))=l.take k:=by
 rw[ms];show (l.drop 0).take (clip l.length k-0)=_;rw[xw,List.drop_zero,Nat.sub_zero];rcases Nat.le_total k l.length with h|h
 ·rw[Xx h]
 ·rw[XZ h,WP h,WP (Wm _)]
def TM(i j:Nat):cut l (some (i:Int)) (some (j:Int))=(l.drop i).take (j-i):=by
 rw[ms];show (l.drop (clip l.length i)).take (clip l.length j-clip l.length i)=_;rw[xw,xw];rcases Nat.le_total i l.length with h|h
 ·rw[Xx h]
  rcases Nat.le_total j l.length with h2|h2
  ·rw[Xx h2]
  ·rw[XZ h2,WP (by rw[Xg];exact Wm _),WP (by rw[Xg];exact Nat.sub_le_sub_right h2 _)]
 ·rw[XZ h,XG h,XG (Wm _),List.take_nil,List.take_nil]
end
def NA{a n:Nat}:vI (I a) (I (n+1:Nat))=some (I (a % (n+1):Nat)):=by
 cases a with
 |zero=>rw[Nat.zero_mod];rfl
 |succ a=>rfl
def bS(i:Nat):Stmt:=(ao gO i).getD (.Pass default)
def rk(e:List (Str×AV)):ac:=⟨[(gR,.cell 0),(nN,.cell 1)]++e,dE⟩
def gc:nR:=qD gO 5
def pt:sP:=FV gc.b 2
def vG(h:Nat):Nat:=tn 0 [1,2,1,0,1] (h % 5)
noncomputable def tkZ(k n d:Nat):Tk:=⟨k,Nat.beq (n % d) 1,0,[],0⟩
noncomputable def b8(k:Nat):Tk:=⟨k,false,0,[],0⟩
def lL:ak:=.list [I 1,I 2,I 1,I 0,I 1]
def dG(s:Nat)(e:List (Str×AV)):ac:=rk ([(bZ,I s),(bu,.cell 2)]++e)
section
def NV:(List.range 420).map (fun h:Nat=>(aA [] aq 6).exs (rk []) [.list T,.list [I h,I h1,I h2]] [bS 3,bS 4])=(List.range 420).map fun h:Nat=>some (.next,dG (2+h % 8) [],[.list T,.list [I h,I h1,I h2],.list [(b8 0).av]]):=by kernel_rfl
def Pl:(List.range 420).map (fun h:Nat=>(aA [] aq 6).ev (dG s []) [.list T,.list [I h,I h1,I h2],.list R] gc.it)=(List.range 420).map fun h:Nat=>some (.rng 0 (vG h),cN T (.list [I h,I h1,I h2]) R lL):=by kernel_rfl
def tA:bS 5=.For gc.t gc.it gc.b [] gc.p∧gc.b=bN 2 gc.b++(.Expr pt.e pt.p::bT 3 gc.b)∧jv gc.t=true∧lh gc.it=true∧ke pt.e=true:=⟨by kernel_rfl,by kernel_rfl,by kernel_rfl,by kernel_rfl,by kernel_rfl⟩
def Mx:(aA [] aq 0).asg (dG s []) X (I i) gc.t=some (dG s [(d8,I i)],X):=by kernel_rfl
def Pj:(aA [] aq 6).exs (dG s [(d8,I i)]) (cN [] c R g) (bN 2 gc.b)=kU (Nat.ble (lenA R) 100000) (dG s [(d8,I i),(kl,I 0)]) (cN [] c (R++[(tkZ 2 0 2).av]) g):=by kernel_rfl
def J5:(List.range 420).map (fun n:Nat=>(aA [] aq 6).exs (dG s [(d8,I i)]) (cN (I n::T) c R g) (bN 2 gc.b))=(List.range 420).map fun n:Nat=>kU (Nat.ble (lenA R) 100000) (dG s [(d8,I i),(kl,I n)]) (cN T c (R++[(tkZ 2 n 2).av]) g):=by kernel_rfl
def Cp:(aA [] aq 0).ev (dG s [(d8,I i),(kl,I n)]) X (.Name pt.x pt.q)=some (.fn 803,X)∧(aA [] aq 0).evs (dG s [(d8,I i),(kl,I n)]) X pt.as=some ([.cell 0,I 3,.cell 2],X):=⟨by kernel_rfl,by kernel_rfl⟩
def Qa:(List.range 420).map (fun n:Nat=>(aA [] aq 6).exs (dG s [(d8,I i),(kl,I n)]) (cN T c R g) (bT 3 gc.b))=(List.range 420).map fun n:Nat=>kU (Nat.ble (lenA R) 100000) (dG s [(d8,I i),(kl,I n)]) (cN T c (R++[(tkZ 3 n 3).av]) g):=by kernel_rfl
def L5:(aA [] aq 6).exs (dG s []) (cN T c R g) [bS 6]=kU (Nat.ble (lenA R) 100000) (dG s []) (cN T c (R++[(b8 1).av]) g):=by kernel_rfl
def Hb:((List.range 420).all fun n=>(au.any fun t=>lb t (tkZ 2 n 2))&&au.any fun t=>lb t (tkZ 3 n 3))=true∧((List.range 2).all fun k=>au.any fun t=>lb t (b8 k))=true:=⟨by kernel_rfl,by kernel_rfl⟩
end
def xQ(h:n<420):tkZ 2 n 2∈au∧tkZ 3 n 3∈au :=
 have a:=aw (aV Hb.1 n (dc h))
 ⟨mW a.1,mW a.2⟩
def v6(h:k<2):b8 k∈au:=mW (aV Hb.2 k (dc h))
section
variable (hc:ew 4 c=true)(hg:ew 4 g=true)
include hc hg
theorem RE:∀ {r j:Nat} {T:ξ} {R:List Tk} {e:List (Str×AV)},Tp T→dF R→(∃ A x,R=A++[x]∧(x.k=0∨x.k=3))→R.length+4*T.length+4*r≤40000 →
  ∃ K T',dF K∧Tp T'∧K.length+4*T'.length≤4*r+4*T.length∧(∃ A x,R++K=A++[x]∧(x.k=0∨x.k=3))∧jh M 190 4 gc.t gc.b j r (dG s []) (noT T c R g) .next (dG s []) (noT T' c (R++K) g):=by
 intro r;induction r with
 |zero=>exact fun {j T R e} hT hR hx hl=>⟨[],T,fun _ h=>(by cases h),hT,by exact Wm _,by rw[aX];exact hx,by rw[aX];exact .done⟩
 |succ r ihr=>
  intro j T R e hT hR hx hl;have eR:∀ {T:ξ} {R:List Tk} {t:Tk},cN (aC T) c (R.map Tk.av++[t.av]) g=noT T c (R++[t]) g:=fun {T R t}=>by rw[uf];rfl
  have l1:(R.map Tk.av).length≤100000:=by rw[Wr];exact WZ (WZ (WZ (W0 _ _) (W0 _ _)) hl) (nleT rfl)
  obtain⟨n,T0,n1,n2,n3,A⟩ : ∃ (n:Nat) (T0:ξ),n<420∧Tp T0∧T0.length≤T.length∧bc M 150 (bN 2 gc.b) (dG s [(d8,I j)]) (noT T c R g) .next (dG s [(d8,I j),(kl,I n)]) (noT T0 c (R++[tkZ 2 n 2]) g):=by
   cases T with
   |nil=>exact⟨0,[],by decide,hT,Wm _,cV (by decide) (Pj.trans ((l9 l1).trans (by rw[←eR];rfl)))⟩
   |cons n T=>exact⟨n,T,hT n (.head _),fun x hx=>hT x (.tail _ hx),Xh _,cV (by decide) ((X3 J5 n (dc (hT n (.head _)))).trans ((l9 l1).trans (by rw[←eR];rfl)))⟩
  have R1:=d7 hR (g8 (xQ n1).1);apply ay (Qq (M:=M) hc hg (Wm 3));intro N hf;apply bJ (N n2 R1 (by rw[aB];show _+1+_+_≤_;lia));intro K T1 N;have nn:=N.n;have l2:((R++[tkZ 2 n 2]++K).map Tk.av).length≤100000:=by rw[Wr,aB,aB];show _+1+_≤_;lia
  have Yb:=Dz.expr (pos:=pt.p) (cU (c6 160) 300 0).E tA.2.2.2.2 (sC (c6 160) hf N.r (Cp (s:=s) (n:=n) (i:=j)).1 Cp.2 rfl);apply m7 (ihr (e:=[]) N.t (d7 (d7 R1 N.k) (g8 (xQ n1).2)) ⟨_,_,rfl,.inr rfl⟩ (by rw[aB,aB,aB];show _+1+_+1+_+_≤_;lia));intro K2 T2 a1 a2 a3 a4 a5;have ea:R++([tkZ 2 n 2]++K++[tkZ 3 n 3]++K2)=R++[tkZ 2 n 2]++K++[tkZ 3 n 3]++K2:=by simp only [bP]
  refine⟨[tkZ 2 n 2]++K++[tkZ 3 n 3]++K2,T2,d7 (d7 (d7 (g8 (xQ n1).1) N.k) (g8 (xQ n1).2)) a1,a2,by rw[aB,aB,aB];show 1+_+1+_+_≤_;lia,by rw[ea];exact a4,?_⟩;rw[ea];refine .step ((kK Mx).le (by decide)) ?_ a5;refine Gk.post (ls':=dG s [(d8,I j),(kl,I n)]) rfl (fun x v hx=>(show lk x ((dG s []).v++[(d8,I j),(kl,I n)])=some v from oG hx)) ?_;rw[tA.2.1];exact((A.le (by decide)).append (Yb.cons ((cV (by decide) ((X3 (Qa) n (dc n1)).trans ((l9 l2).trans (by rw[eR])))).le (by decide)))).gk
end
def LE{T:ξ}{h0 h1 h2:Nat}(hT:Tp T)(hl:T.length≤13)(b0:h0<420):∃ A x T',(x.k=0∨x.k=3)∧dF (A++[x])∧A.length≤60∧Tp T'∧T'.length≤15 ∧
  bc M 190 [bS 3,bS 4,bS 5,bS 6] (rk []) [.list (aC T),.list [I h0,I h1,I h2]] .next (dG (2+h0 % 8) []) (noT T' (.list [I h0,I h1,I h2]) (A++[x,b8 1]) lL):=by
 have d3:vG h0≤2:=by
  have h:=(by decide:∀ x∈List.range 5,x=0∨x=1∨x=2∨x=3∨x=4) _ (dc (XY h0 (nleT rfl)));unfold vG;rcases h with h|h|h|h|h<;>(rw[h];exact Xc rfl)
 apply m7 (RE (c:=.list [I h0,I h1,I h2]) (g:=lL) rfl rfl (r:=vG h0) (e:=[]) hT (g8 (v6 (by decide))) ⟨[],b8 0,rfl,.inl rfl⟩ (by show 1+_+_≤_;lia));intro K T' a1 a2 a3 hq78 L;apply gF hq78;intro A x a4 a5;have len:=by
  have:=congrArg List.length a4;rw[aB,aB,XA] at this;exact(Nat.add_right_cancel this).symm
 have F:=Gk.dz (show 3≤4 by decide) (Gk.range (pos:=gc.p) tA.2.2.1 tA.2.2.2.1 ((cO (by decide) (X3 (Pl) h0 (dc b0))).le (show 150≤190 by decide)) L);rw[a4] at F;have l1:((A++[x]).map Tk.av).length≤100000:=by rw[Wr,aB];show _+1≤_;lia
 have X9:=cV (M:=M) (by decide) ((L5 (s:=2+h0 % 8) (T:=aC T') (c:=.list [I h0,I h1,I h2]) (g:=lL)).trans (l9 l1));have e:cN (aC T') (.list [I h0,I h1,I h2]) ((A++[x]).map Tk.av++[(b8 1).av]) lL=noT T' (.list [I h0,I h1,I h2]) (A++[x,b8 1]) lL:=by rw[uf,bP];rfl
 rw[e] at X9;refine⟨A,x,T',a5,by rw[←a4];exact d7 (g8 (v6 (by decide))) a1,by lia,a2,by lia,?_⟩;refine((cV (by decide) (X3 (NV) h0 (dc b0))).le (by decide)).append (Dz.cons ?_ (X9.le (by decide)));rw[tA.1];exact F
def nB(k:Nat):Tk:=Bool.rec ⟨k,false,Bool.rec 0 1 (k.beq 5),[99],0⟩ ⟨5,false,0,[],0⟩ (k.beq 10)
def h10:gY:=iu gO 10
def jE:jZ:=kM gO 11
def gE:jZ:=kM jE.o 0
def gu:jZ:=kM gE.o 0
def gv:jZ:=kM gu.o 0
def gP:jZ:=kM gv.o 0
structure gC where
 l:Expr
 r:Expr
 p:Pos
noncomputable def j8(e:Expr):gC:=match e with|.BinOp l .Add r p=>⟨l,r,p⟩|e=>⟨e,e,default⟩
noncomputable def gC.e(b:gC):Expr:=.BinOp b.l .Add b.r b.p
def w1:gY:=iu jE.b 0
def w2:gY:=iu gE.b 0
def w3:gY:=iu gu.b 0
def w4:gY:=iu gv.b 0
def w5:gY:=iu gP.b 0
def b1:gC:=j8 w1.e
def b2:gC:=j8 w2.e
def b3:gC:=j8 w3.e
def b4:gC:=j8 w4.e
def b5:gC:=j8 w5.e
def c1:gC:=j8 b1.l
def c3:gC:=j8 b3.l
def c4:gC:=j8 b4.l
def c5:gC:=j8 b5.l
def d5:gC:=j8 c5.l
def h12:gY:=iu gO 12
def ud:gC:=j8 h12.e
def Hh:bS 11=.If jE.t jE.b jE.o jE.p∧jE.o=[.If gE.t gE.b gE.o gE.p]∧gE.o=[.If gu.t gu.b gu.o gu.p]∧gu.o=[.If gv.t gv.b gv.o gv.p]∧gv.o=[.If gP.t gP.b gP.o gP.p]∧gP.o=[] ∧
 jE.b=[.Assign w1.ts b1.e w1.p]∧gE.b=[.Assign w2.ts b2.e w2.p]∧gu.b=[.Assign w3.ts b3.e w3.p]∧gv.b=[.Assign w4.ts b4.e w4.p]∧gP.b=[.Assign w5.ts b5.e w5.p]:=⟨by kernel_rfl,by kernel_rfl,by kernel_rfl,by kernel_rfl,by kernel_rfl,by kernel_rfl,by kernel_rfl,by kernel_rfl,by kernel_rfl,by kernel_rfl,by kernel_rfl⟩
def pu:b1.l=c1.e∧b3.l=c3.e∧b4.l=c4.e∧b5.l=c5.e∧c5.l=d5.e∧bS 12=.Assign h12.ts ud.e h12.p∧bS 10=.Assign h10.ts h10.e h10.p:=⟨by kernel_rfl,by kernel_rfl,by kernel_rfl,by kernel_rfl,by kernel_rfl,by kernel_rfl,by kernel_rfl⟩
def EB:iS w1.ts b1.e=true∧iS w2.ts b2.e=true∧iS w3.ts b3.e=true∧iS w4.ts b4.e=true∧iS w5.ts b5.e=true∧iS h12.ts ud.e=true∧iS h10.ts h10.e=true:=⟨by kernel_rfl,by kernel_rfl,by kernel_rfl,by kernel_rfl,by kernel_rfl,by kernel_rfl,by kernel_rfl⟩
def bW(s k y a q:Nat)(v:AV):ac:=⟨[(gR,.cell 0),(nN,.cell 1),(bZ,I s),(bu,.cell q),(n1,I k),(vm,v),(vK,I y),(Uz,I a)],dE⟩
section
variable {k y a:Nat}
def Sz:(List.range 420).map (fun h1:Nat=>(aA [] aq 6).exs (dG s []) (cN T (.list [I h0,I h1,I h2]) R g) [bS 7,bS 8,bS 9])=(List.range 420).map fun h1:Nat=>some (.next,dG s [(n1,I (h1 % 11)),(vm,(nB (h1 % 11)).av),(vK,I (h1 % 6))],cN T (.list [I h0,I h1,I h2]) R g):=by kernel_rfl
def P3:(aA [] aq 12).ev (dG s [(n1,I k),(vm,v),(vK,I y)]) (cN T (.list [I h0,u,I h2]) R g) h10.e=ob (vI (I h2) (I (lenA R:Nat))) fun r=>some (r,cN T (.list [I h0,u,I h2]) R g):=by kernel_rfl
def Ln:(aA [] aq 0).asgm (dG s [(n1,I k),(vm,v),(vK,I y)]) X (I a) h10.ts=some (bW s k y a 2 v,X):=by kernel_rfl
def SO:(List.range 6).map (fun y:Nat=>((aA [] aq 4).tst (bW s k y a 2 v) X jE.t,(aA [] aq 4).tst (bW s k y a 2 v) X gE.t,(aA [] aq 4).tst (bW s k y a 2 v) X gu.t,(aA [] aq 4).tst (bW s k y a 2 v) X gv.t,(aA [] aq 4).tst (bW s k y a 2 v) X gP.t))=(List.range 6).map fun y:Nat=>(some (y.beq 1,X),some (y.beq 2,X),some (y.beq 3,X),some (y.beq 4,X),some (y.beq 5,X)):=by kernel_rfl
def OL:([w1.ts,w2.ts,w3.ts,w4.ts,w5.ts,h12.ts].map fun ts=>(aA [] aq 0).asgm (bW s k y a q v) X (.cell q2) ts)=[w1.ts,w2.ts,w3.ts,w4.ts,w5.ts,h12.ts].map fun _=>some (bW s k y a q2 v,X):=by kernel_rfl
def ul:([c1.l,b2.l,c3.l,c4.l,d5.l].map fun e=>(aA [] aq 6).ev (bW s k y a 2 v) (ca::cb::.list xs::Y) e)=[c1.l,b2.l,c3.l,c4.l,d5.l].map fun _=>some (.cell (lenA (ca::cb::.list xs::Y)),ca::cb::.list xs::Y++[.list (cut xs none (some (a:Int)))]):=by kernel_rfl
def H3:([b1.r,b4.r].map fun e=>(aA [] aq 6).ev (bW s k y a 2 v) (ca::cb::.list xs::Y) e)=[b1.r,b4.r].map fun _=>some (.cell (lenA (ca::cb::.list xs::Y)),ca::cb::.list xs::Y++[.list (cut xs (some (a:Int)) none)]):=by kernel_rfl
def DY:([b2.r,b3.r].map fun e=>(aA [] aq 6).ev (bW s k y a 2 v) (ca::cb::.list xs::Y) e)=[b2.r,b3.r].map fun _=>some (.cell (lenA (ca::cb::.list xs::Y)),ca::cb::.list xs::Y++[.list (cut xs (some ((a+1:Nat):Int)) none)]):=by kernel_rfl
def EZ:(aA [] aq 6).ev (bW s k y a 2 v) (ca::cb::.list xs::Y) b5.r=some (.cell (lenA (ca::cb::.list xs::Y)),ca::cb::.list xs::Y++[.list (cut xs (some ((a+2:Nat):Int)) none)])∧(aA [] aq 6).ev (bW s k y a 2 v) (ca::cb::.list xs::Y) d5.r=some (.cell (lenA (ca::cb::.list xs::Y)),ca::cb::.list xs::Y++[.list (cut xs (some ((a+1:Nat):Int)) (some ((a+2:Nat):Int)))]):=⟨by kernel_rfl,by kernel_rfl⟩
def Fw:([c1.r,c3.r].map fun e=>(aA [] aq 6).ev (bW s k y a 2 v) X e)=[c1.r,c3.r].map fun _=>some (.cell (lenA X),X++[.list [v]]):=by kernel_rfl
def Ei:([c4.r,c5.r].map fun e=>(aA [] aq 6).ev (bW s k y a 2 v) (ca::cb::.list xs::Y) e)=[c4.r,c5.r].map fun _=>obp (obp (ob (iZ xs (.k (a:Int))) fun r=>some (r,ca::cb::.list xs::Y)) fun v J=>some ([v],J)) fun vs J=>gd (Nat.ble (lenA vs) 100000) (some (new J (.list vs))):=by kernel_rfl
def RU:(aA [] aq 6).ev (bW s k y a q v) X ud.l=some (.cell q,X)∧(aA [] aq 6).ev (bW s k y a q v) X ud.r=some (.cell (lenA X),X++[.list [v,(b8 1).av]]):=⟨by kernel_rfl,by kernel_rfl⟩
end
structure oy (al:Tk) (n:Nat) (E:List Tk):Prop where
 e:∃ Yb p,E=Yb++[p]∧(p.k=0∨p.k=1∨p.k=3∨p.k=al.k)
 i:dF E
 n:E.length≤n+1
def yu{N a b:Nat}(h:a≤b):min a N+(N-b)≤N:=WZ (W1 (Nat.sub_le_sub_left h N) _) (W7 (by rw[XA,Nat.min_comm];exact Nat.sub_add_min_cancel N a))
def xf(h:a≤b):min a N+1+(N-b)≤N+1:=by rw[Xo];exact W9 (yu h)
section
variable {x e:Tk}(hx:x.k=0∨x.k=3)(he:e.k=1)
theorem um(h:a≤A.length+1):∃ Yb,(A++[x,e]).drop a=Yb++[e]:=by
 have e1:A++[x,e]=(A++[x])++[e]:=by rw[bP];rfl
 rw[e1,List.drop_append_of_le_length (by rw[aB];exact h)];exact⟨_,rfl⟩
theorem Aw(h:A.length+2≤a):(A++[x,e]).drop a=[]:=XG (by rw[aB];exact h)
theorem Q3:(A++[x,e]).take (A.length+1)=A++[x]:=by
 have e1:A++[x,e]=(A++[x])++[e]:=by rw[bP];rfl
 rw[e1];exact List.take_left' (by rw[aB];rfl)
variable (hR:dF (A++[x,e]))(ha:al∈au)(h:a<A.length+2)(at1:(A++[x,e])[a]?=some t)
theorem rj(h:dF R)(a:Nat):dF (R.take a):=fun t ht=>h t (List.mem_of_mem_take ht)
theorem qn(h:dF R)(a:Nat):dF (R.drop a):=fun t ht=>h t (List.mem_of_mem_drop ht)
include hx he hR ha h
theorem Mn:oy al (A.length+2) ((A++[x,e]).take a++[al]++(A++[x,e]).drop a):=by
 refine⟨?_,d7 (d7 (rj hR a) (g8 ha)) (qn hR a),?_⟩
 ·apply bn (um (Nat.le_sub_one_of_lt h));intro Yb hB
  rw[hB,←bP];exact⟨_,e,rfl,.inr (.inl he)⟩
 ·rw[aB,aB,Xk,Xg,aB]
  exact xf (Wm a)
theorem Mm:oy al (A.length+2) ((A++[x,e]).take a++(A++[x,e]).drop (a+1)):=by
 refine⟨?_,d7 (rj hR a) (qn hR _),?_⟩
 ·rcases XU a (A.length+1) with q|q
  ·apply bn (um (q));intro Yb hB
   rw[hB,←bP];exact⟨_,e,rfl,.inr (.inl he)⟩
  ·rw[Nat.le_antisymm (Xm h) q,Aw (Wm _),aX,Q3]
   exact⟨_,x,rfl,hx.elim .inl fun h=>.inr (.inr (.inl h))⟩
 ·rw[aB,Xk,Xg,aB]
  exact Nat.le_succ_of_le (yu (Xh a))
theorem SE:oy al (A.length+2) ((A++[x,e]).take a++[al]++(A++[x,e]).drop (a+1)):=by
 refine⟨?_,d7 (d7 (rj hR a) (g8 ha)) (qn hR _),?_⟩
 ·rcases XU a (A.length+1) with q|q
  ·apply bn (um (q));intro Yb hB
   rw[hB,←bP];exact⟨_,e,rfl,.inr (.inl he)⟩
  ·rw[Aw (Nat.succ_lt_succ q),aX]
   exact⟨_,al,rfl,.inr (.inr (.inr rfl))⟩
 ·rw[aB,aB,Xk,Xg,aB]
  exact xf (Xh a)
include at1
theorem VQ:oy al (A.length+2) ((A++[x,e]).take a++[t]++(A++[x,e]).drop a):=by
 refine⟨?_,d7 (d7 (rj hR a) (g8 (hR t (Xp at1)))) (qn hR a),?_⟩
 ·apply bn (um (Nat.le_sub_one_of_lt h));intro Yb hB
  rw[hB,←bP];exact⟨_,e,rfl,.inr (.inl he)⟩
 ·rw[aB,aB,Xk,Xg,aB]
  exact xf (Wm a)
theorem Ve:oy al (A.length+2) ((A++[x,e]).take a++((A++[x,e]).drop (a+1)).take 1++[t]++(A++[x,e]).drop (a+2)):=by
 refine⟨?_,d7 (d7 (d7 (rj hR a) (rj (qn hR _) 1)) (g8 (hR t (Xp at1)))) (qn hR _),?_⟩
 ·rcases XU a A.length with q|q
  ·apply bn (um (Nat.succ_lt_succ q));intro Yb hB
   rw[hB,←bP];exact⟨_,e,rfl,.inr (.inl he)⟩
  ·rw[Aw (W4 q _),aX]
   refine⟨_,t,rfl,?_⟩;rw[List.getElem?_append_right q] at at1;rcases (Nat.le_one_iff_eq_zero_or_eq_one.mp (Nat.sub_le_iff_le_add'.mpr (Xm h))) with z|z
   ·rw[z] at at1
    injection at1 with e1;rw[←e1];exact hx.elim .inl fun h=>.inr (.inr (.inl h))
   ·rw[z] at at1
    injection at1 with e1;rw[←e1];exact .inr (.inl he)
 ·rw[aB,aB,aB,Xk,Xk,Xg,Xg,aB]
  rw[Nat.add_assoc (min a _),Nat.add_assoc (min a _)];exact WZ (W1 (xf (Wm 1)) _) (W9 (yu (Xh a)))
end
section
variable {a:Nat}{xs:List AV}
def qK(hy:y<6)(Yb:bc M 150 (tn [] [[],jE.b,gE.b,gu.b,gv.b,gP.b] y) (bW s k y a 2 v) J .next L' J'):bc M 150 [bS 11] (bW s k y a 2 v) J .next L' J':=by
 have h:=X3 (SO (s:=s) (k:=k) (a:=a) (v:=v) (X:=J)) y (dc hy);have t2:Tz M 150 gE.t (bW s k y a 2 v) J (y.beq 2) J:=iM (M:=M) (d:=4) (by decide) (congrArg (fun p=>p.2.1) h);have t3:Tz M 150 gu.t (bW s k y a 2 v) J (y.beq 3) J:=iM (M:=M) (d:=4) (by decide) (congrArg (fun p=>p.2.2.1) h);have t4:Tz M 150 gv.t (bW s k y a 2 v) J (y.beq 4) J:=iM (M:=M) (d:=4) (by decide) (congrArg (fun p=>p.2.2.2.1) h);have t5:Tz M 150 gP.t (bW s k y a 2 v) J (y.beq 5) J:=iM (M:=M) (d:=4) (by decide) (congrArg (fun p=>p.2.2.2.2) h);apply j7 Hh;intro i1 i2 i3 i4 i5 hr1;apply ay hr1;intro i6 _;rw[i1];refine Dz.one (Dz.if_ (iM (M:=M) (d:=4) (by decide) (congrArg Prod.fst h)) ?_);have go2:(y.beq 1=false)→(bc M 150 [.If gE.t gE.b gE.o gE.p] (bW s k y a 2 v) J .next L' J')→bc M 150 (Bool.rec jE.o jE.b (y.beq 1)) (bW s k y a 2 v) J .next L' J':=fun e X9=>by rw[e];rw[i2];exact X9
 have go3:(y.beq 2=false)→(bc M 150 [.If gu.t gu.b gu.o gu.p] (bW s k y a 2 v) J .next L' J')→bc M 150 (Bool.rec gE.o gE.b (y.beq 2)) (bW s k y a 2 v) J .next L' J':=fun e X9=>by rw[e];rw[i3];exact X9
 have go4:(y.beq 3=false)→(bc M 150 [.If gv.t gv.b gv.o gv.p] (bW s k y a 2 v) J .next L' J')→bc M 150 (Bool.rec gu.o gu.b (y.beq 3)) (bW s k y a 2 v) J .next L' J':=fun e X9=>by rw[e];rw[i4];exact X9
 have go5:(y.beq 4=false)→(bc M 150 [.If gP.t gP.b gP.o gP.p] (bW s k y a 2 v) J .next L' J')→bc M 150 (Bool.rec gv.o gv.b (y.beq 4)) (bW s k y a 2 v) J .next L' J':=fun e X9=>by rw[e];rw[i5];exact X9
 rcases (o6 hy) with rfl|rfl|rfl|rfl|rfl|rfl
 ·have z:bc M 150 (Bool.rec gP.o gP.b (Nat.beq 0 5)) (bW s k 0 a 2 v) J .next L' J':=by
   rw[i6];exact Yb
  exact go2 rfl (Dz.one (Dz.if_ t2 (go3 rfl (Dz.one (Dz.if_ t3 (go4 rfl (Dz.one (Dz.if_ t4 (go5 rfl (Dz.one (Dz.if_ t5 z)))))))))))
 ·exact Yb
 ·exact go2 rfl (Dz.one (Dz.if_ t2 Yb))
 ·exact go2 rfl (Dz.one (Dz.if_ t2 (go3 rfl (Dz.one (Dz.if_ t3 Yb)))))
 ·exact go2 rfl (Dz.one (Dz.if_ t2 (go3 rfl (Dz.one (Dz.if_ t3 (go4 rfl (Dz.one (Dz.if_ t4 Yb))))))))
 ·exact go2 rfl (Dz.one (Dz.if_ t2 (go3 rfl (Dz.one (Dz.if_ t3 (go4 rfl (Dz.one (Dz.if_ t4 (go5 rfl (Dz.one (Dz.if_ t5 Yb)))))))))))
def pS(h0:iS ts e=true)(H:Yz M 150 e (bW s k y a q0 v) J (.cell q) J')(hm:ts∈[w1.ts,w2.ts,w3.ts,w4.ts,w5.ts,h12.ts]):bc M 150 [.Assign ts e p] (bW s k y a q0 v) J .next (bW s k y a q v) J':=by
 have A:=cU (c6 (M:=M) 120) 300 0;exact Dz.one (Dz.asg A.E A.S h0 H (X3 (OL (X:=J')) ts hm))
variable (hl:xs.length≤500)
include hl
theorem SX:Yz M 150 b1.e (bW s k y a 2 v) [ca,cb,.list xs,g] (.cell 8) [ca,cb,.list xs,g,.list (xs.take a),.list [v],.list (xs.take a++[v]),.list (xs.drop a),.list (xs.take a++[v]++xs.drop a)]:=by
 have lt:=List.length_take_le' a xs;have ld:(xs.drop a).length≤xs.length:=by rw[Xg];exact XE _ _
 have z1:=cO (M:=M) (d:=6) (by decide) (X3 (ul (s:=s) (k:=k) (y:=y) (a:=a) (v:=v) (ca:=ca) (cb:=cb) (xs:=xs) (Y:=[g])) c1.l (.head _));rw[pD] at z1;have z3:=Yz.addL (pos:=c1.p) z1 (cO (M:=M) (d:=6) (by decide) (X3 (Fw (s:=s) (k:=k) (y:=y) (a:=a) (v:=v) (X:=[ca,cb,.list xs,g,.list (xs.take a)])) c1.r (.head _))) (xs:=xs.take a) (ys:=[v]) rfl rfl (by exact W8 (WZ lt hl) (nleT rfl));have z4:=cO (M:=M) (d:=6) (by decide) (X3 (H3 (s:=s) (k:=k) (y:=y) (a:=a) (v:=v) (ca:=ca) (cb:=cb) (xs:=xs) (Y:=[g,.list (xs.take a),.list [v],.list (xs.take a++[v])])) b1.r (.head _));rw[qO] at z4;unfold gC.e;rw[pu.1];exact Yz.addL z3 z4 (xs:=xs.take a++[v]) (ys:=xs.drop a) rfl rfl (by rw[aB];exact WZ (Xb (W9 (WZ lt hl)) (WZ ld hl)) (nleT rfl))
theorem RG:Yz M 150 b2.e (bW s k y a 2 v) [ca,cb,.list xs,g] (.cell 6) [ca,cb,.list xs,g,.list (xs.take a),.list (xs.drop (a+1)),.list (xs.take a++xs.drop (a+1))]:=by
 have ld:(xs.drop (a+1)).length≤xs.length:=by rw[Xg];exact XE _ _
 have z1:=cO (M:=M) (d:=6) (by decide) (X3 (ul (s:=s) (k:=k) (y:=y) (a:=a) (v:=v) (ca:=ca) (cb:=cb) (xs:=xs) (Y:=[g])) b2.l (.tail _ (.head _)));rw[pD] at z1;have z4:=cO (M:=M) (d:=6) (by decide) (X3 (DY (s:=s) (k:=k) (y:=y) (a:=a) (v:=v) (ca:=ca) (cb:=cb) (xs:=xs) (Y:=[g,.list (xs.take a)])) b2.r (.head _));rw[qO] at z4;exact Yz.addL z1 z4 (xs:=xs.take a) (ys:=xs.drop (a+1)) rfl rfl (WZ (Xb (WZ (List.length_take_le' a xs) hl) (WZ ld hl)) (nleT rfl))
theorem K9:Yz M 150 b3.e (bW s k y a 2 v) [ca,cb,.list xs,g] (.cell 8) [ca,cb,.list xs,g,.list (xs.take a),.list [v],.list (xs.take a++[v]),.list (xs.drop (a+1)),.list (xs.take a++[v]++xs.drop (a+1))]:=by
 have lt:=List.length_take_le' a xs;have ld:(xs.drop (a+1)).length≤xs.length:=by rw[Xg];exact XE _ _
 have z1:=cO (M:=M) (d:=6) (by decide) (X3 (ul (s:=s) (k:=k) (y:=y) (a:=a) (v:=v) (ca:=ca) (cb:=cb) (xs:=xs) (Y:=[g])) c3.l (.tail _ (.tail _ (.head _))));rw[pD] at z1;have z3:=Yz.addL (pos:=c3.p) z1 (cO (M:=M) (d:=6) (by decide) (X3 (Fw (s:=s) (k:=k) (y:=y) (a:=a) (v:=v) (X:=[ca,cb,.list xs,g,.list (xs.take a)])) c3.r (.tail _ (.head _)))) (xs:=xs.take a) (ys:=[v]) rfl rfl (by exact W8 (WZ lt hl) (nleT rfl));have z4:=cO (M:=M) (d:=6) (by decide) (X3 (DY (s:=s) (k:=k) (y:=y) (a:=a) (v:=v) (ca:=ca) (cb:=cb) (xs:=xs) (Y:=[g,.list (xs.take a),.list [v],.list (xs.take a++[v])])) b3.r (.tail _ (.head _)));rw[qO] at z4;unfold gC.e;rw[pu.2.1];exact Yz.addL z3 z4 (xs:=xs.take a++[v]) (ys:=xs.drop (a+1)) rfl rfl (by rw[aB];exact WZ (Xb (W9 (WZ lt hl)) (WZ ld hl)) (nleT rfl))
variable (at1:iZ xs (.k (a:Int))=some t)
include at1
theorem Kd:Yz M 150 b4.e (bW s k y a 2 v) [ca,cb,.list xs,g] (.cell 8) [ca,cb,.list xs,g,.list (xs.take a),.list [t],.list (xs.take a++[t]),.list (xs.drop a),.list (xs.take a++[t]++xs.drop a)]:=by
 have lt:=List.length_take_le' a xs;have ld:(xs.drop a).length≤xs.length:=by rw[Xg];exact XE _ _
 have z1:=cO (M:=M) (d:=6) (by decide) (X3 (ul (s:=s) (k:=k) (y:=y) (a:=a) (v:=v) (ca:=ca) (cb:=cb) (xs:=xs) (Y:=[g])) c4.l (.tail _ (.tail _ (.tail _ (.head _)))));rw[pD] at z1;have z3:=Yz.addL (pos:=c4.p) z1 (cO (M:=M) (d:=6) (by decide) (v:=.cell 5) (J':=[ca,cb,.list xs,g,.list (xs.take a),.list [t]]) ((X3 (Ei (s:=s) (k:=k) (y:=y) (a:=a) (v:=v) (ca:=ca) (cb:=cb) (xs:=xs) (Y:=[g,.list (xs.take a)])) c4.r (.head _)).trans (by rw[at1];rfl))) (xs:=xs.take a) (ys:=[t]) rfl rfl (by exact W8 (WZ lt hl) (nleT rfl));have z4:=cO (M:=M) (d:=6) (by decide) (X3 (H3 (s:=s) (k:=k) (y:=y) (a:=a) (v:=v) (ca:=ca) (cb:=cb) (xs:=xs) (Y:=[g,.list (xs.take a),.list [t],.list (xs.take a++[t])])) b4.r (.tail _ (.head _)));rw[qO] at z4;unfold gC.e;rw[pu.2.2.1];exact Yz.addL z3 z4 (xs:=xs.take a++[t]) (ys:=xs.drop a) rfl rfl (by rw[aB];exact WZ (Xb (W9 (WZ lt hl)) (WZ ld hl)) (nleT rfl))
theorem NH:Yz M 150 b5.e (bW s k y a 2 v) [ca,cb,.list xs,g] (.cell 10) [ca,cb,.list xs,g,.list (xs.take a),.list ((xs.drop (a+1)).take 1),.list (xs.take a++(xs.drop (a+1)).take 1),.list [t],.list (xs.take a++(xs.drop (a+1)).take 1++[t]),.list (xs.drop (a+2)),.list (xs.take a++(xs.drop (a+1)).take 1++[t]++xs.drop (a+2))]:=by
 have lt:=List.length_take_le' a xs;have ld:(xs.drop (a+2)).length≤xs.length:=by rw[Xg];exact XE _ _
 have l1:=XN 1 (xs.drop (a+1));have z1:=cO (M:=M) (d:=6) (by decide) (X3 (ul (s:=s) (k:=k) (y:=y) (a:=a) (v:=v) (ca:=ca) (cb:=cb) (xs:=xs) (Y:=[g])) d5.l (.tail _ (.tail _ (.tail _ (.tail _ (.head _))))));rw[pD] at z1;have z0:=cO (M:=M) (d:=6) (by decide) (EZ (s:=s) (k:=k) (y:=y) (a:=a) (v:=v) (ca:=ca) (cb:=cb) (xs:=xs) (Y:=[g,.list (xs.take a)])).2;rw[TM,show a+2-(a+1)=1 by exact Nat.add_sub_add_left _ _ _] at z0;have y2:Yz M 150 c5.e (bW s k y a 2 v) [ca,cb,.list xs,g] (.cell 8) [ca,cb,.list xs,g,.list (xs.take a),.list ((xs.drop (a+1)).take 1),.list (xs.take a++(xs.drop (a+1)).take 1),.list [t],.list (xs.take a++(xs.drop (a+1)).take 1++[t])]:=by
  unfold gC.e;rw[pu.2.2.2.2.1];exact Yz.addL (pos:=c5.p) (Yz.addL (pos:=d5.p) z1 z0 (xs:=xs.take a) (ys:=(xs.drop (a+1)).take 1) rfl rfl (WZ (Xb (WZ lt hl) l1) (nleT rfl))) (cO (M:=M) (d:=6) (by decide) (v:=.cell 7) (J':=[ca,cb,.list xs,g,.list (xs.take a),.list ((xs.drop (a+1)).take 1),.list (xs.take a++(xs.drop (a+1)).take 1),.list [t]]) ((X3 (Ei (s:=s) (k:=k) (y:=y) (a:=a) (v:=v) (ca:=ca) (cb:=cb) (xs:=xs) (Y:=[g,.list (xs.take a),.list ((xs.drop (a+1)).take 1),.list (xs.take a++(xs.drop (a+1)).take 1)])) c5.r (.tail _ (.head _))).trans (by rw[at1];rfl))) (xs:=xs.take a++(xs.drop (a+1)).take 1) (ys:=[t]) rfl rfl (by rw[aB];exact WZ (W9 (Xb (WZ lt hl) l1)) (nleT rfl))
 have z4:=cO (M:=M) (d:=6) (by decide) (EZ (s:=s) (k:=k) (y:=y) (a:=a) (v:=v) (ca:=ca) (cb:=cb) (xs:=xs) (Y:=[g,.list (xs.take a),.list ((xs.drop (a+1)).take 1),.list (xs.take a++(xs.drop (a+1)).take 1),.list [t],.list (xs.take a++(xs.drop (a+1)).take 1++[t])])).1;rw[qO] at z4;have e:b5.e=.BinOp c5.e .Add b5.r b5.p:=by
  show Expr.BinOp b5.l .Add b5.r b5.p=_;rw[pu.2.2.2.1]
 rw[e];exact Yz.addL y2 z4 (xs:=xs.take a++(xs.drop (a+1)).take 1++[t]) (ys:=xs.drop (a+2)) rfl rfl (by rw[aB,aB];exact WZ (Xb (W9 (Xb (WZ lt hl) l1)) (WZ ld hl)) (nleT rfl))
end
def qV{l:List AV}(h:bX l=[]):(l.all fun x=>match x with|.cell k=>dB k idx|_=>true)=true:=by
 refine XK.mpr fun x hx=>?_;have:=List.flatMap_eq_nil_iff.mp h x hx;cases x with
 |cell k=>cases this
 |_=>rfl
def B7{α:Type}{l:List α}{x:α}:ao (l++[x]) (lenA l)=some x:=by rw[aZ,cJ,List.getElem?_append_right (Wm _),XT];rfl
def iG{a b:Bool}(h:a=true)(g:b=true):(a&&b)=true:=by rw[h,g];rfl
section
variable (hW:dF W)
include hW
theorem Qh:nT [lenA (.list (aC T)::.list (aC hs)::Y),1] [(bZ,I s),(bu,.cell (lenA (.list (aC T)::.list (aC hs)::Y)))] (.list (aC T)::.list (aC hs)::Y++[rowC W])=true ∧
  ig [lenA (.list (aC T)::.list (aC hs)::Y),1] (.list (aC T)::.list (aC hs)::Y++[rowC W])=[rowC W,.list (aC hs)] ∧
  fQ (bA [lenA (.list (aC T)::.list (aC hs)::Y),1]) [(bZ,I s),(bu,.cell (lenA (.list (aC T)::.list (aC hs)::Y)))]=[(bZ,I s),(bu,.cell 0)]:=by
 have cq:dr (.list (aC T)::.list (aC hs)::Y++[rowC W]) (lenA (.list (aC T)::.list (aC hs)::Y))=rowC W:=by
  unfold dr;rw[B7]
 have c1:dr (.list (aC T)::.list (aC hs)::Y++[rowC W]) 1=.list (aC hs):=rfl;have ln:lenA (.list (aC T)::.list (aC hs)::Y)=lenA Y+2:=rfl;have ln2:lenA (.list (aC T)::.list (aC hs)::Y++[rowC W])=lenA Y+3:=by
  rw[aZ,aZ];rw[aB];rfl
 rw[ln] at cq ⊢;refine⟨?_,?_,?_⟩
 ·unfold nT
  rw[ln2];have a1:kY [lenA Y+2,1]=true:=rfl;have a2:([lenA Y+2,1].all fun i=>i.blt (lenA Y+3))=true:=by
   show (Nat.blt (lenA Y+2) (lenA Y+3)&&(true&&true))=true;rw[show Nat.blt (lenA Y+2) (lenA Y+3)=true from Wn (Wm _)];rfl
  rw[a1,a2];show (((fP (dr _ (lenA Y+2))).all _&&((fP (dr _ 1)).all _&&true))&&(dB (lenA Y+2) [lenA Y+2,1]&&true))=true;rw[cq,c1];have b4:dB (lenA Y+2) [lenA Y+2,1]=true:=by
   show (Bool.rec _ true (Nat.beq (lenA Y+2) (lenA Y+2)))=true;rw[Xz]
  exact iG (iG (qV (iq (jy hW))) (iG (qV (iq pp)) rfl)) (iG b4 rfl)
 ·show [fC _ (dr _ (lenA Y+2)),fC _ (dr _ 1)]=_
  rw[cq,c1];show [ak.list (aH _ (W.map Tk.av)),.list (aH _ (aC hs))]=_;rw[jn (jy hW) (fun _=>rfl) (fun _=>rfl),jn pp (fun _=>rfl) (fun _=>rfl)];rfl
 ·show [(bZ,I s),(bu,AV.cell (ey [lenA Y+2,1] (lenA Y+2)))]=_
  rw[show ey [lenA Y+2,1] (lenA Y+2)=0 by
   show (Bool.rec _ 0 (Nat.beq (lenA Y+2) (lenA Y+2)))=0;rw[Xz]]
end
def Si(h:k<11):nB k∈au:=mW (aV (show ((List.range 11).all fun k=>au.any fun t=>lb t (nB k))=true by kernel_rfl) k (dc h))
structure EI (W:List Tk):Prop where
 i:dF W
 n:W.length≤66
 r:∀ {P:Params} {b:Nat} {m:Md},∃ S l,Rn P b m W S l
 e:∀ {pre suf:List Tk} {t:Tk},W=pre++t::suf→wt t.k=0∨hJ suf
def VO(h:oy al n E)(ha:al∈au)(hn:n≤62):EI (E++[al,b8 1]):=by
 obtain⟨hq77,e3,e4⟩:=h;apply gF hq77;intro Yb p e1 e2;refine⟨d7 e3 (fun t ht=>?_),by rw[aB];exact WZ (W4 e4 2) (WZ (W4 hn 3) (nleT rfl)),fun {P b m}=>?_,fun {pre suf t} q=>?_⟩
 ·rcases Xf.mp ht with rfl|ht
  ·exact ha
  ·rw[List.mem_singleton.mp ht];exact v6 (by decide)
 ·rw[e1,bP]
  exact Oy e2 rfl
 ·refine IS (R:=E++[al]) (e:=b8 1) rfl (pre:=pre) ?_
  rw[←q,bP];rfl
section
def V0{x al:Tk}(hx:x.k=0∨x.k=3)(hR:dF (A++[x,b8 1]))(ha:al∈au)(hA:A.length≤60)(hy:y<6)(ha2:a<A.length+2):∃ E X9 q,oy al (A.length+2) E∧ao (noT T c (A++[x,b8 1]) g++X9) q=some (rowC E) ∧
  bc M 150 [bS 11] (bW s k y a 2 al.av) (noT T c (A++[x,b8 1]) g) .next (bW s k y a q al.av) (noT T c (A++[x,b8 1]) g++X9):=by
 obtain⟨t,at1⟩ : ∃ t,(A++[x,b8 1])[a]?=some t:=⟨(A++[x,b8 1])[a]'(by rw[aB];exact ha2),List.getElem?_eq_getElem _⟩;have hl:((A++[x,b8 1]).map Tk.av).length≤500:=by rw[Wr,aB];show _+2≤_;exact WZ (W4 hA _) (nleT rfl)
 have st:=uA at1;apply j7 Hh;intro _ _ _ _ _ hr1;apply j7 hr1;intro _ j1 j2 j3 j4 j5;apply j7 EB;intro p1 p2 p3 p4 p5 hr1;apply ay hr1;intro _ _;have m1:∀ {X Y:List Tk},ak.list (X.map Tk.av++Y.map Tk.av)=rowC (X++Y):=fun {X Y}=>by unfold rowC;rw[Wl]
 have:=o6 hy;rcases this with rfl|rfl|rfl|rfl|rfl|rfl
 ·refine⟨A++[x,b8 1],[],2,⟨⟨A++[x],b8 1,by rw[bP];rfl,.inr (.inl rfl)⟩,hR,by rw[aB];exact Xh _⟩,rfl,?_⟩
  rw[aX];exact qK (by decide) Dz.nil
 ·refine⟨_,_,8,Mn hx rfl hR ha ha2,?_,qK (by decide) (show bc _ _ jE.b _ _ _ _ _ by rw[j1];exact pS p1 (SX hl) (.head _))⟩
  show some (ak.list (((A++[x,b8 1]).map Tk.av).take a++[al.av]++((A++[x,b8 1]).map Tk.av).drop a))=_;unfold rowC;simp only [Wl,Xu,XQ];rfl
 ·refine⟨_,_,6,Mm hx rfl hR ha ha2,?_,qK (by decide) (show bc _ _ gE.b _ _ _ _ _ by rw[j2];exact pS p2 (RG hl) (.tail _ (.head _)))⟩
  show some (ak.list (((A++[x,b8 1]).map Tk.av).take a++((A++[x,b8 1]).map Tk.av).drop (a+1)))=_;unfold rowC;simp only [Wl,Xu,XQ]
 ·refine⟨_,_,8,SE hx rfl hR ha ha2,?_,qK (by decide) (show bc _ _ gu.b _ _ _ _ _ by rw[j3];exact pS p3 (K9 hl) (.tail _ (.tail _ (.head _))))⟩
  show some (ak.list (((A++[x,b8 1]).map Tk.av).take a++[al.av]++((A++[x,b8 1]).map Tk.av).drop (a+1)))=_;unfold rowC;simp only [Wl,Xu,XQ];rfl
 ·refine⟨_,_,8,VQ hx rfl hR ha ha2 at1,?_,qK (by decide) (show bc _ _ gv.b _ _ _ _ _ by rw[j4];exact pS p4 (Kd hl st) (.tail _ (.tail _ (.tail _ (.head _)))))⟩
  show some (ak.list (((A++[x,b8 1]).map Tk.av).take a++[t.av]++((A++[x,b8 1]).map Tk.av).drop a))=_;unfold rowC;simp only [Wl,Xu,XQ];rfl
 ·refine⟨_,_,10,Ve hx rfl hR ha ha2 at1,?_,qK (by decide) (show bc _ _ gP.b _ _ _ _ _ by rw[j5];exact pS p5 (NH hl st) (.tail _ (.tail _ (.tail _ (.tail _ (.head _))))))⟩
  show some (ak.list (((A++[x,b8 1]).map Tk.av).take a++(((A++[x,b8 1]).map Tk.av).drop (a+1)).take 1++[t.av]++((A++[x,b8 1]).map Tk.av).drop (a+2)))=_;unfold rowC;simp only [Wl,Xu,XQ];rfl
end
def QO(h1:lk bZ l=some (I s))(h2:lk bu l=some (.cell q)):∀ y v,lk y [(bZ,I s),(bu,AV.cell q)]=some v→lk y l=some v:=fun y v hv=>by
 rw[eU,eU] at hv
 by_cases q1:bZ=y
 ·rw[if_pos q1] at hv
  subst q1;rw[←hv];exact h1
 ·rw[if_neg q1] at hv
  by_cases q2:bu=y
  ·rw[if_pos q2] at hv
   clear q1;subst q2;rw[←hv];exact h2
  ·rw[if_neg q2] at hv;cases hv
def Ta{n s:Nat}{t:Cx→Sem Flow}{ls ls':ac}{J:St}{T hs:ξ}{W:List Tk}(hW:dF W){Y:St}(h0:ls.sc=dE)(h1:lk bZ ls'.v=some (I s))(h2:lk bu ls'.v=some (.cell (lenA (.list (aC T)::.list (aC hs)::Y))))
  (H:Gk M n 0 t ls J .next ls' (.list (aC T)::.list (aC hs)::Y++[rowC W])):Gk M n 0 t ls J .next ⟨[(bZ,I s),(bu,.cell 0)],dE⟩ [rowC W,.list (aC hs)]:=by
 apply cw (Qh hW);intro k1 k2 k3;have P:Gk M n 0 t ls J .next ⟨fQ (bA [lenA (.list (aC T)::.list (aC hs)::Y),1]) [(bZ,I s),(bu,.cell (lenA (.list (aC T)::.list (aC hs)::Y)))],dE⟩ (ig [lenA (.list (aC T)::.list (aC hs)::Y),1] (.list (aC T)::.list (aC hs)::Y++[rowC W])) :=
  Gk.pick (ls1:=⟨[(bZ,I s),(bu,.cell (lenA (.list (aC T)::.list (aC hs)::Y)))],dE⟩) rfl h0.symm (QO h1 h2) k1 H
 rw[k2,k3] at P;exact P
section
def SK{x:Tk}(hx:x.k=0∨x.k=3)(hR:dF (A++[x]))(hA:A.length≤60)(b1:h1<420):∃ W,EI W ∧
  Gk M 190 0 (fun c=>execs [bS 7,bS 8,bS 9,bS 10,bS 11,bS 12] c.env) (dG s []) (noT T (.list (aC [h0,h1,h2])) (A++[x,b8 1]) lL) .next ⟨[(bZ,I s),(bu,.cell 0)],dE⟩ [rowC W,.list (aC [h0,h1,h2])]:=by
 have k11:h1 % 11<11:=XY _ (by decide);have hal:=Si k11;have hR2:dF (A++[x,b8 1]):=fun t ht=>by
  rcases List.mem_append.mp ht with h|h
  ·exact hR t (aK _ h)
  ·rcases Xf.mp h with rfl|h
   ·exact hR _ (bF _ (.head _))
   ·rw[List.mem_singleton.mp h];exact v6 (by decide)
 have ln:(A++[x,b8 1]).length=A.length+1+1:=by rw[aB];rfl
 have la:lenA ((A++[x,b8 1]).map Tk.av)=A.length+1+1:=by rw[aZ,Wr,ln]
 apply dj (V0 hx hR2 hal hA (XY _ (by decide)) (XY _ (Nat.zero_lt_succ _)));intro E X9 q e1 e2 e3;have D:=cU (c6 (M:=M) 120) 300 0;apply j7 EB;intro _ _ _ _ _ hr1;apply ay hr1;intro p12 p10;have s2:=Dz.one (Dz.asg (pos:=h10.p) D.E D.S p10 (cO (by decide) ((P3 (s:=s) (k:=h1 % 11) (v:=(nB (h1 % 11)).av) (y:=h1 % 6) (T:=aC T) (h0:=h0) (u:=I h1) (h2:=h2) (g:=lL)).trans (by rw[la,NA];rfl))) Ln);apply ay (RU);intro l1 l2;have y12:=Yz.addL (pos:=ud.p) (cO (by decide) l1) (cO (M:=M) (d:=6) (by decide) l2) (oa e2) B7 (xs:=E.map Tk.av) (ys:=[(nB (h1 % 11)).av,(b8 1).av]) (by rw[Wr];exact WZ (W4 (WZ e1.n (W4 hA 3)) _) (nleT rfl));have s4:=pS (p:=h12.p) p12 y12 (.tail _ (.tail _ (.tail _ (.tail _ (.tail _ (.head _))))));have W:=VO e1 hal (W4 hA _);have eW:ak.list (E.map Tk.av++[(nB (h1 % 11)).av,(b8 1).av])=rowC (E++[nB (h1 % 11),b8 1]):=by unfold rowC;rw[Wl];rfl
 rw[eW] at s4;refine⟨_,W,?_⟩;rw[pu.2.2.2.2.2.1,pu.2.2.2.2.2.2];have G:=(cV (M:=M) (d:=6) (by decide) (X3 (Sz (s:=s) (T:=aC T) (h0:=h0) (h2:=h2) (R:=(A++[x,b8 1]).map Tk.av) (g:=lL)) h1 (dc b1))).append (s2.append (e3.append s4));exact(Ta W.i rfl rfl rfl (Y:=rowC (A++[x,b8 1])::lL::(X9++[.list [(nB (h1 % 11)).av,(b8 1).av]])) G.gk).le (by decide)
end
def h13:gY:=iu gO 13
def sk:uV:=Ew h13.e
def hO(s:Nat)(e:List (Str×AV)):ac:=⟨[(bZ,I s),(bu,.cell 0)]++e,dE⟩
def CF:bS 13=.Assign h13.ts sk.e h13.p∧iS h13.ts sk.e=true:=⟨by kernel_rfl,by kernel_rfl⟩
section
def BP:(aA [] aq 0).ev (hO s []) X (.Name sk.x sk.q)=some (.fn 824,X)∧(aA [] aq 0).evs (hO s []) X sk.as=some ([.cell 0,I s],X)∧(aA [] aq 0).asgm (hO s []) X (.tup [.cell 1,v]) h13.ts=some (hO s [(c9,.cell 1),(ip,v)],X):=⟨by kernel_rfl,by kernel_rfl,by kernel_rfl⟩
end
section
variable (hW:dF W)(hl:W.length≤66)(hb:2≤b∧b≤9)
include hW hl hb
theorem P4(h:Rn M.Z.P b gQ W S l):Gk M 160 0 (fun c=>execs [bS 13] c.env) (hO b []) [rowC W] .next (hO b [(c9,.cell 1),(ip,.str (.k l))]) [rowC W,.list (aL S)]:=by
 apply af (IQ hW hl hb h);intro X f1 f2;have A:=cU (c6 (M:=M) 130) 300 0;have Y:=sC (c6 130) f1 f2 (cp:=sk.cp) (BP (v:=.none)).1 (BP (v:=.none)).2.1 rfl;have D:=Dz.one (Dz.asg (pos:=h13.p) A.E A.S CF.2 Y (BP).2.2);rw[CF.1];have ok:nT [0,1] (hO b [(c9,.cell 1),(ip,.str (.k l))]).v ([rowC W,.list (aL S)]++X)=true:=by
  have b3:((dK (hO b [(c9,.cell 1),(ip,.str (.k l))]).v).all fun x=>match x with|.cell k=>dB k [0,1]|_=>true)=true:=by
   clear h f2 Y D;cases l<;>rfl
  refine iG rfl (iG ?_ (iG (iG (qV (iq (jy hW))) (iG (qV (iq hU)) rfl)) b3));show (Nat.blt 0 (lenA X+2)&&(Nat.blt 1 (lenA X+2)&&true))=true;rw[show Nat.blt 0 (lenA X+2)=true from Wn (Nat.zero_lt_succ _),show Nat.blt 1 (lenA X+2)=true from Wn (Xn _ _)];rfl
 have P:=Gk.pick (k:=0) (ls:=hO b []) (ls1:=hO b [(c9,.cell 1),(ip,.str (.k l))]) rfl rfl (fun _ _ h=>h) ok D.gk;have e:ig [0,1] ([rowC W,.list (aL S)]++X)=[rowC W,.list (aL S)]:=by
  show [ak.list (aH _ (W.map Tk.av)),.list (aH _ (aL S))]=_;rw[jn (jy hW) (fun _=>rfl) (fun _=>rfl),jn hU (fun _=>rfl) (fun _=>rfl)];rfl
 rw[e] at P;exact P
theorem UW(h:Rn M.Z.P b gQ W S l):Gk M 160 0 (fun c=>execs [bS 13] c.env) (hO b []) [rowC W,.list (aC hs)] .next (hO b [(c9,.cell 1),(ip,.str (.k l))]) [rowC W,.list (aL S),.list (aC hs)]:=by
 have F:=Gk.frame (M:=M) (n:=160) (A:=[rowC W]) (A':=[rowC W,.list (aL S)]) (R:=[.list (aC hs)]) (ls:=hO b []) (ls':=hO b [(c9,.cell 1),(ip,.str (.k l))]) (f:=.next) (t:=fun c=>execs [bS 13] c.env) (WK _) ?_ ?_ ?_ rfl ?_ ?_ rfl ?_
 ·have e1:bE (dS ([rowC W]:St).length ([ak.list (aC hs)]:St).length) [rowC W]=[rowC W]:=congrArg (·::[]) (lD hW (fun _=>rfl) fun _=>rfl)
  have e2:bE (dS ([rowC W,.list (aL S)]:St).length ([ak.list (aC hs)]:St).length) [rowC W,.list (aL S)]=[rowC W,.list (aL S)]:=by
   show [fC _ (rowC W),ak.list (aH _ (aL S))]=_;rw[lD hW (fun _=>rfl) fun _=>rfl,jn hU (fun _=>rfl) (fun _=>rfl)]
  rw[e1,e2] at F;exact F
 ·refine iG (XK.mpr fun x hx=>?_) rfl
  apply af (cC hx);intro n _ e0;clear hx;subst e0;rfl
 ·show (match ew 1 (rowC W) with|true=>true|false=>false)=true
  rw[show ew 1 (rowC W)=true from ur (jy hW) 1]
 ·intro x v hx
  replace hx:lk x [(bZ,I b),(bu,AV.cell 0)]=some v:=hx;rw[eU,eU] at hx
  by_cases q1:bZ=x
  ·rw[if_pos q1] at hx
   injection hx with hx;subst hx;rfl
  ·rw[if_neg q1] at hx
   by_cases q2:bu=x
   ·rw[if_pos q2] at hx
    injection hx with hx;subst hx;rfl
   ·rw[if_neg q2] at hx;cases hx
 ·show ((bt (W.map Tk.av)++[]).all (dD []))=true
  rw[aX];exact Am (jy hW)
 ·rfl
 ·intro ov
  exact P4 hW hl hb h
end
def CR.rows0(h:CR M imm ρ c (.list [])):CR M imm ρ c (.rows (SS.k []) (.k 0)):=by
 apply dj h.list_inv;intro _ _ _ e0 v _;clear h;subst e0;(obtain e:_=_:=aj.inv v;clear v;subst e);exact .rows (by rw[fT];exact .nil) (kL _) (by rw[bH];exact bO 0)
def aN.rows0(h:aN M imm ρ cs J):∀ k,ao J k=some (.list [])→aN M imm ρ cs (dT J k (.rows (SS.k []) (.k 0))):=by
 induction h with
 |nil=>intro k e;injection e
 |cons h g ih=>
  intro k e;cases k with
  |zero=>exact .cons (bM e▸h).rows0 g
  |succ k=>exact .cons h (ih k e)
def Dz.rows0(H:Dz M n t ls J f ls' J')(k:Nat)(hk:ao J' k=some (.list [])):Dz M n t ls J f ls' (dT J' k (.rows (SS.k []) (.k 0))):=⟨by
 intro c A s m imm cs Q E C l R q;exact H.h C l R fun h' tk m' imm' cs' fl R' l' x' f'=>q h' tk m' imm' cs' fl ⟨R'.F,R'.N,R'.nd,R'.C.rows0 k hk,R'.l⟩ l' x' f'⟩
def yI(i:Nat):AV:=match i with|23=>.none|_=>ff
noncomputable def ww:ak:=.list [.str [.lit [13]],.str [.lit [10]],.str [.lit [13,10]]]
def zL(a b c:ak)(i:Nat):ak:=tn ww [a,b,c] i
noncomputable def AM:Es:=⟨[],0,0,0,true,true⟩
def uQ(b:AV)(v:AV)(e:List (Str×AV)):List (Str×AV):=[(bZ,b),(bu,.cell 0),(c9,.cell 1),(ip,v)]++e
def xE(b:AV):Nat→AV:=tO yI 0 [some (.cell 3),some .none,some (.cell 6),some (cL gQ.sta),some (.cell 7),some .none,some (.cell 8),some .none,some (I 0),none,none,none,none,some (I 0),some (I 0),some (.bool true),some (.bool true),some ff,some .none,some .none,some b,some (I 1000),some (.str (.k [10])),none,some .none,some .none,some .none,some .none]
def En(b:Nat):jT where
 B:=[]
 sp:=aq
 d:=6
 fr:=[]
 ls:=⟨uQ (I b) (.any 40) [],dE⟩
 P:=[.any 0,.any 1,.any 2]
 ss:=[bS 14,bS 15,bS 16]
 f:=.next
 k:=7
 out:=uQ (I b) (.any 40) [(mM,.cell 5),(fK,.str []),(nw,I 0)]
 Q:=bB (tO (fun i=>.any i) 0 [none,none,none,some (.inst 771 [(ir,.cell 4)]),some (.list []),none,some (.list []),some (.list []),some (.list []),some ww]) (xE (I b))
def No:([2,3,4,5,6,7,8,9].all fun b=>(En b).chk)=true:=by kernel_rfl
section
variable (hb:2≤b∧b≤9)
include hb
theorem LL:bc M 150 [bS 14,bS 15,bS 16] (hO b [(c9,.cell 1),(ip,.str (.k l))]) [A,Yb,C] .next ⟨uQ (I b) (.str (.k l)) [(mM,.cell 5),(fK,.str []),(nw,I 0)],dE⟩ (aW b (zL A Yb C) gQ AM [] .none .none yI):=by
 have eN:∀ n:Int,flA (am (gS M.Z.P (fun _=>0) fun _=>[]) (fun _=>.str (.k l)) (zL A Yb C)) (I n)=I n:=fun n=>by show AV.int (.k ((aD.k n).val _))=_;rw[bH];rfl
 have X8:=jP (v:=fun _=>.str (.k l)) (z:=zL A Yb C) (Z:=gS M.Z.P (fun _=>0) fun _=>[]) rfl (fR _ _ _) (En b) (fun U U h=>by injection h) ⟨rfl,(by decide:6≤12),rfl⟩ (aV No b ((by decide:∀ x∈List.range 10,2≤x→x∈[2,3,4,5,6,7,8,9]) b (dc (Nat.lt_succ_of_le hb.2)) hb.1));have J2:=X8.cast (ls':=hO b [(c9,.cell 1),(ip,.str (.k l))]) (l1':=⟨uQ (I b) (.str (.k l)) [(mM,.cell 5),(fK,.str []),(nw,I 0)],dE⟩) (s1':=bB (tO (fun i=>zL A Yb C i) 0 [none,none,none,some (.inst 771 [(ir,.cell 4)]),some (.list []),none,some (.list []),some (.list []),some (.list []),some ww]) (xE (I b))) (by
  show (⟨[(bZ,flA _ (I b)),(bu,.cell 0),(c9,.cell 1),(ip,.str (.k l))],dE⟩ : ac)=_;rw[eN];rfl) rfl rfl (by
  show (⟨[(bZ,flA _ (I b)),(bu,.cell 0),(c9,.cell 1),(ip,.str (.k l)),(mM,.cell 5),(fK,.str []),(nw,flA _ (I 0))],dE⟩ : ac)=_;rw[eN,eN];rfl) (by
  have e:fC (am (gS M.Z.P (fun _=>0) fun _=>[]) (fun _=>.str (.k l)) (zL A Yb C)) (o7 (xE (I b)))=o7 (xE (I b)):=by
   show o7 (xE (flA _ (I b)))=_;rw[eN]
  show [A,Yb,C,ak.inst 771 [(ir,.cell 4)],.list [],fC _ (o7 (xE (I b))),.list [],.list [],.list [],ww]=_;rw[e];rfl)
 exact J2.rows0 4 rfl
end
def Bt:List Stmt:=bT 3 gO
def Vi:Bt=([bS 3,bS 4,bS 5,bS 6]++([bS 7,bS 8,bS 9,bS 10,bS 11,bS 12]++([bS 13]++[bS 14,bS 15,bS 16])))++bT 17 gO:=by kernel_rfl
def HV:∀ x v,lk x (bx l [] 0 []).v=some v→lk x (uQ b (.str (.k l)) [(mM,.cell 5),(fK,.str []),(nw,I 0)])=some v:=fun x v hx=>by
 show lk x ((bZ,b)::(bx l [] 0 []).v)=some v;rw[eU]
 by_cases q:bZ=x
 ·subst q
  have:lk bZ (bx l [] 0 []).v=none:=by kernel_rfl
  rw[this] at hx;cases hx
 ·rw[if_neg q];exact hx
section
def U2(hT:Tp T)(hl:T.length≤13)(b0:h0<420)(b1:h1<420){s:χ}{Q:Flow→χ→Prop}{E:Θ}(Tt:Tc c A)(C:aR M c A 310)(ll:bL c (rk []))
  (R:ai M c.h₀ c.L s.heap m (rk []).v [.list (aC T),.list (aC [h0,h1,h2])] imm cs) (k:∀ h' tk m',Fr c.h₀ c.L h' m'→Q (.ret (.bool true)) (sU s h' tk)):wpAny (model ar M.w) A (execs Bt c.env) Q E s:=by
 apply cj (LE (M:=M) (h1:=h1) (h2:=h2) hT hl b0);intro Yb x T' a1 a2 a3 hr1;apply cw hr1;intro a4 a5 S1;apply af (SK (M:=M) a1 a2 a3 (s:=2+h0 % 8) (h0:=h0) (h1:=h1) (h2:=h2) b1 (T:=T'));intro W hW G2;apply bJ (hW.r (P:=M.Z.P) (b:=2+h0 % 8) (m:=gQ));intro S l rn;have hb:2≤2+h0 % 8∧2+h0 % 8≤9:=⟨W0 _ _,W1 (Xm (XY _ (nleT rfl))) 2⟩;have iv:jj 0 gQ AM (hG W):=N3 ⟨Wm _,⟨bO _,bO _⟩,⟨bO _,bO _⟩,⟨bO _,bO _⟩⟩ ⟨rfl,rfl,rfl⟩;have G:=((S1.gk (k:=0)).le (show 190≤310 by decide)).append ((G2.le (show 190≤310 by decide)).append (((UW (M:=M) hW.i hW.n hb (hs:=[h0,h1,h2]) rn).le (show 160≤310 by decide)).append (((LL (M:=M) hb (l:=l) (A:=rowC W) (Yb:=.list (aL S)) (C:=.list (aC [h0,h1,h2]))).gk (k:=0)).le (show 150≤310 by decide))));apply bJ (KG (M:=M) (z:=zL (rowC W) (.list (aL S)) (.list (aC [h0,h1,h2]))) (en:=.none) (y:=yI) hb hW.i hW.n hW.e (LG rn) (UY hb rn iv.b (by exact W1 hW.n _)) rfl rfl (v:=AM) rfl rn iv);intro ls' J' X7;rw[Vi];rw[qL];refine Wg (G.h C ll R fun hx tx mx ix cx fl Rx lx xx yx fx=>?_);(obtain e:_=_:=FR.inv fx;clear fx;subst e);refine X7.h Tt C (s:=sU s hx tx) ⟨lx.sc,fun y v hy=>lx.lo y v (HV y v hy),lx.nd⟩ ⟨Rx.F,Rx.N,Rx.nd,Rx.C,fun y v hy=>Rx.l y v (HV y v hy)⟩ fun h' tk m' imm' cs' fl R' l' x' f'=>?_;apply af (FR.inv f');intro v e0 hv;clear f';subst e0;(obtain e:_=_:=hv.inv;clear hv;subst e);exact k h' tk m' R'.F
end
def mY:gY:=iu gO 1
def l8(e:List (Str×AV)):ac:=⟨(gR,.cell 0)::e,dE⟩
def E7:bS 1=.Assign mY.ts mY.e mY.p∧iS mY.ts mY.e=true:=⟨by kernel_rfl,by kernel_rfl⟩
section
def SP:(aA [] aq 6).ev (l8 []) [.list xs] mY.e=obp (yw [.list xs,.list [I 0,I 0,I 0]] 0 (.cell 1)) fun v J=>Option.rec (zz v none (some (I 3)) J) (fun k=>yR k none (some (I 3)) J) (il v):=by kernel_rfl
def Ow:(aA [] aq 0).asgm (l8 []) X (.cell 3) mY.ts=some (l8 [(nN,.cell 3)],X):=by kernel_rfl
def U5:(aA [] aq 6).exs (l8 [(nN,.cell 3)]) [.list xs,a,b,c] [bS 2]=some (.next,⟨[(gR,.cell 4),(nN,.cell 3)],dE⟩,[.list xs,a,b,c,.list (cut xs (some 3) none)]):=by kernel_rfl
end
section
def I0{T:ξ}(hl:T.length≤16):Gk M 150 0 (fun c=>execs [bS 1,bS 2] c.env) (l8 []) [.list (aC T)] .next (rk []) [.list (aC (T.drop 3)),.list (aC ((T++[0,0,0]).take 3))]:=by
 have A:=cU (c6 (M:=M) 120) 300 0;have e0:yw [.list (aC T),.list [I 0,I 0,I 0]] 0 (.cell 1)=some (.cell 2,[.list (aC T),.list [I 0,I 0,I 0],.list (aC (T++[0,0,0]))]):=by
  show gd (Nat.ble (lenA (aC T)+3) 100000) (some (AV.cell 2,[ak.list (aC T),.list [I 0,I 0,I 0],.list (aC T++[I 0,I 0,I 0])]))=_;rw[aZ,show (aC T).length=T.length from Wr ..,Wn (WZ (W4 hl _) (nleT rfl))];unfold aC;rw[Wl];rfl
 have y:=cO (M:=M) (d:=6) (by decide) (v:=.cell 3) (J':=[.list (aC T),.list [I 0,I 0,I 0],.list (aC (T++[0,0,0])),.list (aC ((T++[0,0,0]).take 3))]) (SP.trans (by
  rw[e0];show some (AV.cell 3,[ak.list (aC T),.list [I 0,I 0,I 0],.list (aC (T++[0,0,0])),.list (cut (aC (T++[0,0,0])) none (some ((3:Nat):Int)))])=_;rw[pD];unfold aC;rw[Xu]))
 have s2:=cV (M:=M) (d:=6) (by decide) (U5 (xs:=aC T) (a:=.list [I 0,I 0,I 0]) (b:=.list (aC (T++[0,0,0]))) (c:=.list (aC ((T++[0,0,0]).take 3))));have ec:cut (aC T) (some (3:Int)) none=aC (T.drop 3):=by
  show cut (aC T) (some ((3:Nat):Int)) none=_;rw[qO];unfold aC;rw[XQ]
 rw[ec] at s2;have c2:=qV (idx:=[4,3]) (l:=fP (.list (aC ((T++[0,0,0]).take 3)))) (iq pp);have ok:nT [4,3] [(gR,.cell 4),(nN,.cell 3)] [ak.list (aC T),.list [I 0,I 0,I 0],.list (aC (T++[0,0,0])),.list (aC ((T++[0,0,0]).take 3)),.list (aC (T.drop 3))]=true:=iG rfl (iG rfl (iG (iG (qV (idx:=[4,3]) (l:=fP (.list (aC (T.drop 3)))) (iq pp)) (iG c2 rfl)) rfl));have P:=Gk.pick (k:=0) (ls:=l8 []) (ls1:=⟨[(gR,.cell 4),(nN,.cell 3)],dE⟩) (idx:=[4,3]) rfl rfl (fun _ _ h=>h) ok ((Dz.one (Dz.asg (pos:=mY.p) A.E A.S E7.2 y Ow)).append s2).gk;have e:ig [4,3] [ak.list (aC T),.list [I 0,I 0,I 0],.list (aC (T++[0,0,0])),.list (aC ((T++[0,0,0]).take 3)),.list (aC (T.drop 3))]=[.list (aC (T.drop 3)),.list (aC ((T++[0,0,0]).take 3))]:=by
  show [ak.list (aH _ (aC (T.drop 3))),.list (aH _ (aC ((T++[0,0,0]).take 3)))]=_;rw[jn pp (fun _=>rfl) (fun _=>rfl),jn pp (fun _=>rfl) (fun _=>rfl)]
 rw[e] at P;rw[E7.1];exact P
end
structure zr (ys:List π) (l:List Int):Prop where
 h:IntsAre ys (l.map fun a=>a.fmod 420)
def QP{l:List Int}(h:CarriedAll ys ((l.filter fun U=>true).map fun a=>PyData.int (a.fmod 420))):zr ys l:=by
 rw[List.filter_eq_self.mpr fun U U=>rfl] at h;exact⟨CarriedAll.intsOf h⟩
noncomputable def r7(l:List Int):ξ:=l.map fun a=>(a.fmod 420).toNat
def TN(h:zr ys l):aj M imm ρ ys (aC (r7 l)):=by
 obtain⟨h⟩:=h;induction l generalizing ys with
 |nil=>cases h;exact .nil
 |cons a r ih=>
  cases h with
  |cons _ t h=>
   refine .cons (.int ?_) (ih h);rw[bH];exact(Int.toNat_of_nonneg (Int.fmod_nonneg_of_pos a (by decide))).symm
def Fu(l:List Int):Tp (r7 l):=fun n hn=>by
 apply af (cC hn);intro a _ e0;subst e0;exact(Int.toNat_lt (Int.fmod_nonneg_of_pos a (b:=420) (by decide))).mpr (Int.fmod_lt_of_pos a (by decide))
def CP:dE.lookup gR=some .local∧dE.lookup ("__debug__" : Str)=none:=by exact⟨by kernel_rfl,by kernel_rfl⟩
def t3(b:∀ y∈x,y<420):∃ h0 h1 h2,(x++[0,0,0]).take 3=[h0,h1,h2]∧h0<420∧h1<420:=by
 have z:(0:Nat)<420:=by decide
 induction x using oL with
 |nil=>exact⟨0,0,0,rfl,z,z⟩
 |cons a x=>
  have ha:=b a (.head _);induction x using oL with
  |nil=>exact⟨a,0,0,rfl,ha,z⟩
  |cons a2 x=>
   have hb:=b a2 (.tail _ (.head _));clear b;induction x using oL with
   |nil=>exact⟨a,a2,0,rfl,ha,hb⟩
   |cons a3 x=>exact⟨a,a2,a3,rfl,ha,hb⟩
def MY{zs:List π}{s:χ}{Q:Flow→χ→Prop}{E:Θ}
  (Tt:Tc c A) (C:aR M c A 310) (ls:bL c (l8 [])) (F:Fr c.h₀ c.L s.heap m) (hD:m gR=some (.ref D))
  (nD:c.h₀.get? D=none) (pl:s.heap.PlainList D zs.toArray) (hne:D≠c.L) (h2:zr zs l) (k2:l.length≤16) (k:∀ h' tk m',Fr c.h₀ c.L h' m'→Q (.ret (.bool true)) (sU s h' tk)):wpAny (model ar M.w) A (execs (bT 1 gO) c.env) Q E s:=by
 apply bn pl;intro n2 e2;have ln:(r7 l).length≤16:=by unfold r7;rw[Wr];exact k2
 have R:ai M c.h₀ c.L s.heap m (l8 []).v [.list (aC (r7 l))] [] [.list D zs n2]:=by
  refine⟨F,fun q hq=>?_,?_,.cons (.list (TN h2) (by unfold aC;rw[Wr];exact W2 ln)) .nil,fun x v hx=>?_⟩
  ·rcases bU hq with rfl
   exact⟨e2,hne,nD⟩
  ·exact WH.mpr ⟨WA,List.nodup_nil⟩
  ·replace hx:lk x [(gR,AV.cell 0)]=some v:=hx
   rw[eU] at hx
   by_cases q:gR=x
   ·rw[if_pos q] at hx
    rw[←q,←bM hx];exact⟨_,hD,.cell rfl⟩
   ·rw[if_neg q] at hx;injection hx
 have G:=(I0 (M:=M) ln).le (show 150≤310 by decide);apply dj (t3 (Fu l));intro h0 h1 h2 e3 b0 b1;rw[e3] at G;have eL:bT 1 gO=[bS 1,bS 2]++Bt:=by kernel_rfl
 rw[eL];rw[qL];refine Wg (G.h C ls R fun hx tx mx ix cx fl Rx lx xx yx fx=>?_);(obtain e:_=_:=FR.inv fx;subst e);exact U2 (T:=(r7 l).drop 3) (fun n hn=>(Fu l) n (List.mem_of_mem_drop hn)) (by rw[Xg];exact Nat.sub_le_of_le_add ln) b0 b1 Tt C (s:=sU s hx tx) lx Rx fun h' tk m' F'=>k h' tk m' F'
def K6:iA.body=bS 0::bT 1 gO:=by kernel_rfl
def Bn:dE=iA.scope.names:=by kernel_rfl
def Nb:∀ x v,lk x (l8 []).v=some v→iA.scope.names.lookup x=some .local:=fun x v hx=>by
 rw[←Bn];replace hx:lk x [(gR,AV.cell 0)]=some v:=hx;rw[eU] at hx
 by_cases q:gR=x
 ·exact q▸CP.1
 ·rw[if_neg q] at hx;injection hx
def I1:iA.scope.names.lookup ("__debug__" : Str)=none:=by rw[←Bn];exact CP.2
def PV:gR=Str.ofString "tape":=by kernel_rfl
set_option tactic.hygienic true in
def Wf:WalkO vw loose (fun _ _=>True) (InK bY) gp.row.toRowW iA [] fun f vs=>PySem.call f vs:=by
 intro w s₀ s₁ mg mb G KX fa o pm cd doc dV kV ho hd hcd hD hmg hg args vals as hpre hlay hrd hwl hlo;refine Ground.open G ?_;intro T Yb D TE TW;apply bJ (bmod_of_top T);intro _ _ X7
 try (apply gF (based_of_top (d:=iA) T rfl hmg ho hd);intro _ _ he B0;have he':cd=_:=he;subst he';clear he)
 clear hmg
 wrow_args hpre hlay hrd hwl hlo
 refine enter_call ?_
 w_top on
 try refine codeAny_mono ?_ (fun _ _ g=>GoodW.toG g)
 have K0:=below_caller (Top.heap T)
 w_call any ho hd hcd hD T F
 generalize hQ:(fun (f:Flow) (s':χ)=>GoodW gp.row.claim _ _ _ _ _ _)=Q;rw[K6];generalize hR:bT 1 gO=rest;refine WX ?_
 conv in exec (bS 0) _=>arg 1;whnf
 repeat walk1
 rename_i D2 ys2 hZ tkZ FZ NZ nD2 lZ pD2 cD2
 subst hR;refine MY (M:=⟨w,mg,mb,gS w.params (fun _=>0) fun _=>[],rfl,fR _ _ _⟩) (c:=⟨s₁.heap,s₁.heap,[],s₁.heap.objs.size,fa,iA.name,iA.scope,.ref _⟩) ⟨⟨callerA,rfl,K0⟩,rfl⟩ ⟨⟨callerA,K0⟩,KX,topRead_of T,by kernel_rfl,rfl,rfl,(show 1+claimMargin+1+310≤990 by decide),(show 4+3+4*310≤9800 by decide)⟩ ⟨Bn,Nb,I1⟩ FZ ?_ nD2 pD2.1 (pD2.ne_locals FZ) (QP cD2) ?_ ?_
 ·rw[PV];exact if_pos rfl
 ·exact XN _ _
 ·intro h2 t2 m2 F2
  subst hQ;refine goodW_bool F2 hg (raisesW_false ?_) ?_
  ·wrow_none_raised
  ·wrow_post
end
end
end Mine
theorem PySem.Challenge.cw_te0005_03_holds : PySem.Challenge.rw_te0005_03.Holds := by
 exact Mine.head Mine.Wf