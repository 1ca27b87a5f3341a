import PyProof.Rows.All
import Wide.All
import OpenK.AllK
import Wide.FinOn
import KE.KSlice
import Lean
import PySem.Challenge.RW_te0005_02
set_option genSizeOf false
set_option genInjectivity false
set_option tactic.hygienic false
set_option linter.all false
set_option genCtorIdx false
set_option Elab.async false
set_option maxRecDepth 100000
set_option maxHeartbeats 0
open PySem PySem.W PyProof.Rows PySem.Calls
namespace Mine
abbrev ξ:=List Nat
abbrev κ:=Option
abbrev π:=Value
abbrev χ:=Shared
abbrev ω:=Str→Option Value
abbrev Θ:=Value→Shared→Prop
abbrev Δ:=List (Addr×Obj)
def Y6:=@wpAny_bind
def Y8:=@wpAny_pure
def Y9:=@Bool.and_eq_true
def Za:=@List.length_replicate
def Zb:=@List.map_append
def Zc:=@Nat.le_refl
def Zd:=@Nat.ble_eq_true_of_le
def Ze:=@wpAny_holding
def Zf:=@Bool.and_eq_true_iff
def Zg:=@decide_eq_false_iff_not
def Zh:=@List.length_map
def Zi:=@List.mem_map_of_mem
def Zj:=@wpAny_standAt
def Zk:=@List.cons_ne_nil
def Zl:=@List.size_toArray
def Zm:=@List.getElem?_toArray
def Zn:=@List.reverse_append
def Zo:=@List.getElem?_eq_some_iff
def Zp:=@List.not_mem_nil
def Zq:=@beq_iff_eq
def Zr:=@List.replicate_succ
def Zt:=@Nat.add_sub_cancel_left
def Zu:=@List.dropLast_concat_getLast
def Zv:=@List.eq_of_mem_replicate
def Zw:=@decide_eq_false
def Zx:=@List.nodup_cons
def Zy:=@Heap.lt_size
def Zz:=@List.eq_nil_of_length_eq_zero
def ZA:=@Nat.zero_le
def ZB:=@of_decide_eq_true
def ZC:=@List.foldl_append
def ZD:=@List.cons_append
def ZE:=@List.take_of_length_le
def ZF:=@wpAny_mono
def ZG:=@List.getElem?_eq_none
def ZH:=@sizeLine_eq
def ZI:=@List.map_cons
def ZJ:=@Int.add_assoc
def ZK:=@Nat.ne_of_lt
def ZL:=@List.nil_append
def ZM:=@wpAny_execs_cons
def ZN:=@List.mem_map
noncomputable section
section
set_option backward.match.sparseCases false
noncomputable def zd0(f:Nat):Nat→ξ→ξ:=Nat.rec (fun U a=>a) (fun U h k a=>Bool.rec (h (Nat.div k 128) (Nat.mod k 128::a)) a (Nat.beq k 0)) f
noncomputable abbrev Zs(k:Nat):Str:=⟨(zd0 99 k []).toArray⟩
def n0:=Zs 25752532588
def n1:=Zs 107
def n2:=Zs 53901865833295839
def n4:=Zs 6450058896032446450
def n6:=Zs 143754168476539146713715
def n7:=Zs 18771179380
def n9:=Zs 53901697516122079
def aF:=Zs 242841190
def dT:=Zs 1069101576680944204139
def dR:=Zs 57345192117172587
def gb:=Zs 53902004352495583
def rH:=Zs 5683423073544009588
def jL:=Zs 3362631858162
def pR:=Zs 739080573569091557527366533793369248331636
def mj:=Zs 1913063
def nP:=Zs 59593009682511092
def uY:=Zs 948629182022938424933
def vL:=Zs 45109898289129123384230772444476569460
def rN:=Zs 3403926080353561510119142638319476
def rd:=Zs 57345162033657703
def wU:=Zs 207759160177821774417485199220
def sx:=Zs 45774150075707398393261777016227198836
def qE:=Zs 57389588380447988
def wj:=Zs 522470666434542
def zJ:=Zs 244872179
def sf:=Zs 2793832402081750382306134884710260
def vt:=Zs 607360942877418551156
def pS:=Zs 98909269166956702431092
def d6:=Zs 31880592101
def qi:=Zs 31115343461
def ym:=Zs 55692004963343186118109036854560520052
def x6:=Zs 3399170224813426879184019396327284
def w1:=Zs 403777419133405823670401021846845300
def we:=Zs 24644617867029156134786252240756
def bc:=Zs 18400533564996702628033266
def Gv:=Zs 10556646559329485682685938
def l7:=Zs 207427771652019295294620234995
def i7:=Zs 3978150228210
def CG:=Zs 27342420601
def A0:=Zs 7920621897851238245
def wb:=Zs 3969283589511203933724755388560622
def wG:=Zs 508068299457429381139079014561379566
def xF:=Zs 8324191018310851353914800626357378036452
def xd:=Zs 8324191018310562126630482311164934828772
def vu:=Zs 115521356623828383166955
def az:=Zs 307238851654386
def t7:=Zs 746371165200801380100481245886409742885587
def tH:=Zs 33
def BN:=Zs 77603073409589396391451277736175999290
def Dq:=Zs 4257
def wM:=Zs 3982749167853
def vP:=Zs 7188795584033648876
def o7:=Zs 3637511812980
def jD:=Zs 32165673576
def yd:=Zs 1892701906924887859800044133
def qv:=Zs 1003752599342594748651
def zU:=Zs 3982713762547
def y8:=Zs 31114951269
def qI:=Zs 8672469110459096521481040742909369416052
def uF:=Zs 3502222588531
def jp:=Zs 27361113972
def B3:=Zs 465601512061555
def zq:=Zs 948629182021027869420
def AF:=Zs 17359270806304593557421172
def zr:=Zs 4697244439447133800905352714746996
def Ai:=Zs 34785822668855005935469113998452
def A6:=Zs 76980258256652377915424455194958199924
def AX:=Zs 228226917
def yz:=Zs 3431638857454
def xr:=Zs 1105134885585607487973
def wH:=Zs 7628415173616367598
def A3:=Zs 1031922091645059281636
def yD:=Zs 116637891752989529044852
def yu:=Zs 911233529323978308200
def zw:=Zs 31309745659619699049500012802283
def Ys:=Zs 10
def Vb:=Zs 13
def BV:=Zs 17644898687968211596358387
def Bw:=Zs 35778437800009647945100025280498
def AT:=Zs 17060488605503868077158631
def Ak:=Zs 55093292739392755
def sD:=Zs 443443530430949
def sC:=Zs 213611764
def pT:=Zs 4494390303114087976601388614138483
def Lp:=Zs 976800284697052295653
def rO:=Zs 130803973387947389729395
def PF:=Zs 26809825140
def N9:=Zs 1782510
def rD:=Zs 33550107350467769213589783148404
def UK:=Zs 215693303
def Lh:=Zs 976437142222901180915
def pO:=Zs 79685283910878609754414002411765528948
def qr:=Zs 624917258467931441641994966354702492689435799164894607732
def pL:=Zs 252402070632061681245049485159
def rg:=Zs 142089733905761800170782391067854197023603060
def Bn:=Zs 27602500084
def pH:=Zs 37996904330671830837608268511218
def rE:=Zs 18118335881553569239365492
def Rr:=Zs 17951955403645488264215668
def qB:=Zs 35778437800009645231643874195438
def sF:=Zs 2737965506957603828622342734316372128205209500517
def Vl:=Zs 3599683368549
def Xk:=Zs 3879105836280
def TP:=Zs 123684178751010306096244
def qp:=Zs 75032822389165827498091159158315890277
def TV:=Zs 133285061636388388699252
def sG:=Zs 75032822389165827498091159437738358008
def qS:=Zs 10199716340592478507137650501975463852901
def qe:=Zs 1086929524367448131756011369534350148859764
def qF:=Zs 1110076046138764063834237430217610912069620
def pK:=Zs 4863603754326087021143432764159844
def sr:=Zs 8672469110459094248704979923575085037412
def sB:=Zs 15542395575244221092294893
def rj:=Zs 120354686084776726360677
def uP:=Zs 240908276
def TI:=Zs 65187361612083685
def Xz:=Zs 482750265718631
def V1:=Zs 1068315689476578538233
def sE:=Zs 15405399818851417478295795
def q8:=Zs 279520541159132228653973911538
def p0:=Zs 133285780505720247890151
def rX:=Zs 1971891176812982053264634098
def rq:=Zs 1086929524367448131756011377935100004774373
def rQ:=Zs 1110076046138764102080701020758244404736485
def ro:=Zs 142089733905761795162785913788739687513043429
def qc:=Zs 8491636909120688529343838863591971911527
def qh:=Zs 8672469110459094547505476698147787536231
def qA:=Zs 1110076046138764024709264951448002811819879
def p9:=Zs 279520541159132229269492281586
def pF:=Zs 167749949239109037913906307544443359851897579177959104038613889773
def sy:=Zs 38141922513911831170363331495283814725745550307439341
def rT:=Zs 10238644362738588739862445528835654287828425086056278026547961
def pU:=Zs 4049128012238005981771908259705593
def qj:=Zs 21471993502605956861681193806566371911505938719659269446860407519973
def si:=Zs 38141922513911831170363331378621246712700701599546085
def qW:=Zs 2327998200312001414206746299964675702679486001913
def qs:=Zs 21471993502605956852980007365348466886579270705781276135336810722029
def qq:=Zs 4882166081780714049523331967776899287406248833585066733
def qu:=Zs 1310546478430539358702393027670194512120309695020340764800119545
def rW:=Zs 297983769639936160249226804666762495080151610225401
def ql:=Zs 2748415168333562286732795601230501819110148024083113495009036735298277
def qH:=Zs 4882166081780714049523331967660236719393203984877173477
def Iu:=Zs 0
def sJ:=Zs 279519045312575352653047543794
def rV:=Zs 133285067230498959208679
def qJ:=Zs 242302863918219708206996467954
def Hp:=Zs 7628415308062865394
def qN:=Zs 8491689321417145680479908677225753245285
def HI:=Zs 34
def Cp:=Zs 31106741492
def pJ:=Zs 10199716340592171154304540414468861801188
def qn:=Zs 10199716340592460381588858729661305008868
def rz:=Zs 18118335881553466445345508
def p7:=Zs 2319146992838869889274654956
def q7:=Zs 141549499074639134487790
def H4:=Zs 12776
def KM:=Zs 48
def OW:=Zs 97
def vD:=Zs 31114951028
def wq:=Zs 1668964
def F9:=Zs 211319393
def DT:=Zs 4009855602431624699400963911055731
def Da:=Zs 32594650502465335354153515088243
def HU:=Zs 128480332715852127827443
def Gu:=Zs 77016275688740951369871106110115117427
def sH:=Zs 2104401952119555344528077285
def Db:=Zs 2104401952119555339968934123
def Hw:=Zs 289421953000620918241437970917
def Gn:=Zs 289421953000620918236878827755
def IY:=Zs 116756776139537323160037
def HX:=Zs 136808099816790522687723
def J9:=Zs 20141468789670811239159609011632801618352173541
def Va:=Zs 18353304779693946377561813280610857299306115557
def Wc:=Zs 279519052469704975563074597349
def LN:=Zs 279519052469704975558515454187
def Ts:=Zs 28418061048
def UR:=(⟨#[133]⟩:Str)
def Xe:=(⟨#[160]⟩:Str)
def TM:=Zs 35112424243170536634039651561957
def qL:=Zs 32184629861
def ry:=Zs 4863603754326021662653768917414123
def dI:=Zs 244939892
def vf:=Zs 3981639742195
def xH:=Zs 3398069417459
def na:=Zs 12658
def PM:=Zs 5925384337339730582562627280165468875347
def Qp:=(⟨#[0]⟩:Str)
def Kr:=Zs 7
def Ny:=Zs 8
def V4:=Zs 9
def QQ:=Zs 11
def Uj:=Zs 12
def Md:=Zs 27
def I7:=Zs 92
def R8:=(⟨#[8232]⟩:Str)
def SM:=(⟨#[8233]⟩:Str)
def Od:=Zs 98
def Ll:=Zs 116
def N8:=Zs 110
def Yx:=Zs 118
def Th:=Zs 102
def O1:=Zs 114
def N5:=Zs 101
def Rf:=Zs 78
def Uy:=Zs 95
def KK:=Zs 76
def P8:=Zs 80
def qC:=Zs 140489386011736319411931753814264269573438067
def cS:=Zs 28139305587
def YE:=Zs 1899122
def jx:=Zs 173800435
def cQ:=Zs 240909299
def mu:=Zs 2103823416895867087977175090
def yZ:=Zs 6906700753567738835
def DL:=Zs 7008033154902069349
def tg:=Zs 1832805
def Dh:=Zs 1989879966405993712462918904
def Jo:=Zs 8801317616
def Ib:=Zs 32270153227045246286084548932334
def Do:=Zs 297510490887072264946
def Jj:=Zs 120
def H3:=Zs 19848159024812151
def JQ:=Zs 199043349041268
def Gl:=Zs 990089832592831893614
def oX:=Zs 14484401298706468726614611
def pe:=Zs 6906700753557252421
def oH:=Zs 113159385145904844531155
def oC:=Zs 6906700753635376115
def nk:=Zs 14188
def JD:=Zs 12532
def oE:=Zs 884057696462631058035
def gL:=Zs 207190516
def pt:=Zs 113159385147664777344612
def LM:=Zs 3394582083941
def LH:=Zs 1700080
def GD:=Zs 1882103
def pv:=Zs 1854003366260426234828225268
def Xj:=Zs 7340259836713007717
def Mv:=Zs 105
def X2:=Zs 242906094
def sq:=Zs 1782007
def Pf:=Zs 3978185832564
def kY:=Zs 244873317
def mM:=Zs 27084225518
def jH:=Zs 26281177828
def nV:=Zs 230422885
def xm:=Zs 242891508
def xk:=Zs 7054799954677184498
def me:=Zs 245201262
def Qt:=Zs 30806881253
def KT:=Zs 1798392
def gO:=Zs 215742829
def Bl:=Zs 1915887
def B5:=Zs 31358497509
def dc:=Zs 30292865509
def oZ:=Zs 232518245
def yl:=Zs 447976340009714
def XL:=Zs 27621095141
def XF:=Zs 207352441
def ur:=Zs 924201079557676291106519161
noncomputable def jf:Program:=PySem.Challenge.pw_te0005_02
def VP:PySem.Challenge.pw_te0005_02=jf:=rfl
noncomputable def uZ(ok:Thread→Bool)(st:SharedT→Thread→κ (SharedT×Thread)):Nat→SharedT→Thread→κ SharedT
 |0,_,_=>none
 |n+1,s,t=>match through t with
  |true=>some s
  |false=>match ok t with
   |false=>none
   |true=>match st s t with
    |some (s',t')=>uZ ok st n s' t'
    |none=>none
theorem CP:∀ {n:Nat} {s s':SharedT} {t:Thread},
  uZ (stepOk n₀ ann) (stepT (denote tb) p w) n s t=some s'→topRun tb p w n₀ ann n s.abs t=some s'.abs
 |0,_,_,_,h=>by cases h
 |n+1,s,s',t,h=>by
  unfold uZ at h;unfold topRun;cases he:through t with
  |true=>rw[he] at h;cases h;rfl
  |false=>
   rw[he] at h;cases hk:stepOk n₀ ann t with
   |false=>rw[hk] at h;cases h
   |true=>
    rw[hk] at h;cases hs:stepT (denote tb) p w s t with
    |none=>rw[hs] at h;cases h
    |some r=>obtain⟨s₂,t₂⟩:=r;rw[hs] at h;rw[stepT_spec hs];exact CP h
def Qv{p q:Program}{loose:List Str}{Xt:χ→Bool}{α:Type}{Yf:χ→α}{Ya:World→α}{N:Nat}{g0:Bool}{T₀:Params→BT}{n:Nat}{life:Life}{gs₀:Array GenState}{d₀:Drawn}{k₀:Nat}{m₀:Nat}{ann:κ π}{M:Nat}
  (open_:∀ w:World,(fencedOpening treeTable p w N).map (fun s=>(s.heap,s.gens,s.drawn,s.toks))=some (absHeap (T₀ w.params) n life,gs₀,d₀,k₀))
  (size:∀ w:World,((absHeap (T₀ w.params) n life).isNs mainGlobals&&gs₀.size == 0,(absHeap (T₀ w.params) n life).objs.size,(absHeap (T₀ w.params) n life).nsMap mainGlobals "__annotations__")=(true,m₀,ann))
  (run:∀ w:World,(fun os=>(uZ (stepOk m₀ ann) (stepT (denote treeTable) p w) M ⟨T₀ w.params,n,life,gs₀,d₀,k₀,os⟩ (topStub p)).map fun s=>
   ((staticsOk (importedModules p.main.body) (absHeap (T₀ w.params) n life) s.abs.heap&&namesBound p s.abs.heap&&gensDone s.abs&&laidKept (absHeap (T₀ w.params) n life) s.abs.heap),
    openSeen q loose (importedModules p.main.body) Xt g0 s.abs,Yf s.abs))=fun U=>some (true,openGood q loose,Ya w)) (le:Nat.ble M N=true):LeftO p q loose Xt Yf Ya N g0:=fun w=>by
 obtain⟨⟨h,gs,d,k,os⟩,e,e'⟩:=Option.map_eq_some_iff.mp (open_ w);obtain⟨rfl,rfl,rfl,rfl⟩ : h=absHeap (T₀ w.params) n life∧gs=gs₀∧d=d₀∧k=k₀:=by simpa using e'
 obtain⟨z1,z2,z3⟩ : _∧_∧_:=by simpa only [Prod.mk.injEq] using size w
 obtain⟨s₁,r₁,l⟩:=Option.map_eq_some_iff.mp (congrFun (run w) os);obtain⟨l1,l2,l3⟩ : _∧_∧_:=by simpa only [Prod.mk.injEq] using l
 have r:=topRun_mono (N-M) _ _ _ _ (CP r₁);rw[show M+(N-M)=N by have:=Nat.le_of_ble_eq_true le;omega] at r;have t:topFrom treeTable p w N ⟨absHeap (T₀ w.params) n life,gs,d,k,os⟩=some s₁.abs:=by
  unfold topFrom;dsimp only;rw[z1,z2,z3];show Option.bind (topRun treeTable p w m₀ ann N (SharedT.abs ⟨T₀ w.params,n,life,gs,d,k,os⟩) (topStub p)) _=_;rw[r];show (match staticsOk (importedModules p.main.body) (absHeap (T₀ w.params) n life) s₁.abs.heap&&namesBound p s₁.abs.heap&&gensDone s₁.abs&&laidKept (absHeap (T₀ w.params) n life) s₁.abs.heap with|true=>_|false=>_)=_;rw[l1]
 unfold openEnds;rw[e];show (topFrom treeTable p w N _).map _=_;rw[t];exact congrArg some (Prod.ext l2 l3)
noncomputable def T₀(P:Params):BT:=((((((((((BT.nil.ins 0 (boot_o_0 P)).ins 1 (boot_o_1 P)).ins 2 (boot_o_2 P)).ins 3 (boot_o_3 P)).ins 4 (boot_o_4 P)).ins 5 (boot_o_5 P)).ins 6 (boot_o_6 P)).ins 7 (boot_o_7 P)).ins 8 (boot_o_8 P)).ins 9 (boot_o_9 P)).ins 10 (boot_o_10 P)
def KC(P:Params):boot_heap P=absHeap (T₀ P) 11 {}:=by kernel_rfl
def NF:∀ w:World,(fencedOpening treeTable jf w 14200).map (fun s=>(s.heap,s.gens,s.drawn,s.toks))=some (absHeap (T₀ w.params) 11 {},Array.mk [],boot_drawn,boot_toks):=fun w=>by
 rw[←KC];exact boot_open (by kernel_rfl) (by decide) (fun U=>by kernel_rfl) w
def PX:∀ w:World,((absHeap (T₀ w.params) 11 {}).isNs mainGlobals)=true:=fun w=>by kernel_rfl
def ND:∀ w:World,(absHeap (T₀ w.params) 11 {}).objs.size=11:=fun w=>by kernel_rfl
def W3:∀ w:World,(absHeap (T₀ w.params) 11 {}).nsMap mainGlobals "__annotations__"=some (.ref 6):=fun w=>by kernel_rfl
def My:∀ w:World,((absHeap (T₀ w.params) 11 {}).isNs mainGlobals&&(Array.mk []:Array GenState).size == 0,(absHeap (T₀ w.params) 11 {}).objs.size,(absHeap (T₀ w.params) 11 {}).nsMap mainGlobals "__annotations__")=(true,11,some (.ref 6)):=fun w=>by
 rw[PX,ND,W3];rfl
section
def aB{α:Type}{p:α→Bool}{l:List α}(h:l.all p=true):∀ x,x∈l→p x=true:=List.all_eq_true.mp h
def aA(h:(a&&b)=true):a=true∧b=true:=Zf.mp h
def apN{α:Type}(l:List α):l++[]=l:=List.append_nil l
def au{α:Type}{a b:List α}:(a++b).length=a.length+b.length:=List.length_append
def aC{α:Type}(a b c:List α):a++b++c=a++(b++c):=List.append_assoc a b c
def bJ{α:Type}{a:α}{l:List α}:(a::l).length=l.length+1:=List.length_cons
def bn{α:Type}{a:α}{l:List α}(r:List α)(h:a∈l):a∈l++r:=List.mem_append_left r h
def dU{α:Type}{a:α}(l:List α){r:List α}(h:a∈r):a∈l++r:=List.mem_append_right l h
def bg(h:Nat.beq a b=true):a=b:=Nat.eq_of_beq_eq_true h
def bU{α:Type}{a b:α}(h:a∈[b]):a=b:=List.mem_singleton.mp h
def bk{α:Type}{a b:α}{l:List α}(h:a∈b::l):a=b∨a∈l:=List.mem_cons.mp h
def eo{α β:Type}{f:α→β}{l:List α}{b:β}(h:b∈l.map f):∃ a,a∈l∧f a=b:=ZN.mp h
def cW(n:Nat):(0:Int)≤(n:Int):=Int.natCast_nonneg n
def dX(h:Nat.ble a b=true):a≤b:=Nat.le_of_ble_eq_true h
def cI(a:Int):a≤a:=Int.le_refl a
def aZ(a:Int):a+0=a:=Int.add_zero a
def osI{α:Type}{a b:α}(h:some a=some b):a=b:=Option.some.inj h
def il(h:m<n):m∈List.range n:=List.mem_range.mpr h
def vn{m n:Nat}(h:m≤n):(m:Int)≤(n:Int):=Int.ofNat_le.mpr h
def dy{α:Type}{a:α}{l r:List α}(h:a∈l++r):a∈l∨a∈r:=List.mem_append.mp h
noncomputable abbrev sU (s:χ) (h:Heap) (t:Tok):χ:={s with heap:=h,toks:=t}
def gd{α:Type}(b:Bool)(k:κ α):κ α:=Bool.rec none k b
def ob{α β:Type}(m:κ α)(f:α→κ β):κ β:=Option.rec none f m
def obp{α β γ:Type}(m:κ (α×β))(f:α→β→κ γ):κ γ:=Option.rec none (fun p=>Prod.rec f p) m
def nA{α β γ δ:Type}(m:κ (α×β×γ))(f:α→β→γ→κ δ):κ δ:=Option.rec none (fun p=>Prod.rec (fun a q=>Prod.rec (fun b c=>f a b c) q) p) m
structure ax where
 c:Int
 l:List (Nat×Int)
def wf(i:Int):Bool:=Int.rec (fun n=>n.beq 0) (fun U=>false) i
def ve(v:Nat)(a:Int)(l:List (Nat×Int)):List (Nat×Int):=List.rec [(v,a)] (fun p r ih=>Bool.rec (Bool.rec (p::ih) ((v,a)::p::r) (v.blt p.1)) (Bool.rec ((p.1,a+p.2)::r) r (wf (a+p.2))) (Nat.beq p.1 v)) l
noncomputable def xY:List (Nat×Int)→List (Nat×Int)→List (Nat×Int)
 |[],y=>y
 |(v,a)::r,y=>xY r (ve v a y)
noncomputable def ax.k(i:Int):ax:=⟨i,[]⟩
def addL(l r:List (Nat×Int)):List (Nat×Int):=List.rec l (fun U U U=>List.rec r (fun U U U=>xY l r) l) r
def ax.add(x y:ax):ax:=⟨x.c+y.c,addL x.l y.l⟩
noncomputable def ax.neg(x:ax):ax:=⟨-x.c,x.l.map fun p=>(p.1,-p.2)⟩
def ax.sub(x y:ax):ax:=x.add y.neg
abbrev Bd:=List (Int×Int)
noncomputable def qP:Bd→Nat→κ (Int×Int)
 |[],_=>none
 |p::_,0=>some p
 |_::r,n+1=>qP r n
def eE(a b:Int):Bool:=Int.rec (fun U=>true) (fun U=>false) (b-a)
def sP(β:Bd)(l:List (Nat×Int)):κ Int:=List.rec (some 0) (fun p U ih=>Option.rec none (fun q=>Option.rec none (fun t=>some (Int.rec (fun U=>p.2*q.1) (fun U=>p.2*q.2) p.2+t)) ih) (qP β p.1)) l
def ax.lo(β:Bd)(x:ax):κ Int:=Option.rec none (fun t=>some (x.c+t)) (sP β x.l)
noncomputable def AU(a b:Int):Bool:=match a,b with
 |.ofNat x,.ofNat y=>x.blt y
 |.negSucc _,.ofNat _=>true
 |.ofNat _,.negSucc _=>false
 |.negSucc x,.negSucc y=>y.blt x
noncomputable def lU(a b:Int):Bool:=match a,b with
 |.ofNat x,.ofNat y=>x.beq y
 |.negSucc x,.negSucc y=>x.beq y
 |_,_=>false
def Bi(β:Bd)(x y:ax):κ Bool:=Option.rec none (fun d=>Bool.rec (Option.rec none (fun e=>Bool.rec none (some false) (eE 0 e)) ((x.sub y).lo β)) (some true) (eE 1 d)) ((y.sub x).lo β)
def rK(x y:ax):Bool:=List.rec (List.rec true (fun U U U=>false) y.l) (fun U U U=>false) x.l
def ld(β:Bd)(x y:ax):κ Bool:=Bool.rec (Bi β x y) (some (AU x.c y.c)) (rK x y)
def jX(β:Bd)(x y:ax):κ Bool:=Option.rec none (fun b=>some !b) (ld β y x)
def BB(β:Bd)(x y:ax):κ Bool:=Option.rec none (fun d=>Option.rec none (fun e=>Bool.rec (Bool.rec (Bool.rec none (Bool.rec none (some true) (eE 0 e)) (eE 0 d)) (some false) (eE 1 e)) (some false) (eE 1 d)) ((x.sub y).lo β)) ((y.sub x).lo β)
def vd(β:Bd)(x y:ax):κ Bool:=Bool.rec (BB β x y) (some (lU x.c y.c)) (rK x y)
inductive Pc where
 |lit (l:ξ)
 |var (i:Nat)
 |rep (ch:Nat) (n:ax)
abbrev SS:=List Pc
noncomputable def SS.app:SS→SS→SS
 |[],y=>y
 |[.lit a],.lit b::r=>.lit (a++b)::r
 |p::x,y=>p::SS.app x y
noncomputable def SS.k(l:ξ):SS:=match l with|[]=>[]|l=>[.lit l]
def lenA{α:Type}(l:List α):Nat:=List.rec 0 (fun U U ih=>Nat.succ ih) l
noncomputable def SS.len:SS→ax
 |[]=>.k 0
 |.lit l::r=>(ax.k (.ofNat (lenA l))).add (SS.len r)
 |.var i::r=>(ax.mk 0 [(2*i+1,1)]).add (SS.len r)
 |.rep _ n::r=>n.add (SS.len r)
noncomputable def SS.conc:SS→κ ξ
 |[]=>some []
 |[.lit l]=>some l
 |_=>none
def ax.conc(x:ax):κ Int:=List.rec (some x.c) (fun U U U=>none) x.l
def bQ(a:ξ):ξ→Bool:=List.rec (fun b=>List.rec true (fun U U U=>false) b) (fun x U ih b=>List.rec false (fun y r U=>Bool.rec false (ih r) (x.beq y)) b) a
noncomputable def pC(s:Str):Nat:=List.rec 1 (fun c U ih=>Nat.add c (Nat.mul 1114112 ih)) s.cps.toList
def seq(a b:Str):Bool:=Bool.rec false (bQ a.cps.toList b.cps.toList) (Nat.beq (pC a) (pC b))
def lk{α:Type}(x:Str)(l:List (Str×α)):κ α:=List.rec none (fun p U ih=>Prod.rec (fun y v=>Bool.rec ih (some v) (seq y x)) p) l
def kE(x:Str)(l:List Str):Bool:=List.rec false (fun y U ih=>Bool.rec ih true (seq y x)) l
def put{α:Type}(x:Str)(v:α)(l:List (Str×α)):List (Str×α):=List.rec [(x,v)] (fun p r ih=>Prod.rec (fun y u=>Bool.rec ((y,u)::ih) ((y,v)::r) (seq y x)) p) l
set_option genCtorIdx true in
inductive BF where
 |len|isi|range|str|max|enum
noncomputable def BF.id:BF→String
 |.len=>"len"
 |.isi=>"isinstance"
 |.range=>"range"
 |.str=>"str"
 |.max=>"max"
 |.enum=>"enumerate"
def BF.val(k:BF):π:=match k with
 |.range=>.type "range"
 |.str=>.type "str"
 |.enum=>.type "enumerate"
 |k=>.builtin k.id
set_option genCtorIdx true in
inductive BM where
 |append|pop|join|starts|copy
noncomputable def BM.id:BM→String
 |.append=>"list.append"
 |.pop=>"list.pop"
 |.join=>"str.join"
 |.starts=>"str.startswith"
 |.copy=>"dict.copy"
set_option genCtorIdx true in
inductive AV where
 |none
 |bool (b:Bool)
 |int (l:ax)
 |str (s:SS)
 |cell (k:Nat)
 |tup (xs:List AV)
 |obj (C:Addr) (fs:List (Str×AV))
 |dict
 |cls (a:Addr)
 |fn (a:Addr)
 |bi (k:BF)
 |meth (f:Addr) (self:AV)
 |any (i:Nat)
 |rng (n:Nat)
set_option genCtorIdx true in
inductive ay where
 |list (xs:List AV)
 |rows (t:SS) (n:ax)
 |inst (C:Addr) (fs:List (Str×AV))
 |any (i:Nat)
abbrev St:=List ay
def ae{α:Type}(l:List α):Nat→κ α:=List.rec (fun U=>none) (fun a U ih n=>Nat.rec (some a) (fun k U=>ih k) n) l
def cC{α:Type}(l:List α):Nat→α→List α:=List.rec (fun U U=>[]) (fun a r ih n x=>Nat.rec (x::r) (fun k U=>a::ih k x) n) l
structure CI where
 init:κ Addr
 frozen:Bool
 mro:List Addr
 meths:List (Str×Addr)
 consts:List (Str×AV)
 flds:List Str
structure nI where
 args:List Str
 dflt:List AV
 body:List Stmt
 sc:List (Str×NameKind)
structure ag where
 v:List (Str×AV)
 sc:List (Str×NameKind)
inductive Fl where
 |next|ret (v:AV)
structure Pi where
 β:Bd
 fn:Addr→κ nI
 ci:Addr→κ CI
 glob:Str→κ AV
 lst:Addr→κ (List AV)
 spec:St→Addr→List AV→κ (AV×St)
 nm:Nat→Str
noncomputable def eU(v:AV):κ ax:=match v with|.int l=>some l|_=>none
noncomputable def kB(v:AV):κ SS:=match v with|.str s=>some s|_=>none
def tY(v:AV):κ ξ:=match v with|.str s=>s.conc|_=>none
def j4(v:AV):κ Int:=match v with|.int l=>l.conc|_=>none
noncomputable def w7(v:AV):κ Addr:=match v with|.cls C=>some C|_=>none
noncomputable def eG(v:AV):κ Nat:=match v with|.cell k=>some k|_=>none
noncomputable def fJ(c:ay):κ (List AV):=match c with|.list xs=>some xs|_=>none
noncomputable def yj(c:ay):κ (Addr×List (Str×AV)):=match c with|.inst C fs=>some (C,fs)|_=>none
def dC(σ:St)(k:Nat):κ (List AV):=ob (ae σ k) fJ
def nN(σ:St)(k:Nat):κ (Addr×List (Str×AV)):=ob (ae σ k) yj
def aI{α:Type}(l:List α):Bool:=List.rec true (fun U U U=>false) l
def m7{α:Type}(l:List α):κ α:=List.rec none (fun a r U=>Bool.rec none (some a) (aI r)) l
def kJ(o:κ Bool):κ Bool:=Option.rec none (fun b=>some (Bool.rec true false b)) o
def xb(c:ay):κ Bool:=match c with
 |.list xs=>some (Bool.rec true false (aI xs))
 |.inst _ _=>some true
 |_=>none
def sM(β:Bd)(σ:St)(v:AV):κ Bool:=match v with
 |.none=>some false
 |.bool b=>some b
 |.int l=>kJ (vd β l (.k 0))
 |.str s=>ld β (.k 0) s.len
 |.cell k=>ob (ae σ k) xb
 |.obj _ _=>some true
 |_=>none
def ua(a:ξ):ξ→Bool:=List.rec (fun b=>List.rec false (fun U U U=>true) b) (fun x U ih b=>List.rec false (fun y r U=>Bool.rec (Bool.rec false (ih r) (x.beq y)) true (x.blt y)) b) a
def mT(a:ξ):ξ→Bool:=List.rec (fun U=>true) (fun x U ih b=>List.rec false (fun y r U=>Bool.rec false (ih r) (x.beq y)) b) a
def x9(p q:Pc):Bool:=match p with
 |.lit a=>match q with|.lit b=>bQ a b|_=>false
 |.var i=>match q with|.var j=>i.beq j|_=>false
 |_=>false
def wP(a:SS):SS→Bool:=List.rec (fun b=>List.rec true (fun U U U=>false) b) (fun p U ih b=>List.rec false (fun q r U=>Bool.rec false (ih r) (x9 p q)) b) a
def zT(β:Bd)(a b:SS):κ Bool:=ob (vd β a.len b.len) fun e=>Bool.rec (some false) (Bool.rec none (some true) (wP a b)) e
def kQ(β:Bd)(a b:SS):κ Bool:=Option.rec (zT β a b) (fun x=>Option.rec (zT β a b) (fun y=>some (bQ x y)) b.conc) a.conc
def KF(β:Bd)(a:SS)(b:AV):κ Bool:=match b with
 |.str b=>kQ β a b
 |.none=>some false
 |_=>none
def JE(β:Bd)(a b:AV):κ Bool:=match a with
 |.str s=>KF β s b
 |.int x=>ob (eU b) fun y=>vd β x y
 |.none=>ob (kB b) fun U=>some false
 |_=>none
noncomputable def isNone:AV→κ Bool
 |.none=>some true
 |.bi _=>.none
 |.any _=>.none
 |_=>some false
noncomputable def Hx(a:AV):κ Nat:=match a with|.str [.lit [c]]=>some c|_=>none
def aK(c:Nat)(l:ξ):Bool:=List.rec false (fun b U ih=>Bool.rec ih true (c.beq b)) l
def CA(a y:AV):κ Bool:=match a with
 |.none=>ob (kB y) fun U=>some false
 |.str s=>
  ob s.conc fun x=>
  ob (tY y) fun z=>
  some (bQ z x)
 |_=>none
noncomputable def As(a:AV):List AV→κ Bool
 |[]=>some false
 |y::r=>
  ob (As a r) fun t=>
  ob (CA a y) fun b=>
  some (b ||t)
def vc(β:Bd)(a b:AV):κ Bool:=match a with
 |.int x=>
  ob (eU b) fun y=>
  ld β x y
 |.str x=>
  ob (x.conc) fun i=>
  ob (tY b) fun j=>
  some ((ua i j))
 |_=>none
def zI(a b:AV):κ Bool:=match b with|.none=>isNone a|_=>none
def yX(a:AV)(s:SS):κ Bool :=
 ob (Hx a) fun c=>
 ob s.conc fun l=>
 some (aK c l)
def JA(σ:St)(a:AV)(k:Nat):κ Bool:=ob (dC σ k) fun xs=>As a xs
def QJ(σ:St)(a b:AV):κ Bool:=match b with
 |.str s=>yX a s
 |.cell k=>JA σ a k
 |_=>none
def NN(a b:AV):κ Bool:=match b with
 |.str s=>kJ (yX a s)
 |_=>none
def qf(x:List AV):List AV→κ Bool:=List.rec (fun y=>List.rec (some true) (fun U U U=>some false) y) (fun a U ih y=>List.rec (some false) (fun b s U=>ob (ih s) fun t=>ob (CA b a) fun e=>some (e&&t)) y) x
def EY(σ:St)(i:Nat)(b:AV):κ Bool:=ob (eG b) fun j=>ob (dC σ i) fun x=>ob (dC σ j) fun y=>qf x y
def sL(β:Bd)(σ:St)(a b:AV):κ Bool:=Option.rec (JE β a b) (fun i=>EY σ i b) (eG a)
def cmp(β:Bd)(σ:St)(op:CmpOp)(a b:AV):κ Bool:=match op with
 |CmpOp.Eq=>sL β σ a b
 |.NotEq=>kJ (sL β σ a b)
 |.Is=>zI a b
 |.IsNot=>kJ (zI a b)
 |.In=>QJ σ a b
 |.NotIn=>NN a b
 |.Lt=>vc β a b
 |.Gt=>vc β b a
 |.LtE=>kJ (vc β b a)
 |.GtE=>kJ (vc β a b)
def fu(β:Bd)(s:SS):κ AV:=match jX β s.len (.k 1000000) with|some true=>some (.str s)|_=>none
noncomputable def i9:Nat→ξ→ξ
 |0,_=>[]
 |n+1,l=>l++i9 n l
noncomputable def mr(m:Nat):List (Nat×Int)→Bool
 |[]=>true
 |p::r=>Nat.beq (p.2.natAbs % m) 0&&mr m r
noncomputable def jO(i:Int):Bool:=i.natAbs.ble 1000000
noncomputable def BW(i:Int):κ Nat:=match i with|.ofNat (n+1)=>some (n+1)|_=>none
def DF(β:Bd)(a b:AV):κ AV:=match a with
 |.int x=>
  ob (eU b) fun y=>
  some (.int (x.add y))
 |.str x=>
  ob (kB b) fun y=>
  fu β (x.app y)
 |_=>none
def AM(a b:AV):κ AV :=
 ob (eU a) fun x=>
 ob (eU b) fun y=>
 some (.int (x.sub y))
noncomputable def ax.smul(x:ax)(m:Int):ax:=⟨x.c*m,x.l.map fun p=>(p.1,p.2*m)⟩
def C6(x:ax)(b:AV):κ AV :=
 ob (j4 b) fun y=>
 gd (jO y) <|
 some (.int (x.smul y))
def yw(β:Bd)(l:ξ)(m:Int):κ AV:=match m with
 |.ofNat m=>
  gd (jO (.ofNat m)) <|
  fu β (.k (i9 m l))
 |.negSucc m=>
  gd (jO (.negSucc m)) <|
  some (.str [])
def Fv(β:Bd)(l:ξ)(n:ax):κ AV :=
 ob (m7 l) fun ch=>
 ob (ld β n (.k 0)) fun neg=>
 gd (Bool.rec true false neg) <|
 fu β [.rep ch n]
def Jy(β:Bd)(s:SS)(b:AV):κ AV :=
 ob (s.conc) fun l=>
 ob (eU b) fun n=>
 Option.rec (Fv β l n) (fun m=>yw β l m) n.conc
def HV(β:Bd)(a b:AV):κ AV:=match a with
 |.int x=>C6 x b
 |.str s=>Jy β s b
 |_=>none
noncomputable def ax.fdv(x:ax)(m:Nat):ax:=⟨Int.fdiv x.c (.ofNat m),x.l.map fun p=>(p.1,Int.fdiv p.2 (.ofNat m))⟩
def FX(a b:AV):κ AV :=
 ob (eU a) fun x=>
 ob (j4 b) fun y=>
 gd (jO y) <|
 ob (BW y) fun m=>
 gd (mr m x.l) <|
 some (.int (x.fdv m))
def Jw(x:ax)(b:AV):κ AV :=
 ob (j4 b) fun y=>
 ob (BW y) fun m=>
 gd (mr m x.l) <|
 some (.int (.k (Int.fmod x.c (.ofNat m))))
noncomputable def Hd(i:Int):κ Nat:=match i with|.ofNat n=>some n|.negSucc _=>none
def IM(a b:AV):κ AV:=match a with
 |.int x=>Jw x b
 |_=>none
def nu(β:Bd)(op:Operator)(a b:AV):κ AV:=match op with
 |.Add=>DF β a b
 |.Sub=>AM a b
 |.Mult=>HV β a b
 |.FloorDiv=>FX a b
 |.Mod=>IM a b
 |_=>none
noncomputable def aQ{α:Type}:Nat→List α→List α
 |0,_=>[]
 |_+1,[]=>[]
 |n+1,a::r=>a::aQ n r
noncomputable def aO{α:Type}:Nat→List α→List α
 |0,l=>l
 |_+1,[]=>[]
 |n+1,_::r=>aO n r
noncomputable def dh(n:Nat)(j:Int):κ Nat:=seqIndex? j n
noncomputable def clip(n:Nat)(i:Int):Nat:=(max 0 (min (if i<0 then i+(n:Int) else i) (n:Int))).toNat
def HB(l:ξ)(n:ax):κ AV :=
 ob n.conc fun j=>
 ob (dh (lenA l) j) fun p=>
 ob (ae l p) fun c=>
 some (.str [.lit [c]])
def Pc.len(p:Pc):ax:=match p with|.lit l=>.k (.ofNat (lenA l))|.var i=>⟨0,[(2*i+1,1)]⟩|.rep _ n=>n
def lJ(o:ax)(l:ξ):κ Nat:=ob o.conc fun i=>match i with|.ofNat k=>Bool.rec none (some k) (k.blt (lenA l))|.negSucc _=>none
def Ft(p:Pc)(o:ax)(rest:κ Nat):κ Nat:=match p with|.lit l=>Option.rec rest (fun k=>ae l k) (lJ o l)|_=>rest
def tc(s:SS):ax→κ Nat:=List.rec (fun U=>none) (fun p U ih o=>Ft p o (ih (o.sub p.len))) s
def jA(o:ax):Bool:=Option.rec false (fun i=>lU i 0) o.conc
def AH(p:Pc)(r:SS)(o:ax)(rest:κ SS):κ SS:=match p with|.lit l=>Option.rec rest (fun k=>some (.lit (aO k l)::r)) (lJ o l)|_=>rest
def pE(s:SS):ax→κ SS:=List.rec (fun o=>Bool.rec none (some []) (jA o)) (fun p r ih o=>Bool.rec (AH p r o (ih (o.sub p.len))) (some (p::r)) (jA o)) s
def AL(p:Pc)(o:ax)(rest:κ SS):κ SS:=match p with|.lit l=>Option.rec (ob rest fun t=>some (.lit l::t)) (fun k=>some [.lit (aQ k l)]) (lJ o l)|p=>ob rest fun t=>some (p::t)
def r6(s:SS):ax→κ SS:=List.rec (fun o=>Bool.rec none (some []) (jA o)) (fun p U ih o=>Bool.rec (AL p o (ih (o.sub p.len))) (some []) (jA o)) s
def m8(s:SS)(n:ax):ax:=Option.rec n (fun i=>match i with|.ofNat _=>n|.negSucc _=>s.len.add n) n.conc
def IA(s:SS)(n:ax):κ AV:=ob (tc s (m8 s n)) fun c=>some (.str [.lit [c]])
def A1(s:SS)(n:ax):κ AV:=Option.rec (IA s n) (fun l=>HB l n) s.conc
def Hg(σ:St)(k:Nat)(n:ax):κ AV :=
 ob (dC σ k) fun xs=>
 ob n.conc fun j=>
 ob (dh (lenA xs) j) fun p=>
 ae xs p
def EW(xs:List AV)(n:ax):κ AV :=
 ob n.conc fun j=>
 gd (jO j) <|
 ob (dh (lenA xs) j) fun p=>
 ae xs p
def wk(_β:Bd)(σ:St)(v i:AV):κ AV:=match v with
 |.str s=>ob (eU i) fun n=>A1 s n
 |.cell k=>ob (eU i) fun n=>Hg σ k n
 |.tup xs=>ob (eU i) fun n=>EW xs n
 |_=>none
def cut{α:Type}(l:List α)(lo hi:κ Int):List α :=
 let n:=lenA l
 let a:=match lo with|some i=>clip n i|none=>0
 let b:=match hi with|some i=>clip n i|none=>n
 aQ (b-a) (aO a l)
def jd(v:κ AV):κ (κ Int):=Option.rec (some none) (fun v=>ob (j4 v) fun i=>some (some i)) v
mutual
noncomputable def iD(n:Nat):AV→Bool
 |.cell k=>k.blt n
 |.tup xs=>mR n xs
 |.obj _ fs=>lL n fs
 |.meth _ s=>iD n s
 |_=>true
noncomputable def mR(n:Nat):List AV→Bool
 |[]=>true
 |x::r=>match iD n x with|true=>mR n r|false=>false
noncomputable def lL(n:Nat):List (Str×AV)→Bool
 |[]=>true
 |x::r=>match iD n x.2 with|true=>lL n r|false=>false
end
def qZ(n:Nat):ay→Bool
 |.list xs=>mR n xs
 |.rows _ _=>true
 |.inst _ fs=>lL n fs
 |.any _=>true
noncomputable def lr(n:Nat):List ay→Bool
 |[]=>true
 |c::r=>match qZ n c with|true=>lr n r|false=>false
def j7(n:Nat)(v:AV)(σ:St):St:=match Nat.beq (lenA σ) n with
 |true=>σ
 |false=>match iD n v with
  |false=>σ
  |true=>match lr n (aQ n σ) with
   |true=>aQ n σ
   |false=>σ
noncomputable def l9{α:Type}(names:List Str):List (Str×α)→List (Str×α)→Bool
 |_,[]=>true
 |sl,(k,v)::r=>match kE k names with
  |true=>match lk k sl with
   |none=>l9 names (sl++[(k,v)]) r
   |some _=>false
  |false=>false
noncomputable def ib{α:Type}:List (Str×α)→List (Str×α)→List (Str×α)
 |sl,[]=>sl
 |sl,(x,d)::r=>match lk x sl with
  |none=>ib (sl++[(x,d)]) r
  |some _=>ib sl r
noncomputable def fm{α:Type}(sl:List (Str×α)):List Str→List (Str×α)
 |[]=>[]
 |x::r=>match lk x sl with
  |some v=>(x,v)::fm sl r
  |none=>fm sl r
noncomputable def lT{α:Type}(sl:List (Str×α)):List Str→Bool
 |[]=>true
 |x::r=>match lk x sl with|some _=>lT sl r|none=>false
def iB{α:Type}(names:List Str)(dflt pos:List α)(kw:List (Str×α)):κ (List (Str×α)) :=
 gd (Nat.ble (lenA pos) (lenA names)) <|
 gd (Nat.ble (lenA dflt) (lenA names)) <|
 gd (l9 names (names.zip pos) kw) <|
 gd (lT (names.zip pos++kw) (aQ (lenA names-lenA dflt) names)) <|
 some ((fm (ib (names.zip pos++kw) ((aO (lenA names-lenA dflt) names).zip dflt)) names))
set_option genCtorIdx true in
inductive It where
 |lst (k i:Nat)
 |vals (l:List AV)
noncomputable def xW:Nat→Nat→List AV
 |_,0=>[]
 |i,n+1=>.int (.k (.ofNat i))::xW (i+1) n
def rU(σ:St)(v:AV):κ It:=match v with
 |.cell k=>ob (dC σ k) fun U=>some (.lst k 0)
 |.str s=>ob s.conc fun l=>some (.vals (l.map fun c=>.str [.lit [c]]))
 |.rng n=>some (.vals (xW 0 n))
 |_=>none
def mH(k i:Nat)(xs:List AV):κ (AV×It):=ob (ae xs i) fun v=>some (v,.lst k (i+1))
def Bx(l:List AV):κ (AV×It):=List.rec none (fun v r U=>some (v,.vals r)) l
def jw(σ:St)(i:It):κ (κ (AV×It)):=match i with
 |.lst k i=>ob (dC σ k) fun xs=>some (mH k i xs)
 |.vals l=>some (Bx l)
noncomputable def tJ(v:AV):Bool:=match v with|.bi _=>false|.any _=>false|_=>true
def tq(k:Nat)(x:Str)(c:CI):κ AV:=match lk x c.meths with
 |some f=>some (.meth f (.cell k))
 |none=>lk x c.consts
def BC(fs:List (Str×AV))(x:Str):κ AV :=
 ob (lk x fs) fun v=>
 gd (tJ v) <|
 some v
def zf(Y:Pi)(σ:St)(k:Nat)(x:Str):κ AV :=
 obp (nN σ k) fun C fs=>
 Option.rec (ob (Y.ci C) fun c=>tq k x c) (fun v=>gd (tJ v) (some v)) (lk x fs)
def ka(Y:Pi)(σ:St)(v:AV)(x:Str):κ AV:=match v with
 |.cell k=>zf Y σ k x
 |.obj _ fs=>BC fs x
 |_=>none
def Di(Y:Pi)(C:Addr)(fs:List (Str×AV))(x:Str):Bool:=match lk x fs with
 |some _=>true
 |none=>match Y.ci C with
  |some c=>kE x c.flds
  |none=>false
def zx(Y:Pi)(σ:St)(k:Nat)(x:Str)(v:AV):κ St :=
 obp (nN σ k) fun C fs=>
 gd (Di Y C fs x) <|
 gd (Nat.ble (lenA fs) 900) <|
 some (cC σ k (.inst C (put x v fs)))
def m9(Y:Pi)(D C:Addr):κ Bool :=
 ob (Y.ci D) fun c=>
 ob (Y.ci C) fun U=>
 some ((c.mro.any (Nat.beq C)))
def pA(Y:Pi)(σ:St)(v:AV)(C:Addr):κ Bool:=match v with
 |.obj D _=>m9 Y D C
 |.cell k=>obp (nN σ k) fun D U=>m9 Y D C
 |_=>none
noncomputable def ug(Y:Pi)(σ:St)(v:AV):List AV→κ Bool
 |[]=>some false
 |c::r=>
  ob (w7 c) fun C=>
  ob (pA Y σ v C) fun b=>
  Bool.rec (ug Y σ v r) (some true) b
noncomputable def oD(sep:SS):List AV→κ SS
 |[]=>some []
 |a::r=>
  ob (kB a) fun s=>
  ob (oD sep r) fun t=>
  some (Bool.rec (s.app (sep.app t)) s (aI r))
def HC(σ:St)(v:AV):κ ax:=match v with
 |.str s=>some s.len
 |.cell k=>ob (dC σ k) fun xs=>some (.k (.ofNat (lenA xs)))
 |_=>none
def new(σ:St)(c:ay):AV×St:=(.cell (lenA σ),σ++[c])
def oP(Y:Pi)(x:Str):κ BM:=Bool.rec (Bool.rec none (some .pop) (seq x (Y.nm 1))) (some .append) (seq x (Y.nm 0))
noncomputable def xB(c:ay):Bool:=match c with|.list _=>true|.rows _ _=>true|_=>false
def EL(Y:Pi)(x:Str):κ BM:=Bool.rec (Bool.rec none (some .starts) (seq x (Y.nm 3))) (some .join) (seq x (Y.nm 2))
def Fj(Y:Pi)(x:Str):κ BM:=Bool.rec none (some .copy) (seq x (Y.nm 4))
def Cl(Y:Pi)(σ:St)(o:AV)(x:Str):κ BM:=match o with
 |.cell k=>ob (ae σ k) fun c=>gd (xB c) <|oP Y x
 |.str _=>EL Y x
 |.dict=>Fj Y x
 |_=>none
def Ah(β:Bd)(σ:St)(k:Nat)(v:AV)(c:ay):κ (AV×St):=match c with
 |.list xs=>
  gd (Nat.ble (lenA xs) 100000) <|
  some (.none,cC σ k (.list (xs++[v])))
 |.rows t n=>
  ob (kB v) fun s=>
  ob (jX β n (.k 1000000)) fun b=>
  gd b <|
  some (.none,cC σ k (.rows (t.app s) (n.add (.k 1))))
 |_=>none
def GK(β:Bd)(σ:St)(o:AV)(as:List AV):κ (AV×St) :=
 ob (eG o) fun k=>
 ob (m7 as) fun v=>
 ob (ae σ k) fun c=>
 Ah β σ k v c
def FK(σ:St)(k:Nat)(xs:List AV):κ (AV×St) :=
 ob (dh (lenA xs) (-1)) fun p=>
 ob (ae xs p) fun v=>
 some (v,cC σ k (.list (aQ p xs)))
def GG(σ:St)(k:Nat)(xs:List AV)(i:AV):κ (AV×St) :=
 ob (j4 i) fun j=>
 gd (lU j 0) <|
 List.rec none (fun v r U=>some (v,cC σ k (.list r))) xs
def ER(σ:St)(o:AV)(as:List AV):κ (AV×St) :=
 ob (eG o) fun k=>
 ob (dC σ k) fun xs=>
 match as with
 |[]=>FK σ k xs
 |[i]=>GG σ k xs i
 |_=>none
def Gr(Y:Pi)(σ:St)(s:ξ)(c:ay):κ (AV×St):=match c with
 |.list xs=>
  ob (oD (.k s) xs) fun t=>
  ob (fu Y.β t) fun r=>
  some (r,σ)
 |.rows t n=>
  gd (aI s) <|
  ob (fu Y.β t) fun r=>
  some (r,σ)
 |_=>none
def C8(Y:Pi)(σ:St)(o:AV)(as:List AV):κ (AV×St) :=
 ob (tY o) fun s=>
 gd (Nat.ble (lenA s) 1000) <|
 ob (m7 as) fun a=>
 ob (eG a) fun k=>
 ob (ae σ k) fun c=>
 Gr Y σ s c
def y7(p:ξ):ξ→Bool→κ Bool:=List.rec (fun U U=>some true) (fun b U ih l e=>List.rec (Bool.rec none (some false) e) (fun a r U=>Bool.rec (some false) (ih r e) (b.beq a)) l) p
def Gx(p:ξ)(s:SS):κ Bool:=match s with
 |.lit l::r=>y7 p l (aI r)
 |[]=>some (aI p)
 |_=>none
def IW(σ:St)(o:AV)(as:List AV):κ (AV×St) :=
 ob (kB o) fun s=>
 ob (m7 as) fun p=>
 ob (tY p) fun p=>
 ob (Gx p s) fun b=>
 some (.bool b,σ)
def HH(σ:St)(o:AV)(as:List AV):κ (AV×St):=match o with
 |.dict=>gd (aI as) <|some (.dict,σ)
 |_=>none
def bm(Y:Pi)(σ:St)(id:BM)(o:AV)(as:List AV):κ (AV×St):=match id with
 |.append=>GK Y.β σ o as
 |.pop=>ER σ o as
 |.join=>C8 Y σ o as
 |.starts=>IW σ o as
 |.copy=>HH σ o as
def Ex(σ:St)(as:List AV):κ (AV×St) :=
 ob (m7 as) fun v=>
 ob (HC σ v) fun l=>
 some (.int l,σ)
def GQ(Y:Pi)(σ:St)(v t:AV):κ (AV×St):=match t with
 |.cls C=>
  ob (pA Y σ v C) fun b=>
  some (.bool b,σ)
 |.tup cs=>
  gd (Bool.rec true false (aI cs)) <|
  ob (ug Y σ v cs) fun b=>
  some (.bool b,σ)
 |_=>none
def CX(Y:Pi)(σ:St)(as:List AV):κ (AV×St):=match as with
 |[v,t]=>GQ Y σ v t
 |_=>none
def IU(σ:St)(as:List AV):κ (AV×St) :=
 ob (m7 as) fun v=>
 ob (j4 v) fun i=>
 ob (Hd i) fun n=>
 gd (n.ble 1000) <|
 some (.rng n,σ)
def C7(σ:St)(as:List AV):κ (AV×St) :=
 ob (m7 as) fun v=>
 ob (j4 v) fun i=>
 ob (Hd i) fun n=>
 gd (n.blt 10) <|
 some (.str [.lit [n+48]],σ)
def Wa(β:Bd)(σ:St)(a b:AV):κ (AV×St) :=
 ob (eU a) fun x=>
 ob (eU b) fun y=>
 ob (ld β x y) fun t=>
 some (.int (Bool.rec x y t),σ)
def Iw(β:Bd)(σ:St)(as:List AV):κ (AV×St):=match as with
 |[a,b]=>Wa β σ a b
 |_=>none
def bf(Y:Pi)(σ:St)(f:BF)(as:List AV):κ (AV×St):=match f with
 |.len=>Ex σ as
 |.isi=>CX Y σ as
 |.range=>IU σ as
 |.str=>C7 σ as
 |.max=>Iw Y.β σ as
 |.enum=>none
def w6(x:Str)(sc:List (Str×NameKind)):Bool:=match lk x sc with|some .globalImplicit=>true|_=>false
def rx(x:Str)(sc:List (Str×NameKind)):Bool:=match lk x sc with|some .local=>true|_=>false
def AA(ls:ag)(x:Str)(v:AV):κ ag :=
 gd (rx x ls.sc) <|
 some ({ls with v:=put x v ls.v})
noncomputable def GF(v:AV):Bool:=match v with|.meth _ _=>true|_=>false
inductive EV where
 |con (c:Const)
 |name (x:Str) (p:Pos)
 |attr (o:Expr) (x:Str) (p:Pos)
 |bool (op:BoolOp) (vs:List Expr)
 |un (op:UnaryOp) (e:Expr)
 |ife (t b o:Expr)
 |bin (l:Expr) (op:Operator) (r:Expr)
 |cmp (l:Expr) (ops:List CmpOp) (rs:List Expr)
 |tup (es:List Expr)
 |lst (es:List Expr)
 |sub (o s:Expr)
 |slice (lo hi st:κ Expr)
 |call (f:Expr) (as:List Expr) (ks:List Keyword) (pos:Pos)
 |comp (e t it:Expr) (sc:Scope)
 |other
noncomputable def j6(e:Expr)(sc:Scope)(gs:List Comprehension):EV:=match gs with
 |[⟨t,it,[],.ofNat 0⟩]=>.comp e t it sc
 |_=>.other
def vE(e:Expr):EV:=match e with
 |.Constant c _ _=>.con c
 |.Name x p=>.name x p
 |.Attribute o x p=>.attr o x p
 |.BoolOp op vs _=>.bool op vs
 |.UnaryOp op e _=>.un op e
 |.IfExp t b o _=>.ife t b o
 |.BinOp l op r _=>.bin l op r
 |.Compare l ops rs _=>.cmp l ops rs
 |.Tuple es _ _=>.tup es
 |.List es _=>.lst es
 |.Subscript o s _=>.sub o s
 |.Slice lo hi st _=>.slice lo hi st
 |.Call f as ks pos=>.call f as ks pos
 |.ListComp e gs sc _=>j6 e sc gs
 |_=>.other
inductive SV where
 |exp (e:Expr)
 |pass
 |ret (e:κ Expr)
 |asg (ts:List Expr) (e:Expr)
 |aug (t:Expr) (op:Operator) (e:Expr)
 |ife (t:Expr) (b o:List Stmt)
 |wh (t:Expr) (b o:List Stmt)
 |fo (t it:Expr) (b o:List Stmt)
 |other
noncomputable def vS(s:Stmt):SV:=match s with
 |.Expr e _=>.exp e
 |.Pass _=>.pass
 |.Return e _=>.ret e
 |.Assign ts e _=>.asg ts e
 |.AugAssign t op e _=>.aug t op e
 |.If t b o _=>.ife t b o
 |.While t b o _=>.wh t b o
 |.For t it b o _=>.fo t it b o
 |_=>.other
def sw(e:Expr):Bool:=match vE e with|.other=>false|.comp _ _ _ _=>false|_=>true
def mA(e:Expr):Bool:=match vE e with|.call _ _ _ _=>false|.comp _ _ _ _=>false|.other=>false|_=>true
def jE(e:Expr):Bool:=sw e
def gU(e:Expr):Bool:=match vE e with|.other=>false|_=>true
def rF(e:Expr):Bool:=sw e
def RZ(e:Expr):Bool:=match vE e with|.tup vs=>vs.all (foldedForSure 8)|_=>true
def Fd(ts:List Expr)(e:Expr):Bool:=match ts with
 |[t]=>match vE t with
  |.tup _=>RZ e
  |.lst _=>false
  |_=>true
 |_=>true
def zu(ts:List Expr)(e:Expr):Bool:=sw e&&Fd ts e
noncomputable def A9(op:Operator):Bool:=match op with|.Add=>true|.Sub=>true|_=>false
def Ky(e:Expr):Bool:=sw e&&match vE e with|.slice _ _ _=>false|_=>true
def iZ(e:Expr):Bool:=match vE e with|.name _ _=>true|.tup _=>true|_=>false
noncomputable def A8(op:BoolOp)(b:Bool):Bool:=match op with|.And=>!b|.Or=>b
def zY:Const→κ AV
 |.none=>some .none
 |.bool b=>some (.bool b)
 |.int i=>some (.int (.k i))
 |.str s=>match Nat.ble (lenA s.cps.toList) 1000000 with|true=>some (.str (.k s.cps.toList))|false=>none
 |_=>none
structure aJ where
 ev:ag→St→Expr→κ (AV×St)
 evo:ag→St→κ Expr→κ (κ AV×St)
 evs:ag→St→List Expr→κ (List AV×St)
 evk:ag→St→List Keyword→κ (List (Str×AV)×St)
 bl:ag→St→BoolOp→List Expr→κ (AV×St)
 cc:ag→St→AV→List CmpOp→List Expr→κ (Bool×St)
 tst:ag→St→Expr→κ (Bool×St)
 tb:ag→St→BoolOp→List Expr→κ (Bool×St)
 cl:St→AV→List AV→List (Str×AV)→κ (AV×St)
 cf:St→Addr→List AV→List (Str×AV)→κ (AV×St)
 exs:ag→St→List Stmt→κ (Fl×ag×St)
 asg:ag→St→AV→Expr→κ (ag×St)
 asgs:ag→St→List AV→List Expr→κ (ag×St)
 asgm:ag→St→AV→List Expr→κ (ag×St)
 ex:ag→St→Stmt→κ (Fl×ag×St)
 wh:ag→St→Expr→List Stmt→κ (Fl×ag×St)
 fo:ag→St→Expr→It→List Stmt→κ (Fl×ag×St)
noncomputable def aJ.bot:aJ where
 ev:=fun U U U=>none
 evo:=fun U U U=>none
 evs:=fun U U U=>none
 evk:=fun U U U=>none
 bl:=fun U U U U=>none
 cc:=fun U U U U U=>none
 tst:=fun U U U=>none
 tb:=fun U U U U=>none
 cl:=fun U U U U=>none
 cf:=fun U U U U=>none
 exs:=fun U U U=>none
 asg:=fun U U U U=>none
 asgs:=fun U U U U=>none
 asgm:=fun U U U U=>none
 ex:=fun U U U=>none
 wh:=fun U U U U=>none
 fo:=fun U U U U U=>none
def zo(Y:Pi)(ls:ag)(σ:St)(x:Str):κ (AV×St):=match lk x ls.v with
 |some v=>some (v,σ)
 |none=>
  gd (w6 x ls.sc) <|
  ob (Y.glob x) fun v=>
  some ((v,σ))
def C5(Y:Pi)(R:aJ)(ls:ag)(σ:St)(o:Expr)(x:Str):κ (AV×St) :=
 gd (mA o) <|
 obp (R.ev ls σ o) fun v σ=>
 ob (ka Y σ v x) fun r=>
 some ((r,σ))
def DY(Y:Pi)(R:aJ)(ls:ag)(σ:St)(e:Expr):κ (AV×St) :=
 obp (R.ev ls σ e) fun v σ=>
 ob (sM Y.β σ v) fun b=>
 some ((.bool !b,σ))
def Y0(σ:St)(c:Const):κ (AV×St):=match c with
 |.int i=>some (.int (.k (-i)),σ)
 |_=>none
def Aq(Y:Pi)(R:aJ)(ls:ag)(σ:St)(op:UnaryOp)(e:Expr):κ (AV×St):=match op with
 |.USub=>match vE e with
  |.con c=>Y0 σ c
  |_=>none
 |.Not=>DY Y R ls σ e
 |_=>none
def FD(R:aJ)(ls:ag)(σ:St)(t b o:Expr):κ (AV×St) :=
 obp (R.tst ls σ t) fun c σ=>
 match c with
 |true=>R.ev ls σ b
 |false=>R.ev ls σ o
def EO(σ:St)(i:Nat)(b:AV):κ (AV×St) :=
 ob (eG b) fun j=>
 ob (dC σ i) fun x=>
 ob (dC σ j) fun y=>
 gd (Nat.ble (lenA x+lenA y) 100000) <|
 some ((new σ (.list (x++y))))
def YS(op:Operator)(σ:St)(i:Nat)(b:AV):κ (AV×St):=match op with
 |.Add=>EO σ i b
 |_=>none
def JP(Y:Pi)(op:Operator)(a b:AV)(σ:St):κ (AV×St):=ob (nu Y.β op a b) fun r=>some (r,σ)
def IZ(Y:Pi)(R:aJ)(ls:ag)(σ:St)(l:Expr)(op:Operator)(r:Expr):κ (AV×St) :=
 obp (R.ev ls σ l) fun a σ=>
 obp (R.ev ls σ r) fun b σ=>
 Option.rec (JP Y op a b σ) (fun i=>YS op σ i b) (eG a)
def Ik(R:aJ)(ls:ag)(σ:St)(l:Expr)(ops:List CmpOp)(rs:List Expr):κ (AV×St) :=
 obp (R.ev ls σ l) fun a σ=>
 obp (R.cc ls σ a ops rs) fun b σ=>
 some ((.bool b,σ))
def IB(R:aJ)(ls:ag)(σ:St)(es:List Expr):κ (AV×St) :=
 obp (R.evs ls σ es) fun vs σ=>
 gd (Nat.ble (lenA vs) 100000) <|
 some ((.tup vs,σ))
def Am(R:aJ)(ls:ag)(σ:St)(es:List Expr):κ (AV×St) :=
 obp (R.evs ls σ es) fun vs σ=>
 gd (Nat.ble (lenA vs) 100000) <|
 some ((new σ (.list vs)))
def yG(l:ξ)(a b:κ AV)(σ:St):κ (AV×St) :=
 ob (jd a) fun a=>
 ob (jd b) fun b=>
 some (.str (.k (cut l a b)),σ)
def CJ(s:SS)(d:ax)(v:κ AV):κ ax:=Option.rec (some d) (fun v=>ob (eU v) fun n=>some (m8 s n)) v
def Aj(s:SS)(a b:κ AV)(σ:St):κ (AV×St) :=
 ob (CJ s (.k 0) a) fun i=>
 ob (CJ s s.len b) fun j=>
 ob (pE s i) fun t=>
 ob (r6 t (j.sub i)) fun r=>
 some (.str r,σ)
def ms(v:AV)(a b:κ AV)(σ:St):κ (AV×St) :=
 ob (kB v) fun s=>
 Option.rec (Aj s a b σ) (fun l=>yG l a b σ) s.conc
def kH(k:Nat)(a b:κ AV)(σ:St):κ (AV×St) :=
 ob (jd a) fun a=>
 ob (jd b) fun b=>
 ob (dC σ k) fun xs=>
 some (new σ (.list (cut xs a b)))
def wV(R:aJ)(ls:ag)(σ:St)(o:Expr)(lo hi st:κ Expr):κ (AV×St) :=
 obp (R.ev ls σ o) fun v σ=>
 gd st.isNone <|
 obp (R.evo ls σ lo) fun a σ=>
 obp (R.evo ls σ hi) fun b σ=>
 Option.rec (ms v a b σ) (fun k=>kH k a b σ) (eG v)
def EF(Y:Pi)(a:Addr)(i:AV)(σ:St):κ (AV×St):=ob (Y.lst a) fun xs=>ob (j4 i) fun j=>ob (dh (lenA xs) j) fun q=>ob (ae xs q) fun r=>some (r,σ)
def Jm(Y:Pi)(R:aJ)(ls:ag)(σ:St)(o s:Expr):κ (AV×St) :=
 obp (R.ev ls σ o) fun v σ=>
 obp (R.ev ls σ s) fun i σ=>
 Option.rec (ob (wk Y.β σ v i) fun r=>some (r,σ)) (fun a=>EF Y a i σ) (w7 v)
def BZ(Y:Pi)(R:aJ)(ls:ag)(σ:St)(o s:Expr):κ (AV×St):=match vE s with
 |.slice lo hi st=>wV R ls σ o lo hi st
 |_=>Jm Y R ls σ o s
def rM(R:aJ)(ls:ag)(σ:St)(fv:AV)(as:List Expr)(ks:List Keyword):κ (AV×St) :=
 gd (GF fv) <|
 obp (R.evs ls σ as) fun vs σ=>
 obp (R.evk ls σ ks) fun kw σ=>
 R.cl σ fv vs kw
def pV(Y:Pi)(R:aJ)(ls:ag)(σ:St)(ov:AV)(x:Str)(as:List Expr)(ks:List Keyword):κ (AV×St) :=
 ob (Cl Y σ ov x) fun id=>
 obp (R.evs ls σ as) fun vs σ=>
 gd (ks.isEmpty) <|
 bm Y σ id ov vs
def vH(Y:Pi)(R:aJ)(ls:ag)(σ:St)(o:Expr)(x:Str)(apos:Pos)(as:List Expr)(ks:List Keyword)(pos:Pos):κ (AV×St) :=
 gd (mA o&&apos.endLine.beq pos.line&&Nat.blt (lenA as+lenA ks+1) 30) <|
 obp (R.ev ls σ o) fun ov σ=>
 match ka Y σ ov x with
 |some fv=>rM R ls σ fv as ks
 |none=>pV Y R ls σ ov x as ks
def yn(R:aJ)(ls:ag)(σ:St)(x:Str)(p:Pos)(as:List Expr)(ks:List Keyword):κ (AV×St) :=
 obp (R.ev ls σ (.Name x p)) fun fv σ=>
 obp (R.evs ls σ as) fun vs σ=>
 obp (R.evk ls σ ks) fun kw σ=>
 R.cl σ fv vs kw
def zt(Y:Pi)(R:aJ)(ls:ag)(σ:St)(f:Expr)(as:List Expr)(ks:List Keyword)(pos:Pos):κ (AV×St):=match vE f with
 |.attr o x apos=>vH Y R ls σ o x apos as ks pos
 |.name x p=>yn R ls σ x p as ks
 |_=>none
def CW(σ:St)(c:Const):κ (AV×St) :=
 ob (zY c) fun v=>
 some ((v,σ))
def Al(R:aJ)(sc:List (Str×NameKind))(t e:Expr)(k:Nat)(f:List AV):It→St→κ St:=List.rec (fun U U=>none) (fun U U ih i σ=>
 ob (jw σ i) fun x=>Option.rec (some σ) (fun p=>Prod.rec (fun v j=>
  obp (R.asg ⟨[],sc⟩ σ v t) fun ls σ=>
  obp (R.ev ls σ e) fun y σ=>
  ob (dC σ k) fun xs=>
  gd (Nat.ble (lenA xs) 1000) <|
  ih j (cC σ k (.list (xs++[y])))) p) x) f
def uh(sc:List (Str×NameKind))(p:Str×NameKind):Bool:=match p.2 with|.local=>rx p.1 sc|.globalImplicit=>true|_=>false
def ww(sc:Scope):Bool:=(match sc.kind with|.function=>true|_=>false)&&(sc.names.all (uh sc.names)&&Option.isNone (lk ("__debug__" : Str) sc.names))
def DH(R:aJ)(ls:ag)(σ:St)(e t it:Expr)(sc:Scope):κ (AV×St) :=
 gd (ww sc&&(jE it&&iZ t)) <|
 obp (R.ev ls σ it) fun v σ=>
 ob (eG v) fun k=>
 ob (dC σ k) fun xs=>
 ob (Al R sc.names t e (lenA σ) (.none::xs) (.lst k 0) (σ++[.list []])) fun σ'=>
 some (.cell (lenA σ),σ')
def Cr(Y:Pi)(R:aJ)(ls:ag)(σ:St)(e:Expr):κ (AV×St):=match vE e with
 |.con c=>CW σ c
 |.name x _=>zo Y ls σ x
 |.attr o x _=>C5 Y R ls σ o x
 |.bool op vs=>R.bl ls σ op vs
 |.un op e=>Aq Y R ls σ op e
 |.ife t b o=>FD R ls σ t b o
 |.bin l op r=>IZ Y R ls σ l op r
 |.cmp l ops rs=>Ik R ls σ l ops rs
 |.tup es=>IB R ls σ es
 |.lst es=>Am R ls σ es
 |.sub o s=>BZ Y R ls σ o s
 |.slice _ _ _=>none
 |.call f as ks pos=>zt Y R ls σ f as ks pos
 |.comp e' t it sc=>DH R ls σ e' t it sc
 |.other=>none
def zC(Y:Pi)(R:aJ):ag→St→κ Expr→κ (κ AV×St):=fun ls σ e=>match e with
 |none=>some (none,σ)
 |some e=>
  obp (R.ev ls σ e) fun v σ=>
  some ((some v,σ))
def Br(Y:Pi)(R:aJ):ag→St→List Expr→κ (List AV×St):=fun ls σ es=>match es with
 |[]=>some ([],σ)
 |e::r=>
  gd (gU e) <|
  obp (R.ev ls σ e) fun v σ=>
  obp (R.evs ls σ r) fun vs σ=>
  some ((v::vs,σ))
def CB(Y:Pi)(R:aJ):ag→St→List Keyword→κ (List (Str×AV)×St):=fun ls σ ks=>match ks with
 |[]=>some ([],σ)
 |k::r=>
  ob (k.arg) fun x=>
  obp (R.ev ls σ k.value) fun v σ=>
  obp (R.evk ls σ r) fun vs σ=>
  some (((x,v)::vs,σ))
def zO(Y:Pi)(R:aJ):ag→St→BoolOp→List Expr→κ (AV×St):=fun ls σ op es=>match es with
 |[]=>none
 |e::r=>match r with
  |[]=>R.ev ls σ e
  |r=>
   obp (R.ev ls σ e) fun v σ=>
   ob (sM Y.β σ v) fun b=>
   match A8 op b with
   |true=>some (v,σ)
   |false=>R.bl ls σ op r
def tF(Y:Pi)(R:aJ):ag→St→AV→List CmpOp→List Expr→κ (Bool×St):=fun ls σ a ops rs=>match ops,rs with
 |op::ops,r::rs=>
  gd (jE r) <|
  obp (R.ev ls σ r) fun b σ=>
  ob (cmp Y.β σ op a b) fun t=>
  Bool.rec (Bool.rec (some (false,σ)) (R.cc ls σ b ops rs) t) (some (t,σ)) (aI ops&&aI rs)
 |_,_=>none
def TC(R:aJ)(ls:ag)(σ:St)(op:UnaryOp)(e:Expr):κ (Bool×St):=match op with
 |.Not=>
  obp (R.tst ls σ e) fun b σ=>
  some ((!b,σ))
 |_=>none
def Gw(R:aJ)(ls:ag)(σ:St)(l:Expr)(ops:List CmpOp)(rs:List Expr):κ (Bool×St) :=
 obp (R.ev ls σ l) fun a σ=>
 R.cc ls σ a ops rs
def Ix(Y:Pi)(R:aJ)(ls:ag)(σ:St)(e:Expr):κ (Bool×St) :=
 obp (R.ev ls σ e) fun v σ=>
 ob (sM Y.β σ v) fun b=>
 some ((b,σ))
def BU(Y:Pi)(R:aJ)(ls:ag)(σ:St)(e:Expr):κ (Bool×St):=match vE e with
 |.bool op vs=>R.tb ls σ op vs
 |.un op e'=>TC R ls σ op e'
 |.cmp l ops rs=>Gw R ls σ l ops rs
 |.ife _ _ _=>none
 |_=>Ix Y R ls σ e
def Cj(Y:Pi)(R:aJ):ag→St→BoolOp→List Expr→κ (Bool×St):=fun ls σ op es=>match es with
 |[]=>none
 |e::r=>match r with
  |[]=>R.tst ls σ e
  |r=>
   obp (R.tst ls σ e) fun b σ=>
   match A8 op b with
   |true=>some (b,σ)
   |false=>R.tb ls σ op r
def Gq(σ σ':St)(C:Addr):κ (AV×St) :=
 obp (nN σ' (lenA σ)) fun D fs=>
 gd (D.beq C) <|
 gd (Nat.beq (lenA σ') (lenA σ+1)) <|
 gd (lL (lenA σ) fs) <|
 gd (lr (lenA σ) (aQ (lenA σ) σ')) <|
 some (.obj C fs,aQ (lenA σ) σ')
noncomputable def Px(r:AV):Bool:=match r with|.none=>true|_=>false
def Dx(R:aJ)(σ:St)(C:Addr)(vs:List AV)(kw:List (Str×AV))(c:CI)(f:Addr):κ (AV×St) :=
 obp (R.cf (σ++[.inst C []]) f (.cell (lenA σ)::vs) kw) fun r σ'=>
 gd (Px r) <|
 Bool.rec (some (.cell (lenA σ),σ')) (Gq σ σ' C) c.frozen
def ED(Y:Pi)(R:aJ)(σ:St)(C:Addr)(vs:List AV)(kw:List (Str×AV)):κ (AV×St) :=
 ob (Y.ci C) fun c=>ob c.init fun f=>Dx R σ C vs kw c f
def Dt(Y:Pi)(σ:St)(v:BF)(vs:List AV)(kw:List (Str×AV)):κ (AV×St):=gd kw.isEmpty (bf Y σ v vs)
def ky(Y:Pi)(R:aJ)(σ:St)(fv:AV)(vs:List AV)(kw:List (Str×AV)):κ (AV×St):=match fv with
 |.fn f=>R.cf σ f vs kw
 |.meth f self=>R.cf σ f (self::vs) kw
 |.cls C=>ED Y R σ C vs kw
 |.bi v=>Dt Y σ v vs kw
 |_=>none
def Nt(σ:St)(r:Fl)(σ':St):κ (AV×St):=match r with
 |.ret v=>some (v,j7 (lenA σ) v σ')
 |.next=>some (.none,j7 (lenA σ) .none σ')
def Ce(Y:Pi)(C:Unit→aJ)(σ:St)(f:Addr)(vs:List AV)(kw:List (Str×AV)):κ (AV×St) :=
 ob (Y.fn f) fun fi=>
 ob (iB fi.args fi.dflt vs kw) fun ls=>
 nA ((C ()).exs ⟨ls,fi.sc⟩ σ fi.body) fun r U σ'=>
 Nt σ r σ'
def w9(Y:Pi)(C:Unit→aJ)(σ:St)(f:Addr)(vs:List AV)(kw:List (Str×AV)):κ (AV×St) :=
 Option.rec (Ce Y C σ f vs kw) (fun p=>Bool.rec (Ce Y C σ f vs kw) (some p) (aI kw)) (Y.spec σ f vs)
def zm(Y:Pi)(R:aJ):ag→St→List Stmt→κ (Fl×ag×St):=fun ls σ ss=>match ss with
 |[]=>some (.next,ls,σ)
 |s::r=>
  nA (R.ex ls σ s) fun f ls σ=>
  match f with
  |.next=>R.exs ls σ r
  |f=>some (f,ls,σ)
def Ho(ls:ag)(σ:St)(v:AV)(x:Str):κ (ag×St) :=
 ob (AA ls x v) fun ls=>
 some ((ls,σ))
def Dw(Y:Pi)(R:aJ)(ls:ag)(σ:St)(v:AV)(o:Expr)(x:Str):κ (ag×St) :=
 obp (R.ev ls σ o) fun ov σ=>
 ob (eG ov) fun k=>
 ob (zx Y σ k x v) fun σ=>
 some ((ls,σ))
def Gp(R:aJ)(ls:ag)(σ:St)(v:AV)(ts:List Expr):κ (ag×St):=match v with
 |.tup vs=>R.asgs ls σ vs ts
 |.cell k=>ob (dC σ k) fun vs=>R.asgs ls σ vs ts
 |_=>none
def Fp(R:aJ)(ls:ag)(σ:St)(v:AV)(o i:Expr):κ (ag×St) :=
 gd (Ky i) <|
 obp (R.ev ls σ o) fun ov σ=>
 obp (R.ev ls σ i) fun iv σ=>
 ob (eG ov) fun k=>
 ob (dC σ k) fun xs=>
 ob (j4 iv) fun j=>
 ob (dh (lenA xs) j) fun p=>
 some ((ls,cC σ k (.list (cC xs p v))))
def yY(Y:Pi)(R:aJ)(ls:ag)(σ:St)(v:AV)(t:Expr):κ (ag×St):=match vE t with
 |.name x _=>Ho ls σ v x
 |.attr o x _=>Dw Y R ls σ v o x
 |.tup ts=>Gp R ls σ v ts
 |.sub o i=>Fp R ls σ v o i
 |_=>none
def Er(Y:Pi)(R:aJ):ag→St→List AV→List Expr→κ (ag×St):=fun ls σ vs ts=>match vs,ts with
 |[],[]=>some (ls,σ)
 |v::vs,t::ts=>
  gd (gU t) <|
  obp (R.asg ls σ v t) fun ls σ=>
  R.asgs ls σ vs ts
 |_,_=>none
def EI(Y:Pi)(R:aJ):ag→St→AV→List Expr→κ (ag×St):=fun ls σ v ts=>match ts with
 |[]=>none
 |t::ts=>
  gd (gU t) <|
  match ts with
  |[]=>R.asg ls σ v t
  |ts=>
   obp (R.asg ls σ v t) fun ls σ=>
   R.asgm ls σ v ts
def CL(R:aJ)(ls:ag)(σ:St)(e:Expr):κ (Fl×ag×St) :=
 gd (rF e) <|
 obp (R.ev ls σ e) fun U σ=>
 some ((.next,ls,σ))
def AQ(R:aJ)(ls:ag)(σ:St)(e:κ Expr):κ (Fl×ag×St):=match e with
 |none=>some (.ret .none,ls,σ)
 |some e=>
  obp (R.ev ls σ e) fun v σ=>
  some ((.ret v,ls,σ))
def B7(R:aJ)(ls:ag)(σ:St)(ts:List Expr)(e:Expr):κ (Fl×ag×St) :=
 gd (zu ts e) <|
 obp (R.ev ls σ e) fun v σ=>
 obp (R.asgm ls σ v ts) fun ls σ=>
 some ((.next,ls,σ))
def Id(Y:Pi)(R:aJ)(ls:ag)(σ:St)(x:Str)(op:Operator)(e:Expr):κ (Fl×ag×St) :=
 gd (rx x ls.sc&&A9 op) <|
 ob (lk x ls.v) fun a=>
 obp (R.ev ls σ e) fun b σ=>
 ob (nu Y.β op a b) fun r=>
 ob (AA ls x r) fun ls=>
 some ((.next,ls,σ))
def DO(Y:Pi)(R:aJ)(ls:ag)(σ:St)(o:Expr)(x:Str)(op:Operator)(e:Expr):κ (Fl×ag×St) :=
 gd (A9 op) <|
 obp (R.ev ls σ o) fun ov σ=>
 ob (eG ov) fun k=>
 ob (ka Y σ ov x) fun a=>
 obp (R.ev ls σ e) fun b σ=>
 ob (nu Y.β op a b) fun r=>
 ob (zx Y σ k x r) fun σ=>
 some ((.next,ls,σ))
def B6(Y:Pi)(R:aJ)(ls:ag)(σ:St)(t:Expr)(op:Operator)(e:Expr):κ (Fl×ag×St):=match vE t with
 |.name x _=>Id Y R ls σ x op e
 |.attr o x _=>DO Y R ls σ o x op e
 |_=>none
def Ir(R:aJ)(ls:ag)(σ:St)(t:Expr)(b o:List Stmt):κ (Fl×ag×St) :=
 obp (R.tst ls σ t) fun c σ=>
 match c with
 |true=>R.exs ls σ b
 |false=>R.exs ls σ o
def HJ(R:aJ)(ls:ag)(σ:St)(t:Expr)(b o:List Stmt):κ (Fl×ag×St) :=
 gd (o.isEmpty) <|
 R.wh ls σ t b
def Ea(R:aJ)(ls:ag)(σ:St)(t it:Expr)(b o:List Stmt):κ (Fl×ag×St) :=
 gd (o.isEmpty&&jE it&&iZ t) <|
 obp (R.ev ls σ it) fun v σ=>
 ob (rU σ v) fun i=>
 R.fo ls σ t i b
def yP(Y:Pi)(R:aJ)(ls:ag)(σ:St)(s:Stmt):κ (Fl×ag×St):=match vS s with
 |.exp e=>CL R ls σ e
 |.pass=>some (.next,ls,σ)
 |.ret e=>AQ R ls σ e
 |.asg ts e=>B7 R ls σ ts e
 |.aug t op e=>B6 Y R ls σ t op e
 |.ife t b o=>Ir R ls σ t b o
 |.wh t b o=>HJ R ls σ t b o
 |.fo t it b o=>Ea R ls σ t it b o
 |.other=>none
def Hm(Y:Pi)(R:aJ):ag→St→Expr→List Stmt→κ (Fl×ag×St):=fun ls σ t b=>
 obp (R.tst ls σ t) fun c σ=>
 match c with
 |false=>some (.next,ls,σ)
 |true=>
  nA (R.exs ls σ b) fun f ls σ=>
  match f with
  |.ret v=>some (.ret v,ls,σ)
  |_=>R.wh ls σ t b
def Jg(Y:Pi)(R:aJ):ag→St→Expr→It→List Stmt→κ (Fl×ag×St):=fun ls σ t i b=>
 ob (jw σ i) fun x=>
 match x with
 |none=>some (.next,ls,σ)
 |some (v,i)=>
  obp (R.asg ls σ v t) fun ls σ=>
  nA (R.exs ls σ b) fun f ls σ=>
  match f with
  |.ret v=>some (.ret v,ls,σ)
  |_=>R.fo ls σ t i b
def aJ.step(Y:Pi)(R:aJ)(C:Unit→aJ):aJ where
 ev:=Cr Y R
 evo:=zC Y R
 evs:=Br Y R
 evk:=CB Y R
 bl:=zO Y R
 cc:=tF Y R
 tst:=BU Y R
 tb:=Cj Y R
 cl:=ky Y R
 cf:=w9 Y C
 exs:=zm Y R
 asg:=yY Y R
 asgs:=Er Y R
 asgm:=EI Y R
 ex:=yP Y R
 wh:=Hm Y R
 fo:=Jg Y R
def mk(Y:Pi)(n:Nat):Nat→aJ:=Nat.rec (fun U=>.bot) (fun U ih d=>.step Y (ih d) (fun U=>Nat.rec .bot (fun d' U=>ih d') d)) n
end
noncomputable def yk:List Stmt→Nat→Stmt
 |[],_=>.Pass default
 |a::_,0=>a
 |_::r,n+1=>yk r n
noncomputable def cB:Stmt→List Stmt
 |.ClassDef _ _ _ b _ _ _ _ _ _ _=>b
 |_=>[]
noncomputable def fA:Stmt→Arguments
 |.FunctionDef _ a _ _ _ _ _ _ _ _=>a
 |_=>default
noncomputable def fB:Stmt→List Stmt
 |.FunctionDef _ _ b _ _ _ _ _ _ _=>b
 |_=>[]
noncomputable def fS:Stmt→Scope
 |.FunctionDef _ _ _ _ _ _ s _ _ _=>s
 |_=>default
def tS(i:Nat):Stmt:=yk jf.main.body i
def mS(i j:Nat):Stmt:=yk (cB (yk jf.main.body i)) j
namespace Z
noncomputable def q(a b:Str):Str:=⟨⟨a.cps.toList++46::b.cps.toList⟩⟩
noncomputable def k(P:Params)(x:Str)(t:Tok)(v:π):DictEntry:=⟨PyData.keyHash P x,.str x t,v⟩
noncomputable def c(a:Addr)(n:Str)(t:Tok)(q:Str)(l r x:Nat):Addr×Obj:=(a,⟨.type "code",none,.fields #[.str n t,.str q (t+1),.str ur (t+2),.int l 0,.int r 0,.int 0 0,.int 0 0,.int 3 0,.ref (a-5),.bool true,.int 181 0,.ref (a-4),.none,.ref (a-3),.ref (a-2),.ref (a-1),.int x 0,.int l 0,.str ur (x+1)],#[]⟩)
noncomputable def f(a:Addr)(n q:Str)(s:Stmt)(d:π)(m:Str)(t:Tok):Addr×Obj:=(a,⟨.type "function",none,.func (fnOf n q (fA s) (fB s) (fS s) d .none .none (.str m t) none (.ref (a-1)) .none),#[]⟩)
noncomputable def y(a:Addr)(n:Str)(b r s:List π)(i:π)(t u:Tok):Addr×Obj:=(a,⟨.type "type",none,.cls ⟨n,b,r,a-1,n,true,[],s,false,none,false⟩,#[some i,none,some (.str n t),some (.str n u),some (.builtin "object.__new__"),some (.bool true)]⟩)
noncomputable def d(a:Addr)(e:Array DictEntry)(n:Nat):Addr×Obj:=(a,⟨.type "dict",none,.dict e n,#[]⟩)
noncomputable def u(a:Addr)(e:Array π):Addr×Obj:=(a,⟨.type "tuple",none,.seq e 0,#[]⟩)
noncomputable def s0:Str:=⟨#[95,95,115,116,97,116,105,99,95,97,116,116,114,105,98,117,116,101,115,95,95]⟩
noncomputable def s1:Str:=⟨#[95,95,102,105,114,115,116,108,105,110,101,110,111,95,95]⟩
noncomputable def s2:Str:=⟨#[95,95,109,111,100,117,108,101,95,95]⟩
noncomputable def s3:Str:=⟨#[95,95,100,111,99,95,95]⟩
noncomputable def s4:Str:=⟨#[95,95,119,101,97,107,114,101,102,95,95]⟩
noncomputable def s5:Str:=⟨#[95,95,100,105,99,116,95,95]⟩
end Z
open Z in
def wJ(P:Params):List DictEntry:=[k P tH 633 (.str tH 634),k P BN 635 (.str Dq 636)]
open Z in
def J0(P:Params):List DictEntry:=[k P Qp 1120 (.str KM 1121),k P Kr 1122 (.str OW 1123),k P Ny 1124 (.str Od 1125),k P V4 1126 (.str Ll 1127),k P Ys 1128 (.str N8 1129),k P QQ 1130 (.str Yx 1131),k P Uj 1132 (.str Th 1133),k P Vb 1134 (.str O1 1135),k P Md 1136 (.str N5 1137),k P HI 1138 (.str HI 1139),k P I7 1140 (.str I7 1141),k P UR 1142 (.str Rf 1143),k P Xe 1144 (.str Uy 1145),k P R8 1146 (.str KK 1147),k P SM 1148 (.str P8 1149)]
open Z in
def cG(P:Params):Frag :=
 [d 3 #[k P n2 165 (.str mu 1315),k P s3 166 .none,k P ⟨#[95,95,112,97,99,107,97,103,101,95,95]⟩ 167 .none,k P ⟨#[95,95,108,111,97,100,101,114,95,95]⟩ 168 (.builtin "__main__.__loader__#opaque"),k P ⟨#[95,95,115,112,101,99,95,95]⟩ 169 .none,k P ⟨#[95,95,97,110,110,111,116,97,116,105,111,110,115,95,95]⟩ 170 (.ref 6),k P ⟨#[95,95,98,117,105,108,116,105,110,115,95,95]⟩ 171 (.ref 4),k P ⟨#[95,95,102,105,108,101,95,95]⟩ 173 (.str ur 172),k P ⟨#[95,95,99,97,99,104,101,100,95,95]⟩ 174 .none,k P n0 193 (.ref 21),k P n4 215 (.ref 31),k P n7 255 (.ref 59),k P rH 284 (.ref 81),k P pR 319 (.ref 101),k P vL 335 (.ref 113),k P rN 364 (.ref 133),k P wU 380 (.ref 145),k P sx 413 (.ref 165),k P sf 442 (.ref 185),k P vt 458 (.ref 197),k P pS 495 (.ref 217),k P ym 511 (.ref 229),k P x6 527 (.ref 241),k P w1 543 (.ref 253),k P we 559 (.ref 265),k P Gv 577 (.ref 277),k P l7 620 (.ref 296),k P az 1271 (.ref 736),k P jx 1314 (.ref 771),k P yZ 1328 (.ref 776),k P oX 1334 (.ref 783),k P pe 1340 (.ref 790),k P oH 1346 (.ref 797),k P oC 1356 (.ref 804),k P oE 1365 (.ref 811),k P pt 1377 (.ref 818),k P pv 1390 (.ref 825),k P sq 1396 (.ref 830)] 38,
c 20 n0 187 n0 1 1 191,
f 21 n0 n0 (tS 0) .none ⟨#[95,95,109,97,105,110,95,95]⟩ 164,
u 42 #[.none,.none],
c 48 n9 230 (q n7 n9) 10 3 236,
f 49 n9 (q n7 n9) (mS 4 0) (.ref 42) n6 216,
c 55 gb 239 (q n7 gb) 14 1 243,
f 56 gb (q n7 gb) (mS 4 1) .none n6 216,
d 58 #[k P s2 225 (.str n6 216),k P s1 229 (.int 8 228),k P n9 238 (.ref 49),k P gb 245 (.ref 56),k P s0 248 (.ref 57),k P s5 250 (.ref 60),k P s4 252 (.ref 61),k P s3 253 .none] 4,
y 59 n7 [(.type "object")] [(.ref 59),(.type "object")] [(.ref 81),(.ref 113),(.ref 133),(.ref 145),(.ref 165),(.ref 185)] (.ref 35) 218 226,
u 71 #[.none,.none],
c 77 n9 268 (q rH n9) 18 4 275,
f 78 n9 (q rH n9) (mS 5 0) (.ref 71) n6 216,
d 80 #[k P s2 263 (.str n6 216),k P s1 267 (.int 16 266),k P n9 277 (.ref 78),k P s0 281 (.ref 79),k P s3 282 .none] 2,
y 81 rH [(.ref 59)] [(.ref 81),(.ref 59),(.type "object")] [(.ref 101),(.ref 197),(.ref 217)] (.ref 64) 256 264,
u 91 #[.none,.none,.none],
c 97 n9 297 (q pR n9) 24 7 307,
f 98 n9 (q pR n9) (mS 6 0) (.ref 91) n6 216,
d 100 #[k P s2 292 (.str n6 216),k P s1 296 (.int 22 295),k P n9 309 (.ref 98),k P s0 316 (.ref 99),k P s3 317 .none] 2,
y 101 pR [(.ref 81)] [(.ref 101),(.ref 81),(.ref 59),(.type "object")] [(.ref 229),(.ref 253)] (.ref 84) 285 293,
d 112 #[k P s2 327 (.str n6 216),k P s1 331 (.int 31 330),k P s0 332 (.ref 111),k P s3 333 .none] 2,
y 113 vL [(.ref 59)] [(.ref 113),(.ref 59),(.type "object")] [(.ref 241),(.ref 265)] (.ref 104) 320 328,
u 123 #[.none,.none,.none],
c 129 n9 348 (q rN n9) 35 4 355,
f 130 n9 (q rN n9) (mS 8 0) (.ref 123) n6 216,
d 132 #[k P s2 343 (.str n6 216),k P s1 347 (.int 33 346),k P n9 357 (.ref 130),k P s0 361 (.ref 131),k P s3 362 .none] 2,
y 133 rN [(.ref 59)] [(.ref 133),(.ref 59),(.type "object")] [] (.ref 116) 336 344,
d 144 #[k P s2 372 (.str n6 216),k P s1 376 (.int 39 375),k P s0 377 (.ref 143),k P s3 378 .none] 2,
y 145 wU [(.ref 59)] [(.ref 145),(.ref 59),(.type "object")] [] (.ref 136) 365 373,
u 155 #[.none,.none,.none,.none,.none],
c 161 n9 393 (q sx n9) 43 6 402,
f 162 n9 (q sx n9) (mS 10 0) (.ref 155) n6 216,
d 164 #[k P s2 388 (.str n6 216),k P s1 392 (.int 41 391),k P n9 404 (.ref 162),k P s0 410 (.ref 163),k P s3 411 .none] 2,
y 165 sx [(.ref 59)] [(.ref 165),(.ref 59),(.type "object")] [] (.ref 148) 381 389,
u 175 #[.none,.none,.none],
c 181 n9 426 (q sf n9) 51 4 433,
f 182 n9 (q sf n9) (mS 11 0) (.ref 175) n6 216,
d 184 #[k P s2 421 (.str n6 216),k P s1 425 (.int 49 424),k P n9 435 (.ref 182),k P s0 439 (.ref 183),k P s3 440 .none] 2,
y 185 sf [(.ref 59)] [(.ref 185),(.ref 59),(.type "object")] [] (.ref 168) 414 422,
d 196 #[k P s2 450 (.str n6 216),k P s1 454 (.int 55 453),k P s0 455 (.ref 195),k P s3 456 .none] 2,
y 197 vt [(.ref 81)] [(.ref 197),(.ref 81),(.ref 59),(.type "object")] [] (.ref 188) 443 451,
u 207 #[.none,.none,.none],
c 213 n9 471 (q pS n9) 59 8 482,
f 214 n9 (q pS n9) (mS 13 0) (.ref 207) n6 216,
d 216 #[k P s2 466 (.str n6 216),k P s1 470 (.int 57 469),k P n9 484 (.ref 214),k P s0 492 (.ref 215),k P s3 493 .none] 2,
y 217 pS [(.ref 81)] [(.ref 217),(.ref 81),(.ref 59),(.type "object")] [] (.ref 200) 459 467,
d 228 #[k P s2 503 (.str n6 216),k P s1 507 (.int 67 506),k P s0 508 (.ref 227),k P s3 509 .none] 2,
y 229 ym [(.ref 101)] [(.ref 229),(.ref 101),(.ref 81),(.ref 59),(.type "object")] [] (.ref 220) 496 504,
d 240 #[k P s2 519 (.str n6 216),k P s1 523 (.int 69 522),k P s0 524 (.ref 239),k P s3 525 .none] 2,
y 241 x6 [(.ref 113)] [(.ref 241),(.ref 113),(.ref 59),(.type "object")] [] (.ref 232) 512 520,
d 252 #[k P s2 535 (.str n6 216),k P s1 539 (.int 71 538),k P s0 540 (.ref 251),k P s3 541 .none] 2,
y 253 w1 [(.ref 101)] [(.ref 253),(.ref 101),(.ref 81),(.ref 59),(.type "object")] [] (.ref 244) 528 536,
d 264 #[k P s2 551 (.str n6 216),k P s1 555 (.int 73 554),k P s0 556 (.ref 263),k P s3 557 .none] 2,
y 265 we [(.ref 113)] [(.ref 265),(.ref 113),(.ref 59),(.type "object")] [] (.ref 256) 544 552,
c 292 n9 590 (q l7 n9) 80 9 602,
f 293 n9 (q l7 n9) (mS 20 0) .none bc 560,
d 295 #[k P s2 585 (.str bc 560),k P s1 589 (.int 78 588),k P n9 604 (.ref 293),k P s0 613 (.ref 294),k P s5 615 (.ref 297),k P s4 617 (.ref 298),k P s3 618 .none] 4,
(296,⟨(.type "type"),none,.cls ⟨l7,[(.type "object")],[(.ref 296),(.type "object")],295,l7,true,[],[],false,none,false⟩,#[none,none,(some (.str l7 578)),(some (.str l7 586)),(some (.builtin "object.__new__")),(some (.bool true))]⟩),
(308,⟨(.type "dict"),none,.dict (wJ P).toArray 2,#[]⟩),
u 309 #[.none,.none,.none,.none,.none],
c 315 n9 640 (q az n9) 92 7 650,
f 316 n9 (q az n9) (mS 21 1) (.ref 309) bc 560,
c 322 sD 653 (q az sD) 128 1 657,
f 323 sD (q az sD) (mS 21 2) .none bc 560,
c 329 sC 660 (q az sC) 131 2 665,
f 330 sC (q az sC) (mS 21 3) .none bc 560,
c 336 pT 668 (q az pT) 138 1 673,
f 337 pT (q az pT) (mS 21 4) .none bc 560,
c 343 rO 676 (q az rO) 151 2 683,
f 344 rO (q az rO) (mS 21 5) .none bc 560,
u 345 #[(.bool false),(.bool false)],
c 351 rD 686 (q az rD) 164 3 692,
f 352 rD (q az rD) (mS 21 6) (.ref 345) bc 560,
c 358 qI 695 (q az qI) 174 1 699,
f 359 qI (q az qI) (mS 21 7) .none bc 560,
c 365 pL 702 (q az pL) 181 1 706,
f 366 pL (q az pL) (mS 21 8) .none bc 560,
c 372 qr 709 (q az qr) 184 1 713,
f 373 qr (q az qr) (mS 21 9) .none bc 560,
u 374 #[(.bool false)],
c 380 rg 716 (q az rg) 187 2 728,
f 381 rg (q az rg) (mS 21 10) (.ref 374) bc 560,
c 387 sr 731 (q az sr) 220 1 735,
f 388 sr (q az sr) (mS 21 11) .none bc 560,
c 394 qF 738 (q az qF) 231 1 742,
f 395 qF (q az qF) (mS 21 12) .none bc 560,
u 396 #[(.bool false),(.bool false),(.bool false),(.bool false)],
c 402 rj 745 (q az rj) 235 5 753,
f 403 rj (q az rj) (mS 21 13) (.ref 396) bc 560,
c 409 sE 756 (q az sE) 260 1 760,
f 410 sE (q az sE) (mS 21 14) .none bc 560,
c 416 rX 763 (q az rX) 266 1 767,
f 417 rX (q az rX) (mS 21 15) .none bc 560,
c 423 rQ 770 (q az rQ) 272 1 774,
f 424 rQ (q az rQ) (mS 21 16) .none bc 560,
c 430 pF 777 (q az pF) 278 1 781,
f 431 pF (q az pF) (mS 21 17) .none bc 560,
c 437 sy 784 (q az sy) 290 1 788,
f 438 sy (q az sy) (mS 21 18) .none bc 560,
c 444 qh 791 (q az qh) 306 1 795,
f 445 qh (q az qh) (mS 21 19) .none bc 560,
c 451 rT 798 (q az rT) 312 1 802,
f 452 rT (q az rT) (mS 21 20) .none bc 560,
c 458 qW 805 (q az qW) 329 1 809,
f 459 qW (q az qW) (mS 21 21) .none bc 560,
c 465 qj 812 (q az qj) 350 1 816,
f 466 qj (q az qj) (mS 21 22) .none bc 560,
c 472 si 819 (q az si) 355 1 823,
f 473 si (q az si) (mS 21 23) .none bc 560,
c 479 ro 826 (q az ro) 362 1 831,
f 480 ro (q az ro) (mS 21 24) .none bc 560,
c 486 qs 834 (q az qs) 367 1 838,
f 487 qs (q az qs) (mS 21 25) .none bc 560,
u 488 #[(.bool false)],
c 494 qq 841 (q az qq) 370 2 846,
f 495 qq (q az qq) (mS 21 26) (.ref 488) bc 560,
c 501 qA 849 (q az qA) 380 1 853,
f 502 qA (q az qA) (mS 21 27) .none bc 560,
c 508 qu 856 (q az qu) 384 1 860,
f 509 qu (q az qu) (mS 21 28) .none bc 560,
u 510 #[(.bool false)],
c 516 rW 863 (q az rW) 387 2 868,
f 517 rW (q az rW) (mS 21 29) (.ref 510) bc 560,
c 523 ql 871 (q az ql) 401 1 875,
f 524 ql (q az ql) (mS 21 30) .none bc 560,
c 530 qH 878 (q az qH) 406 1 882,
f 531 qH (q az qH) (mS 21 31) .none bc 560,
c 537 rq 885 (q az rq) 412 1 889,
f 538 rq (q az rq) (mS 21 32) .none bc 560,
c 544 qc 892 (q az qc) 415 1 896,
f 545 qc (q az qc) (mS 21 33) .none bc 560,
c 551 qe 899 (q az qe) 418 1 904,
f 552 qe (q az qe) (mS 21 34) .none bc 560,
c 558 pU 907 (q az pU) 424 1 912,
f 559 pU (q az pU) (mS 21 35) .none bc 560,
c 565 q8 915 (q az q8) 440 2 920,
f 566 q8 (q az q8) (mS 21 36) .none bc 560,
c 572 p0 923 (q az p0) 450 1 928,
f 573 p0 (q az p0) (mS 21 37) .none bc 560,
c 579 qN 931 (q az qN) 472 1 935,
f 580 qN (q az qN) (mS 21 38) .none bc 560,
c 586 p9 938 (q az p9) 488 1 943,
f 587 p9 (q az p9) (mS 21 39) .none bc 560,
c 593 qB 946 (q az qB) 507 2 953,
f 594 qB (q az qB) (mS 21 40) .none bc 560,
c 600 qp 956 (q az qp) 513 2 962,
f 601 qp (q az qp) (mS 21 41) .none bc 560,
c 607 sG 965 (q az sG) 523 2 975,
f 608 sG (q az sG) (mS 21 42) .none bc 560,
c 614 rV 978 (q az rV) 545 2 993,
f 615 rV (q az rV) (mS 21 43) .none bc 560,
c 621 sJ 996 (q az sJ) 578 2 1002,
f 622 sJ (q az sJ) (mS 21 44) .none bc 560,
c 628 qJ 1005 (q az qJ) 586 2 1032,
f 629 qJ (q az qJ) (mS 21 45) .none bc 560,
c 635 sB 1035 (q az sB) 684 1 1039,
f 636 sB (q az sB) (mS 21 46) .none bc 560,
c 642 pO 1042 (q az pO) 687 1 1046,
f 643 pO (q az pO) (mS 21 47) .none bc 560,
c 649 pK 1049 (q az pK) 690 1 1053,
f 650 pK (q az pK) (mS 21 48) .none bc 560,
u 651 #[(.bool false),(.bool false)],
c 657 pH 1056 (q az pH) 693 5 1065,
f 658 pH (q az pH) (mS 21 49) (.ref 651) bc 560,
c 664 rE 1068 (q az rE) 704 1 1074,
f 665 rE (q az rE) (mS 21 50) .none bc 560,
u 666 #[.none],
c 672 ry 1077 (q az ry) 714 2 1082,
f 673 ry (q az ry) (mS 21 51) (.ref 666) bc 560,
c 679 sF 1085 (q az sF) 723 2 1091,
f 680 sF (q az sF) (mS 21 52) .none bc 560,
c 686 qS 1094 (q az qS) 728 3 1101,
f 687 qS (q az qS) (mS 21 53) .none bc 560,
u 688 #[(.bool true)],
c 694 qn 1104 (q az qn) 733 3 1117,
f 695 qn (q az qn) (mS 21 54) (.ref 688) bc 560,
(696,⟨(.type "dict"),none,.dict (J0 P).toArray 15,#[]⟩),
u 697 #[(.bool true)],
c 703 pJ 1166 (q az pJ) 780 3 1176,
f 704 pJ (q az pJ) (mS 21 56) (.ref 697) bc 560,
c 710 qC 1179 (q az qC) 821 2 1185,
f 711 qC (q az qC) (mS 21 57) .none bc 560,
c 717 rz 1188 (q az rz) 832 2 1202,
f 718 rz (q az rz) (mS 21 58) .none bc 560,
c 724 p7 1205 (q az p7) 880 2 1217,
f 725 p7 (q az p7) (mS 21 59) .none bc 560,
u 726 #[(.bool true)],
c 732 q7 1220 (q az q7) 912 3 1233,
f 733 q7 (q az q7) (mS 21 60) (.ref 726) bc 560,
d 735 #[k P s2 628 (.str bc 560),k P s1 632 (.int 89 631),k P t7 639 (.ref 308),k P n9 652 (.ref 316),k P sD 659 (.ref 323),k P sC 667 (.ref 330),k P pT 675 (.ref 337),k P rO 685 (.ref 344),k P rD 694 (.ref 352),k P qI 701 (.ref 359),k P pL 708 (.ref 366),k P qr 715 (.ref 373),k P rg 730 (.ref 381),k P sr 737 (.ref 388),k P qF 744 (.ref 395),k P rj 755 (.ref 403),k P sE 762 (.ref 410),k P rX 769 (.ref 417),k P rQ 776 (.ref 424),k P pF 783 (.ref 431),k P sy 790 (.ref 438),k P qh 797 (.ref 445),k P rT 804 (.ref 452),k P qW 811 (.ref 459),k P qj 818 (.ref 466),k P si 825 (.ref 473),k P ro 833 (.ref 480),k P qs 840 (.ref 487),k P qq 848 (.ref 495),k P qA 855 (.ref 502),k P qu 862 (.ref 509),k P rW 870 (.ref 517),k P ql 877 (.ref 524),k P qH 884 (.ref 531),k P rq 891 (.ref 538),k P qc 898 (.ref 545),k P qe 906 (.ref 552),k P pU 914 (.ref 559),k P q8 922 (.ref 566),k P p0 930 (.ref 573),k P qN 937 (.ref 580),k P p9 945 (.ref 587),k P qB 955 (.ref 594),k P qp 964 (.ref 601),k P sG 977 (.ref 608),k P rV 995 (.ref 615),k P sJ 1004 (.ref 622),k P qJ 1034 (.ref 629),k P sB 1041 (.ref 636),k P pO 1048 (.ref 643),k P pK 1055 (.ref 650),k P pH 1067 (.ref 658),k P rE 1076 (.ref 665),k P ry 1084 (.ref 673),k P sF 1093 (.ref 680),k P qS 1103 (.ref 687),k P qn 1119 (.ref 695),k P PM 1165 (.ref 696),k P pJ 1178 (.ref 704),k P qC 1187 (.ref 711),k P rz 1204 (.ref 718),k P p7 1219 (.ref 725),k P q7 1235 (.ref 733),k P s0 1264 (.ref 734),k P s5 1266 (.ref 737),k P s4 1268 (.ref 738),k P s3 1269 .none] 4,
(736,⟨(.type "type"),none,.cls ⟨az,[(.type "object")],[(.ref 736),(.type "object")],735,az,true,[],[],false,none,false⟩,#[none,none,(some (.str az 621)),(some (.str az 629)),(some (.builtin "object.__new__")),(some (.bool true))]⟩),
c 753 n9 1284 (q jx n9) 965 1 1288,
f 754 n9 (q jx n9) (mS 22 0) .none bc 560,
c 760 qL 1291 (q jx qL) 968 2 1296,
f 761 qL (q jx qL) (mS 22 1) .none bc 560,
c 767 dI 1299 (q jx dI) 971 1 1303,
f 768 dI (q jx dI) (mS 22 2) .none bc 560,
d 770 #[k P s2 1279 (.str bc 560),k P s1 1283 (.int 963 1282),k P n9 1290 (.ref 754),k P qL 1298 (.ref 761),k P dI 1305 (.ref 768),k P s0 1307 (.ref 769),k P s5 1309 (.ref 772),k P s4 1311 (.ref 773),k P s3 1312 .none] 4,
(771,⟨(.type "type"),none,.cls ⟨jx,[(.type "object")],[(.ref 771),(.type "object")],770,jx,true,[],[],false,none,false⟩,#[none,none,(some (.str jx 1272)),(some (.str jx 1280)),(some (.builtin "object.__new__")),(some (.bool true))]⟩),
(776,⟨(.type "list"),none,.seq #[(.str DL 1317),(.str tg 1318),(.str Iu 1319),(.str Dh 1320),(.str Jo 1321),(.str Ib 1322),(.str Do 1323),(.str Jj 1324),(.str H3 1325),(.str JQ 1326),(.str Gl 1327)] 0,#[]⟩),
c 782 oX 1329 oX 975 0 1332,
f 783 oX oX (tS 25) .none mu 1315,
c 789 pe 1335 pe 977 0 1338,
f 790 pe pe (tS 26) .none mu 1315,
c 796 oH 1341 oH 979 0 1344,
f 797 oH oH (tS 27) .none mu 1315,
c 803 oC 1347 oC 981 2 1354,
f 804 oC oC (tS 28) .none mu 1315,
c 810 oE 1357 oE 992 2 1363,
f 811 oE oE (tS 29) .none mu 1315,
c 817 pt 1366 pt 999 2 1375,
f 818 pt pt (tS 30) .none mu 1315,
c 824 pv 1378 pv 1023 3 1388,
f 825 pv pv (tS 31) .none mu 1315,
(829,⟨(.type "code"),none,.fields #[(.str sq 1391),(.str sq 1392),(.str ur 1393),(.int 1033 0),(.int 1 0),(.int 0 0),(.int 0 0),(.int 3 0),(.ref 826),(.bool true),(.int 181 0),(.ref 827),.none,.none,.none,(.ref 828),(.int 1394 0),(.int 1033 0),(.str ur 1395)],#[]⟩),
f 830 sq sq (tS 32) .none mu 1315]
noncomputable def yT:List Addr:=[3,20,21,42,48,49,55,56,58,59,71,77,78,80,81,91,97,98,100,101,112,113,123,129,130,132,133,144,145,155,161,162,164,165,175,181,182,184,185,196,197,207,213,214,216,217,228,229,240,241,252,253,264,265,292,293,295,296,308,309,315,316,322,323,329,330,336,337,343,344,345,351,352,358,359,365,366,372,373,374,380,381,387,388,394,395,396,402,403,409,410,416,417,423,424,430,431,437,438,444,445,451,452,458,459,465,466,472,473,479,480,486,487,488,494,495,501,502,508,509,510,516,517,523,524,530,531,537,538,544,545,551,552,558,559,565,566,572,573,579,580,586,587,593,594,600,601,607,608,614,615,621,622,628,629,635,636,642,643,649,650,651,657,658,664,665,666,672,673,679,680,686,687,688,694,695,696,697,703,704,710,711,717,718,724,725,726,732,733,735,736,753,754,760,761,767,768,770,771,776,782,783,789,790,796,797,803,804,810,811,817,818,824,825,829,830]
def fI(a:Addr)(s:Stmt)(as:List Str)(d:List AV):Addr×nI:=(a,⟨as,d,fB s,(fS s).names⟩)
def hG:List (Addr×nI) :=
 [fI 21 (tS 0) [n1] [],fI 49 (mS 4 0) [aF,dT,dR] [.none,.none],fI 56 (mS 4 1) [aF] [],fI 78 (mS 5 0) [aF,jL,dT,dR] [.none,.none],fI 98 (mS 6 0) [aF,jL,mj,nP,dT,dR,uY] [.none,.none,.none],fI 130 (mS 8 0) [aF,dT,dR,rd] [.none,.none,.none],fI 162 (mS 10 0) [aF,dT,dR,qE,wj,zJ] [.none,.none,.none,.none,.none],fI 182 (mS 11 0) [aF,dT,dR,qE] [.none,.none,.none],fI 214 (mS 13 0) [aF,jL,mj,nP,d6,dT,dR,qi] [.none,.none,.none],fI 293 (mS 20 0) [aF,i7,CG,A0,wb,wG,xF,xd,vu] [],fI 316 (mS 21 1) [aF,wM,vP,o7,jD,yd,qv] [.none,.none,.none,.none,.none],fI 323 (mS 21 2) [aF] [],fI 330 (mS 21 3) [aF,jp] [],fI 337 (mS 21 4) [aF] [],fI 344 (mS 21 5) [aF,PF] [],fI 352 (mS 21 6) [aF,UK,Lh] [(.bool false),(.bool false)],fI 359 (mS 21 7) [aF] [],fI 366 (mS 21 8) [aF] [],fI 373 (mS 21 9) [aF] [],fI 381 (mS 21 10) [aF,Bn] [(.bool false)],fI 388 (mS 21 11) [aF] [],fI 395 (mS 21 12) [aF] [],fI 403 (mS 21 13) [aF,uP,TI,Xz,V1] [(.bool false),(.bool false),(.bool false),(.bool false)],fI 410 (mS 21 14) [aF] [],fI 417 (mS 21 15) [aF] [],fI 424 (mS 21 16) [aF] [],fI 431 (mS 21 17) [aF] [],fI 438 (mS 21 18) [aF] [],fI 445 (mS 21 19) [aF] [],fI 452 (mS 21 20) [aF] [],fI 459 (mS 21 21) [aF] [],fI 466 (mS 21 22) [aF] [],fI 473 (mS 21 23) [aF] [],fI 480 (mS 21 24) [aF] [],fI 487 (mS 21 25) [aF] [],fI 495 (mS 21 26) [aF,Bn] [(.bool false)],fI 502 (mS 21 27) [aF] [],fI 509 (mS 21 28) [aF] [],fI 517 (mS 21 29) [aF,Bn] [(.bool false)],fI 524 (mS 21 30) [aF] [],fI 531 (mS 21 31) [aF] [],fI 538 (mS 21 32) [aF] [],fI 545 (mS 21 33) [aF] [],fI 552 (mS 21 34) [aF] [],fI 559 (mS 21 35) [aF] [],fI 566 (mS 21 36) [aF,Hp] [],fI 573 (mS 21 37) [aF] [],fI 580 (mS 21 38) [aF] [],fI 587 (mS 21 39) [aF] [],fI 594 (mS 21 40) [aF,wj] [],fI 601 (mS 21 41) [aF,Vl] [],fI 608 (mS 21 42) [aF,Xk] [],fI 615 (mS 21 43) [aF,mj] [],fI 622 (mS 21 44) [aF,jL] [],fI 629 (mS 21 45) [aF,i7] [],fI 636 (mS 21 46) [aF] [],fI 643 (mS 21 47) [aF] [],fI 650 (mS 21 48) [aF] [],fI 658 (mS 21 49) [aF,Hp,TM,xr,wH] [(.bool false),(.bool false)],fI 665 (mS 21 50) [aF] [],fI 673 (mS 21 51) [aF,F9] [.none],fI 680 (mS 21 52) [aF,Rr] [],fI 687 (mS 21 53) [aF,TP,TV] [],fI 695 (mS 21 54) [aF,dI,Cp] [(.bool true)],fI 704 (mS 21 56) [aF,dI,Cp] [(.bool true)],fI 711 (mS 21 57) [aF,dI] [],fI 718 (mS 21 58) [aF,dI] [],fI 725 (mS 21 59) [aF,dI] [],fI 733 (mS 21 60) [aF,dI,Cp] [(.bool true)],fI 754 (mS 22 0) [aF] [],fI 761 (mS 22 1) [aF,F9] [],fI 768 (mS 22 2) [aF] [],fI 783 (tS 25) [] [],fI 790 (tS 26) [] [],fI 797 (tS 27) [] [],fI 804 (tS 28) [dI,nk] [],fI 811 (tS 29) [d6,gL] [],fI 818 (tS 30) [cQ,cS] [],fI 825 (tS 31) [cQ,o7,jD] [],fI 830 (tS 32) [Pf] []]
def oa:List (Addr×CI) :=
 [(59,⟨(some 49),true,[59],[(n9,49),(gb,56)],[],[dR,dT]⟩),
  (81,⟨(some 78),true,[81,59],[(n9,78),(gb,56)],[],[jL,dR,dT]⟩),
  (101,⟨(some 98),true,[101,81,59],[(n9,98),(gb,56)],[],[jL,dR,uY,nP,dT,mj]⟩),
  (113,⟨(some 49),true,[113,59],[(n9,49),(gb,56)],[],[dR,dT]⟩),
  (133,⟨(some 130),true,[133,59],[(n9,130),(gb,56)],[],[rd,dR,dT]⟩),
  (145,⟨(some 49),true,[145,59],[(n9,49),(gb,56)],[],[dR,dT]⟩),
  (165,⟨(some 162),true,[165,59],[(n9,162),(gb,56)],[],[dR,qE,dT,zJ,wj]⟩),
  (185,⟨(some 182),true,[185,59],[(n9,182),(gb,56)],[],[dR,qE,dT]⟩),
  (197,⟨(some 78),true,[197,81,59],[(n9,78),(gb,56)],[],[jL,dR,dT]⟩),
  (217,⟨(some 214),true,[217,81,59],[(n9,214),(gb,56)],[],[jL,dR,nP,dT,qi,mj,d6]⟩),
  (229,⟨(some 98),true,[229,101,81,59],[(n9,98),(gb,56)],[],[jL,dR,uY,nP,dT,mj]⟩),
  (241,⟨(some 49),true,[241,113,59],[(n9,49),(gb,56)],[],[dR,dT]⟩),
  (253,⟨(some 98),true,[253,101,81,59],[(n9,98),(gb,56)],[],[jL,dR,uY,nP,dT,mj]⟩),
  (265,⟨(some 49),true,[265,113,59],[(n9,49),(gb,56)],[],[dR,dT]⟩),
  (296,⟨(some 293),true,[296],[(n9,293)],[],[vu,wG,xd,wb,xF,CG,A0,i7]⟩),
  (736,⟨(some 316),false,[736],[(n9,316),(sD,323),(sC,330),(pT,337),(rO,344),(rD,352),(qI,359),(pL,366),(qr,373),(rg,381),(sr,388),(qF,395),(rj,403),(sE,410),(rX,417),(rQ,424),(pF,431),(sy,438),(qh,445),(rT,452),(qW,459),(qj,466),(si,473),(ro,480),(qs,487),(qq,495),(qA,502),(qu,509),(rW,517),(ql,524),(qH,531),(rq,538),(qc,545),(qe,552),(pU,559),(q8,566),(p0,573),(qN,580),(p9,587),(qB,594),(qp,601),(sG,608),(rV,615),(sJ,622),(qJ,629),(sB,636),(pO,643),(pK,650),(pH,658),(rE,665),(ry,673),(sF,680),(qS,687),(qn,695),(pJ,704),(qC,711),(rz,718),(p7,725),(q7,733)],[(t7,.dict)],[yd,Ak,yD,zw,yu,vP,yz,rd,jp,uF,zq,o7,wH,B3,AX,Ai,A3,Bw,AT,AF,zr,A6,y8,zU,wM,qi,BV,xr]⟩),
  (771,⟨(some 754),false,[771],[(n9,754),(qL,761),(dI,768)],[],[cQ]⟩)]
def GM:List (Str×AV) :=
 [(n7,.cls 59),
  (rH,.cls 81),
  (pR,.cls 101),
  (vL,.cls 113),
  (rN,.cls 133),
  (wU,.cls 145),
  (sx,.cls 165),
  (sf,.cls 185),
  (vt,.cls 197),
  (pS,.cls 217),
  (ym,.cls 229),
  (x6,.cls 241),
  (w1,.cls 253),
  (we,.cls 265),
  (l7,.cls 296),
  (az,.cls 736),
  (jx,.cls 771),
  (yZ,.cls 776),
  (n0,.fn 21),
  (oX,.fn 783),
  (pe,.fn 790),
  (oH,.fn 797),
  (oC,.fn 804),
  (oE,.fn 811),
  (pt,.fn 818),
  (pv,.fn 825),
  (sq,.fn 830),
  (N9,.bi .len),
  (Lp,.bi .isi),
  (YE,.bi .str),
   (KT,.bi .max),
   (Qt,.bi .range),
   (Xj,.bi .enum)]
def Jh:List π:=[(.str DL 1317),(.str tg 1318),(.str Iu 1319),(.str Dh 1320),(.str Jo 1321),(.str Ib 1322),(.str Do 1323),(.str Jj 1324),(.str H3 1325),(.str JQ 1326),(.str Gl 1327)]
noncomputable def fW:List ξ:=[[97,32,98,32,99,32,100,32,101],[111,110,101],[],[102,111,117,114,32,102,105,118,101,32,115,105,120],[32,100,101,101,112],[101,105,103,104,116,32,32,110,105,110,101,32,116,101,110],[32,32,100,101,101,112,32,32,101,114],[120],[35,32,121,58,32,122,32,119],[45,32,118,32,117,32,116],[107,44,32,108,32,91,109,93,32,110]]
def Fm:List (Addr×List AV):=[(776,fW.map fun l=>.str (.k l))]
def vw:Program:=view jf [32]
def loose:List Str:=[n0,n4,n7,rH,pR,vL,rN,wU,sx,sf,vt,pS,ym,x6,w1,we,Gv,l7,az,jx,yZ,oX,pe,oH,oC,oE,pt,pv]
abbrev zc (M:Nat) (Xt:χ→Bool) {α:Type} (Yf:χ→α) (Ya:World→α) (w:World):Prop:=(fun os=>(uZ (stepOk 11 (some (.ref 6))) (stepT (denote treeTable) jf w) M ⟨T₀ w.params,11,{},Array.mk [],boot_drawn,boot_toks,os⟩ (topStub jf)).map fun s=>
 ((staticsOk (importedModules jf.main.body) (absHeap (T₀ w.params) 11 {}) s.abs.heap&&namesBound jf s.abs.heap&&gensDone s.abs&&laidKept (absHeap (T₀ w.params) 11 {}) s.abs.heap),
  openSeen vw loose (importedModules jf.main.body) Xt true s.abs,Yf s.abs))=fun U=>some (true,openGood vw loose,Ya w)
abbrev uq (w:World):Prop:=zc 14000 (fun U=>true) (fun s=>yT.map s.heap.get?) (fun w=>(cG w.params).map fun p=>some p.2) w
def PU(w:World):uq (w.withFollow "special-get-raises" false):=by
 unfold uq zc;rw[PySem.W.Fast.te6613529449190102663,PySem.W.Fast.te10156331382660048174,PySem.W.Fast.te11892475500146522536,PySem.W.Fast.te14364793385576792824,PySem.W.Fast.te4187177175401517315,PySem.W.Fast.te5923862056798008813];kernel_rfl
def KA(w:World):uq (w.withFollow "special-get-raises" true):=by
 unfold uq zc;rw[PySem.W.Fast.te6613529449190102663,PySem.W.Fast.te10156331382660048174,PySem.W.Fast.te11892475500146522536,PySem.W.Fast.te14364793385576792824,PySem.W.Fast.te4187177175401517315,PySem.W.Fast.te5923862056798008813];kernel_rfl
def LI:∀ w:World,uq w:=byRow2 "special-get-raises" PU KA
def gr:OpenLaw:={PySem.Challenge.rw_te0005_02 with prog:=jf}
def Gc:PySem.Challenge.rw_te0005_02=gr:=congrArg (fun p=>({PySem.Challenge.rw_te0005_02 with prog:=p}:OpenLaw)) VP
def TT:gr.wellSaid=true:=by rw[PySem.W.Fast.te9446332074065402090];kernel_rfl
def Vh:(defOf vw gr.row.name).isSome=true:=by kernel_rfl
def iE:DefRec:=((defOf vw gr.row.name).get Vh).1
def XD:defOf vw gr.row.name=some (iE,[]):=by kernel_rfl
def Mb:∀ P,yT=(cG P).map (·.1):=fun U=>by kernel_rfl
def left:LeftO gr.row.prog vw loose (fun U=>true) (fun s=>yT.map s.heap.get?) (fun w=>(cG w.params).map fun p=>some p.2) 14200:=Qv NF My LI (by decide)
def SP:(chainsOk vw&&opensWell gr.row.prog&&(frees gr.row.toRowW&&gr.row.within.isEmpty))=true:=by kernel_rfl
def O7:gr.row.prog.theDef gr.row.name=some (iE.params,iE.body,iE.scope):=by kernel_rfl
def QK:kwWritten? iE.params.kwonlyargs iE.params.kw_defaults=some []:=by kernel_rfl
def Tc:gr.row.prog.bare:=⟨rfl,rfl,rfl,rfl,rfl,by decide +kernel⟩
def Up:gr.row.records=[]:=by kernel_rfl
def Mz:PySem.Challenge.rw_te0005_02.row.toRowW.promised:=by w_witness2
def TU:gr.row.toRowW.promised:=Gc▸Mz
def QF(s:χ):RecFacts gr.row.records s.heap:=by
 rw[Up];exact recFacts_of (R:=[]) (by rfl)
def head(walk:WalkO vw loose (fun U U=>True) (InK cG) gr.row.toRowW iE [] fun f vs=>PySem.call f vs):PySem.Challenge.rw_te0005_02.Holds:=by
 rw[Gc];refine holds_law TT fun k1=>?_;exact holds_open (q:=vw) (loose:=loose) (Xt:=fun U=>true) (XP:=fun U U=>True) (YP:=InK cG) (N:=14200) left (InK.of Mb) InK.keeps
  (fun U U=>trivial) (fun U U U U U=>trivial) XD O7 QK (fun s U=>QF s) (by rfl) k1 SP Tc TU walk
end
section
section
def oB{motive:Bool→Prop}(t:Bool)(false:motive false)(true:motive true):motive t:=Bool.rec false true t
def oO{α:Type}{motive:κ α→Prop}(t:κ α)(none:motive none)(some:∀ a,motive (some a)):motive t:=Option.rec none some t
def oL{α:Type}{motive:List α→Prop}(t:List α)(nil:motive [])(cons:∀ a r,motive (a::r)):motive t:=List.rec nil (fun a r U=>cons a r) t
def j1{α:Type}{a b:α}{P:Prop}(h:some a=some b)(k:b=a→P):P:=k (osI h).symm
def j2{α β:Type}{a b:α}{c d:β}{P:Prop}(h:some (a,c)=some (b,d))(k:b=a→d=c→P):P:=j1 h fun e=>k (congrArg (·.1) e) (congrArg (·.2) e)
def j3{α β γ:Type}{a b:α}{c d:β}{e f:γ}{P:Prop}(h:some (a,c,e)=some (b,d,f))(k:b=a→d=c→f=e→P):P:=j2 h fun x y=>k x (congrArg (·.1) y) (congrArg (·.2) y)
inductive CC where
 |list (a:Addr) (vs:List π) (n:Nat)
 |inst (a C d:Addr) (es:List DictEntry) (n:Nat)
structure Ev where
 iv:Nat→Int
 sv:Nat→ξ
 P:Params
 ov:Nat→π
 cv:Nat→CC
def Ev.Ok(ε:Ev):Prop:=∀ i,ε.iv (2*i+1)=(ε.sv i).length
noncomputable def b9(ε:Ev):List (Nat×Int)→Int
 |[]=>0
 |p::r=>p.2*ε.iv p.1+b9 ε r
def ax.val(ε:Ev)(x:ax):Int:=x.c+b9 ε x.l
variable {ε:Ev}
def X5(h:wf i=true):i=0:=by
 cases i with
 |ofNat n=>exact congrArg Int.ofNat (bg h)
 |negSucc n=>injection h
def KN(v:Nat)(a:Int):∀ l,b9 ε (ve v a l)=a*ε.iv v+b9 ε l:=by
 intro L0;induction L0 with
 |nil=>rfl
 |cons p r ih=>
  show b9 ε (Bool.rec (Bool.rec (p::ve v a r) ((v,a)::p::r) (v.blt p.1)) (Bool.rec ((p.1,a+p.2)::r) r (wf (a+p.2))) (Nat.beq p.1 v))=a*ε.iv v+(p.2*ε.iv p.1+b9 ε r);cases h:Nat.beq p.1 v with
  |true=>
   rw[bg h];cases q:wf (a+p.2) with
   |true=>rw[←ZJ,←Int.add_mul,X5 q,Int.zero_mul,Int.zero_add]
   |false=>
    show (a+p.2)*ε.iv v+b9 ε r=_;rw[Int.add_mul,ZJ]
  |false=>
   cases v.blt p.1 with
   |true=>rfl
   |false=>
    show p.2*ε.iv p.1+b9 ε (ve v a r)=_;rw[ih,Int.add_left_comm]
def Pd:∀ x y,b9 ε (xY x y)=b9 ε x+b9 ε y:=by
 intro L0;induction L0 with
 |nil=>
  intro y;show b9 ε y=0+_;lia
 |cons x0 r ih=>
  obtain⟨v,a⟩:=x0;intro y;show b9 ε (xY r (ve v a y))=a*ε.iv v+b9 ε r+b9 ε y;rw[ih,KN];lia
def cF(i:Int):(ax.k i).val ε=i:=by show i+0=i;lia
def Kk(l r:List (Nat×Int)):b9 ε (addL l r)=b9 ε l+b9 ε r:=by
 induction r using oL with
 |nil=>show b9 ε l=_+0;lia
 |cons b r=>induction l using oL with
  |nil=>show b9 ε (b::r)=0+_;lia
  |cons a l=>exact Pd (a::l) (b::r)
def kS(x y:ax):(x.add y).val ε=x.val ε+y.val ε:=by
 show x.c+y.c+b9 ε (addL x.l y.l)=x.c+b9 ε x.l+(y.c+b9 ε y.l);rw[Kk];lia
def QC:∀ l:List (Nat×Int),b9 ε (l.map fun p=>(p.1,-p.2))=- b9 ε l:=by
 intro L0;induction L0 with
 |nil=>
  exact rfl
 |cons x0 r ih=>
  obtain⟨v,a⟩:=x0;show -a*ε.iv v+b9 ε (r.map _)=-(a*ε.iv v+b9 ε r);rw[ih,Int.neg_mul];lia
def SU(x:ax):x.neg.val ε=- x.val ε:=by
 show -x.c+b9 ε (x.l.map _)=-(x.c+b9 ε x.l);rw[QC];lia
def nq(x y:ax):(x.sub y).val ε=x.val ε-y.val ε:=by
 unfold ax.sub;rw[kS,SU];lia
def gJ{x:ax}(h:x.conc=some i):x.val ε=i:=by
 unfold ax.conc at h;unfold ax.val;cases e:x.l with
 |nil=>rw[e] at h;rw[←osI h];exact aZ _
 |cons=>rw[e] at h;injection h
def aV(β:Bd)(ε:Ev):Prop:=∀ v p,qP β v=some p→p.1≤ε.iv v∧ε.iv v≤p.2
def re(a b:Int):eE a b=true↔a≤b:=by
 unfold eE;cases q:b-a with
 |ofNat n=>exact⟨fun U=>Int.le_of_sub_nonneg (by rw[q];exact cW n),fun U=>rfl⟩
 |negSucc n=>exact⟨fun h=>by injection h,fun h=>absurd (Int.sub_nonneg_of_le h) (by rw[q];exact Int.not_le.mpr (Int.negSucc_lt_zero n))⟩
variable {β:Bd}
def Qm(hb:aV β ε):∀ {l:List (Nat×Int)} {t:Int},sP β l=some t→t≤b9 ε l:=by
 intro L0;induction L0 with
 |nil=>
  intro t h;rw[←osI h];exact cI _
 |cons p r ih=>
  intro t h;replace h:Option.rec none (fun q=>Option.rec none (fun t=>some (Int.rec (fun U=>p.2*q.1) (fun U=>p.2*q.2) p.2+t)) (sP β r)) (qP β p.1)=some t:=h;cases e1:qP β p.1 with
  |none=>rw[e1] at h;injection h
  |some q=>
   cases e2:sP β r with
   |none=>rw[e1,e2] at h;injection h
   |some s=>
    rw[e1,e2] at h;have h1:=hb p.1 _ e1;have h2:=ih e2;rw[←osI h];show _≤p.2*ε.iv p.1+b9 ε r;cases p.2 with
    |ofNat n=>exact Int.add_le_add (Int.mul_le_mul_of_nonneg_left h1.1 (cW n)) h2
    |negSucc n=>exact Int.add_le_add (Int.mul_le_mul_of_nonpos_left (Int.le_of_lt (Int.negSucc_lt_zero n)) h1.2) h2
def uk(hb:aV β ε){x:ax}(h:x.lo β=some t):t≤x.val ε:=by
 unfold ax.lo at h;cases e:sP β x.l with
 |none=>rw[e] at h;injection h
 |some s=>rw[e] at h;rw[←osI h];exact Int.add_le_add_left (Qm hb e) _
def Rh(hb:aV β ε)(h:Bi β x y=some b):b=decide (x.val ε<y.val ε):=by
 unfold Bi at h;cases e:(y.sub x).lo β with
 |none=>rw[e] at h;injection h
 |some d=>
  rw[e] at h;have h1:=uk hb e;rw[nq] at h1;replace h:Bool.rec (Option.rec none (fun e=>Bool.rec none (some false) (eE 0 e)) ((x.sub y).lo β)) (some true) (eE 1 d)=some b:=h;cases q:eE 1 d with
  |true=>
   rw[q] at h;have:=(re 1 d).mp q;rw[←osI h];exact(decide_eq_true (by lia)).symm
  |false=>
   rw[q] at h;replace h:Option.rec none (fun e=>Bool.rec none (some false) (eE 0 e)) ((x.sub y).lo β)=some b:=h;cases e2:(x.sub y).lo β with
   |none=>rw[e2] at h;injection h
   |some f=>
    rw[e2] at h;have h2:=uk hb e2;rw[nq] at h2;replace h:Bool.rec none (some false) (eE 0 f)=some b:=h;cases q2:eE 0 f with
    |true=>
     rw[q2] at h;have:=(re 0 f).mp q2;rw[←osI h];exact(Zw (by lia)).symm
    |false=>rw[q2] at h;injection h
set_option tactic.hygienic true in
def Qz(a b:Int):AU a b=decide (a<b):=by
 unfold AU;cases a<;>cases b<;>dsimp only
 ·rename_i x y
  cases h:Nat.blt x y with
  |true=>have:x<y:=dX h;symm;rw[decide_eq_true_iff];exact Int.ofNat_lt.mpr this
  |false=>
   have:¬ x<y:=fun q=>by have:Nat.blt x y=true:=Zd q;rw[this] at h;injection h
   symm;rw[Zg];exact fun q=>this (Int.ofNat_lt.mp q)
 ·rename_i x y
  symm;rw[Zg];have:=Int.negSucc_lt_zero y;have:=cW x;show ¬ ((x:Int)<_);lia
 ·rename_i x y
  symm;rw[decide_eq_true_iff];have:=Int.negSucc_lt_zero x;have:=cW y;show _<(y:Int);lia
 ·rename_i x y
  have e1:Int.negSucc x=-((x:Int)+1):=Int.negSucc_eq x;have e2:Int.negSucc y=-((y:Int)+1):=Int.negSucc_eq y;cases h:Nat.blt y x with
  |true=>have:y<x:=dX h;symm;rw[decide_eq_true_iff];lia
  |false=>
   have:¬ y<x:=fun q=>by have:Nat.blt y x=true:=Zd q;rw[this] at h;injection h
   symm;rw[Zg];lia
set_option tactic.hygienic true in
def BS(a b:Int):lU a b=decide (a=b):=by
 unfold lU;cases a<;>cases b<;>dsimp only
 ·rename_i x y
  cases h:Nat.beq x y with
  |true=>have:=bg h;subst this;simp
  |false=>have:=Nat.ne_of_beq_eq_false h;symm;rw[Zg];intro e;exact this (Int.ofNat.inj e)
 ·symm;rw[Zg];intro e;injection e
 ·symm;rw[Zg];intro e;injection e
 ·rename_i x y
  cases h:Nat.beq x y with
  |true=>have:=bg h;subst this;simp
  |false=>have:=Nat.ne_of_beq_eq_false h;symm;rw[Zg];intro e;exact this (Int.negSucc.inj e)
def JR(h:rK x y=true):x.val ε=x.c∧y.val ε=y.c:=by
 unfold rK at h;unfold ax.val;cases hx:x.l with
 |nil=>
  cases hy:y.l with
  |nil=>exact⟨aZ _,aZ _⟩
  |cons=>rw[hx,hy] at h;injection h
 |cons=>rw[hx] at h;injection h
def tT(hb:aV β ε)(h:ld β x y=some b):b=decide (x.val ε<y.val ε):=by
 unfold ld at h;cases q:rK x y with
 |true=>
  rw[q] at h;obtain⟨e1,e2⟩:=JR (ε:=ε) q;rw[e1,e2,←Qz];exact(osI h).symm
 |false=>rw[q] at h;exact Rh hb h
def wc(hb:aV β ε)(h:jX β x y=some b):b=decide (x.val ε≤y.val ε):=by
 unfold jX at h;cases e:ld β y x with
 |none=>rw[e] at h;injection h
 |some c=>
  rw[e] at h;rw[←osI h,tT hb e]
  by_cases q:y.val ε<x.val ε
  ·rw[decide_eq_true q];exact(Zw (Int.not_le.mpr q)).symm
  ·rw[Zw q];exact(decide_eq_true (Int.not_lt.mp q)).symm
def MU(hb:aV β ε)(h:BB β x y=some b):b=decide (x.val ε=y.val ε):=by
 unfold BB at h;cases e1:(y.sub x).lo β with
 |none=>rw[e1] at h;injection h
 |some d=>
  cases e2:(x.sub y).lo β with
  |none=>rw[e1,e2] at h;injection h
  |some e=>
   rw[e1,e2] at h;replace h:Bool.rec (Bool.rec (Bool.rec none (Bool.rec none (some true) (eE 0 e)) (eE 0 d)) (some false) (eE 1 e)) (some false) (eE 1 d)=some b:=h;have h1:=uk hb e1;have h2:=uk hb e2;rw[nq] at h1 h2;clear e1 e2;have no:1≤d∨1≤e→some false=some b→b=decide (x.val ε=y.val ε):=fun q h=>by
    rw[←osI h];exact(Zw (by lia)).symm
   cases a1:eE 1 d with
   |true=>rw[a1] at h;exact no (.inl ((re 1 d).mp a1)) h
   |false=>
    cases a2:eE 1 e with
    |true=>rw[a1,a2] at h;exact no (.inr ((re 1 e).mp a2)) h
    |false=>
     cases a3:eE 0 d with
     |false=>rw[a1,a2,a3] at h;cases eE 0 e<;>injection h
     |true=>
      cases a4:eE 0 e with
      |false=>rw[a1,a2,a3,a4] at h;injection h
      |true=>
       rw[a1,a2,a3,a4] at h;rw[←osI h];have i3:=(re 0 d).mp a3;have i4:=(re 0 e).mp a4;exact(decide_eq_true (by lia)).symm
def AB(hb:aV β ε)(h:vd β x y=some b):b=decide (x.val ε=y.val ε):=by
 unfold vd at h;cases q:rK x y with
 |true=>
  rw[q] at h;obtain⟨e1,e2⟩:=JR (ε:=ε) q;rw[e1,e2,←BS];exact(osI h).symm
 |false=>rw[q] at h;exact MU hb h
def Pc.val(ε:Ev):Pc→ξ
 |.lit l=>l
 |.var i=>ε.sv i
 |.rep ch n=>List.replicate (n.val ε).toNat ch
noncomputable def SS.val(ε:Ev):SS→ξ
 |[]=>[]
 |p::r=>p.val ε++SS.val ε r
def cE(ε:Ev)(s:SS):Prop:=∀ p∈s,match p with|.rep _ n=>0≤n.val ε|_=>True
theorem ir:∀ x y:SS,(x.app y).val ε=x.val ε++y.val ε
 |[],y=>rfl
 |[.lit a],[]=>(apN (a++[])).symm
 |[.lit a],.lit b::r=>by
  show (a++b)++SS.val ε r=(a++[])++(b++SS.val ε r);simp
 |[.lit a],.var i::r=>congrArg (·++SS.val ε (.var i::r)) (apN a).symm
 |[.lit a],.rep c n::r=>congrArg (·++SS.val ε (.rep c n::r)) (apN a).symm
 |.var i::x,y=>by
  show Pc.val ε (.var i)++(SS.app x y).val ε=_;rw[ir x y];exact(aC ..).symm
 |.rep c n::x,y=>by
  show Pc.val ε (.rep c n)++(SS.app x y).val ε=_;rw[ir x y];exact(aC ..).symm
 |.lit a::p::x,y=>by
  show Pc.val ε (.lit a)++(SS.app (p::x) y).val ε=_;rw[ir (p::x) y];exact(aC ..).symm
theorem lF:∀ {x y:SS},cE ε x→cE ε y→cE ε (x.app y)
 |[],y,_,hy=>hy
 |[.lit a],[],hx,_=>hx
 |[.lit a],.lit b::r,_,hy=>fun p hp=>by
  rcases bk hp with rfl|hp
  ·trivial
  ·exact hy p (.tail _ hp)
 |[.lit a],.var i::r,hx,hy=>fun p hp=>by
  rcases bk hp with rfl|hp
  ·trivial
  ·exact hy p hp
 |[.lit a],.rep c n::r,hx,hy=>fun p hp=>by
  rcases bk hp with rfl|hp
  ·trivial
  ·exact hy p hp
 |.var i::x,y,hx,hy=>fun p hp=>by
  rcases bk hp with rfl|hp
  ·trivial
  ·exact lF (fun q hq=>hx q (.tail _ hq)) hy p hp
 |.rep c n::x,y,hx,hy=>fun p hp=>by
  rcases bk hp with rfl|hp
  ·exact hx _ (.head _)
  ·exact lF (fun q hq=>hx q (.tail _ hq)) hy p hp
 |.lit a::p'::x,y,hx,hy=>fun p hp=>by
  rcases bk hp with rfl|hp
  ·trivial
  ·exact lF (fun q hq=>hx q (.tail _ hq)) hy p hp
def aR{α:Type}:∀ l:List α,lenA l=l.length:=by
 intro L0;induction L0 with
 |nil=>
  exact rfl
 |cons a r ih=>
  show Nat.succ (lenA r)=_;rw[ih];rfl
theorem jT(he:ε.Ok):∀ {s:SS},cE ε s→s.len.val ε=(s.val ε).length
 |[],_=>cF 0
 |.lit l::r,h=>by
  show ((ax.k (.ofNat (lenA l))).add (SS.len r)).val ε=_;rw[kS,cF,jT he (s:=r) (fun p hp=>h p (.tail _ hp)),aR];exact congrArg Int.ofNat (List.length_append (as:=l)).symm
 |.var i::r,h=>by
  show ((ax.mk 0 [(2*i+1,1)]).add (SS.len r)).val ε=_;rw[kS,jT he (s:=r) (fun p hp=>h p (.tail _ hp))];show (0+(1*ε.iv (2*i+1)+0))+_=_;rw[he i];refine .trans ?_ (congrArg Int.ofNat (List.length_append (as:=ε.sv i)).symm);show (0+(1*((ε.sv i).length:Int)+0))+((SS.val ε r).length:Int)=((ε.sv i).length:Int)+((SS.val ε r).length:Int);lia
 |.rep c n::r,h=>by
  show (n.add (SS.len r)).val ε=_;rw[kS,jT he (s:=r) (fun p hp=>h p (.tail _ hp))];have:=h _ (.head _);have:0≤n.val ε:=this;refine .trans ?_ (congrArg Int.ofNat (List.length_append (as:=List.replicate _ c)).symm);rw[Za];show n.val ε+_=((n.val ε).toNat:Int)+((SS.val ε r).length:Int);rw[Int.toNat_of_nonneg this]
def jU{s:SS}{l:ξ}(h:s.conc=some l):s.val ε=l:=by
 induction s using oL with
 |nil=>(apply j1 h;clear h;rintro rfl);rfl
 |cons p r=>
  induction p using Pc.casesOn<;>induction r using oL<;>try (injection h;done)
  (apply j1 h;clear h;rintro rfl);exact apN _
def dY(l:ξ):(SS.k l).val ε=l:=by
 cases l with
 |nil=>rfl
 |cons a l=>exact apN _
def jm(l:ξ):cE ε (SS.k l):=by
 cases l with
 |nil=>intro p hp;cases hp
 |cons a l=>intro p hp;rw[bU hp];trivial
theorem fH:∀ {a b:ξ},bQ a b=true↔a=b
 |[],[]=>⟨fun U=>rfl,fun U=>rfl⟩
 |[],_::_=>⟨fun h=>(nomatch (show false=true from h)),nofun⟩
 |_::_,[]=>⟨fun h=>(nomatch (show false=true from h)),nofun⟩
 |a::x,b::y=>by
  have e:bQ (a::x) (b::y)=(a.beq b&&bQ x y):=by
   show Bool.rec (motive:=fun U=>Bool) false (bQ x y) (a.beq b)=_;cases a.beq b<;>rfl
  rw[e,Y9,fH,List.cons.injEq];exact⟨fun h=>⟨bg h.1,h.2⟩,fun h=>⟨by rw[h.1];exact Nat.beq_refl _,h.2⟩⟩
def iw:seq a b=true↔a=b:=by
 constructor
 ·intro h
  unfold seq at h;cases q:Nat.beq (pC a) (pC b) with
  |false=>rw[q] at h;injection h
  |true=>
   rw[q] at h;replace h:=fH.mp h;cases a;cases b;congr 1;exact Array.ext' h
 ·rintro rfl
  unfold seq;have:Nat.beq (pC a) (pC a)=true:=Nat.beq_refl _;rw[this];exact fH.mpr rfl
def Jc(h:seq a b=false):a≠b:=fun e=>by rw[iw.mpr e] at h;injection h
theorem dt{α:Type}:∀ (l:List α) (n:Nat),ae l n=l[n]?
 |[],_=>by show none=_;simp
 |a::r,0=>rfl
 |a::r,n+1=>by show ae r n=_;rw[dt r n];rfl
theorem n8{α:Type}:∀ (l:List α) (n:Nat) (x:α),cC l n x=l.set n x
 |[],_,_=>rfl
 |a::r,0,x=>rfl
 |a::r,n+1,x=>by show a::cC r n x=_;rw[n8 r n x];rfl
theorem mV{α:Type}:∀ (n:Nat) (l:List α),aQ n l=l.take n
 |0,_=>rfl
 |n+1,[]=>rfl
 |n+1,a::r=>by show a::aQ n r=_;rw[mV n r];rfl
theorem ux{α:Type}:∀ (n:Nat) (l:List α),aO n l=l.drop n
 |0,_=>rfl
 |n+1,[]=>rfl
 |n+1,a::r=>by show aO n r=_;rw[ux n r];rfl
def OB{α:Type}(o:κ α)(P:α→Prop):Prop:=∀ x,o=some x→P x
def OB.pure{α:Type}{x:α}{P:α→Prop}(h:P x):OB (some x) P:=fun U e=>osI e▸h
def OB.no{α:Type}{P:α→Prop}:OB none P:=nofun
def OB.ob{α β:Type}{m:κ α}{f:α→κ β}{P:β→Prop}(h:∀ x,m=some x→OB (f x) P):OB (Mine.ob m f) P:=by
 induction m using oO with
 |none=>exact OB.no
 |some x=>exact h x rfl
def OB.obp{α β γ:Type}{m:κ (α×β)}{f:α→β→κ γ}{P:γ→Prop}(h:∀ x y,m=some (x,y)→OB (f x y) P):OB (Mine.obp m f) P:=by
 induction m using oO with
 |none=>exact OB.no
 |some x=>exact h x.1 x.2 rfl
def OB.gd{α:Type}{b:Bool}{k:κ α}{P:α→Prop}(h:b=true→OB k P):OB (Mine.gd b k) P:=by
 induction b using oB with
 |false=>exact OB.no
 |true=>exact h rfl
def BJ{α β:Type}{m:κ α}{f:α→κ β}{y:β}(h:ob m f=some y):∃ x,m=some x∧f x=some y:=by
 induction m using oO with
 |none=>injection h
 |some x=>exact⟨x,rfl,h⟩
def XE{α β γ:Type}{m:κ (α×β)}{f:α→β→κ γ}{z:γ}(h:obp m f=some z):∃ x y,m=some (x,y)∧f x y=some z:=by
 induction m using oO with
 |none=>injection h
 |some x=>exact⟨x.1,x.2,rfl,h⟩
def PC{α β γ δ:Type}{m:κ (α×β×γ)}{f:α→β→γ→κ δ}{z:δ}(h:nA m f=some z):∃ x y w,m=some (x,y,w)∧f x y w=some z:=by
 induction m using oO with
 |none=>injection h
 |some x=>exact⟨x.1,x.2.1,x.2.2,rfl,h⟩
def Kf{α:Type}{b:Bool}{k:κ α}{y:α}(h:gd b k=some y):b=true∧k=some y:=by
 induction b using oB with
 |false=>injection h
 |true=>exact⟨rfl,h⟩
def JG{α1:Type}{α2:Type}{p1:α1→Prop}{p2:α1→Prop}{p3:α1→α2→Prop}{P:Prop}(h:∃ x1,p1 x1∧p2 x1∧(∃ x2,p3 x1 x2))(k:∀ x1,p1 x1→p2 x1→∀ x2,p3 x1 x2→P):P:=h.elim fun x1 h=>h.elim fun h1 h=>h.elim fun h2 h=>h.elim fun x2 h=>k x1 h1 h2 x2 h
def sg{α1:Type}{α2:Type}{α3:Type}{p1:α1→α2→α3→Prop}{p2:α1→α2→α3→Prop}{P:Prop}(h:∃ x1,∃ x2,∃ x3,p1 x1 x2 x3∧p2 x1 x2 x3)(k:∀ x1,∀ x2,∀ x3,p1 x1 x2 x3→p2 x1 x2 x3→P):P:=h.elim fun x1 h=>h.elim fun x2 h=>h.elim fun x3 h=>h.elim fun h1 h=>k x1 x2 x3 h1 h
def bq{p1:Prop}{p2:Prop}{P:Prop}(h:p1∧p2)(k:p1→p2→P):P:=h.elim fun h1 h2=>k h1 h2
def fj{p1:Prop}{p2:Prop}{p3:Prop}{P:Prop}(h:p1∧p2∧p3)(k:p1→p2→p3→P):P:=h.elim fun h1 h=>h.elim fun h2 h3=>k h1 h2 h3
def o6{p1:Prop}{p2:Prop}{p3:Prop}{p4:Prop}{p5:Prop}{P:Prop}(h:p1∧p2∧p3∧p4∧p5)(k:p1→p2→p3→p4→p5→P):P:=h.elim fun h1 h=>h.elim fun h2 h=>h.elim fun h3 h=>h.elim fun h4 h5=>k h1 h2 h3 h4 h5
def lX{p1:Prop}{p2:Prop}{p3:Prop}{p4:Prop}{p5:Prop}{p6:Prop}{P:Prop}(h:p1∧p2∧p3∧p4∧p5∧p6)(k:p1→p2→p3→p4→p5→p6→P):P:=h.elim fun h1 h=>h.elim fun h2 h=>h.elim fun h3 h=>h.elim fun h4 h=>h.elim fun h5 h6=>k h1 h2 h3 h4 h5 h6
def bC{α1:Type}{p1:α1→Prop}{P:Prop}(h:∃ x1,p1 x1)(k:∀ x1,p1 x1→P):P:=h.elim fun x1 h1=>k x1 h1
def ak{α1:Type}{p1:α1→Prop}{p2:α1→Prop}{P:Prop}(h:∃ x1,p1 x1∧p2 x1)(k:∀ x1,p1 x1→p2 x1→P):P:=h.elim fun x1 h=>h.elim fun h1 h2=>k x1 h1 h2
def ed{α1:Type}{p1:α1→Prop}{p2:α1→Prop}{p3:α1→Prop}{P:Prop}(h:∃ x1,p1 x1∧p2 x1∧p3 x1)(k:∀ x1,p1 x1→p2 x1→p3 x1→P):P:=h.elim fun x1 h=>h.elim fun h1 h=>h.elim fun h2 h3=>k x1 h1 h2 h3
def U4{α1:Type}{p1:α1→Prop}{p2:α1→Prop}{p3:α1→Prop}{p4:α1→Prop}{P:Prop}(h:∃ x1,p1 x1∧p2 x1∧p3 x1∧p4 x1)(k:∀ x1,p1 x1→p2 x1→p3 x1→p4 x1→P):P:=h.elim fun x1 h=>h.elim fun h1 h=>h.elim fun h2 h=>h.elim fun h3 h4=>k x1 h1 h2 h3 h4
def CF{α1:Type}{p1:α1→Prop}{p2:α1→Prop}{p3:α1→Prop}{p4:α1→Prop}{p5:α1→Prop}{P:Prop}(h:∃ x1,p1 x1∧p2 x1∧p3 x1∧p4 x1∧p5 x1)(k:∀ x1,p1 x1→p2 x1→p3 x1→p4 x1→p5 x1→P):P:=h.elim fun x1 h=>h.elim fun h1 h=>h.elim fun h2 h=>h.elim fun h3 h=>h.elim fun h4 h5=>k x1 h1 h2 h3 h4 h5
def qX{α1:Type}{α2:Type}{p1:α1→α2→Prop}{P:Prop}(h:∃ x1,∃ x2,p1 x1 x2)(k:∀ x1,∀ x2,p1 x1 x2→P):P:=h.elim fun x1 h=>h.elim fun x2 h1=>k x1 x2 h1
def Rd{α1:Type}{α2:Type}{p1:α1→α2→Prop}{p2:α1→α2→Prop}{P:Prop}(h:∃ x1,∃ x2,p1 x1 x2∧p2 x1 x2)(k:∀ x1,∀ x2,p1 x1 x2→p2 x1 x2→P):P:=h.elim fun x1 h=>h.elim fun x2 h=>h.elim fun h1 h2=>k x1 x2 h1 h2
def lD{α1:Type}{α2:Type}{p1:α1→α2→Prop}{p2:α1→α2→Prop}{p3:α1→α2→Prop}{P:Prop}(h:∃ x1,∃ x2,p1 x1 x2∧p2 x1 x2∧p3 x1 x2)(k:∀ x1,∀ x2,p1 x1 x2→p2 x1 x2→p3 x1 x2→P):P:=h.elim fun x1 h=>h.elim fun x2 h=>h.elim fun h1 h=>h.elim fun h2 h3=>k x1 x2 h1 h2 h3
def gg{α1:Type}{α2:Type}{α3:Type}{p1:α1→α2→α3→Prop}{p2:α1→α2→α3→Prop}{p3:α1→α2→α3→Prop}{P:Prop}(h:∃ x1,∃ x2,∃ x3,p1 x1 x2 x3∧p2 x1 x2 x3∧p3 x1 x2 x3)(k:∀ x1,∀ x2,∀ x3,p1 x1 x2 x3→p2 x1 x2 x3→p3 x1 x2 x3→P):P:=h.elim fun x1 h=>h.elim fun x2 h=>h.elim fun x3 h=>h.elim fun h1 h=>h.elim fun h2 h3=>k x1 x2 x3 h1 h2 h3
def d5{α1:Type}{α2:Type}{α3:Type}{p1:α1→α2→α3→Prop}{p2:α1→α2→α3→Prop}{p3:α1→α2→α3→Prop}{p4:α1→α2→α3→Prop}{P:Prop}(h:∃ x1,∃ x2,∃ x3,p1 x1 x2 x3∧p2 x1 x2 x3∧p3 x1 x2 x3∧p4 x1 x2 x3)(k:∀ x1,∀ x2,∀ x3,p1 x1 x2 x3→p2 x1 x2 x3→p3 x1 x2 x3→p4 x1 x2 x3→P):P:=h.elim fun x1 h=>h.elim fun x2 h=>h.elim fun x3 h=>h.elim fun h1 h=>h.elim fun h2 h=>h.elim fun h3 h4=>k x1 x2 x3 h1 h2 h3 h4
def pW{α1:Type}{α2:Type}{α3:Type}{α4:Type}{p1:α1→α2→α3→α4→Prop}{p2:α1→α2→α3→α4→Prop}{p3:α1→α2→α3→α4→Prop}{P:Prop}(h:∃ x1,∃ x2,∃ x3,∃ x4,p1 x1 x2 x3 x4∧p2 x1 x2 x3 x4∧p3 x1 x2 x3 x4)(k:∀ x1,∀ x2,∀ x3,∀ x4,p1 x1 x2 x3 x4→p2 x1 x2 x3 x4→p3 x1 x2 x3 x4→P):P:=h.elim fun x1 h=>h.elim fun x2 h=>h.elim fun x3 h=>h.elim fun x4 h=>h.elim fun h1 h=>h.elim fun h2 h3=>k x1 x2 x3 x4 h1 h2 h3
def ni{α1:Type}{α2:Type}{α3:Type}{α4:Type}{p1:α1→α2→α3→α4→Prop}{p2:α1→α2→α3→α4→Prop}{p3:α1→α2→α3→α4→Prop}{p4:α1→α2→α3→α4→Prop}{P:Prop}(h:∃ x1,∃ x2,∃ x3,∃ x4,p1 x1 x2 x3 x4∧p2 x1 x2 x3 x4∧p3 x1 x2 x3 x4∧p4 x1 x2 x3 x4)(k:∀ x1,∀ x2,∀ x3,∀ x4,p1 x1 x2 x3 x4→p2 x1 x2 x3 x4→p3 x1 x2 x3 x4→p4 x1 x2 x3 x4→P):P:=h.elim fun x1 h=>h.elim fun x2 h=>h.elim fun x3 h=>h.elim fun x4 h=>h.elim fun h1 h=>h.elim fun h2 h=>h.elim fun h3 h4=>k x1 x2 x3 x4 h1 h2 h3 h4
def qR{α1:Type}{α2:Type}{α3:Type}{α4:Type}{p1:α1→α2→α3→α4→Prop}{p2:α1→α2→α3→α4→Prop}{p3:α1→α2→α3→α4→Prop}{p4:α1→α2→α3→α4→Prop}{p5:α1→α2→α3→α4→Prop}{p6:α1→α2→α3→α4→Prop}{P:Prop}(h:∃ x1,∃ x2,∃ x3,∃ x4,p1 x1 x2 x3 x4∧p2 x1 x2 x3 x4∧p3 x1 x2 x3 x4∧p4 x1 x2 x3 x4∧p5 x1 x2 x3 x4∧p6 x1 x2 x3 x4)(k:∀ x1,∀ x2,∀ x3,∀ x4,p1 x1 x2 x3 x4→p2 x1 x2 x3 x4→p3 x1 x2 x3 x4→p4 x1 x2 x3 x4→p5 x1 x2 x3 x4→p6 x1 x2 x3 x4→P):P:=h.elim fun x1 h=>h.elim fun x2 h=>h.elim fun x3 h=>h.elim fun x4 h=>h.elim fun h1 h=>h.elim fun h2 h=>h.elim fun h3 h=>h.elim fun h4 h=>h.elim fun h5 h6=>k x1 x2 x3 x4 h1 h2 h3 h4 h5 h6
def VJ{α1:Type}{α2:Type}{α3:Type}{α4:Type}{α5:Type}{p1:α1→α2→α3→α4→α5→Prop}{p2:α1→α2→α3→α4→α5→Prop}{p3:α1→α2→α3→α4→α5→Prop}{p4:α1→α2→α3→α4→α5→Prop}{p5:α1→α2→α3→α4→α5→Prop}{P:Prop}(h:∃ x1,∃ x2,∃ x3,∃ x4,∃ x5,p1 x1 x2 x3 x4 x5∧p2 x1 x2 x3 x4 x5∧p3 x1 x2 x3 x4 x5∧p4 x1 x2 x3 x4 x5∧p5 x1 x2 x3 x4 x5)(k:∀ x1,∀ x2,∀ x3,∀ x4,∀ x5,p1 x1 x2 x3 x4 x5→p2 x1 x2 x3 x4 x5→p3 x1 x2 x3 x4 x5→p4 x1 x2 x3 x4 x5→p5 x1 x2 x3 x4 x5→P):P:=h.elim fun x1 h=>h.elim fun x2 h=>h.elim fun x3 h=>h.elim fun x4 h=>h.elim fun x5 h=>h.elim fun h1 h=>h.elim fun h2 h=>h.elim fun h3 h=>h.elim fun h4 h5=>k x1 x2 x3 x4 x5 h1 h2 h3 h4 h5
def jc{α1:Type}{α2:Type}{α3:Type}{α4:Type}{α5:Type}{p1:α1→α2→α3→α4→α5→Prop}{p2:α1→α2→α3→α4→α5→Prop}{p3:α1→α2→α3→α4→α5→Prop}{p4:α1→α2→α3→α4→α5→Prop}{p5:α1→α2→α3→α4→α5→Prop}{p6:α1→α2→α3→α4→α5→Prop}{P:Prop}(h:∃ x1,∃ x2,∃ x3,∃ x4,∃ x5,p1 x1 x2 x3 x4 x5∧p2 x1 x2 x3 x4 x5∧p3 x1 x2 x3 x4 x5∧p4 x1 x2 x3 x4 x5∧p5 x1 x2 x3 x4 x5∧p6 x1 x2 x3 x4 x5)(k:∀ x1,∀ x2,∀ x3,∀ x4,∀ x5,p1 x1 x2 x3 x4 x5→p2 x1 x2 x3 x4 x5→p3 x1 x2 x3 x4 x5→p4 x1 x2 x3 x4 x5→p5 x1 x2 x3 x4 x5→p6 x1 x2 x3 x4 x5→P):P:=h.elim fun x1 h=>h.elim fun x2 h=>h.elim fun x3 h=>h.elim fun x4 h=>h.elim fun x5 h=>h.elim fun h1 h=>h.elim fun h2 h=>h.elim fun h3 h=>h.elim fun h4 h=>h.elim fun h5 h6=>k x1 x2 x3 x4 x5 h1 h2 h3 h4 h5 h6
def nJ{p1:Prop}{p2:Prop}{p3:Prop}{p4:Prop}{P:Prop}(h:p1∧p2∧p3∧p4)(k:p1→p2→p3→p4→P):P:=h.elim fun h1 h=>h.elim fun h2 h=>h.elim fun h3 h4=>k h1 h2 h3 h4
def yg{α1:Type}{α2:Type}{p1:α1→α2→Prop}{p2:α1→α2→Prop}{p3:α1→α2→Prop}{p4:α1→α2→Prop}{P:Prop}(h:∃ x1,∃ x2,p1 x1 x2∧p2 x1 x2∧p3 x1 x2∧p4 x1 x2)(k:∀ x1,∀ x2,p1 x1 x2→p2 x1 x2→p3 x1 x2→p4 x1 x2→P):P:=h.elim fun x1 h=>h.elim fun x2 h=>h.elim fun h1 h=>h.elim fun h2 h=>h.elim fun h3 h4=>k x1 x2 h1 h2 h3 h4
def vk{α1:Type}{α2:Type}{p1:α1→α2→Prop}{p2:α1→α2→Prop}{p3:α1→α2→Prop}{p4:α1→α2→Prop}{p5:α1→α2→Prop}{P:Prop}(h:∃ x1,∃ x2,p1 x1 x2∧p2 x1 x2∧p3 x1 x2∧p4 x1 x2∧p5 x1 x2)(k:∀ x1,∀ x2,p1 x1 x2→p2 x1 x2→p3 x1 x2→p4 x1 x2→p5 x1 x2→P):P:=h.elim fun x1 h=>h.elim fun x2 h=>h.elim fun h1 h=>h.elim fun h2 h=>h.elim fun h3 h=>h.elim fun h4 h5=>k x1 x2 h1 h2 h3 h4 h5
def aE{α β:Type}{m:κ α}{f:α→κ β}{r:β}{P:Prop}(h:ob m f=some r)(k:∀ a,m=some a→f a=some r→P):P:=(BJ h).elim fun a h=>h.elim fun h1 h2=>k a h1 h2
def b8{α β γ:Type}{m:κ (α×β)}{f:α→β→κ γ}{r:γ}{P:Prop}(h:obp m f=some r)(k:∀ a b,m=some (a,b)→f a b=some r→P):P:=(XE h).elim fun a h=>h.elim fun b h=>h.elim fun h1 h2=>k a b h1 h2
def xc{α β γ δ:Type}{m:κ (α×β×γ)}{f:α→β→γ→κ δ}{r:δ}{P:Prop}(h:nA m f=some r)(k:∀ a b c,m=some (a,b,c)→f a b c=some r→P):P:=(PC h).elim fun a h=>h.elim fun b h=>h.elim fun c h=>h.elim fun h1 h2=>k a b c h1 h2
def bV{α:Type}{b:Bool}{k:κ α}{r:α}{P:Prop}(h:gd b k=some r)(q:b=true→k=some r→P):P:=(Kf h).elim fun h1 h2=>q h1 h2
end
structure aw where
 prog:Program
 w:World
 K:Frag
 p:Program
 loose:List Str
 mg:ω
 mb:ω
 ε:Ev
section
variable (Γ:aw)(imm:Δ)(ρ:List Addr)
def Kn(a:Addr)(o:Obj):Prop:=(a,o)∈imm∨Γ.K.lookup a=some o
noncomputable def aL(l:ξ):Str:=⟨l.toArray⟩
structure ji (C:Addr):Prop where
 ga:plainGet Γ.K C ""=true
 hd:hasDictIn Γ.K C=true
 sa:findIn Γ.K (.ref C) "__setattr__"=some (some (.builtin "object.__setattr__"))
 po:plainOver Γ.K C=true
 tb:findIn Γ.K (.ref C) "__bool__"=some none
 tl:findIn Γ.K (.ref C) "__len__"=some none
noncomputable def zl(n:Nat)(t u v:Tok):Obj:={cls:=.type "range",data:=.fields #[.int 0 t,.int (n:Int) u,.int 1 v]}
def xf(es:List DictEntry):Prop:=∃ kvs:List (Str×π),KeysOf (strKind Γ.prog Γ.w) es.toArray∧Pairs (strKind Γ.prog Γ.w) es kvs∧(kvs.map (·.1)).Nodup∧kvs.length≤1000
mutual
inductive VR:π→AV→Prop
 |none:VR .none .none
 |bool (b:Bool):VR (.bool b) (.bool b)
 |int {l:ax} {i:Int} {t:Tok}:i=l.val Γ.ε→VR (.int i t) (.int l)
 |str {s:SS} {x:Str} {t:Tok}:x=aL (s.val Γ.ε)→cE Γ.ε s→(s.val Γ.ε).length≤16777216→VR (.str x t) (.str s)
 |cell {a:Addr} {k:Nat}:ae ρ k=some a→VR (.ref a) (.cell k)
 |tup {a:Addr} {vs:List π} {xs:List AV} {n:Nat}:Kn Γ imm a {cls:=.type "tuple",data:=.seq vs.toArray n}→ar vs xs→VR (.ref a) (.tup xs)
 |obj {a C d:Addr} {es:List DictEntry} {n:Nat} {fs:List (Str×AV)}:(a,instObj C d)∈imm→(d,dictOf es n)∈imm→aX es fs→(∀ p∈fs,findIn Γ.K (.ref C) p.1=some none)→ji Γ C→VR (.ref a) (.obj C fs)
 |dict {a:Addr} {es:List DictEntry} {n:Nat}:Kn Γ imm a (dictOf es n)→(a == sysModules)=false→xf Γ es→VR (.ref a) .dict
 |cls {C:Addr}:VR (.ref C) (.cls C)
 |fn {f:Addr}:VR (.ref f) (.fn f)
 |bi {k:BF}:VR k.val (.bi k)
 |meth {a f:Addr} {v:π} {x:AV}:(a,methodObj (.ref f) v)∈imm→VR v x→VR (.ref a) (.meth f x)
 |any {v:π} {i:Nat}:Γ.ε.ov i=v→VR v (.any i)
 |rng {a:Addr} {n:Nat} {t u v:Tok}:(a,zl n t u v)∈imm→n≤1000→VR (.ref a) (.rng n)
inductive ar:List π→List AV→Prop
 |nil:ar [] []
 |cons {v:π} {x:AV} {vs:List π} {xs:List AV}:VR v x→ar vs xs→ar (v::vs) (x::xs)
inductive aX:List DictEntry→List (Str×AV)→Prop
 |nil:aX [] []
 |cons {h:Int} {t:Tok} {n:Str} {v:π} {x:AV} {es:List DictEntry} {fs:List (Str×AV)}:VR v x→aX es fs→aX (⟨h,.str n t,v⟩::es) ((n,x)::fs)
end
end
section
variable {Γ:aw}{imm imm':Δ}{ρ ρ':List Addr}
set_option smartUnfolding false in
def v9(o:mR n (x::r)=true):iD n x=true∧mR n r=true:=by
 replace o:Bool.rec (motive:=fun U=>Bool) false (mR n r) (iD n x)=true:=o;cases q:iD n x with
 |true=>rw[q] at o;exact⟨rfl,o⟩
 |false=>rw[q] at o;injection o
set_option smartUnfolding false in
def vg(o:lL n ((x,y)::r)=true):iD n y=true∧lL n r=true:=by
 replace o:Bool.rec (motive:=fun U=>Bool) false (lL n r) (iD n y)=true:=o;cases q:iD n y with
 |true=>rw[q] at o;exact⟨rfl,o⟩
 |false=>rw[q] at o;injection o
def VI(Γ:aw)(imm:Δ)(ρ:List Addr)(v:π)(x:AV):Prop:=match x with
 |.none=>v=.none
 |.bool b=>v=.bool b
 |.int l=>∃ t,v=.int (l.val Γ.ε) t
 |.str s=>∃ t,v=.str (aL (s.val Γ.ε)) t∧cE Γ.ε s∧(s.val Γ.ε).length≤16777216
 |.cell k=>∃ a,v=.ref a∧ae ρ k=some a
 |.tup xs=>∃ a vs n,v=.ref a∧Kn Γ imm a {cls:=.type "tuple",data:=.seq vs.toArray n}∧ar Γ imm ρ vs xs
 |.obj C fs=>∃ a d es n,v=.ref a∧(a,instObj C d)∈imm∧(d,dictOf es n)∈imm∧aX Γ imm ρ es fs∧(∀ p∈fs,findIn Γ.K (.ref C) p.1=some Option.none)∧ji Γ C
 |.dict=>∃ a es n,v=.ref a∧Kn Γ imm a (dictOf es n)∧(a == sysModules)=false∧xf Γ es
 |.cls C=>v=.ref C
 |.fn f=>v=.ref f
 |.bi k=>v=k.val
 |.meth f x=>∃ a w,v=.ref a∧(a,methodObj (.ref f) w)∈imm∧VR Γ imm ρ w x
 |.any i=>Γ.ε.ov i=v
 |.rng n=>∃ a t u v',v=.ref a∧(a,zl n t u v')∈imm∧n≤1000
def VR.inv(h:VR Γ imm ρ v x):VI Γ imm ρ v x :=
 VR.casesOn (motive_1:=fun v x U=>VI Γ imm ρ v x) h rfl (fun U=>rfl) (fun e=>⟨_,congrArg (Value.int · _) e⟩) (fun e o k=>⟨_,congrArg (Value.str · _) e,o,k⟩) (fun e=>⟨_,rfl,e⟩) (fun a b=>⟨_,_,_,rfl,a,b⟩)
  (fun a b c d e=>⟨_,_,_,_,rfl,a,b,c,d,e⟩) (fun a b c=>⟨_,_,_,rfl,a,b,c⟩) rfl rfl rfl (fun a b=>⟨_,_,rfl,a,b⟩) id (fun a b=>⟨_,_,_,_,rfl,a,b⟩)
def IL(Γ:aw)(imm:Δ)(ρ:List Addr)(v:List π)(x:List AV):Prop:=match x with
 |[]=>v=[]
 |x::r=>∃ a t,v=a::t∧VR Γ imm ρ a x∧ar Γ imm ρ t r
def ar.inv(h:ar Γ imm ρ v x):IL Γ imm ρ v x:=ar.casesOn (motive_2:=fun v x U=>IL Γ imm ρ v x) h rfl fun a b=>⟨_,_,rfl,a,b⟩
def ar.nil_inv(h:ar Γ imm ρ v []):v=[]:=h.inv
def ar.cons_inv(h:ar Γ imm ρ v (x::r)):∃ a t,v=a::t∧VR Γ imm ρ a x∧ar Γ imm ρ t r:=h.inv
def HL(Γ:aw)(imm:Δ)(ρ:List Addr)(v:List DictEntry)(x:List (Str×AV)):Prop:=match x with
 |[]=>v=[]
 |x::r=>∃ k t a s,v=⟨k,.str x.1 t,a⟩::s∧VR Γ imm ρ a x.2∧aX Γ imm ρ s r
def aX.inv(h:aX Γ imm ρ v x):HL Γ imm ρ v x:=aX.casesOn (motive_3:=fun v x U=>HL Γ imm ρ v x) h rfl fun a b=>⟨_,_,_,_,rfl,a,b⟩
def ar.ind{motive:∀ (vs:List π) (xs:List AV),ar Γ imm ρ vs xs→Prop}(nil:motive [] [] .nil)(cons:∀ {v:π} {x:AV} {vs:List π} {xs:List AV} (a:VR Γ imm ρ v x) (g:ar Γ imm ρ vs xs),motive vs xs g→motive (v::vs) (x::xs) (.cons a g))(h:ar Γ imm ρ vs xs):motive vs xs h:=by
 induction xs generalizing vs with
 |nil=>obtain rfl:=h.inv;exact nil
 |cons y r ih=>
  apply lD h.inv;intro a t e0 h1 h2;subst e0;exact cons h1 h2 (ih h2)
def aX.ind{motive:∀ (es:List DictEntry) (fs:List (Str×AV)),aX Γ imm ρ es fs→Prop}(nil:motive [] [] .nil)(cons:∀ {h:Int} {t:Tok} {n:Str} {v:π} {x:AV} {es:List DictEntry} {fs:List (Str×AV)} (a:VR Γ imm ρ v x) (g:aX Γ imm ρ es fs),motive es fs g→motive (⟨h,.str n t,v⟩::es) ((n,x)::fs) (.cons a g))(h:aX Γ imm ρ es fs):motive es fs h:=by
 induction fs generalizing es with
 |nil=>obtain rfl:=h.inv;exact nil
 |cons y r ih=>
  apply pW h.inv;intro _ _ a t e0 h1 h2;subst e0;exact cons h1 h2 (ih h2)
noncomputable def cT(o:Obj):Bool:=match o.cls with
 |.type n=>n == "enumerate" ||(n == "list_iterator" ||n == "str_iterator" ||n == "str_ascii_iterator" ||n == "range_iterator")
 |_=>false
def Kn.all(hi:∀ p∈imm,cT p.2=false→p∈imm')(ho:cT o=false)(h:Kn Γ imm a o):Kn Γ imm' a o:=h.imp (fun q=>hi _ q ho) id
def uA(n:String)(d:Data)(h:(n == "enumerate" ||(n == "list_iterator" ||n == "str_iterator" ||n == "str_ascii_iterator" ||n == "range_iterator"))=false):cT {cls:=.type n,data:=d}=false:=h
section
variable {n:Nat}{q:Bool}(hi:∀ p∈imm,cT p.2=false→p∈imm')(hr:∀ k a,(q=true→k<n)→ae ρ k=some a→ae ρ' k=some a)
include hi hr
theorem VR.all(o:q=true→iD n x=true)(h:VR Γ imm ρ v x):VR Γ imm' ρ' v x :=
 VR.rec (motive_1:=fun v x U=>(q=true→iD n x=true)→VR Γ imm' ρ' v x) (motive_2:=fun v x U=>(q=true→mR n x=true)→ar Γ imm' ρ' v x) (motive_3:=fun v x U=>(q=true→lL n x=true)→aX Γ imm' ρ' v x)
  (fun U=>.none) (fun b U=>.bool b) (fun h U=>.int h) (fun h g k U=>.str h g k) (fun h o=>.cell (hr _ _ (fun e=>dX (o e)) h)) (fun h U g o=>.tup (h.all hi (uA _ _ (by decide))) (g o))
  (fun a b U d e c o=>.obj (hi _ a rfl) (hi _ b (uA _ _ (by decide))) (c o) d e) (fun h k d U=>.dict (h.all hi (uA _ _ (by decide))) k d)
  (fun U=>.cls) (fun U=>.fn) (fun U=>.bi) (fun h U g o=>.meth (hi _ h (uA _ _ (by decide))) (g o)) (fun h U=>.any h) (fun h k U=>.rng (hi _ h (uA _ _ (by decide))) k)
  (fun U=>.nil) (fun U U a b o=>.cons (a fun e=>(v9 (o e)).1) (b fun e=>(v9 (o e)).2))
  (fun U=>.nil) (fun U U a b o=>.cons (a fun e=>(vg (o e)).1) (b fun e=>(vg (o e)).2)) h o
theorem ar.all(o:q=true→mR n x=true)(h:ar Γ imm ρ v x):ar Γ imm' ρ' v x:=by
 revert o;induction h using ar.ind with
 |nil=>exact fun U=>.nil
 |cons a _ ih=>exact fun o=>.cons (a.all hi hr fun e=>(v9 (o e)).1) (ih fun e=>(v9 (o e)).2)
theorem aX.all(o:q=true→lL n x=true)(h:aX Γ imm ρ v x):aX Γ imm' ρ' v x:=by
 revert o;induction h using aX.ind with
 |nil=>exact fun U=>.nil
 |cons a _ ih=>exact fun o=>.cons (a.all hi hr fun e=>(vg (o e)).1) (ih fun e=>(vg (o e)).2)
end
section
variable (hi:∀ p∈imm,p∈imm')(hr:∀ k a,ae ρ k=some a→ae ρ' k=some a)
include hi hr
theorem VR.mono:VR Γ imm ρ v x→VR Γ imm' ρ' v x:=VR.all (n:=0) (q:=false) (fun p h U=>hi p h) (fun k a U=>hr k a) nofun
theorem ar.mono:ar Γ imm ρ v x→ar Γ imm' ρ' v x:=ar.all (n:=0) (q:=false) (fun p h U=>hi p h) (fun k a U=>hr k a) nofun
theorem aX.mono:aX Γ imm ρ v x→aX Γ imm' ρ' v x:=aX.all (n:=0) (q:=false) (fun p h U=>hi p h) (fun k a U=>hr k a) nofun
end
section
variable {n:Nat}(hr:∀ k a,k<n→ae ρ k=some a→ae ρ' k=some a)
include hr
theorem VR.few(o:iD n x=true):VR Γ imm ρ v x→VR Γ imm ρ' v x:=VR.all (q:=true) (fun p h U=>h) (fun k a h=>hr k a (h rfl)) fun U=>o
theorem ar.few(o:mR n x=true):ar Γ imm ρ v x→ar Γ imm ρ' v x:=ar.all (q:=true) (fun p h U=>h) (fun k a h=>hr k a (h rfl)) fun U=>o
theorem aX.few(o:lL n x=true):aX Γ imm ρ v x→aX Γ imm ρ' v x:=aX.all (q:=true) (fun p h U=>h) (fun k a h=>hr k a (h rfl)) fun U=>o
end
noncomputable def CC.addr:CC→Addr
 |.list a _ _=>a
 |.inst a _ _ _ _=>a
noncomputable def CC.objs:CC→Δ
 |.list a vs n=>[(a,listOf vs.toArray n)]
 |.inst a C d es n=>[(a,instObj C d),(d,dictOf es n)]
def aG(cs:List CC):Δ:=cs.flatMap CC.objs
def aj(cs:List CC):List Addr:=cs.map CC.addr
def CC.same{c:CC}(h:c.addr=a):c.addr=a:=h
inductive kd (ε:Ev):List π→ξ→Prop
 |nil:kd ε [] []
 |snoc {vs:List π} {l r:ξ} {t:Tok}:kd ε vs l→kd ε (vs++[.str (aL r) t]) (l++r)
inductive CR (Γ:aw) (imm:Δ) (ρ:List Addr):CC→ay→Prop
 |list {a:Addr} {vs:List π} {n:Nat} {xs:List AV}:ar Γ imm ρ vs xs→xs.length≤200000→CR Γ imm ρ (.list a vs n) (.list xs)
 |rows {a:Addr} {vs:List π} {n:Nat} {q:ax} {t:SS}:kd Γ.ε vs (t.val Γ.ε)→cE Γ.ε t→(vs.length:Int)≤q.val Γ.ε→CR Γ imm ρ (.list a vs n) (.rows t q)
 |inst {a C d:Addr} {es:List DictEntry} {n:Nat} {fs:List (Str×AV)}:aX Γ imm ρ es fs→(∀ p∈fs,findIn Γ.K (.ref C) p.1=some none)→ji Γ C→CR Γ imm ρ (.inst a C d es n) (.inst C fs)
 |any {c:CC} {i:Nat}:Γ.ε.cv i=c→CR Γ imm ρ c (.any i)
inductive bh (Γ:aw) (imm:Δ) (ρ:List Addr):List CC→List ay→Prop
 |nil:bh Γ imm ρ [] []
 |cons {c:CC} {x:ay} {cs:List CC} {xs:List ay}:CR Γ imm ρ c x→bh Γ imm ρ cs xs→bh Γ imm ρ (c::cs) (x::xs)
def CR.mono(hi:∀ p∈imm,p∈imm')(hr:∀ k a,ae ρ k=some a→ae ρ' k=some a)(h:CR Γ imm ρ c x):CR Γ imm' ρ' c x :=
 CR.casesOn (motive:=fun c x U=>CR Γ imm' ρ' c x) h (fun h k=>.list (h.mono hi hr) k) (fun h g k=>.rows h g k) (fun h g k=>.inst (h.mono hi hr) g k) .any
def VR.cell_inv(h:VR Γ imm ρ v (.cell k)):∃ a,v=.ref a∧ae ρ k=some a:=h.inv
def VR.obj_inv(h:VR Γ imm ρ v (.obj C fs)):∃ a d es n,v=.ref a∧(a,instObj C d)∈imm∧(d,dictOf es n)∈imm∧aX Γ imm ρ es fs∧(∀ p∈fs,findIn Γ.K (.ref C) p.1=some Option.none)∧ji Γ C:=h.inv
def VR.tup_inv(h:VR Γ imm ρ v (.tup xs)):∃ a vs n,v=.ref a∧Kn Γ imm a {cls:=.type "tuple",data:=.seq vs.toArray n}∧ar Γ imm ρ vs xs:=h.inv
def Ep(Γ:aw)(imm:Δ)(ρ:List Addr)(c:CC)(x:ay):Prop:=match x with
 |.list xs=>∃ a vs n,c=.list a vs n∧ar Γ imm ρ vs xs∧xs.length≤200000
 |.rows t q=>∃ a vs n,c=.list a vs n∧kd Γ.ε vs (t.val Γ.ε)∧cE Γ.ε t∧(vs.length:Int)≤q.val Γ.ε
 |.inst C fs=>∃ a d es n,c=.inst a C d es n∧aX Γ imm ρ es fs∧(∀ p∈fs,findIn Γ.K (.ref C) p.1=some none)∧ji Γ C
 |.any i=>Γ.ε.cv i=c
def CR.inv(h:CR Γ imm ρ c x):Ep Γ imm ρ c x:=CR.casesOn (motive:=fun c x U=>Ep Γ imm ρ c x) h (fun a b=>⟨_,_,_,rfl,a,b⟩) (fun a b d=>⟨_,_,_,rfl,a,b,d⟩) (fun a b c=>⟨_,_,_,_,rfl,a,b,c⟩) id
def CR.list_inv(h:CR Γ imm ρ c (.list xs)):∃ a vs n,c=.list a vs n∧ar Γ imm ρ vs xs∧xs.length≤200000:=h.inv
def CR.rows_inv(h:CR Γ imm ρ c (.rows t q)):∃ a vs n,c=.list a vs n∧kd Γ.ε vs (t.val Γ.ε)∧cE Γ.ε t∧(vs.length:Int)≤q.val Γ.ε:=h.inv
def CR.inst_inv(h:CR Γ imm ρ c (.inst C fs)):∃ a d es n,c=.inst a C d es n∧aX Γ imm ρ es fs∧(∀ p∈fs,findIn Γ.K (.ref C) p.1=some none)∧ji Γ C:=h.inv
def bh.mono(hi:∀ p∈imm,p∈imm')(hr:∀ k a,ae ρ k=some a→ae ρ' k=some a)(h:bh Γ imm ρ c x):bh Γ imm' ρ' c x:=by
 induction h with
 |nil=>exact .nil
 |cons h _ ih=>exact .cons (h.mono hi hr) ih
def bh.len(h:bh Γ imm ρ c x):c.length=x.length:=by
 induction h with
 |nil=>rfl
 |cons _ _ ih=>exact congrArg (·+1) ih
def bh.at(h:bh Γ imm ρ c x)(e:ae x k=some y):∃ d pre post,c=pre++d::post∧pre.length=k∧CR Γ imm ρ d y:=by
 induction h generalizing k with
 |nil=>injection e
 |cons h g ih=>
  cases k with
  |zero=>exact⟨_,[],_,rfl,rfl,osI e▸h⟩
  |succ k=>
   apply gg (ih (k:=k) e);intro d pre post e1 l r;exact⟨d,_::pre,post,congrArg _ e1,congrArg (·+1) l,r⟩
def FQ(Γ:aw)(imm:Δ)(ρ:List Addr)(c:List CC)(x:List ay):Prop:=match c with
 |[]=>x=[]
 |d::cs=>∃ y r,x=y::r∧CR Γ imm ρ d y∧bh Γ imm ρ cs r
def bh.inv(h:bh Γ imm ρ c x):FQ Γ imm ρ c x:=bh.casesOn (motive:=fun c x U=>FQ Γ imm ρ c x) h rfl fun a b=>⟨_,_,rfl,a,b⟩
def bh.set(h:bh Γ imm ρ (pre++d::post) x)(g:CR Γ imm ρ d' y):bh Γ imm ρ (pre++d'::post) (cC x pre.length y):=by
 induction pre generalizing x with
 |nil=>
  apply lD h.inv;intro _ _ e0 _ k;subst e0;exact .cons g k
 |cons p pre ih=>
  apply lD h.inv;intro _ _ e0 a k;subst e0;exact .cons a (ih k)
def bh.snoc(h:bh Γ imm ρ c x)(g:CR Γ imm ρ d y):bh Γ imm ρ (c++[d]) (x++[y]):=by
 induction h with
 |nil=>exact .cons g .nil
 |cons k _ ih=>exact .cons k ih
def BD{α:Type}{l:List α}{k:Nat}{a:α}(h:ae l k=some a):k<l.length:=by
 rw[dt] at h;exact(Zo.mp h).1
def xO{α:Type}{l r:List α}{k:Nat}{a:α}(h:ae l k=some a):ae (l++r) k=some a:=by
 have:=BD h;rw[dt] at h ⊢;rw[List.getElem?_append_left this];exact h
def tC(pre post:List CC)(d d':CC)(h:d'.addr=d.addr):aj (pre++d'::post)=aj (pre++d::post):=by simp [aj,h]
def Qk(pre post:List CC)(d:CC):ae (aj (pre++d::post)) pre.length=some d.addr:=by
 rw[dt];simp [aj]
def nj(pre post:List CC)(d:CC):aG (pre++d::post)=aG pre++(d.objs++aG post):=by simp [aG]
structure ao (Γ:aw) (h₀:Heap) (L:Addr) (h:Heap) (m:ω) (ls:List (Str×AV)) (σ:St) (imm:Δ) (cs:List CC):Prop where
 F:Fr h₀ L h m
 N:News h₀ L h (imm++aG cs)
 nd:((imm++aG cs).map Prod.fst).Nodup
 C:bh Γ imm (aj cs) cs σ
 l:∀ x v,lk x ls=some v→∃ val,m x=some val∧VR Γ imm (aj cs) val v
structure aD (imm:Δ) (cs:List CC) (imm':Δ) (cs':List CC):Prop where
 i:∀ p∈imm,p∈imm'
 r:∀ k a,ae (aj cs) k=some a→ae (aj cs') k=some a
def aD.refl(imm:Δ)(cs:List CC):aD imm cs imm cs:=⟨fun U h=>h,fun U U h=>h⟩
def aD.trans(a:aD i1 c1 i2 c2)(b:aD i2 c2 i3 c3):aD i1 c1 i3 c3:=⟨fun p h=>b.i p (a.i p h),fun k x h=>b.r k x (a.r k x h)⟩
def VR.ext(e:aD i1 c1 i2 c2)(h:VR Γ i1 (aj c1) v x):VR Γ i2 (aj c2) v x:=h.mono e.i e.r
def ar.ext(e:aD i1 c1 i2 c2)(h:ar Γ i1 (aj c1) v x):ar Γ i2 (aj c2) v x:=h.mono e.i e.r
variable {h₀ h:Heap}{L:Addr}{m:ω}{ls:List (Str×AV)}{σ:St}{cs:List CC}
def ao.lt(R:ao Γ h₀ L h m ls σ imm cs)(ha:a∈(imm++aG cs).map Prod.fst):a<h.objs.size:=by
 apply ak (eo ha);intro p hp e0;subst e0;exact Zy (R.N p hp).1
def ao.newI(R:ao Γ h₀ L h m ls σ imm cs)(o:Obj)(hf:o.isFreed=false):ao Γ h₀ L (h.push o) m ls σ ((h.objs.size,o)::imm) cs:=by
 have e:∀ p∈imm,p∈(h.objs.size,o)::imm:=fun p hp=>.tail _ hp;refine⟨R.F.push o,R.N.push R.F o (hfree:=hf),?_,R.C.mono e fun U U h=>h,fun x v hx=>?_⟩
 ·show (h.objs.size::(imm++aG cs).map Prod.fst).Nodup
  exact Zx.mpr ⟨fun q=>Nat.lt_irrefl _ (R.lt q),R.nd⟩
 ·apply ak (R.l x v hx);intro val a b
  exact⟨val,a,b.mono e fun U U h=>h⟩
def ao.extI(R:ao Γ h₀ L h m ls σ imm cs)(o:Obj):aD imm cs ((h.objs.size,o)::imm) cs:=⟨fun U hp=>.tail _ hp,fun U U h=>h⟩
end
structure Cx where
 base:Heap
 h₀:Heap
 outer:List Env
 L:Addr
 a:Addr
 cn:Str
 cs:Scope
 cd:π
 up:κ Addr
noncomputable def Cx.env(c:Cx):Env:=match c.up with
 |none=>envOf c.cn c.cs c.L c.a c.cd
 |some fl=>{scope:=c.cs,locals:=c.L,globals:=mainGlobals,cells:=[],qual:=c.cn++".<locals>.",func:=none,code:=c.cd,frame:=some fl,builtins:=builtinsNs}
def Cx.fr(c:Cx):List Env:=match c.up with
 |none=>c.env::c.outer
 |some _=>c.outer
def Cx.parts(c:Cx):c.env.scope=c.cs∧c.env.locals=c.L∧c.env.globals=mainGlobals∧c.env.builtins=builtinsNs:=by
 unfold Cx.env;cases c.up<;>exact⟨rfl,rfl,rfl,rfl⟩
structure be (Γ:aw) (c:Cx) (A:Around) (n:Nat):Prop where
 B:∃ A₀,Below A₀ c.base c.outer c.h₀
 X:Γ.K.In c.h₀
 T:TopRead Γ.p Γ.loose Γ.mg Γ.mb c.h₀
 k:c.cs.kind=.function
 fr:A.frames=some c.fr
 hd:A.handled=none
 dp:A.depth+n≤990
 un:A.units+4*n≤9800
structure co (c:Cx) (ls:ag):Prop where
 sc:ls.sc=c.cs.names
 lo:∀ x v,lk x ls.v=some v→c.cs.names.lookup x=some .local
 nd:c.cs.names.lookup ("__debug__" : Str)=none
def gn{α:Type}(x y:Str)(v:α)(r:List (Str×α)):lk x ((y,v)::r)=if y=x then some v else lk x r:=by
 show Bool.rec (motive:=fun U=>κ α) (lk x r) (some v) (seq y x)=_;cases q:seq y x with
 |true=>rw[if_pos (iw.mp q)]
 |false=>rw[if_neg (Jc q)]
def ke{α:Type}(x:Str):∀ l:List (Str×α),lk x l=l.lookup x:=by
 intro L0;induction L0 with
 |nil=>
  exact rfl
 |cons x0 r ih=>
  obtain⟨y,v⟩:=x0;rw[gn,List.lookup_cons,ih]
  by_cases e:y=x
  ·subst e;simp
  ·have h2:(x == y)=false:=by simp [Ne.symm e]
   rw[if_neg e,h2]
def Ng{α:Type}(x:Str)(v:α):put x v []=[(x,v)]:=rfl
def Bj{α:Type}(x y:Str)(v u:α)(r:List (Str×α)):put x v ((y,u)::r)=if y=x then (y,v)::r else (y,u)::put x v r:=by
 show Bool.rec (motive:=fun U=>List (Str×α)) ((y,u)::put x v r) ((y,v)::r) (seq y x)=_;cases q:seq y x with
 |true=>rw[if_pos (iw.mp q)]
 |false=>rw[if_neg (Jc q)]
def E8{α:Type}(x y:Str)(v:α):∀ l:List (Str×α),lk y (put x v l)=if y=x then some v else lk y l:=by
 intro L0;induction L0 with
 |nil=>
  rw[Ng,gn]
  by_cases e:y=x
  ·rw[if_pos e,if_pos e.symm]
  ·rw[if_neg e,if_neg (Ne.symm e)]
 |cons x0 r ih=>
  obtain⟨z,u⟩:=x0;rw[Bj,gn]
  by_cases q:z=x
  ·subst q
   rw[if_pos rfl,gn]
   by_cases e:y=z
   ·rw[if_pos e,if_pos e.symm]
   ·rw[if_neg e,if_neg (Ne.symm e),if_neg (Ne.symm e)]
  ·rw[if_neg q,gn,ih]
   by_cases e:z=y
   ·subst e;rw[if_pos rfl,if_pos rfl,if_neg q]
   ·rw[if_neg e,if_neg e]
section
variable {Γ:aw}
def u2{M:Model}{A:Around}{α:Type}{x y:Sem α}{Q:α→χ→Prop}{E:Θ}{s:χ}(h:x=y)(k:wpAny M A y Q E s):wpAny M A x Q E s:=h▸k
def Jb{M:Model}{A:Around}{α:Type}{t:Bool}{x y:Sem α}{Q:α→χ→Prop}{E:Θ}{s:χ}(h1:t=true→wpAny M A x Q E s)(h2:t=false→wpAny M A y Q E s):wpAny M A (if t=true then x else y) Q E s:=by
 cases t with
 |true=>exact h1 rfl
 |false=>exact h2 rfl
def di{α:Type}(Γ:aw)(n:Nat)(t:Cx→Sem α)(ls:ag)(σ:St)(P:Δ→List CC→α→Prop)(σ':St):Prop :=
 ∀ {c A s m imm cs} {Q:α→χ→Prop} {E:Θ},be Γ c A n→co c ls→ao Γ c.h₀ c.L s.heap m ls.v σ imm cs →
  (∀ h' tk imm' cs' x,ao Γ c.h₀ c.L h' m ls.v σ' imm' cs'→aD imm cs imm' cs'→P imm' cs' x→Q x (sU s h' tk))→wpAny (model Γ.prog Γ.w) A (t c) Q E s
abbrev EH (Γ:aw) (v:AV):Δ→List CC→π→Prop:=fun imm cs val=>VR Γ imm (aj cs) val v
abbrev nX (Γ:aw) (v:List AV):Δ→List CC→List π→Prop:=fun imm cs val=>ar Γ imm (aj cs) val v
abbrev hH (b:Bool):Δ→List CC→Bool→Prop:=fun U U x=>x=b
abbrev bM (Γ:aw) (n:Nat) (t:Cx→Sem π) (ls:ag) (σ:St) (v:AV) (σ':St):Prop:=di Γ n t ls σ (EH Γ v) σ'
set_option tactic.hygienic true in
def SI(h:zY x=some v):bM Γ n (fun c=>eval (.Constant x q pos) c.env) ls σ v σ:=by
 intro c A s m imm cs Q E C l R k;cases x with
 |none=>(apply j1 h;clear h;rintro rfl);exact Y8 (k s.heap s.toks imm cs .none R (aD.refl ..) .none)
 |bool b=>(apply j1 h;clear h;rintro rfl);exact Y8 (k s.heap s.toks imm cs (.bool b) R (aD.refl ..) (.bool b))
 |int i=>(apply j1 h;clear h;rintro rfl);exact wpAny_Constant_int (k s.heap (s.toks+1) imm cs _ R (aD.refl ..) (.int (cF i).symm))
 |str x=>
  unfold zY at h;dsimp only at h
  split at h
  ·rename_i q
   (apply j1 h;clear h;rintro rfl);replace q:=dX q;rw[aR] at q;exact wpAny_mkText (k s.heap (s.toks+1) imm cs _ R (aD.refl ..) (.str (by rw[dY];rfl) (jm _) (by rw[dY];lia)))
  ·injection h
 |_=>injection h
def AR(l:co c ls)(h:c.cs.names.lookup x=some q):(x == ("__debug__" : Str))=false:=by
 cases e:x == ("__debug__" : Str) with
 |false=>rfl
 |true=>rw[Zq.mp e,l.nd] at h;injection h
def T9{ls:ag}(h:lk x ls.v=some v):bM Γ n (fun c=>eval (.Name x pos) c.env) ls σ v σ:=by
 intro c A s m imm cs Q E C l R k;apply ak (R.l x v h);intro val a b;apply nJ c.parts;intro p1 p2 p3 p4;exact wpAny_Name (wpAny_loadName_local (by rw[p1];exact C.k) (by unfold Env.kindOf;rw[p1];exact l.lo x v h) (by rw[p2];exact R.F.ns) a (k s.heap s.toks imm cs val R (aD.refl ..) b)) (AR l (l.lo x v h))
structure tG (Γ:aw) (x:Str) (v:AV):Prop where
 h:∃ val,(∀ imm ρ,VR Γ imm ρ val v)∧(nsIn Γ.K mainGlobals x=some (some val)∨(nsIn Γ.K mainGlobals x=some none∧bootBuiltins x=some val∧x≠"__name__"))
def L8(h:w6 x sc=true):sc.lookup x=some .globalImplicit:=by
 unfold w6 at h;rw[←ke];cases e:lk x sc with
 |none=>rw[e] at h;injection h
 |some k=>rw[e] at h;cases k<;>first|rfl|injection h
def AY(h:rx x sc=true):sc.lookup x=some .local:=by
 unfold rx at h;rw[←ke];cases e:lk x sc with
 |none=>rw[e] at h;injection h
 |some k=>rw[e] at h;cases k<;>first|rfl|injection h
def UF{ls:ag}(g:w6 x ls.sc=true)(G:tG Γ x v):bM Γ n (fun c=>eval (.Name x pos) c.env) ls σ v σ:=by
 intro c A s m imm cs Q E C l R k;have hk:c.cs.names.lookup x=some .globalImplicit:=by
  rw[l.sc] at g;exact L8 g
 apply nJ c.parts;intro p1 p2 p3 p4;have k1:c.env.scope.kind=.function:=by rw[p1];exact C.k
 have k2:c.env.kindOf x=some .globalImplicit:=by unfold Env.kindOf;rw[p1];exact hk
 obtain⟨val,hv,e|⟨e,eb,en⟩⟩:=G.h
 ·exact Name_function_global k1 k2 (loadGlobal_global (by rw[p3];exact C.T.g.keeps R.F.keep) (mg_of C.X C.T.g e) (k s.heap s.toks imm cs val R (aD.refl ..) (hv ..))) (AR l hk)
 ·exact Name_function_global k1 k2 (loadGlobal_builtin (by rw[p3];exact C.T.g.keeps R.F.keep) (mg_none_of C.X C.T.g e) (by rw[p4];exact C.T.b.keeps R.F.keep) ((C.T.builtins x en).trans eb) (k s.heap s.toks imm cs val R (aD.refl ..) (hv ..))) (AR l hk)
def iY(Γ:aw)(t:π→π→Sem π)(a b r:AV):Prop :=
 ∀ {A s Q E imm ρ va vb},VR Γ imm ρ va a→VR Γ imm ρ vb b→(∀ tk val,VR Γ imm ρ val r→Q val {s with toks:=tk})→wpAny (model Γ.prog Γ.w) A (t va vb) Q E s
def CS
  (ha:bM Γ n (fun c=>eval el c.env) ls σ a σ₁) (hb:bM Γ n (fun c=>eval er c.env) ls σ₁ b σ₂) (ho:iY Γ (binaryOp op) a b r) :
  bM Γ n (fun c=>eval (.BinOp el op er pos) c.env) ls σ r σ₂:=by
 intro c A s m imm cs Q E C l R k;refine wpAny_BinOp (ha C l R fun h1 t1 i1 c1 va R1 x1 q1=>hb C l R1 fun h2 t2 i2 c2 vb R2 x2 q2=>?_);exact ho (q1.ext x2) q2 fun tk val q=>k h2 tk i2 c2 val R2 (x1.trans x2) q
end
def BE(a b:Nat):Nat.beq a b=decide (a=b):=by
 cases h:Nat.beq a b with
 |true=>exact(decide_eq_true (bg h)).symm
 |false=>exact(Zw (Nat.ne_of_beq_eq_false h)).symm
def SQ(a b:Nat):Nat.blt a b=decide (a<b):=by
 cases h:Nat.blt a b with
 |true=>exact(decide_eq_true (dX h)).symm
 |false=>exact(Zw fun q=>by have:Nat.blt a b=true:=Zd q;rw[this] at h;injection h).symm
theorem CT:∀ a b:ξ,ua a b=decide (a<b)
 |[],[]=>(Zw (List.not_lt_nil [])).symm
 |[],b::y=>(decide_eq_true (List.nil_lt_cons b y)).symm
 |a::x,[]=>(Zw (List.not_lt_nil (a::x))).symm
 |a::x,b::y=>by
  have e:ua (a::x) (b::y)=(a.blt b ||(a.beq b&&ua x y)):=by
   show Bool.rec (motive:=fun U=>Bool) (Bool.rec (motive:=fun U=>Bool) false (ua x y) (a.beq b)) true (a.blt b)=_;cases a.blt b<;>cases a.beq b<;>rfl
  rw[e,CT x y];rw[SQ,BE];simp only [List.cons_lt_cons_iff,Bool.decide_or,Bool.decide_and]
def PJ(c:Nat):∀ l:ξ,aK c l=decide (c∈l):=by
 intro L0;induction L0 with
 |nil=>
  exact rfl
 |cons b r ih=>
  have e:aK c (b::r)=(c.beq b ||aK c r):=by
   show Bool.rec (motive:=fun U=>Bool) (aK c r) true (c.beq b)=_;cases c.beq b<;>rfl
  rw[e,ih,BE];simp only [List.mem_cons,Bool.decide_or]
section
variable {Γ:aw}{β:Bd}
def gP(h:eU v=some l):v=.int l:=by induction v using AV.casesOn<;>(first|apply j1 h;rintro rfl|injection h);rfl
def nw(h:kB v=some l):v=.str l:=by induction v using AV.casesOn<;>(first|apply j1 h;rintro rfl|injection h);rfl
def jK(h:eG v=some l):v=.cell l:=by induction v using AV.casesOn<;>(first|apply j1 h;rintro rfl|injection h);rfl
def Du(h:w7 v=some l):v=.cls l:=by induction v using AV.casesOn<;>(first|apply j1 h;rintro rfl|injection h);rfl
def mQ(h:j4 v=some i):∃ l,v=.int l∧l.conc=some i:=by induction v using AV.casesOn<;>first|exact⟨_,rfl,h⟩|injection h
def xp(h:tY v=some l):∃ s,v=.str s∧s.conc=some l:=by induction v using AV.casesOn<;>first|exact⟨_,rfl,h⟩|injection h
def PV(h:fJ c=some xs):c=.list xs:=by cases c<;>(first|apply j1 h;rintro rfl|injection h);rfl
def MH(h:yj c=some q):c=.inst q.1 q.2:=by cases c<;>(first|apply j1 h;rintro rfl|injection h);rfl
def gE(h:dC σ k=some xs):ae σ k=some (.list xs):=by
 obtain⟨c,h1,h2⟩:=BJ h;rw[h1,PV h2]
def rZ(h:nN σ k=some q):ae σ k=some (.inst q.1 q.2):=by
 obtain⟨c,h1,h2⟩:=BJ h;rw[h1,MH h2]
def v5{α:Type}{l:List α}(h:aI l=true):l=[]:=by
 induction l using oL with
 |nil=>rfl
 |cons a r=>exact nomatch (show false=true from h)
def ow{α:Type}{l:List α}{a:α}(h:m7 l=some a):l=[a]:=by
 match l with
 |[]=>injection h
 |[b]=>exact congrArg (fun x=>[x]) (osI h)
 |_::_::_=>injection h
def rr(h:kJ o=some b):∃ q,o=some q∧b=!q:=by
 induction o using oO with
 |none=>injection h
 |some q=>exact⟨q,rfl,by induction q using oB<;>exact(osI h).symm⟩
set_option tactic.hygienic true in
def V5(h:Hx v=some c):v=.str [.lit [c]]:=by
 induction v using AV.casesOn<;>try (injection h;done)
 rename_i s
 induction s using oL with
 |nil=>injection h
 |cons p r=>
  induction p using Pc.casesOn<;>try (injection h;done)
  rename_i l
  induction l using oL with
  |nil=>induction r using oL<;>injection h
  |cons a t=>
   induction t using oL<;>induction r using oL<;>(first|(apply j1 h;clear h;rintro rfl;rfl)|injection h)
def r8(h:fu β s=some v):v=.str s∧jX β s.len (.k 1000000)=some true:=by
 unfold fu at h;cases e:jX β s.len (.k 1000000) with
 |none=>rw[e] at h;injection h
 |some b=>
  rw[e] at h;cases b with
  |false=>injection h
  |true=>exact⟨(osI h).symm,rfl⟩
def uv(he:Γ.ε.Ok)(hb:aV β Γ.ε)(ho:cE Γ.ε s)(h:fu β s=some v):(s.val Γ.ε).length≤1000000:=by
 have:=wc hb (r8 h).2;rw[jT he ho,cF] at this;have:=ZB this.symm;lia
def VR.int_inv(h:VR Γ imm ρ v (.int l)):∃ t,v=.int (l.val Γ.ε) t:=h.inv
def VR.str_inv(h:VR Γ imm ρ v (.str l)):∃ t,v=.str (aL (l.val Γ.ε)) t∧cE Γ.ε l:=let ⟨t,a,b,_⟩:=h.inv;⟨t,a,b⟩
def VR.str_len(h:VR Γ imm ρ v (.str l)):(l.val Γ.ε).length≤16777216:=let ⟨_,_,_,b⟩:=h.inv;b
def eQ(l:ξ):(aL l).length=l.length:=by simp [aL,Str.length]
def vR(a b:ξ):aL a++aL b=aL (a++b):=by
 show Str.mk _=Str.mk _;simp [aL]
def R7(h:aL a=aL b):a=b:=by
 have:=congrArg (fun x:Str=>x.cps.toList) h;exact this
def JI(a b:ξ):(aL a == aL b)=bQ a b:=by
 cases h:bQ a b with
 |true=>rw[fH.mp h];simp
 |false=>
  have:a≠b:=fun e=>by rw[fH.mpr e] at h;injection h
  simp only [beq_eq_false_iff_ne];exact fun e=>this (R7 e)
def Ae(Γ:aw)(t:π→π→Sem π)(a b:AV)(r:Bool):Prop :=
 ∀ {A s Q E imm ρ va vb},VR Γ imm ρ va a→VR Γ imm ρ vb b→Q (.bool r) s→wpAny (model Γ.prog Γ.w) A (t va vb) Q E s
def Nh:iY Γ (binaryOp .Add) (.int x) (.int y) (.int (x.add y)):=by
 intro A s Q E imm ρ va vb ha hb k;apply bC ha.int_inv;intro t e0;subst e0;apply bC hb.int_inv;intro u e0;subst e0;exact wpAny_add_int (k _ _ (.int (kS x y).symm))
def XB:iY Γ (inplaceOp .Add) (.int x) (.int y) (.int (x.add y)):=by
 intro A s Q E imm ρ va vb ha hb k;apply bC ha.int_inv;intro t e0;subst e0;apply bC hb.int_inv;intro u e0;subst e0;exact wpAny_iadd_int (k _ _ (.int (kS x y).symm))
def J6:iY Γ (binaryOp .Sub) (.int x) (.int y) (.int (x.sub y)):=by
 intro A s Q E imm ρ va vb ha hb k;apply bC ha.int_inv;intro t e0;subst e0;apply bC hb.int_inv;intro u e0;subst e0;exact sub_int (k _ _ (.int (nq x y).symm))
def O2:iY Γ (inplaceOp .Sub) (.int x) (.int y) (.int (x.sub y)):=by
 intro A s Q E imm ρ va vb ha hb k;apply bC ha.int_inv;intro t e0;subst e0;apply bC hb.int_inv;intro u e0;subst e0;exact isub_int (k _ _ (.int (nq x y).symm))
set_option smartUnfolding false in
def U9:∀ {l:List (Nat×Int)},mr m l=true→∃ q:Int,b9 Γ.ε l=(m:Int)*q:=by
 intro L0;induction L0 with
 |nil=>
  intro _;exact⟨0,by show (0:Int)=_;lia⟩
 |cons p r ih=>
  intro h;replace h:=aA (show (Nat.beq (p.2.natAbs % m) 0&&mr m r)=true from h);apply bC (ih h.2);intro q hq;have h1:=bg h.1;obtain⟨z,hz⟩ : (m:Int) ∣ p.2:=Int.ofNat_dvd_left.mpr (Nat.dvd_of_mod_eq_zero h1);refine⟨z*Γ.ε.iv p.1+q,?_⟩;show p.2*Γ.ε.iv p.1+b9 Γ.ε r=_;rw[hq,hz,Int.mul_add,Int.mul_assoc]
def Wn{x y:ax}(hx:mr m x.l=true)(hy:y.conc=some (Int.ofNat m))(hm:0<m):iY Γ (binaryOp .Mod) (.int x) (.int y) (.int (.k (Int.fmod x.c (.ofNat m)))):=by
 intro A s Q E imm ρ va vb ha hb k;apply bC ha.int_inv;intro t e0;subst e0;apply bC hb.int_inv;intro u e0;subst e0;rw[gJ hy];refine mod_int' (by show (m:Int)≠0;lia) (k _ _ (.int ?_));rw[cF];apply bC (U9 (Γ:=Γ) hx);intro q hq;unfold ax.val;rw[hq];show Int.fmod (x.c+(m:Int)*q) (m:Int)=Int.fmod x.c (m:Int);exact Int.add_mul_fmod_self_left ..
def Q9(he:Γ.ε.Ok)(hb:aV β Γ.ε){x y:SS}(h:fu β (x.app y)=some v):iY Γ (binaryOp .Add) (.str x) (.str y) v:=by
 intro A s Q E imm ρ va vb ha hb' k;apply ak ha.str_inv;intro t e0 o1;subst e0;apply ak hb'.str_inv;intro u e0 o2;subst e0;have hl:=uv he hb (lF o1 o2) h;rw[ir] at hl;apply bq (r8 h);intro e0 _;subst e0;have hz:(aL (x.val Γ.ε)).length+(aL (y.val Γ.ε)).length≤sizeLine:=by
  rw[eQ,eQ,ZH];rw[au] at hl;lia
 refine SBL.add (fun t' k' U=>?_) hz;rw[vR];exact k k' _ (.str (by rw[ir]) (lF o1 o2) (by rw[ir];lia))
def VQ(he:Γ.ε.Ok)(hb:aV β Γ.ε){x y:SS}(h:fu β (x.app y)=some v):iY Γ (inplaceOp .Add) (.str x) (.str y) v:=by
 intro A s Q E imm ρ va vb ha hb' k;apply ak ha.str_inv;intro t e0 o1;subst e0;apply ak hb'.str_inv;intro u e0 o2;subst e0;have hl:=uv he hb (lF o1 o2) h;rw[ir] at hl;apply bq (r8 h);intro e0 _;subst e0;have hz:(aL (x.val Γ.ε)).length+(aL (y.val Γ.ε)).length≤sizeLine:=by
  rw[eQ,eQ,ZH];rw[au] at hl;lia
 refine SBL.iadd (fun t' k' U=>?_) hz;rw[vR];exact k k' _ (.str (by rw[ir]) (lF o1 o2) (by rw[ir];lia))
def XQ(h:x9 p q=true):p.val ε=q.val ε:=by
 induction p using Pc.casesOn with
 |lit a=>induction q using Pc.casesOn with
  |lit b=>exact fH.mp h
  |_=>injection h
 |var i=>induction q using Pc.casesOn with
  |var j=>(obtain e:=bg h;subst e);rfl
  |_=>injection h
 |rep=>injection h
theorem Hn:∀ {x y:SS},wP x y=true→x.val ε=y.val ε
 |[],[],_=>rfl
 |[],_::_,h=>nomatch (show false=true from h)
 |_::_,[],h=>nomatch (show false=true from h)
 |p::x,q::y,h=>by
  replace h:Bool.rec (motive:=fun U=>Bool) false (wP x y) (x9 p q)=true:=h;cases e:x9 p q with
  |false=>rw[e] at h;injection h
  |true=>
   rw[e] at h;show p.val ε++SS.val ε x=q.val ε++SS.val ε y;rw[XQ e,Hn h]
def FI(he:Γ.ε.Ok)(hb:aV β Γ.ε)(h:zT β x y=some r)(o1:cE Γ.ε x)(o2:cE Γ.ε y):r=bQ (x.val Γ.ε) (y.val Γ.ε):=by
 apply aE h;clear h;intro e q h;have:=AB hb q;rw[jT he o1,jT he o2] at this;induction e using oB with
 |true=>
  cases g:wP x y with
  |true=>rw[g] at h;(injection h with e;subst e);exact(fH.mpr (Hn g)).symm
  |false=>rw[g] at h;injection h
 |false=>
  (injection h with e;subst e);have hn:x.val Γ.ε≠y.val Γ.ε:=fun e=>by rw[e] at this;simp at this
  cases g:bQ (x.val Γ.ε) (y.val Γ.ε) with
  |false=>rfl
  |true=>exact absurd (fH.mp g) hn
def O5(he:Γ.ε.Ok)(hb:aV β Γ.ε)(h:kQ β x y=some r)(o1:cE Γ.ε x)(o2:cE Γ.ε y):r=bQ (x.val Γ.ε) (y.val Γ.ε):=by
 unfold kQ at h;cases e1:x.conc with
 |none=>rw[e1] at h;exact FI he hb h o1 o2
 |some a=>
  rw[e1] at h;cases e2:y.conc with
  |none=>rw[e2] at h;exact FI he hb h o1 o2
  |some b=>rw[e2] at h;rw[jU e1,jU e2];exact(osI h).symm
def GA(he:Γ.ε.Ok)(hb:aV β Γ.ε)(h:JE β a b=some r):Ae Γ (compareOp .Eq) a b r∧Ae Γ (compareOp .NotEq) a b (!r):=by
 induction a using AV.casesOn with
 |str x=>
  induction b using AV.casesOn with
  |str y=>
   replace h:kQ β x y=some r:=h;refine⟨fun h1 h2 k=>?_,fun h1 h2 k=>?_⟩<;>obtain⟨t,rfl,o1⟩:=h1.str_inv<;>obtain⟨u,rfl,o2⟩:=h2.str_inv<;>rw[O5 he hb h o1 o2,←JI] at k
   ·exact eq_str k
   ·exact ne_str k
  |none=>
   (apply j1 h;clear h;rintro rfl);refine⟨fun h1 h2 k=>?_,fun h1 h2 k=>?_⟩<;>obtain⟨t,rfl,_⟩:=h1.str_inv<;>(obtain e:_=_:=VR.inv h2;subst e)
   ·exact SeqAt.RcAt.str_none _ _ _ _ _ _ k
   ·exact SeqAt.RcNeAt.str_none _ _ _ _ _ _ k
  |_=>injection h
 |int x=>
  apply aE h;clear h;intro y e h;(obtain e:=gP e;subst e);have:=AB hb h;subst this;refine⟨fun h1 h2 k=>?_,fun h1 h2 k=>?_⟩<;>obtain⟨t,rfl⟩:=h1.int_inv<;>obtain⟨u,rfl⟩:=h2.int_inv
  ·exact eq_int k
  ·exact ne_int k
 |none=>
  apply aE h;clear h;intro y e h;(obtain e:=nw e;subst e);(apply j1 h;clear h;rintro rfl);refine⟨fun h1 h2 k=>?_,fun h1 h2 k=>?_⟩<;>obtain⟨t,rfl,_⟩:=h2.str_inv<;>(obtain e:_=_:=VR.inv h1;subst e)
  ·exact SeqAt.RcAt.none_str _ _ _ _ _ _ k
  ·exact SeqAt.RcNeAt.none_str _ _ _ _ _ _ k
 |_=>injection h
end
section
variable {Γ:aw}{β:Bd}
def bh.cell(C:bh Γ imm (aj cs) cs σ)(ha:ae (aj cs) k=some a)(hy:ae σ k=some y):∃ d pre post,cs=pre++d::post∧pre.length=k∧d.addr=a∧CR Γ imm (aj cs) d y:=by
 apply gg (C.at hy);intro d pre post e0 l r;subst e0;refine⟨d,pre,post,rfl,l,?_,r⟩;have:=Qk pre post d;rw[l,ha] at this;exact(osI this).symm
def ao.has(R:ao Γ h₀ L h m ls σ imm (pre++d::post))(hq:q∈d.objs):q∈imm++aG (pre++d::post):=by
 rw[nj];exact dU _ (dU _ (bn _ hq))
def ar.len(h:ar Γ imm ρ vs xs):vs.length=xs.length:=by
 induction h using ar.ind with
 |nil=>rfl
 |cons _ _ ih=>exact congrArg (·+1) ih
def eP{α:Type}(Γ:aw)(σ:St)(t:Sem α)(imm:Δ)(cs:List CC)(r:α):Prop :=
 ∀ {c A n s m ls} {Q:α→χ→Prop} {E:Θ},be Γ c A n→ao Γ c.h₀ c.L s.heap m ls σ imm cs→(∀ tk,Q r {s with toks:=tk})→wpAny (model Γ.prog Γ.w) A t Q E s
def eP.of2(h:Ae Γ t a b r)(ha:VR Γ imm (aj cs) va a)(hb:VR Γ imm (aj cs) vb b) :
 eP Γ σ (t va vb) imm cs (.bool r):=fun U U k=>h ha hb (k _)
def Yo(ha:VR Γ imm ρ v a):∀ r,isNone a=some r→(r=true∧v=.none)∨(r=false∧PySem.plainIs v .none=true∧v≠.none) :=
 have f:∀ {v:π} {r:Bool},some false=some r→PySem.plainIs v .none=true→v≠.none→(r=true∧v=.none)∨(r=false∧PySem.plainIs v .none=true∧v≠.none):=fun h p q=>.inr ⟨(osI h).symm,p,q⟩
 VR.casesOn (motive_1:=fun v a U=>∀ r,isNone a=some r→(r=true∧v=.none)∨(r=false∧PySem.plainIs v .none=true∧v≠.none)) ha (fun r h=>.inl ⟨(osI h).symm,rfl⟩)
  (fun b r h=>f h rfl fun q=>by injection q) (fun U r h=>f h rfl fun q=>by injection q) (fun U U U r h=>f h rfl fun q=>by injection q) (fun U r h=>f h rfl fun q=>by injection q) (fun U U r h=>f h rfl fun q=>by injection q)
  (fun U U U U U r h=>f h rfl fun q=>by injection q) (fun U U U r h=>f h rfl fun q=>by injection q) (fun r h=>f h rfl fun q=>by injection q) (fun r h=>f h rfl fun q=>by injection q) (fun r h=>by injection h)
  (fun U U r h=>f h rfl fun q=>by injection q) (fun U r h=>by injection h) (fun U U r h=>f h rfl fun q=>by injection q)
def Pk(h:isNone a=some r)(ha:VR Γ imm (aj cs) va a) :
  eP Γ σ (compareOp .Is va .none) imm cs (.bool r)∧eP Γ σ (compareOp .IsNot va .none) imm cs (.bool !r):=by
 rcases Yo ha r h with ⟨rfl,rfl⟩|⟨rfl,h1,h2⟩
 ·exact⟨fun U U k=>wpAny_is_self rfl (k _),fun U U k=>wpAny_isNot_self rfl (k _)⟩
 ·exact⟨fun U U k=>wpAny_is_other h1 h2 (k _),fun U U k=>wpAny_isNot_other h1 h2 (k _)⟩
def wz(hb:aV β Γ.ε)(h:vc β a b=some r)(ha:VR Γ imm (aj cs) va a)(hb':VR Γ imm (aj cs) vb b) :
  eP Γ σ (compareOp .Lt va vb) imm cs (.bool r)∧eP Γ σ (compareOp .Gt vb va) imm cs (.bool r) ∧
  eP Γ σ (compareOp .LtE vb va) imm cs (.bool !r)∧eP Γ σ (compareOp .GtE va vb) imm cs (.bool !r):=by
 induction a using AV.casesOn with
 |int x=>
  apply aE h;clear h;intro y e h;(obtain e:=gP e;subst e);apply bC ha.int_inv;intro t e0;subst e0;apply bC hb'.int_inv;intro u e0;subst e0;have:=tT hb h;subst this;have e:(!decide (x.val Γ.ε<y.val Γ.ε))=decide (y.val Γ.ε≤x.val Γ.ε):=by by_cases z:x.val Γ.ε<y.val Γ.ε<;>simp [z]<;>lia
  rw[e];exact⟨fun U U k=>lt_int (k _),fun U U k=>gt_int (k _),fun U U k=>le_int (k _),fun U U k=>ge_int (k _)⟩
 |str x=>
  apply aE h;clear h;intro i e1 h;apply aE h;clear h;intro j e2 h;(apply j1 h;clear h;rintro rfl);apply ak (xp e2);clear e2;intro y e0 e2;subst e0;apply ak ha.str_inv;intro t e0 _;subst e0;apply ak hb'.str_inv;intro u e0 _;subst e0;rw[jU e1,jU e2,CT];exact⟨fun U U k=>P.lt_str (k _),fun U U k=>P.gt_str (k _),fun U U k=>P.le_str (k _),fun U U k=>P.ge_str (k _)⟩
 |_=>injection h
def VR.dict_inv(h:VR Γ imm ρ v .dict):∃ a es n,v=.ref a∧Kn Γ imm a (dictOf es n)∧(a == sysModules)=false∧xf Γ es:=h.inv
def ao.kn(R:ao Γ h₀ L h m ls σ imm cs)(X:Γ.K.In h₀)(hk:Kn Γ imm a o):h.get? a=some o :=
 hk.elim (fun z=>(R.N _ (bn _ z)).1) (fun z=>X.keeps R.F.keep _ _ z)
noncomputable def jQ(va:π)(y:π):Bool:=match va,y with
 |.str x _,.str z _=>z == x
 |_,_=>false
def IG(ha:VR Γ imm (aj cs) va a)(hy:VR Γ imm (aj cs) vy y)(h:CA a y=some b)(A:Around)(st:χ):SeqAt.EqAt A st vy va (jQ va vy)∧jQ va vy=b:=by
 induction a using AV.casesOn with
 |none=>
  apply aE h;clear h;intro z e h;(obtain e:=nw e;subst e);(injection h with e;subst e);(obtain e:_=_:=VR.inv ha;subst e);apply ak hy.str_inv;intro t e0 _;subst e0;exact⟨SeqAt.EqAt.str_none _ _,rfl⟩
 |str s=>
  apply aE h;clear h;intro x e1 h;apply aE h;clear h;intro z e2 h;(apply j1 h;clear h;rintro rfl);apply ak (xp e2);clear e2;intro w e0 e2;subst e0;apply ak ha.str_inv;intro t e0 _;subst e0;apply ak hy.str_inv;intro u e0 _;subst e0;rw[jU e1,jU e2];exact⟨(eqGives_str _ _ _ _).at A st,JI _ _⟩
 |_=>injection h
def XW(ha:VR Γ imm (aj cs) va a)(A:Around)(s:χ)(g:ar Γ imm (aj cs) vs xs):As a xs=some b →
  (∀ y∈vs,SeqAt.EqAt A s y va (jQ va y))∧vs.any (jQ va)=b:=by
 induction g using ar.ind generalizing b with
 |nil=>intro h;(injection h with e;subst e);exact⟨fun U h=>(nomatch h),rfl⟩
 |cons h1 h2 ih=>
  intro h;apply aE h;clear h;intro t e1 h;apply aE h;clear h;intro c e2 h;(apply j1 h;clear h;rintro rfl);apply bq (ih e1);intro i1 i2;apply bq (IG ha h1 e2 A s);intro o1 o2;refine⟨fun y hy=>?_,by rw[List.any_cons,i2,o2]⟩;rcases bk hy with rfl|hy
  ·exact o1
  ·exact i1 y hy
def ao.lst(R:ao Γ h₀ L h m ls σ imm cs)(ho:VR Γ imm (aj cs) va (.cell k))(hx:ae σ k=some (.list xs)) :
  ∃ a vs n pre post,va=.ref a∧cs=pre++CC.list a vs n::post∧pre.length=k∧h.get? a=some (listOf vs.toArray n)∧ar Γ imm (aj cs) vs xs∧xs.length≤200000:=by
 apply ak ho.cell_inv;intro a e0 ha;subst e0;apply d5 (R.C.cell ha hx);intro d pre post e0 l e2 cr;subst e0;apply gg cr.list_inv;intro b vs nn e0 hvs hsz;subst e0;replace e2:b=a:=e2;subst e2;exact⟨b,vs,nn,pre,post,rfl,rfl,l,(R.N _ (R.has (d:=.list b vs nn) (.head _))).1,hvs,hsz⟩
section
variable {σ:St}{a b:AV}{r:Bool}{imm:Δ}{cs:List CC}{va vb:π}
def DQ(h:zI a b=some r)(ha:VR Γ imm (aj cs) va a)(hb':VR Γ imm (aj cs) vb b):eP Γ σ (compareOp .Is va vb) imm cs (.bool r)∧eP Γ σ (compareOp .IsNot va vb) imm cs (.bool !r):=by
 induction b using AV.casesOn<;>try (injection h;done)
 (obtain e:_=_:=VR.inv hb';subst e);exact Pk h ha
def JS(h:yX a s=some r)(ha:VR Γ imm (aj cs) va a)(hb':VR Γ imm (aj cs) vb (.str s)):eP Γ σ (compareOp .In va vb) imm cs (.bool r)∧eP Γ σ (compareOp .NotIn va vb) imm cs (.bool !r):=by
 apply aE h;clear h;intro c e1 h;apply aE h;clear h;intro l e2 h;(apply j1 h;clear h;rintro rfl);(obtain e:=V5 e1;subst e);apply ak ha.str_inv;intro t e0 _;subst e0;apply ak hb'.str_inv;intro u e0 _;subst e0;rw[jU e2,PJ];have:=StrLaws.found_one (aL l) c;have e:aL (SS.val Γ.ε [.lit [c]])=(⟨#[c]⟩ : Str):=rfl;rw[e];exact⟨fun U U k=>in_str (by rw[this];exact k _),fun U U k=>notIn_str (by rw[this];exact k _)⟩
def Nv(h:JA σ a k=some r)(ha:VR Γ imm (aj cs) va a)(hb':VR Γ imm (aj cs) vb (.cell k)):eP Γ σ (compareOp .In va vb) imm cs (.bool r):=by
 apply aE h;clear h;intro xs e h;intro c' A n s m ls Q E C R kk;apply ak hb'.cell_inv;intro al e0 hk;subst e0;apply d5 (R.C.cell hk (gE e));intro d pre post e0 l e2 cr;subst e0;apply gg cr.list_inv;intro b vs n e0 hv hz;subst e0;(obtain e:=CC.same e2;subst e);have hin:=(R.N _ (R.has (d:=.list b vs n) (.head _))).1;apply bq (XW ha A.in1 s hv h);intro i1 i2;refine SeqAt.in_listAt (jQ va) ⟨_,hin,rfl,_,rfl⟩ (fun y hy=>i1 y (by simpa using hy)) ?_;have:vs.toArray.any (jQ va)=r:=by rw[←i2];simp
 rw[this];exact kk _
def Lu(A:Around)(st:χ)(g:ar Γ imm (aj cs) vs xs):∀ {ws:List π} {ys:List AV} {b:Bool},ar Γ imm (aj cs) ws ys→qf xs ys=some b →
  (vs.length=ws.length∧(∀ j (h1:j<vs.length) (h2:j<ws.length),SeqAt.EqAt A st vs[j] ws[j] (jQ (ws.getD j .none) (vs.getD j .none)))∧(List.range vs.length).all (fun j=>jQ (ws.getD j .none) (vs.getD j .none))=b)∨(vs.length≠ws.length∧b=false):=by
 induction g using ar.ind with
 |nil=>
  intro ws ys b g h;induction g using ar.ind with
  |nil=>injection h with e;subst e;exact .inl ⟨rfl,fun U h=>(nomatch h),rfl⟩
  |cons=>injection h with e;subst e;exact .inr ⟨fun q=>(nomatch q),rfl⟩
 |cons h1 h2 ih=>
  intro ws ys b g h;induction g using ar.ind with
  |nil=>injection h with e;subst e;exact .inr ⟨fun q=>(nomatch q),rfl⟩
  |cons g1 g2=>
   apply aE h;clear h;intro t e1 h;apply aE h;clear h;intro e e2 h;(apply j1 h;clear h;rintro rfl);apply bq (IG g1 h1 e2 A st);intro o1 o2;rcases ih g2 e1 with ⟨l,i1,i2⟩|⟨l,i2⟩
   ·refine .inl ⟨congrArg (·+1) l,fun j q1 q2=>?_,?_⟩
    ·cases j with
     |zero=>exact o1
     |succ j=>exact i1 j (Nat.lt_of_succ_lt_succ q1) (Nat.lt_of_succ_lt_succ q2)
    ·rw[bJ,List.range_succ_eq_map,List.all_cons,List.all_map]
     exact congr (congrArg and o2) i2
   ·subst i2
    exact .inr ⟨fun q=>l (Nat.succ.inj q),Bool.and_false _⟩
def UA(h:EY σ i b=some r)(ha:VR Γ imm (aj cs) va (.cell i))(hb':VR Γ imm (aj cs) vb b):eP Γ σ (compareOp .Eq va vb) imm cs (.bool r)∧eP Γ σ (compareOp .NotEq va vb) imm cs (.bool !r):=by
 apply aE h;clear h;intro j e1 h;apply aE h;clear h;intro x e2 h;apply aE h;clear h;intro y e3 h;(obtain e:=jK e1;subst e);have key:∀ {c':Cx} {A:Around} {n:Nat} {s:χ} {m:ω} {ls:List (Str×AV)},be Γ c' A n→ao Γ c'.h₀ c'.L s.heap m ls σ imm cs →
   ∃ l1 l2 vs ws,va=.ref l1∧vb=.ref l2∧s.heap.IsList l1 (List.toArray vs)∧s.heap.IsList l2 (List.toArray ws)∧A.units<cLine ∧
    ((vs.length=ws.length∧(∀ j (h1:j<vs.length) (h2:j<ws.length),SeqAt.EqAt A.in1 s vs[j] ws[j] (jQ (ws.getD j .none) (vs.getD j .none)))∧(List.range vs.length).all (fun j=>jQ (ws.getD j .none) (vs.getD j .none))=r)∨(vs.length≠ws.length∧r=false)):=fun {c' A n s m ls} C R=>by
  apply jc (R.lst ha (gE e2));intro l1 vs n1 p1 q1 e0 _ _ g1 v1 _;subst e0;apply jc (R.lst hb' (gE e3));intro l2 ws n2 p2 q2 e0 _ _ g2 v2 _;subst e0;have:=C.un;exact⟨l1,l2,vs,ws,rfl,rfl,⟨_,g1,rfl,_,rfl⟩,⟨_,g2,rfl,_,rfl⟩,(by show A.units<9900;lia),Lu A.in1 s v1 v2 h⟩
 constructor
 ·intro c' A n s m ls Q E C R kk
  obtain⟨l1,l2,vs,ws,rfl,rfl,g1,g2,hu,⟨l,i1,i2⟩|⟨l,i2⟩⟩:=key C R
  ·refine SeqAt.eq_listAt g1 g2 (by simpa using l) hu (fun j q1 q2=>?_) (e:=fun j=>jQ (ws.getD j .none) (vs.getD j .none)) ?_
   ·simpa using i1 j (by simpa using q1) (by simpa using q2)
   ·rw[Zl,i2];exact kk _
  ·subst i2
   exact SeqAt.eq_list_lengthsAt g1 g2 (by simpa using l) hu (kk _)
 ·intro c' A n s m ls Q E C R kk
  obtain⟨l1,l2,vs,ws,rfl,rfl,g1,g2,hu,⟨l,i1,i2⟩|⟨l,i2⟩⟩:=key C R
  ·refine SeqAt.RcNeAt.lists g1 g2 (by simpa using l) hu (fun j q1 q2=>?_) (e:=fun j=>jQ (ws.getD j .none) (vs.getD j .none)) _ _ _ _ ?_
   ·simpa using i1 j (by simpa using q1) (by simpa using q2)
   ·rw[Zl,i2];exact kk _
  ·subst i2
   exact SeqAt.RcNeAt.lists_lengths g1 g2 (by simpa using l) hu _ _ _ _ (kk _)
def EU(he:Γ.ε.Ok)(hb:aV β Γ.ε)(h:sL β σ a b=some r)(ha:VR Γ imm (aj cs) va a)(hb':VR Γ imm (aj cs) vb b):eP Γ σ (compareOp .Eq va vb) imm cs (.bool r)∧eP Γ σ (compareOp .NotEq va vb) imm cs (.bool !r):=by
 unfold sL at h;cases q:eG a with
 |none=>rw[q] at h;exact⟨eP.of2 (GA he hb h).1 ha hb',eP.of2 (GA he hb h).2 ha hb'⟩
 |some i=>rw[q] at h;(obtain e:=jK q;subst e);exact UA h ha hb'
def Nz(hw:Γ.ε.P=Γ.w.params)(he:Γ.ε.Ok)(hb:aV β Γ.ε)(h:cmp β σ op a b=some r)(ha:VR Γ imm (aj cs) va a)(hb':VR Γ imm (aj cs) vb b) :
  eP Γ σ (compareOp op va vb) imm cs (.bool r):=by
 cases op with
 |Eq=>exact(EU he hb h ha hb').1
 |NotEq=>obtain⟨q,h1,rfl⟩:=rr h;exact(EU he hb h1 ha hb').2
 |Is=>exact(DQ h ha hb').1
 |IsNot=>obtain⟨q,h1,rfl⟩:=rr h;exact(DQ h1 ha hb').2
 |Lt=>exact(wz hb h ha hb').1
 |Gt=>exact(wz hb h hb' ha).2.1
 |LtE=>obtain⟨q,h1,rfl⟩:=rr h;exact(wz hb h1 hb' ha).2.2.1
 |GtE=>obtain⟨q,h1,rfl⟩:=rr h;exact(wz hb h1 ha hb').2.2.2
 |In=>
  induction b using AV.casesOn with
  |str s=>exact(JS h ha hb').1
  |cell k=>exact Nv h ha hb'
  |_=>injection h
 |NotIn=>
  induction b using AV.casesOn with
  |str s=>obtain⟨q,h1,rfl⟩:=rr h;exact(JS h1 ha hb').2
  |_=>injection h
end
def Tb(hx:ae σ k=some c)(h:xb c=some r)(ha:VR Γ imm (aj cs) va (.cell k)):eP Γ σ (truthy va) imm cs r:=by
 apply ak ha.cell_inv;intro a e0 hk;subst e0;intro c' A n s m ls Q E C R q;apply d5 (R.C.cell hk hx);intro d pre post e0 l e2 cr;subst e0;induction c using ay.casesOn with
 |list xs=>
  apply gg cr.list_inv;intro b vs n e0 hv hz;subst e0;(obtain e:=CC.same e2;subst e);have hin:=(R.N _ (R.has (d:=.list b vs n) (.head _))).1;refine wpAny_truthy_list ⟨_,hin,rfl,_,rfl⟩ (by have:=hv.len;simp;lia) ?_;have:(!vs.toArray.isEmpty)=r:=by
   cases xs with
   |nil=>cases ar.nil_inv hv;exact osI h
   |cons=>apply lD (ar.cons_inv hv);intro _ _ e0 _ _;subst e0;exact osI h
  rw[this];exact q _
 |rows=>injection h
 |any=>injection h
 |inst D fs=>
  (apply j1 h;clear h;rintro rfl);apply ni cr.inst_inv;intro b d es n e0 hf hp hc;subst e0;(obtain e:=CC.same e2;subst e);exact truthy_K0 R.F C.X (InstAt.of_news R.N (R.has (d:=.inst b D d es n) (.head _)) (R.has (d:=.inst b D d es n) (.tail _ (.head _)))) hc.tb hc.tl (q s.toks)
def v8(he:Γ.ε.Ok)(hb:aV β Γ.ε)(h:sM β σ v=some r)(ha:VR Γ imm (aj cs) va v) :
  eP Γ σ (truthy va) imm cs r:=by
 induction v using AV.casesOn with
 |none=>(apply j1 h;clear h;rintro rfl);(obtain e:_=_:=VR.inv ha;subst e);exact fun U U k=>truthy_none (k _)
 |bool=>(apply j1 h;clear h;rintro rfl);(obtain e:_=_:=VR.inv ha;subst e);exact fun U U k=>wpAny_truthy_bool (k _)
 |int l=>
  apply ak (rr h);intro q e e0;subst e0;apply bC ha.int_inv;intro t e0;subst e0;have:=AB hb e;rw[cF] at this;intro c' A n s m ls Q E _ _ k;refine truthy_int ?_;have e2:(l.val Γ.ε != 0)=!q:=by rw[this];by_cases z:l.val Γ.ε=0<;>simp [z]
  rw[e2];exact k _
 |str x=>
  apply ak ha.str_inv;intro t e0 o;subst e0;have:=tT hb h;rw[cF,jT he o] at this;have hl:=ha.str_len;intro c' A n s m ls Q E _ _ k;refine SBL.truthy (by rw[eQ];lia) ?_;rw[eQ];have e2:(((x.val Γ.ε).length:Int) != 0)=r:=by
   rw[this]
   by_cases z:(x.val Γ.ε).length=0
   ·simp [z]
   ·rw[show (((x.val Γ.ε).length:Int) != 0)=true from bne_iff_ne.mpr (by lia)]
    symm;rw[decide_eq_true_iff];lia
  rw[e2];exact k _
 |cell k=>
  apply aE h;clear h;intro c e h;exact Tb e h ha
 |obj D fs=>
  (apply j1 h;clear h;rintro rfl);apply qR ha.obj_inv;intro a d es n e0 h1 h2 hf hp hc;subst e0;intro c' A n s m ls Q E C R q;exact truthy_K0 R.F C.X (InstAt.of_news R.N (bn _ h1) (bn _ h2)) hc.tb hc.tl (q s.toks)
 |_=>injection h
end
section
variable {Γ:aw}{β:Bd}
abbrev kg (es:List Expr) (c:Cx):List (Bool×Sem π):=es.map fun e=>(false,eval e c.env)
def kj(Γ:aw)(v:κ AV):Δ→List CC→π→Prop:=fun imm cs val=>match v with
 |none=>val=.none
 |some v=>VR Γ imm (aj cs) val v
abbrev AG (pos:Pos) (ks:List Keyword) (c:Cx):List (Sem π):=ks.map fun k=>(do let v ←eval k.value c.env;standAt pos;pure v)
def sY(Γ:aw)(n:Nat)(pos:Pos)(ls:ag)(σ:St)(a:AV)(ops:List CmpOp)(rs:List Expr)(b:Bool)(σ':St):Prop :=
 ∀ {c A s m imm cs va} {E:Θ},be Γ c A n→co c ls→ao Γ c.h₀ c.L s.heap m ls.v σ imm cs→VR Γ imm (aj cs) va a →
  (∀ {Q:Bool→χ→Prop},(∀ h' tk imm' cs',ao Γ c.h₀ c.L h' m ls.v σ' imm' cs'→aD imm cs imm' cs'→Q b (sU s h' tk))→wpAny (model Γ.prog Γ.w) A (testChain pos va ops (markedEach ops rs (evalEach rs c.env))) Q E s) ∧
  (∀ {Q:Θ},(∀ h' tk imm' cs',ao Γ c.h₀ c.L h' m ls.v σ' imm' cs'→aD imm cs imm' cs'→Q (.bool b) (sU s h' tk))→wpAny (model Γ.prog Γ.w) A (compareChain pos va ops (markedEach ops rs (evalEach rs c.env))) Q E s)
structure bu (Γ:aw) (n:Nat) (R:aJ):Prop where
 ev:∀ {ls σ e v σ'},R.ev ls σ e=some (v,σ')→bM Γ n (fun c=>eval e c.env) ls σ v σ'
 evo:∀ {ls σ e v σ'},R.evo ls σ e=some (v,σ')→di Γ n (fun c=>evalPart e c.env) ls σ (kj Γ v) σ'
 evs:∀ {ls σ es vs σ'},R.evs ls σ es=some (vs,σ')→((∀ e∈es,gU e=true)∧es.length=vs.length)∧di Γ n (fun c=>spliced (kg es c)) ls σ (nX Γ vs) σ'
 evk:∀ {ls σ ks kw σ'},R.evk ls σ ks=some (kw,σ')→ks.map (·.arg)=kw.map (fun q=>some q.1)∧∀ pos,di Γ n (fun c=>evalAll (AG pos ks c)) ls σ (nX Γ (kw.map (·.2))) σ'
 bl:∀ {ls σ op es v σ'},R.bl ls σ op es=some (v,σ')→∀ pos,bM Γ n (fun c=>boolOp pos op (evalEach es c.env)) ls σ v σ'
 cc:∀ {ls σ a ops rs b σ'},R.cc ls σ a ops rs=some (b,σ')→∀ pos,sY Γ n pos ls σ a ops rs b σ'
 tst:∀ {ls σ e b σ'},R.tst ls σ e=some (b,σ')→di Γ n (fun c=>isTrue e c.env (eval e c.env)) ls σ (hH b) σ'
 tb:∀ {ls σ op es b σ'},R.tb ls σ op es=some (b,σ')→di Γ n (fun c=>allTrue op es c.env) ls σ (hH b) σ'
variable {n:Nat}{R:aJ}{Y:Pi}
def Rt(I:bu Γ n R)(h:zC Y R ls σ e=some (v,σ')):di Γ n (fun c=>evalPart e c.env) ls σ (kj Γ v) σ':=by
 unfold zC at h;induction e using oO with
 |none=>
  (apply j2 h;clear h;rintro rfl rfl);intro c A s m imm cs Q E C l R k;exact Y8 (k s.heap s.toks imm cs _ R (aD.refl ..) rfl)
 |some e=>
  apply b8 h;clear h;intro x σ1 h1 h;(apply j2 h;clear h;rintro rfl rfl);exact I.ev h1
def Ph(I:bu Γ n R)(h:Br Y R ls σ es=some (vs,σ')):((∀ e∈es,gU e=true)∧es.length=vs.length)∧di Γ n (fun c=>spliced (kg es c)) ls σ (nX Γ vs) σ':=by
 unfold Br at h;induction es using oL with
 |nil=>
  (apply j2 h;clear h;rintro rfl rfl);refine⟨⟨fun U q=>(nomatch q),rfl⟩,?_⟩;intro c A s m imm cs Q E C l R k;exact spliced_nil (k s.heap s.toks imm cs _ R (aD.refl ..) .nil)
 |cons e r=>
  apply bV h;clear h;intro hs h;apply b8 h;clear h;intro x σ1 h1 h;apply b8 h;clear h;intro xs σ2 h2 h;(apply j2 h;clear h;rintro rfl rfl);apply bq (I.evs h2);intro n2 g2;refine⟨⟨fun e' q=>(bk q).elim (fun q=>q▸hs) (n2.1 e'),congrArg (·+1) n2.2⟩,?_⟩;intro c A s m imm cs Q E C l R k;refine spliced_cons (I.ev h1 C l R fun h1 t1 i1 c1 va R1 x1 q1=>g2 C l R1 fun h2 t2 i2 c2 vb R2 x2 q2=>?_);exact k h2 t2 i2 c2 _ R2 (x1.trans x2) (.cons (q1.ext x2) q2)
def Tn(I:bu Γ n R)(h:CB Y R ls σ ks=some (kw,σ')) :
  ks.map (·.arg)=kw.map (fun q=>some q.1)∧∀ pos,di Γ n (fun c=>evalAll (AG pos ks c)) ls σ (nX Γ (kw.map (·.2))) σ':=by
 unfold CB at h;induction ks using oL with
 |nil=>
  (apply j2 h;clear h;rintro rfl rfl);refine⟨rfl,fun pos=>?_⟩;intro c A s m imm cs Q E C l R k;exact Y8 (k s.heap s.toks imm cs _ R (aD.refl ..) .nil)
 |cons e r=>
  apply aE h;clear h;intro u hs h;apply b8 h;clear h;intro x σ1 h1 h;apply b8 h;clear h;intro xs σ2 h2 h;(apply j2 h;clear h;rintro rfl rfl);apply bq (I.evk h2);intro n2 g2;refine⟨by rw[ZI,ZI,n2,hs],fun pos=>?_⟩;intro c A s m imm cs Q E C l R k;refine evalAll_cons (Y6 (I.ev h1 C l R fun h1 t1 i1 c1 va R1 x1 q1=>Y6 (Zj (Y8 ?_))));refine g2 pos C l R1 fun h2 t2 i2 c2 vb R2 x2 q2=>?_;exact k h2 t2 i2 c2 _ R2 (x1.trans x2) (.cons (q1.ext x2) q2)
def Sc(he:Γ.ε.Ok)(hb:aV Y.β Γ.ε)(I:bu Γ n R)(h:zO Y R ls σ op es=some (v,σ'))(pos:Pos) :
  bM Γ n (fun c=>boolOp pos op (evalEach es c.env)) ls σ v σ':=by
 unfold zO at h;induction es using oL with
 |nil=>injection h
 |cons e r=>
  induction r using oL with
  |nil=>exact I.ev h
  |cons e2 r=>
   apply b8 h;clear h;intro x σ1 h1 h;apply aE h;clear h;intro b h2 h;intro c A s m imm cs Q E C l R k;show wpAny _ _ (do let v ←eval e c.env;standAt pos;let t ←holding [v] (truthy v);match op,t with|.And,false|.Or,true=>pure v|_,_=>boolOp pos op (evalEach (e2::r) c.env)) _ _ _;refine Y6 (I.ev h1 C l R fun ha ta ia ca va Ra xa qa=>Y6 (Zj (Y6 (Ze ?_))));refine v8 (Γ:=Γ) he hb h2 qa C Ra fun tk=>?_;cases hst:A8 op b with
   |true=>
    rw[hst] at h;(apply j2 h;clear h;rintro rfl rfl);have fin:wpAny (model Γ.prog Γ.w) A (pure va) Q E (sU s ha tk):=Y8 (k ha tk ia ca va Ra xa qa);cases op<;>induction b using oB<;>first|(injection hst;done)|exact fin
   |false=>
    rw[hst] at h;have fin:wpAny (model Γ.prog Γ.w) A (boolOp pos op (evalEach (e2::r) c.env)) Q E (sU s ha tk) :=
     I.bl h pos C l (s:=sU s ha tk) Ra fun h2 t2 i2 c2 vb R2 x2 q2=>k h2 t2 i2 c2 vb R2 (xa.trans x2) q2
    cases op<;>induction b using oB<;>first|(injection hst;done)|exact fin
def Yc(h:jE r=true)(t:Sem π):markedBehindIn op r t=t:=by
 refine markedBehindIn_of_false ?_;induction r using PySem.Expr.casesOn<;>first|rfl|(exact Bool.noConfusion (show false=true from h))
def Jp(pos:Pos)(va:π)(op:CmpOp)(t:Sem π)(ne:ops=[]→ts=[]→False) :
  testChain pos va (op::ops) (t::ts)=(do let rv ←holding [va] t;standAt pos;let q ←holding [va,rv] (compareOp op va rv);release [va,rv] [q];if ←holding [q,rv] (truthy q) then testChain pos rv ops ts else pure false) ∧
  compareChain pos va (op::ops) (t::ts)=(do let rv ←holding [va] t;standAt pos;let q ←holding [va,rv] (compareOp op va rv);release [va,rv] [q];if ←holding [q,rv] (truthy q) then compareChain pos rv ops ts else pure q):=by
 induction ops using oL with
 |nil=>
  induction ts using oL with
  |nil=>exact(ne rfl rfl).elim
  |cons=>exact⟨rfl,rfl⟩
 |cons=>exact⟨rfl,rfl⟩
def w8(hw:Γ.ε.P=Γ.w.params)(he:Γ.ε.Ok)(hb:aV Y.β Γ.ε)(I:bu Γ n R){ls:ag}{σ σ1:St}{a x:AV}{op:CmpOp}{r:Expr}{t:Bool}(h1:R.ev ls σ r=some (x,σ1))(h2:cmp Y.β σ1 op a x=some t)
  {c:Cx} {A:Around} {s:χ} {m:ω} {imm:Δ} {cs:List CC} {va:π} {E:Θ} (C:be Γ c A n) (l:co c ls) (Rp:ao Γ c.h₀ c.L s.heap m ls.v σ imm cs) (hv:VR Γ imm (aj cs) va a)
  {α:Type} {Q:α→χ→Prop} {pos:Pos} {P:π→Sem α}
  (k:∀ hx tx ix cx vb,ao Γ c.h₀ c.L hx m ls.v σ1 ix cx→aD imm cs ix cx→VR Γ ix (aj cx) vb x→(∀ {Q':Θ},(∀ tk,Q' (.bool t) (sU s hx tk))→wpAny (model Γ.prog Γ.w) A (compareOp op va vb) Q' E (sU s hx tx))→wpAny (model Γ.prog Γ.w) A (P vb) Q E (sU s hx tx)) :
  wpAny (model Γ.prog Γ.w) A (do let rv ←holding [va] (eval r c.env);standAt pos;P rv) Q E s :=
 Y6 (Ze (I.ev h1 C l Rp fun hx tx ix cx vb Rx xx qx=>Y6 (Zj (k hx tx ix cx vb Rx xx qx fun k=>Nz (Γ:=Γ) hw he hb h2 (hv.ext xx) qx C Rx k))))
def B9(hw:Γ.ε.P=Γ.w.params)(he:Γ.ε.Ok)(hb:aV Y.β Γ.ε)(I:bu Γ n R)(h:tF Y R ls σ a ops rs=some (b,σ'))(pos:Pos) :
  sY Γ n pos ls σ a ops rs b σ':=by
 unfold tF at h;induction ops using oL with
 |nil=>injection h
 |cons op ops=>
  induction rs using oL with
  |nil=>injection h
  |cons r rs=>
   apply bV h;clear h;intro hs h;apply b8 h;clear h;intro x σ1 h1 h;apply aE h;clear h;intro t h2 h;have many:(aI ops&&aI rs)=false→(∀ c,markedEach (op::ops) (r::rs) (evalEach (r::rs) c)=eval r c::markedEach ops rs (evalEach rs c))→(∀ c,ops=[]→markedEach ops rs (evalEach rs c)=[]→False)→sY Γ n pos ls σ a (op::ops) (r::rs) b σ':=fun q mk ne=>by
    rw[q] at h;intro c A s m imm cs va E C l Rp hv;have ht:t=true→R.cc ls σ1 x ops rs=some (b,σ'):=fun e=>by rw[e] at h;exact h
    have hf:t=false→false=b∧σ1=σ':=fun e=>by rw[e] at h;exact Prod.mk.inj (osI h)
    clear h;exact⟨fun k=>u2 ((congrArg (testChain pos va _) (mk _)).trans (Jp pos va op _ (ne _)).1) (w8 hw he hb I h1 h2 C l Rp hv fun hx tx ix cx vb Rx xx qx cm=>Y6 (Ze (cm fun tk=>Y6 (wpAny_release (Y6 (Ze (wpAny_truthy_bool (Jb
      (fun e=>(I.cc (ht e) pos C l (s:=sU s hx tk) Rx qx).1 fun h2 t2 i2 c2 R2 x2=>k h2 t2 i2 c2 R2 (xx.trans x2))
      fun e=>Y8 ((hf e).1▸k hx tk ix cx ((hf e).2▸Rx) xx))))))))),
     fun k=>u2 ((congrArg (compareChain pos va _) (mk _)).trans (Jp pos va op _ (ne _)).2) (w8 hw he hb I h1 h2 C l Rp hv fun hx tx ix cx vb Rx xx qx cm=>Y6 (Ze (cm fun tk=>Y6 (wpAny_release (Y6 (Ze (wpAny_truthy_bool (Jb
      (fun e=>(I.cc (ht e) pos C l (s:=sU s hx tk) Rx qx).2 fun h2 t2 i2 c2 R2 x2=>k h2 t2 i2 c2 R2 (xx.trans x2))
      fun e=>Y8 (e▸(hf e).1▸k hx tk ix cx ((hf e).2▸Rx) xx)))))))))⟩
   induction ops using oL with
   |nil=>
    induction rs using oL with
    |nil=>
     apply bq (Prod.mk.inj (osI (show some (t,σ1)=some (b,σ') from h)));intro e0 e1;intro c A s m imm cs va E C l Rp hv;have mk:markedEach [op] [r] (evalEach [r] c.env)=[eval r c.env]:=congrArg (·::[]) (Yc hs _);exact⟨fun k=>u2 (congrArg (testChain pos va _) mk) <|w8 hw he hb I h1 h2 C l Rp hv fun hx tx ix cx vb Rx xx qx cm=>Y6 (wpAny_operate' (cm fun tk=>Ze (wpAny_truthy_bool (e0▸k hx tk ix cx (e1▸Rx) xx)))),
      fun k=>u2 (congrArg (compareChain pos va _) mk) <|w8 hw he hb I h1 h2 C l Rp hv fun hx tx ix cx vb Rx xx qx cm=>wpAny_operate' (cm fun tk=>e0▸k hx tk ix cx (e1▸Rx) xx)⟩
    |cons=>exact @many rfl (fun U=>rfl) fun U U e=>by injection e
   |cons=>exact @many rfl (fun U=>rfl) fun U e U=>by injection e
def QO(I:bu Γ n R)(h:Cj Y R ls σ op es=some (b,σ')):di Γ n (fun c=>allTrue op es c.env) ls σ (hH b) σ':=by
 unfold Cj at h;induction es using oL with
 |nil=>injection h
 |cons e r=>
  induction r using oL with
  |nil=>
   intro c A s m imm cs Q E C l Rp k;cases op with
   |And=>
    refine wpAny_allTrue_And_cons (I.tst h C l Rp fun hx tx ix cx x Rx xx qx=>?_);cases qx;induction b using oB
    ·exact k hx tx ix cx _ Rx xx rfl
    ·exact wpAny_allTrue_And_nil (k hx tx ix cx _ Rx xx rfl)
   |Or=>
    refine wpAny_allTrue_Or_cons (I.tst h C l Rp fun hx tx ix cx x Rx xx qx=>?_);cases qx;induction b using oB
    ·exact wpAny_allTrue_Or_nil (k hx tx ix cx _ Rx xx rfl)
    ·exact k hx tx ix cx _ Rx xx rfl
  |cons e2 r=>
   apply b8 h;clear h;intro x σ1 h1 h;intro c A s m imm cs Q E C l Rp k;cases op with
   |And=>
    refine wpAny_allTrue_And_cons (I.tst h1 C l Rp fun hx tx ix cx y Rx xx qx=>?_);cases qx;induction x using oB with
    |false=>(apply j2 h;clear h;rintro rfl rfl);exact k hx tx ix cx _ Rx xx rfl
    |true=>exact I.tb h C l (s:=sU s hx tx) Rx fun h2 t2 i2 c2 vb R2 x2 q2=>k h2 t2 i2 c2 vb R2 (xx.trans x2) q2
   |Or=>
    refine wpAny_allTrue_Or_cons (I.tst h1 C l Rp fun hx tx ix cx y Rx xx qx=>?_);cases qx;induction x using oB with
    |true=>(apply j2 h;clear h;rintro rfl rfl);exact k hx tx ix cx _ Rx xx rfl
    |false=>exact I.tb h C l (s:=sU s hx tx) Rx fun h2 t2 i2 c2 vb R2 x2 q2=>k h2 t2 i2 c2 vb R2 (xx.trans x2) q2
def l8(e:Expr)(sc:Scope)(gs:List Comprehension):j6 e sc gs=.other∨∃ t it,gs=[⟨t,it,[],.ofNat 0⟩]∧j6 e sc gs=.comp e t it sc:=by
 cases gs with
 |nil=>exact .inl rfl
 |cons c r=>
  obtain⟨t,it,fs,a⟩:=c;cases fs with
  |cons _ _=>exact .inl rfl
  |nil=>cases a with
   |negSucc _=>exact .inl rfl
   |ofNat n=>cases n with
    |succ _=>exact .inl rfl
    |zero=>cases r with
     |cons _ _=>exact .inl rfl
     |nil=>exact .inr ⟨_,_,rfl,rfl⟩
def Ay(h:sw (.ListComp e gs sc pos)=true):False:=by
 unfold sw at h;rw[show vE (.ListComp e gs sc pos)=j6 e sc gs from rfl] at h;rcases l8 e sc gs with q|⟨_,_,_,q⟩<;>rw[q] at h<;>injection h
def Rb(he:Γ.ε.Ok)(hb:aV Y.β Γ.ε)(I:bu Γ n R)(h:BU Y R ls σ e=some (b,σ')) :
  di Γ n (fun c=>isTrue e c.env (eval e c.env)) ls σ (hH b) σ':=by
 intro c A s m imm cs Q E C l Rp k;have plain:Ix Y R ls σ e=some (b,σ')→(isTrue e c.env (eval e c.env)=do let v ←eval e c.env;standAt e.pos;holding [v] (truthy v))→wpAny (model Γ.prog Γ.w) A (isTrue e c.env (eval e c.env)) Q E s:=by
  intro h e2;apply b8 h;clear h;intro x σ1 h1 h;apply aE h;clear h;intro t h2 h;(apply j2 h;clear h;rintro rfl rfl);refine wpAny_isTrue_value (I.ev h1 C l Rp fun hx tx ix cx vb Rx xx qx=>?_) e2;exact v8 (Γ:=Γ) he hb h2 qx C Rx fun tk=>k hx tk ix cx _ Rx xx rfl
 induction e using PySem.Expr.casesOn with
 |BoolOp op vs pos=>exact wpAny_isTrue_BoolOp (I.tb h C l Rp k)
 |UnaryOp op e2 pos=>
  cases op with
  |Not=>
   apply b8 (show (obp (R.tst ls σ e2) fun b σ=>some (!b,σ))=some (b,σ') from h);clear h;intro x σ1 h1 h;(apply j2 h;clear h;rintro rfl rfl);refine wpAny_isTrue_Not (I.tst h1 C l Rp fun hx tx ix cx vb Rx xx qx=>?_);cases qx;exact k hx tx ix cx _ Rx xx rfl
  |_=>injection h
 |Compare lx ops rs pos=>
  apply b8 (show Gw R ls σ lx ops rs=some (b,σ') from h);clear h;intro x σ1 h1 h;show wpAny _ _ (do testChain pos (←eval lx c.env) ops (markedEach ops rs (evalEach rs c.env))) _ _ _;refine Y6 (I.ev h1 C l Rp fun hx tx ix cx vb Rx xx qx=>?_);exact(I.cc h pos (s:=sU s hx tx) C l Rx qx).1 fun h2 t2 i2 c2 R2 x2=>k h2 t2 i2 c2 _ R2 (xx.trans x2) rfl
 |IfExp=>injection h
 |ListComp e2 gs sc pos=>
  refine plain ?_ rfl;unfold BU at h;rw[show vE (.ListComp e2 gs sc pos)=j6 e2 sc gs from rfl] at h;rcases l8 e2 sc gs with q|⟨_,_,_,q⟩<;>rw[q] at h<;>exact h
 |_=>exact plain h rfl
end
section
variable {Γ:aw}{β:Bd}
structure eD (Γ:aw) (C:Addr) (c:CI):Prop where
 cls:ji Γ C
 meths:∀ x f,lk x c.meths=some f→findIn Γ.K (.ref C) x=some (some (.ref f))∧isFn Γ.K (.ref f)=true∧fnIn Γ.K f=true∧specialIn Γ.K (.ref f) "__get__"=some (some (.builtin "function.__get__"))∧takesIn Γ.K (.ref f)=some false∧copiedNames.contains x=false
 consts:∀ x v,lk x c.consts=some v→∃ a,findIn Γ.K (.ref C) x=some (some a)∧specialIn Γ.K a "__get__"=some none∧handedIn a=true∧copiedNames.contains x=false∧∀ imm ρ,VR Γ imm ρ a v
 flds:∀ x,kE x c.flds=true→findIn Γ.K (.ref C) x=some none∧takerIn Γ.K C x=some none
 isa:(∃ cd,clsIn Γ.K C=some cd∧cd.mro.isEmpty=false∧∀ D,cd.mro.contains (.ref D)=c.mro.any (Nat.beq D))∧typeIn Γ.K (.ref C)=some (.type "type")∧c.mro.any (Nat.beq C)=true
 kin:plainGet Γ.K C "__class__"=true∧findIn Γ.K (.ref C) "__class__"=some (some (.builtin "object.__class__"))∧specialIn Γ.K (.builtin "object.__class__") "__get__"=some (some (.builtin "getset_descriptor.__get__"))∧takesIn Γ.K (.builtin "object.__class__")=some true∧mroIn Γ.K C (.type "object")=some true
 init:∀ f,c.init=some f→findIn Γ.K (.ref C) "__init__"=some (some (.ref f))∧typeIn Γ.K (.ref f)=some (.type "function")∧makesIn Γ.K C=true
def aX.noRef(h:aX Γ imm ρ es fs):es.any (·.refKey)=false:=by
 induction h using aX.ind with
 |nil=>rfl
 |cons _ _ ih=>rw[List.any_cons,ih];rfl
set_option tactic.hygienic true in
def aX.get(hf:aX Γ imm ρ es fs):match lk x fs with
  |some v=>∃ val,getL x es=some (some val)∧VR Γ imm ρ val v
  |none=>es.find? (·.key.isStr x)=none:=by
 induction hf using aX.ind with
 |nil=>rfl
 |@cons h t n v y es fs a g ih=>
  rw[gn]
  by_cases q:n=x
  ·subst q
   rw[if_pos rfl];refine⟨v,?_,a⟩;unfold getL;have:(⟨h,.str n t,v⟩::es:List DictEntry).find? (·.key.isStr n)=some ⟨h,.str n t,v⟩:=by rw[List.find?_cons];simp [Value.isStr]
   rw[this]
  ·rw[if_neg q]
   have ne:(Value.str n t).isStr x=false:=by simp [Value.isStr,q]
   have e:(⟨h,.str n t,v⟩::es:List DictEntry).find? (·.key.isStr x)=es.find? (·.key.isStr x):=by rw[List.find?_cons];simp [ne]
   cases z:lk x fs with
   |none=>rw[z] at ih;dsimp only at ih ⊢;rw[e];exact ih
   |some u=>
    rw[z] at ih;dsimp only at ih ⊢;apply ak ih;intro val b1 b2;refine⟨val,?_,b2⟩;unfold getL at b1 ⊢;rw[e]
    split at b1
    ·rename_i w h1;first|exact b1|(rw[h1];exact b1)
    ·rename_i h1
     rw[if_neg (by rw[g.noRef];decide)] at b1;cases b1
def aX.miss(g:aX Γ imm ρ es fs)(h:lk x fs=none):getL x es=some none:=by
 have:=g.get (x:=x);rw[h] at this;unfold getL;rw[this,if_neg (by rw[g.noRef];decide)]
theorem ja{α:Type}{x:Str}{v:α}:∀ {l:List (Str×α)},lk x l=some v→(x,v)∈l
 |(y,u)::r,h=>by
  rw[gn] at h
  by_cases q:y=x
  ·rw[if_pos q] at h;(apply j1 h;clear h;rintro rfl);rw[q];exact .head _
  ·rw[if_neg q] at h;exact .tail _ (ja h)
def zP(h:VR Γ imm ρ val v)(n:tJ v=true):handedIn val=true:=by cases h<;>first|rfl|injection n
section
variable {Y:Pi}{σ:St}{r:AV}{x:Str}{c:Cx}{A:Around}{n:Nat}{s:χ}{m:ω}{ls:List (Str×AV)}{imm:Δ}{cs:List CC}{va:π}{Q E:Θ}{expr:Bool}
def UZ(hy:∀ C c,Y.ci C=some c→eD Γ C c){i:Nat}(h:zf Y σ i x=some r)(C:be Γ c A n)(R:ao Γ c.h₀ c.L s.heap m ls σ imm cs)(hv:VR Γ imm (aj cs) va (.cell i))
  (k:∀ h' tk imm' cs' val,ao Γ c.h₀ c.L h' m ls σ imm' cs'→aD imm cs imm' cs'→VR Γ imm' (aj cs') val r→Q val (sU s h' tk)):wpAny (model Γ.prog Γ.w) A (getAttr va x expr) Q E s:=by
 apply b8 h;clear h;intro D fs e1 h;apply ak hv.cell_inv;intro a e0 ha;subst e0;apply d5 (R.C.cell ha (rZ e1));intro d pre post e0 l e2 cr;subst e0;apply ni cr.inst_inv;intro b d es n' e0 hf hp hc;subst e0;(obtain e:=CC.same e2;subst e);have I:=InstAt.of_news R.N (R.has (d:=.inst b D d es n') (.head _)) (R.has (d:=.inst b D d es n') (.tail _ (.head _)));have g:=hf.get (x:=x);dsimp only at g;cases z:lk x fs with
 |some u=>
  rw[z] at h g;apply bV h;clear h;intro h1 h;(apply j1 h;clear h;rintro rfl);apply ak g;intro val g1 g2;exact get_own R.F C.X I hc.ga hc.hd (hp _ (ja z)) rfl g1 (zP g2 h1) (k s.heap _ imm _ val R (aD.refl ..) g2)
 |none=>
  rw[z] at h;apply aE h;clear h;intro ci h1 h;have ok:=hy _ _ h1;unfold tq at h;cases z2:lk x ci.meths with
  |some f=>
   rw[z2] at h;(apply j1 h;clear h;rintro rfl);apply lX (ok.meths x f z2);intro m1 m2 m3 m4 m5 m6;have gt:=get_bind (prog:=Γ.prog) (w:=Γ.w) (A:=A) (E:=E) (s:=s) (expr:=expr) (Q:=Q) (C.X.keeps R.F.keep) I (plainGet_of hc.ga).1 (findObj_fn hc.hd m1 m4 m5 m6 (by show lookIn x (dictOf es n')=_;rw[lookIn_dict,hf.miss z])) (plainGet_of hc.ga).2;refine gt (wpAny_call (fn_get (s:={s with toks:=s.toks+1}) (C.X.keeps R.F.keep) (Zq.mp m2) (handed_on rfl ?_)));exact k _ _ _ _ _ (R.newI (methodObj (.ref f) (.ref b)) rfl) (R.extI _) (.meth (.head _) (.cell ha))
  |none=>
   rw[z2] at h;apply CF (ok.consts x r h);intro a c1 c2 c3 c4 c5;exact get_cls R.F C.X I hc.ga hc.hd c1 c2 c3 c4 (hf.miss z) (k s.heap _ imm _ a R (aD.refl ..) (c5 ..))
def IH(hy:∀ C c,Y.ci C=some c→eD Γ C c){v:AV}(h:ka Y σ v x=some r)(C:be Γ c A n)(R:ao Γ c.h₀ c.L s.heap m ls σ imm cs)(hv:VR Γ imm (aj cs) va v)
  (k:∀ h' tk imm' cs' val,ao Γ c.h₀ c.L h' m ls σ imm' cs'→aD imm cs imm' cs'→VR Γ imm' (aj cs') val r→Q val (sU s h' tk)):wpAny (model Γ.prog Γ.w) A (getAttr va x expr) Q E s:=by
 induction v using AV.casesOn with
 |cell i=>exact UZ hy h C R hv k
 |obj D fs=>
  apply aE (show BC fs x=some r from h);clear h;intro u e1 h;apply bV h;clear h;intro h1 h;(apply j1 h;clear h;rintro rfl);apply qR hv.obj_inv;intro a d es n' e0 i1 i2 hf hp hc;subst e0;have g:=hf.get (x:=x);rw[e1] at g;apply ak g;intro val g1 g2;exact get_own R.F C.X (InstAt.of_news R.N (bn _ i1) (bn _ i2)) hc.ga hc.hd (hp _ (ja e1)) rfl g1 (zP g2 h1) (k s.heap _ imm _ val R (aD.refl ..) g2)
 |_=>injection h
end
def DD(h:mA o=true):attributeBase o attr env whole=whole:=by
 induction o using PySem.Expr.casesOn<;>first|rfl|(exact Bool.noConfusion (show false=true from h))
def Kt{Y:Pi}(hy:∀ C c,Y.ci C=some c→eD Γ C c)(I:bu Γ n R)
  (h:C5 Y R ls σ o x=some (r,σ')):bM Γ n (fun c=>eval (.Attribute o x pos) c.env) ls σ r σ':=by
 apply bV h;clear h;intro h0 h;apply b8 h;clear h;intro v σ1 h1 h;apply aE h;clear h;intro r h2 h;(apply j2 h;clear h;rintro rfl rfl);intro c A s m imm cs Q E C l Rp k;refine Attribute_any_ (I.ev h1 C l Rp fun hx tx ix cx vb Rx xx qx=>?_) ?_
 ·exact IH hy h2 (s:=sU s hx tx) C Rx qx fun h2 t2 i2 c2 vb R2 x2 q2=>k h2 t2 i2 c2 vb R2 (xx.trans x2) q2
 ·show (do let o' ←attributeBase o x c.env (eval o c.env);standAt pos.atName;let r ←holding [o'] (getAttr o' x true);letTemporaryGo o o' r;pure r)=_
  rw[DD h0]
def Tm(I:bu Γ n R)
  (h:FD R ls σ t b o=some (r,σ')):bM Γ n (fun c=>eval (.IfExp t b o pos) c.env) ls σ r σ':=by
 apply b8 h;clear h;intro v σ1 h1 h;intro c A s m imm cs Q E C l Rp k;refine wpAny_IfExp (I.tst h1 C l Rp fun hx tx ix cx vb Rx xx qx=>?_);cases qx;induction v using oB with
 |true=>exact I.ev h (s:=sU s hx tx) C l Rx fun h2 t2 i2 c2 vb R2 x2 q2=>k h2 t2 i2 c2 vb R2 (xx.trans x2) q2
 |false=>exact I.ev h (s:=sU s hx tx) C l Rx fun h2 t2 i2 c2 vb R2 x2 q2=>k h2 t2 i2 c2 vb R2 (xx.trans x2) q2
def NO(I:bu Γ n R)
  (h:Ik R ls σ e ops rs=some (r,σ')):bM Γ n (fun c=>eval (.Compare e ops rs pos) c.env) ls σ r σ':=by
 apply b8 h;clear h;intro v σ1 h1 h;apply b8 h;clear h;intro b σ2 h2 h;(apply j2 h;clear h;rintro rfl rfl);intro c A s m imm cs Q E C l Rp k;show wpAny _ _ (do compareChain pos (←eval e c.env) ops (markedEach ops rs (evalEach rs c.env))) _ _ _;refine Y6 (I.ev h1 C l Rp fun hx tx ix cx vb Rx xx qx=>?_);exact(I.cc h2 pos (s:=sU s hx tx) C l Rx qx).2 fun h2 t2 i2 c2 R2 x2=>k h2 t2 i2 c2 _ R2 (xx.trans x2) (.bool _)
def ul{c:Cx}(pos:Pos):(∀ e∈es,gU e=true)→backTo pos (starEach es c.env)=kg es c:=by
 induction es with
 |nil=>intro _;rfl
 |cons e r ih=>
  intro h;have e1:starEach (e::r) c.env=(false,eval e c.env)::starEach r c.env:=by
   have:=h e (.head _);induction e using PySem.Expr.casesOn<;>first|rfl|(exact Bool.noConfusion (show false=true from this))
  rw[e1];show (false,eval e c.env)::backTo pos (starEach r c.env)=_;rw[ih fun x hx=>h x (.tail _ hx)];rfl
def T6(I:bu Γ n R)
  (h:IB R ls σ es=some (r,σ')):bM Γ n (fun c=>eval (.Tuple es q pos) c.env) ls σ r σ':=by
 apply b8 h;clear h;intro vs σ1 h1 h;apply bV h;clear h;intro h2 h;(apply j2 h;clear h;rintro rfl rfl);apply bq (I.evs h1);intro ns g;have hz:=dX h2;rw[aR] at hz;intro c A s m imm cs Q E C l Rp k;refine wpAny_Tuple ?_;rw[ul pos ns.1];refine g C l Rp fun hx tx ix cx x Rx xx qx=>⟨by rw[qx.len,ZH];lia,?_⟩;exact k _ tx _ _ _ (Rx.newI _ rfl) (xx.trans (Rx.extI _)) (.tup (.inl (.head _)) (qx.ext (Rx.extI _)))
end
section
variable {α β:Type}
def px(f:α→β)(x:Str):∀ l:List (Str×α),lk x (l.map fun q=>(q.1,f q.2))=(lk x l).map f:=by
 intro L0;induction L0 with
 |nil=>
  exact rfl
 |cons x0 r ih=>
  obtain⟨y,u⟩:=x0;rw[ZI,gn,gn,ih]
  by_cases e:y=x
  ·rw[if_pos e,if_pos e];rfl
  ·rw[if_neg e,if_neg e]
set_option smartUnfolding false in
def YN(f:α→β)(names:List Str):∀ (kw sl:List (Str×α)),l9 names (sl.map fun q=>(q.1,f q.2)) (kw.map fun q=>(q.1,f q.2))=l9 names sl kw:=by
 intro L0;induction L0 with
 |nil=>
  intro _;exact rfl
 |cons x0 r ih=>
  obtain⟨k,v⟩:=x0;intro sl;show Bool.rec (motive:=fun U=>Bool) false (Option.rec (motive:=fun U=>Bool) (l9 names (sl.map (fun q=>(q.1,f q.2))++[(k,f v)]) (r.map fun q=>(q.1,f q.2))) (fun U=>false) (lk k (sl.map fun q=>(q.1,f q.2)))) (kE k names)=Bool.rec (motive:=fun U=>Bool) false (Option.rec (motive:=fun U=>Bool) (l9 names (sl++[(k,v)]) r) (fun U=>false) (lk k sl)) (kE k names);rw[px];cases kE k names with
  |false=>rfl
  |true=>
   cases lk k sl with
   |some _=>rfl
   |none=>
    have:=ih (sl++[(k,v)]);rw[Zb] at this;exact this
set_option smartUnfolding false in
def Uz(f:α→β):∀ (d sl:List (Str×α)),ib (sl.map fun q=>(q.1,f q.2)) (d.map fun q=>(q.1,f q.2))=(ib sl d).map fun q=>(q.1,f q.2):=by
 intro L0;induction L0 with
 |nil=>
  intro _;exact rfl
 |cons x0 r ih=>
  obtain⟨x,v⟩:=x0;intro sl;show Option.rec (motive:=fun U=>List (Str×β)) (ib (sl.map (fun q=>(q.1,f q.2))++[(x,f v)]) (r.map fun q=>(q.1,f q.2))) (fun U=>ib (sl.map fun q=>(q.1,f q.2)) (r.map fun q=>(q.1,f q.2))) (lk x (sl.map fun q=>(q.1,f q.2)))=(Option.rec (motive:=fun U=>List (Str×α)) (ib (sl++[(x,v)]) r) (fun U=>ib sl r) (lk x sl)).map fun q=>(q.1,f q.2);rw[px];cases lk x sl with
  |some _=>exact ih sl
  |none=>
   have:=ih (sl++[(x,v)]);rw[Zb] at this;exact this
set_option smartUnfolding false in
def MT(f:α→β)(sl:List (Str×α)):∀ names,fm (sl.map fun q=>(q.1,f q.2)) names=(fm sl names).map fun q=>(q.1,f q.2):=by
 intro L0;induction L0 with
 |nil=>
  exact rfl
 |cons x r ih=>
  show Option.rec (motive:=fun U=>List (Str×β)) (fm (sl.map fun q=>(q.1,f q.2)) r) (fun v=>(x,v)::fm (sl.map fun q=>(q.1,f q.2)) r) (lk x (sl.map fun q=>(q.1,f q.2)))=List.map (fun q=>(q.1,f q.2)) (Option.rec (motive:=fun U=>List (Str×α)) (fm sl r) (fun v=>(x,v)::fm sl r) (lk x sl));rw[px,ih];cases lk x sl<;>rfl
set_option smartUnfolding false in
def Pq(f:α→β)(sl:List (Str×α)):∀ names,lT (sl.map fun q=>(q.1,f q.2)) names=lT sl names:=by
 intro L0;induction L0 with
 |nil=>
  exact rfl
 |cons x r ih=>
  show Option.rec (motive:=fun U=>Bool) false (fun U=>lT (sl.map fun q=>(q.1,f q.2)) r) (lk x (sl.map fun q=>(q.1,f q.2)))=Option.rec (motive:=fun U=>Bool) false (fun U=>lT sl r) (lk x sl);rw[px,ih];cases lk x sl<;>rfl
def Ee(f:α→β)(names:List Str)(l:List α):names.zip (l.map f)=(names.zip l).map fun q=>(q.1,f q.2):=by
 rw[List.zip_map_right];rfl
def EC(f:α→β)(names:List Str)(dflt pos:List α)(kw:List (Str×α)):iB names (dflt.map f) (pos.map f) (kw.map fun q=>(q.1,f q.2))=(iB names dflt pos kw).map fun l=>l.map fun q=>(q.1,f q.2):=by
 unfold iB;rw[Ee,YN,←Zb,Pq,Ee,Uz,MT];simp only [aR,Zh];cases pos.length.ble names.length<;>cases dflt.length.ble names.length<;>cases l9 names (names.zip pos) kw<;>cases lT (names.zip pos++kw) (aQ (names.length-dflt.length) names)<;>rfl
set_option smartUnfolding false in
def HO{sl:List (Str×α)}:∀ {names:List Str},∀ q∈fm sl names,lk q.1 sl=some q.2:=by
 intro L0;induction L0 with
 |nil=>
  intro q h;cases h
 |cons x r ih=>
  intro q h;replace h:q∈Option.rec (motive:=fun U=>List (Str×α)) (fm sl r) (fun v=>(x,v)::fm sl r) (lk x sl):=h;cases e:lk x sl with
  |none=>rw[e] at h;exact ih q h
  |some v=>
   rw[e] at h;cases h with
   |head=>exact e
   |tail _ h=>exact ih q h
def Q4{l:List (Str×α)}(h:l.lookup x=some v):(x,v)∈l:=by rw[←ke] at h;exact ja h
def PR:∀ {l:List (Str×α)},(x,v)∈l→∃ u,l.lookup x=some u:=by
 intro l;induction l with
 |nil=>intro h;cases h
 |cons y r ih=>
  intro h;rw[←ke,show lk x (y::r)=_ from gn x y.1 y.2 r]
  by_cases e:y.1=x
  ·exact⟨_,if_pos e⟩
  ·rw[if_neg e,ke]
   cases h with
   |head=>exact absurd rfl e
   |tail _ q=>exact ih q
def LE(h:lk x (fm sl names)=some v):(fm sl names).reverse.lookup x=some v:=by
 have h1:=ja h;apply bC (PR (List.mem_reverse.mpr h1));intro u hu;have h2:=HO _ (List.mem_reverse.mp (Q4 hu));have h3:=HO _ h1;dsimp only at h2 h3;rw[h3] at h2;rw[hu,←h2]
end
section
def WN{γ δ:Type}{f:γ→List γ×δ→Sem (ForInStep (List γ×δ))}(e:δ):∀ (l acc:List γ),(∀ pre x post,l=pre++x::post→f x (acc++pre,e)=pure (.yield (acc++pre++[x],e)))→forIn l (acc,e) f=pure (acc++l,e):=by
 intro L0;induction L0 with
 |nil=>
  intro acc _;rw[List.forIn_nil,apN]
 |cons x r ih=>
  intro acc h;rw[List.forIn_cons];have h1:=h [] x r rfl;rw[apN] at h1;rw[h1,pure_bind];have:=ih (acc++[x]) fun pre y post q=>by
   have:=h (x::pre) y post (by rw[q];rfl);simpa using this
  dsimp only;rw[this];simp
set_option smartUnfolding false in
def Tv{α:Type}{names:List Str}:∀ {kw sl:List (Str×α)},l9 names sl kw=true→∀ pre x post,kw=pre++x::post→kE x.1 names=true∧lk x.1 (sl++pre)=none:=by
 intro kw;induction kw with
 |nil=>intro _ _ pre x post e;induction pre using List.casesOn<;>injection e
 |cons y r ih=>
  intro sl h pre x post e;replace h:Bool.rec (motive:=fun U=>Bool) false (Option.rec (motive:=fun U=>Bool) (l9 names (sl++[y]) r) (fun U=>false) (lk y.1 sl)) (kE y.1 names)=true:=h;cases q:kE y.1 names with
  |false=>rw[q] at h;injection h
  |true=>
   rw[q] at h;cases z:lk y.1 sl with
   |some _=>rw[z] at h;injection h
   |none=>
    rw[z] at h;induction pre using List.casesOn with
    |nil=>injection e with e1 e2;subst e1;exact⟨q,by rw[apN];exact z⟩
    |cons y pre=>
     injection e with e1 e2;subst e1;have:=ih h pre x post e2;rw[aC] at this;exact this
theorem Bf{x:Str}:∀ {l:List Str},kE x l=true→x∈l
 |y::r,h=>by
  replace h:Bool.rec (motive:=fun U=>Bool) (kE x r) true (seq y x)=true:=h;cases q:seq y x with
  |true=>rw[iw.mp q];exact .head _
  |false=>rw[q] at h;exact .tail _ (Bf h)
set_option smartUnfolding false in
def OH{α:Type}{g:Str×α→List (Str×α)→Sem (ForInStep (List (Str×α)))}(hg:∀ q sl,g q sl=(if (sl.lookup q.1).isNone then pure (.yield (sl++[(q.1,q.2)])) else pure (.yield sl))):∀ (d sl:List (Str×α)),forIn d sl g=pure (ib sl d):=by
 intro L0;induction L0 with
 |nil=>
  intro _;exact List.forIn_nil
 |cons x0 r ih=>
  obtain⟨x,v⟩:=x0;intro sl;rw[List.forIn_cons,hg];rw[show ib sl ((x,v)::r)=Option.rec (motive:=fun U=>List (Str×α)) (ib (sl++[(x,v)]) r) (fun U=>ib sl r) (lk x sl) from rfl];dsimp only;rw[←ke];cases lk x sl with
  |none=>simp only [Option.isNone_none,if_true,pure_bind];exact ih _
  |some u=>simp only [Option.isNone_some,Bool.false_eq_true,if_false,pure_bind];exact ih _
set_option smartUnfolding false in
def Vf{α:Type}(sl:List (Str×α)):∀ names:List Str,names.filterMap (fun n=>(sl.lookup n).map (n,·))=fm sl names:=by
 intro L0;induction L0 with
 |nil=>
  exact rfl
 |cons x r ih=>
  show _=Option.rec (motive:=fun U=>List (Str×α)) (fm sl r) (fun v=>(x,v)::fm sl r) (lk x sl);rw[List.filterMap_cons,ih,←ke];cases lk x sl<;>rfl
set_option smartUnfolding false in
def Yi{α:Type}{sl:List (Str×α)}:∀ {l:List Str},lT sl l=true→l.filter (fun n=>(sl.lookup n).isNone)=[]:=by
 intro L0;induction L0 with
 |nil=>
  intro _;exact rfl
 |cons x r ih=>
  intro h;replace h:Option.rec (motive:=fun U=>Bool) false (fun U=>lT sl r) (lk x sl)=true:=h;rw[List.filter_cons,←ke];cases e:lk x sl with
  |none=>rw[e] at h;injection h
  |some v=>rw[e] at h;exact ih h
def ST{M:Model}{A:Around}{α β γ δ:Type}{t:Sem α}{m:Sem β}{c d:α→β→Prop}[∀ r a,Decidable (c r a)][∀ r a,Decidable (d r a)]{x y:α→β→Sem δ}{u:α→β→Sem γ}{z:α→β→γ→Sem δ}{Q:δ→χ→Prop}{E:Θ}{s:χ}(r:α)(w:γ)(v:δ){P:β→Prop}
  (ht:t=pure r) (hm:wpAny M A m (fun a s'=>P a∧s'=s) E s) (k:Q v s) (hc:∀ a,P a→¬ c r a) (hd:∀ a,P a→¬ d r a) (hu:∀ a,P a→u r a=pure w) (hz:∀ a,P a→z r a w=pure v) :
  wpAny M A (t >>= fun r=>m >>= fun a=>if c r a then x r a else if d r a then y r a else u r a >>= z r a) Q E s:=by
 rw[ht,pure_bind];refine Y6 (ZF hm (fun a s' h=>?_) fun U U x=>x);rw[if_neg (hc a h.1),if_neg (hd a h.1),hu a h.1,pure_bind,hz a h.1,h.2];exact Y8 k
def Fg{fd:FuncData}{as:List Arg}{ds:List PySem.Expr}{pos:List π}{kw binds:List (Str×π)}{items:List π}{s:χ}
  (hp:fd.params={posonlyargs:=[],args:=as,vararg:=none,kwonlyargs:=[],kw_defaults:=[],kwarg:=none,defaults:=ds})
  (hd:(fd.defaults=.none∧items=[])∨∃ t o q,fd.defaults=.ref t∧s.heap.get? t=some o∧o.data=.seq items.toArray q)
  (h:iB (as.map (·.arg)) items pos kw=some binds):BindsTo s fd ⟨pos,kw⟩ binds:=by
 intro M A E Q k;obtain⟨f1,f2,p,f4,f5,f6,f7,f8,f9,f10,f11,f12,f13,f14,f15⟩:=fd;obtain rfl:p=_:=hp;unfold iB at h;apply bV h;clear h;intro h1 h;apply bV h;clear h;intro h2 h;apply bV h;clear h;intro h3 h;apply bV h;clear h;intro h4 h;(apply j1 h;rintro rfl);clear h;have h1:=dX h1;have h2:=dX h2;rw[aR] at h1 h2;rw[aR] at h1 h2;rw[aR,aR,mV] at h4;rw[aR,aR,ux] at k;generalize hF:ib _ _=F at k;rw[←Vf,←apN (as.map _)] at k;have ng:¬ pos.length>(as.map (·.arg)).length:=Nat.not_lt.mpr h1;have hd0:items.length-(as.map (·.arg)).length=0:=Nat.sub_eq_zero_of_le h2;have D:∀ a:κ (Array π),a.getD #[]=items.toArray→(a.getD #[]).toList.drop ((a.getD #[]).toList.length-(as.map (·.arg)).length)=items:=fun a e=>by
  rw[e];show items.drop (items.length-_)=_;rw[hd0];rfl
 refine ST (P:=fun a=>a.getD #[]=items.toArray) (_,[]) F _ (WN (e:=([]:List (Str×π))) kw ((as.map (·.arg)).zip pos) ?_) ?_ k ?_ ?_ ?_ ?_
 ·intro pre x post e
  apply bq (Tv h3 pre x post e);intro a b;have ha:(as.map (·.arg)).contains x.1=true:=List.contains_iff_mem.mpr (Bf a);rw[ke] at b;dsimp only;refine(if_pos (by show (_ ||_)=true;rw[ha];rfl)).trans ?_;rw[b,if_neg (by decide)]
 ·rcases hd with ⟨a,rfl⟩|⟨t,o,q,a,b,c⟩
  ·rw[a];exact Y8 ⟨rfl,rfl⟩
  ·rw[a];exact wpAny_seqItems b c ⟨rfl,rfl⟩
 ·intro a e h
  exact ng (ZB (show decide (pos.length>(as.map (·.arg)).length)=true from by rw[←Bool.and_true (decide _)];exact h))
 ·intro a e h
  have E:=(congrArg (fun n=>List.filter (fun n=>(List.lookup n ((as.map (·.arg)).zip pos++kw)).isNone) (List.take ((as.map (·.arg)).length-n) (as.map (·.arg)))) (congrArg List.length (D a e))).trans (Yi h4);exact Bool.false_ne_true ((congrArg (fun l:List Str=>!l.isEmpty) E).symm.trans h)
 ·intro a e
  exact(OH (fun q sl=>rfl) _ _).trans (congrArg pure ((congrArg (fun l=>ib _ (((as.map (·.arg)).drop (_-l.length)).zip l)) (D a e)).trans hF))
 ·intro a e
  rfl
end
section
variable {Γ:aw}{β:Bd}
inductive FR (Γ:aw) (imm:Δ) (cs:List CC):Flow→Fl→Prop
 |next:FR Γ imm cs .next .next
 |ret {val:π} {v:AV}:VR Γ imm (aj cs) val v→FR Γ imm cs (.ret val) (.ret v)
def JO(Γ:aw)(imm:Δ)(cs:List CC)(fl:Flow)(f:Fl):Prop:=match f with
 |.next=>.next=fl
 |.ret v=>∃ val,fl=.ret val∧VR Γ imm (aj cs) val v
def FR.inv(h:FR Γ imm cs fl f):JO Γ imm cs fl f:=FR.casesOn (motive:=fun fl f U=>JO Γ imm cs fl f) h rfl fun a=>⟨_,rfl,a⟩
def bj(Γ:aw)(n:Nat)(t:Cx→Sem Flow)(ls:ag)(σ:St)(f:Fl)(ls':ag)(σ':St):Prop :=
 ∀ {c A s m imm cs} {Q:Flow→χ→Prop} {E:Θ},be Γ c A n→co c ls→ao Γ c.h₀ c.L s.heap m ls.v σ imm cs →
  (∀ h' tk m' imm' cs' fl,ao Γ c.h₀ c.L h' m' ls'.v σ' imm' cs'→co c ls'→aD imm cs imm' cs'→FR Γ imm' cs' fl f→Q fl (sU s h' tk))→wpAny (model Γ.prog Γ.w) A (t c) Q E s
def cg(Γ:aw)(n:Nat)(σ:St)(f:Addr)(vs:List AV)(kw:List (Str×AV))(r:AV)(σ':St):Prop :=
 ∀ {c A s m ls imm cs vals kwv} {Rq:Result→χ→Prop},be Γ c A n→ao Γ c.h₀ c.L s.heap m ls σ imm cs→ar Γ imm (aj cs) vals vs→kwv.map (·.1)=kw.map (·.1)→ar Γ imm (aj cs) (kwv.map (·.2)) (kw.map (·.2)) →
  (∀ h' tk imm' cs' val,ao Γ c.h₀ c.L h' m ls σ' imm' cs'→aD imm cs imm' cs'→VR Γ imm' (aj cs') val r→Rq (.ok (.ret val)) (sU s h' tk)) →
  codeAny (model Γ.prog Γ.w) A (.call (.ref f) ⟨vals,kwv⟩) Rq s
inductive Cb (Γ:aw) (f:Addr) (fi:nI):Prop
 |mk (name qual:Str) (as:List Arg) (ds:List PySem.Expr) (scope:Scope) (dV kV doc pm cdv ct oc:π) (an od:κ Addr) (osl:Array (κ π))
  (ho:Γ.K.lookup f=some ⟨oc,od,.func (fnOf name qual {posonlyargs:=[],args:=as,vararg:=none,kwonlyargs:=[],kw_defaults:=[],kwarg:=none,defaults:=ds} fi.body scope dV kV doc pm an cdv ct),osl⟩)
  (hcd:codeIn Γ.K cdv qual=true) (ha:as.map (·.arg)=fi.args) (hs:scope.names=fi.sc) (hk:scope.kind=.function) (hco:scope.isCoroutine=false) (hg:scope.isGenerator=false)
  (hc:∀ x∈scope.names,x.2≠.cell) (hl:∀ x∈fi.args,scope.names.lookup x=some .local) (nd:scope.names.lookup ("__debug__" : Str)=none)
  (hd:(dV=.none∧fi.dflt=[])∨∃ t o items q,dV=.ref t∧Γ.K.lookup t=some o∧o.data=.seq (List.toArray items) q∧∀ imm ρ,ar Γ imm ρ items fi.dflt)
def ar.pairs(h:ar Γ imm ρ vs xs):∃ l:List {q:π×AV // VR Γ imm ρ q.1 q.2},l.map (·.1.1)=vs∧l.map (·.1.2)=xs:=by
 induction h using ar.ind with
 |nil=>exact⟨[],rfl,rfl⟩
 |@cons v x _ _ a g ih=>
  apply ak ih;intro l e1 e2;exact⟨⟨(v,x),a⟩::l,by rw[ZI,e1],by rw[ZI,e2]⟩
def YZ{kwv:List (Str×π)}{kw:List (Str×AV)}(e:kwv.map (·.1)=kw.map (·.1))(h:ar Γ imm ρ (kwv.map (·.2)) (kw.map (·.2))) :
  ∃ l:List (Str×{q:π×AV // VR Γ imm ρ q.1 q.2}),l.map (fun q=>(q.1,q.2.1.1))=kwv∧l.map (fun q=>(q.1,q.2.1.2))=kw:=by
 induction kw generalizing kwv with
 |nil=>exact⟨[],(List.map_eq_nil_iff.mp e).symm,rfl⟩
 |cons y kw ih=>
  apply lD (List.map_eq_cons_iff.mp e);intro p r e0 e1 e2;subst e0;apply lD h.inv;intro _ _ q a g;injection q with q1 q2;subst q1 q2;apply ak (ih e2 g);intro l i1 i2;replace e1:p.1=y.1:=e1;refine⟨(y.1,⟨(p.2,y.2),a⟩)::l,?_,?_⟩
  ·show (y.1,p.2)::List.map _ l=p::r
   rw[i1,←e1]
  ·show y::List.map _ l=y::kw
   rw[i2]
def Oq{α:Type}{names:List Str}{dflt pos:List α}{kw b:List (Str×α)}(h:iB names dflt pos kw=some b):∃ sl,b=fm sl names:=by
 unfold iB at h;apply bV h;clear h;intro _ h;apply bV h;clear h;intro _ h;apply bV h;clear h;intro _ h;apply bV h;clear h;intro _ h;exact⟨_,(osI h).symm⟩
set_option smartUnfolding false in
def GC{α:Type}{sl:List (Str×α)}{ns:List Str}:∀ q∈fm sl ns,q.1∈ns:=by
 induction ns with
 |nil=>intro q h;cases h
 |cons x r ih=>
  intro q h;replace h:q∈Option.rec (motive:=fun U=>List (Str×α)) (fm sl r) (fun v=>(x,v)::fm sl r) (lk x sl):=h;cases e:lk x sl with
  |none=>rw[e] at h;exact .tail _ (ih q h)
  |some v=>
   rw[e] at h;cases h with
   |head=>exact .head _
   |tail _ h=>exact .tail _ (ih q h)
def RA{kwv:List (Str×π)}{kw:List (Str×AV)}(hd:ar Γ imm ρ dv dx)(hv:ar Γ imm ρ vals xs)
  (hk:kwv.map (·.1)=kw.map (·.1)) (hk2:ar Γ imm ρ (kwv.map (·.2)) (kw.map (·.2))) (h:iB names dx xs kw=some ls) :
  ∃ binds,iB names dv vals kwv=some binds∧(∀ x v,lk x ls=some v→∃ val,binds.reverse.lookup x=some val∧VR Γ imm ρ val v)∧(∀ q∈binds,q.1∈names)∧∀ x v,lk x ls=some v→x∈names:=by
 apply ak hd.pairs;intro d e0 e01;subst e0;subst e01;apply ak hv.pairs;intro a e0 e01;subst e0;subst e01;apply ak (YZ hk hk2);intro k e0 e01;subst e0;subst e01;have e1:=EC (fun q:{q:π×AV // VR Γ imm ρ q.1 q.2}=>q.1.1) names d a k;have e2:=EC (fun q:{q:π×AV // VR Γ imm ρ q.1 q.2}=>q.1.2) names d a k;rw[h] at e2;apply ak (Option.map_eq_some_iff.mp e2.symm);intro b hb e0;subst e0;rw[hb] at e1;apply bC (Oq hb);intro sl e0;subst e0;refine⟨_,e1,fun x v hx=>?_,fun q hq=>?_,fun x v hx=>?_⟩
 ·rw[px (fun q:{q:π×AV // VR Γ imm ρ q.1 q.2}=>q.1.2)] at hx
  apply ak (Option.map_eq_some_iff.mp hx);intro y hy e0;subst e0;refine⟨y.1.1,?_,y.2⟩;have:=LE hy;rw[←ke] at this ⊢;rw[←List.map_reverse,px (fun q:{q:π×AV // VR Γ imm ρ q.1 q.2}=>q.1.1),this];rfl
 ·apply ak (eo hq);intro q' h1 e0;subst e0
  exact GC q' h1
 ·have:=ja hx
  apply ak (eo this);intro q' h1 e;have h2:=GC q' h1;(injection e with e1 e2;exact e1▸h2)
def bh.take(n:Nat){c:List CC}{x:List ay}(h:bh Γ imm ρ c x):bh Γ imm ρ (c.take n) (x.take n):=by
 induction h generalizing n with
 |nil=>rw[List.take_nil,List.take_nil];exact .nil
 |cons h _ ih=>
  cases n with
  |zero=>exact .nil
  |succ n=>exact .cons h (ih n)
def CR.few(hr:∀ k a,k<n→ae ρ k=some a→ae ρ' k=some a)(o:qZ n x=true)(h:CR Γ imm ρ c x):CR Γ imm ρ' c x :=
 CR.casesOn (motive:=fun c x U=>qZ n x=true→CR Γ imm ρ' c x) h (fun h k o=>.list (h.few hr o) k) (fun h g k U=>.rows h g k) (fun h g k o=>.inst (h.few hr o) g k) (fun h U=>.any h) o
set_option smartUnfolding false in
def Gk(o:lr n (x::r)=true):qZ n x=true∧lr n r=true:=by
 replace o:Bool.rec (motive:=fun U=>Bool) false (lr n r) (qZ n x)=true:=o;cases q:qZ n x with
 |true=>rw[q] at o;exact⟨rfl,o⟩
 |false=>rw[q] at o;injection o
def bh.few(hr:∀ k a,k<n→ae ρ k=some a→ae ρ' k=some a)(o:lr n x=true)(h:bh Γ imm ρ c x):bh Γ imm ρ' c x:=by
 revert o;induction h with
 |nil=>exact fun U=>.nil
 |cons h _ ih=>exact fun o=>.cons (h.few hr (Gk o).1) (ih (Gk o).2)
def rho_take(n:Nat)(cs:List CC):aj (cs.take n)=(aj cs).take n:=by simp [aj,List.map_take]
def Cy{α:Type}{l:List α}{k n:Nat}{a:α}(hk:k<n)(h:ae l k=some a):ae (l.take n) k=some a:=by
 rw[dt] at h ⊢;rw[List.getElem?_take,if_pos hk];exact h
def UE(n:Nat)(cs:List CC):∀ q∈aG (cs.take n),q∈aG cs:=fun q h=>by
 apply ak (List.mem_flatMap.mp h);intro c h1 h2;exact List.mem_flatMap.mpr ⟨c,List.mem_of_mem_take h1,h2⟩
def Nr(n:Nat)(cs:List CC):(aG (cs.take n)).Sublist (aG cs):=by
 have:aG cs=aG (cs.take n)++aG (cs.drop n):=by
  unfold aG;rw[←List.flatMap_append,List.take_append_drop]
 rw[this];exact List.sublist_append_left _ _
def ao.take{h₀ h:Heap}{L:Addr}{m:ω}{ls:List (Str×AV)}{σ:St}{imm:Δ}{cs:List CC}(R:ao Γ h₀ L h m ls σ imm cs)(n:Nat)(ho:lr n (aQ n σ)=true)
  (hl:∀ x v,lk x ls=some v→∃ val,m x=some val∧VR Γ imm (aj (cs.take n)) val v):ao Γ h₀ L h m ls (aQ n σ) imm (cs.take n):=by
 rw[mV] at ho ⊢;refine⟨R.F,fun q hq=>R.N q ?_,?_,?_,hl⟩
 ·rcases dy hq with a|a
  ·exact bn _ a
  ·exact dU _ (UE n cs q a)
 ·exact R.nd.sublist (((List.Sublist.refl _).append (Nr n cs)).map _)
 ·rw[rho_take]
  exact(R.C.take n).few (fun k a hk h=>Cy hk h) ho
end
section
variable {Γ:aw}{β:Bd}
def ao.caller(R:ao Γ h₀ L h m ls σ imm cs)(R':ao Γ g L' h' m' ls' σ' imm' cs')(x:aD imm cs imm' cs')
 (F:Fr h₀ L h' m) (N:News h₀ L h' (imm'++aG cs')):ao Γ h₀ L h' m ls σ' imm' cs':=⟨F,N,R'.nd,R'.C,fun y v hy=>by
 apply ak (R.l y v hy);intro val a b;exact⟨val,a,b.ext x⟩⟩
def Wx(n:Nat)(v:AV)(σ:St):j7 n v σ=σ∨(j7 n v σ=aQ n σ∧iD n v=true∧lr n (aQ n σ)=true):=by
 unfold j7;cases Nat.beq (lenA σ) n with
 |true=>exact .inl rfl
 |false=>
  cases h1:iD n v with
  |false=>exact .inl rfl
  |true=>
   cases h2:lr n (aQ n σ) with
   |false=>exact .inl (by simp [h2])
   |true=>exact .inr ⟨by simp [h2],rfl,rfl⟩
def aD.rho_take(x:aD imm cs imm' cs'):aj (cs'.take cs.length)=aj cs:=by
 apply List.ext_getElem?;intro i;rw[Mine.rho_take];have hl:(aj cs).length=cs.length:=Zh ..
 by_cases hi:i<cs.length
 ·have h1:ae (aj cs) i=some ((aj cs)[i]'(by lia)):=by rw[dt];simp [hl,hi]
  have:=x.r _ _ h1;rw[dt] at h1 this;rw[List.getElem?_take,if_pos hi,this,h1]
 ·rw[List.getElem?_take,if_neg hi]
  symm;rw[List.getElem?_eq_none_iff];lia
def Um{A₀ A:Around}{s:χ}{K:Frag}
  {R:Result→χ→Prop}
  (B:Below A₀ base outer h₀) (F:Fr h₀ L s.heap m) (N:News h₀ L s.heap news) (X:K.In s.heap) (hlim:h₀.NoLimit) (hA:A.frames=some outer)
  (ho:K.lookup f=some ⟨oc,od,.func (fnOf name qual params body scope dV kV doc pm an cdv ct),osl⟩) (hcd:codeIn K cdv qual=true) (hroom:A.depth<recursionLimit)
  (hbind:BindsTo s (fnOf name qual params body scope dV kV doc pm an cdv ct) args binds) (hloc:∀ y∈binds,scope.names.lookup y.1=some .local)
  (h:∀ g L' h₁,Fr h₀ L g m→Fr g L' h₁ (fun y=>binds.reverse.lookup y)→News g L' h₁ news→Below A base outer g→h₀.StaysIn g →
   wpAny (model prog w) (A.deeper (envOf qual scope L' f cdv)) (execs body (envOf qual scope L' f cdv))
    (fun fl s'=>LeaveK h₀ L m g R (match fl with|.ret v=>v|_=>.none) s')
    (fun e s'=>wpAny (model prog w) (A.deeper (envOf qual scope L' f cdv)) (leaving (envOf qual scope L' f cdv) e) (fun U s''=>R (.error e) s'') (fun e' s''=>R (.error e') s'') s')
    (sU s h₁ (s.toks+binds.length)))
  (hco:scope.isCoroutine=false) (hgen:scope.isGenerator=false) (hk:scope.kind=.function)
  (hcell:∀ x∈scope.names,x.2≠.cell):codeAny (model prog w) A (.call (.ref f) args) R s:=by
 refine codeAny_call_def (fd:=fnOf name qual params body scope dV kV doc pm an cdv ct) (body:=body) (binds:=binds) hroom (X _ _ ho) rfl (hlim.keeps F.keep) (codeRec_of X hcd) rfl hbind hcell hloc (fun h₁ hns hk₁=>?_) hco hgen hk;have nm:∀ b o,h₀.get? b=some o→b ∉ news.map (·.1):=fun b o e q=>by
  apply ak (eo q);intro p hp e0;subst e0;rw[(N p hp).2.2] at e;cases e
 have st:h₀.StaysIn (hideAll s.heap (news.map (·.1))):=fun b o e=>hideAll_get _ (F.keep b o e) (nm b o e);apply d5 F.ns;intro oL es ep hL hLd hLk hLf;have nL:L ∉ news.map (·.1):=fun q=>by
  apply ak (eo q);intro p hp e;exact(N p hp).2.1 e
 have hLg:=hideAll_get (news.map (·.1)) hL nL;have B₂:Below A base outer (hideAll s.heap (news.map (·.1))):=⟨hA,fun b o e=>st b o (B.stays b o e),B.frames.of_keeps fun b o e U=>⟨o,st b o e,rfl⟩⟩;refine ZF (h _ s.heap.objs.size h₁ ⟨⟨oL,es,ep,hLg,hLd,hLk,hLf⟩,st,F.above⟩ ⟨hns,fun b o e=>hk₁ b o (of_hideAll _ e),Nat.le_of_eq (hideAll_size _ _)⟩
  (fun p hp=>⟨hk₁ _ _ (N p hp).1,ZK (Zy (N p hp).1),hideAll_none _ (Zi hp)⟩) B₂ st) (fun fl s' hl=>?_) fun U U y=>y
 apply gg hl;intro L' m' news' F' N' k;refine k ⟨⟨oL,es,ep,F'.keep L oL hLg,hLd,hLk,hLf⟩,fun b o e=>F'.keep b o (st b o e),F.above⟩ fun p hp=>⟨(N' p hp).1,fun q=>?_,?_⟩
 ·have:=(N' p hp).2.2;rw[q,hLg] at this;cases this
 ·cases q:h₀.get? p.1 with
  |none=>rfl
  |some o=>have:=(N' p hp).2.2;rw[st _ _ q] at this;cases this
def tB(hf:Cb Γ f fi)(hb:iB fi.args fi.dflt vs kw=some ls)(hn:n'+5≤n)(hr:fl=.ret r∨(fl=.next∧r=.none))
  (hx:bj Γ n' (fun c=>execs fi.body c.env) ⟨ls,fi.sc⟩ σ fl ls' σ'):cg Γ n σ f vs kw r (j7 (lenA σ) r σ'):=by
 intro c A s m lsC imm cs vals kwv Rq C Rp hv hk hk2 k;obtain⟨name,qual,as,ds,scope,dV,kV,doc,pm,cdv,ct,oc,an,od,osl,ho,hcd,ha,hs,hkd,hco,hg,hc,hl,nd,hd⟩:=hf;apply bC C.B;intro A₀ B;have X:Γ.K.In s.heap:=C.X.keeps Rp.F.keep;have hdv:∃ items,((dV=.none∧items=[])∨∃ t o q,dV=.ref t∧s.heap.get? t=some o∧o.data=.seq (List.toArray items) q)∧ar Γ imm (aj cs) items fi.dflt:=by
  rcases hd with ⟨a,b⟩|⟨t,o,items,q,a,b,d,e⟩
  ·exact⟨[],.inl ⟨a,rfl⟩,by rw[b];exact .nil⟩
  ·exact⟨items,.inr ⟨t,o,q,a,X _ _ b,d⟩,e _ _⟩
 apply ak hdv;clear hdv;intro items hdv hdr;apply U4 (RA hdr hv hk hk2 hb);intro binds b1 b2 b3 b4
 suffices go:∀ g L' h₁,Fr c.h₀ c.L g m→Fr g L' h₁ (fun y=>binds.reverse.lookup y)→News g L' h₁ (imm++aG cs)→Below A c.base c.fr g→c.h₀.StaysIn g →
   wpAny (model Γ.prog Γ.w) (A.deeper (envOf qual scope L' f cdv)) (execs fi.body (envOf qual scope L' f cdv))
    (fun fl s'=>LeaveK c.h₀ c.L m g Rq (match fl with|.ret v=>v|_=>.none) s')
    (fun e s'=>wpAny (model Γ.prog Γ.w) (A.deeper (envOf qual scope L' f cdv)) (leaving (envOf qual scope L' f cdv) e) (fun U s''=>Rq (.error e) s'') (fun e' s''=>Rq (.error e') s'') s')
    (sU s h₁ (s.toks+binds.length)) by
  cases hu:c.up with
  |none=>
   have hfr:c.fr=envOf c.cn c.cs c.L c.a c.cd::c.outer:=by unfold Cx.fr Cx.env;rw[hu]
   have cfr:=C.fr;rw[hfr] at go cfr;exact call_K (news:=imm++aG cs) (binds:=binds) B Rp.F Rp.N X C.T.nolimit cfr ho hcd (by have:=C.dp;show A.depth<1000;lia) (Fg (as:=as) (ds:=ds) rfl hdv (by rw[ha];exact b1)) (fun y hy=>hl _ (b3 _ hy)) go (hck:=C.k) (hco:=hco) (hgen:=hg) (hk:=hkd) (hcell:=hc)
  |some fl0=>
   have hfr:c.fr=c.outer:=by unfold Cx.fr;rw[hu]
   have cfr:=C.fr;rw[hfr] at go cfr;exact Um (news:=imm++aG cs) (binds:=binds) B Rp.F Rp.N X C.T.nolimit cfr ho hcd (by have:=C.dp;show A.depth<1000;lia) (Fg (as:=as) (ds:=ds) rfl hdv (by rw[ha];exact b1)) (fun y hy=>hl _ (b3 _ hy)) go hco hg hkd hc
 intro g L' h₁ hF hF' hN hB hst;have C':be Γ ⟨c.base,g,c.fr,L',f,qual,scope,cdv,none⟩ (A.deeper (envOf qual scope L' f cdv)) n':=by
  refine⟨⟨A,hB⟩,C.X.keeps hst,C.T.keeps hst,hkd,?_,C.hd,?_,?_⟩
  ·show Option.map _ A.frames=_
   rw[C.fr];rfl
  ·have:=C.dp;show A.depth+1+n'≤990;lia
  ·have:=C.un;show A.units+3+4*n'≤9800;lia
 have l':co ⟨c.base,g,c.fr,L',f,qual,scope,cdv,none⟩ ⟨ls,fi.sc⟩:=⟨hs.symm,fun x v hx=>hl _ (b4 x v hx),nd⟩;refine hx C' l' (s:=sU s h₁ (s.toks+binds.length)) (m:=fun y=>binds.reverse.lookup y) (imm:=imm) (cs:=cs) ⟨hF',hN,Rp.nd,Rp.C,b2⟩ ?_;intro h' tk m' imm' cs' fl' R' _ x' hfl;have hval:VR Γ imm' (aj cs') (match (generalizing:=false) fl' with|.ret v=>v|_=>.none) r:=by
  rcases hr with rfl|⟨rfl,rfl⟩
  ·obtain⟨_,e0,h⟩:=FR.inv hfl;clear hfl;subst e0;exact h
  ·(obtain e:_=_:=FR.inv hfl;subst e);exact .none
 refine leaveK_ R'.F R'.N fun F N=>?_;have Rc:=Rp.caller R' x' F N;rcases Wx (lenA σ) r σ' with e|⟨e,o1,o2⟩
 ·rw[e] at k
  exact k h' tk imm' cs' _ Rc x' hval
 ·rw[e] at k
  have hlen:lenA σ=cs.length:=by rw[aR,Rp.C.len]
  have hrho:=x'.rho_take;rw[hlen] at o1 o2 k;refine k h' tk imm' (cs'.take cs.length) _ (Rc.take _ o2 fun y v hy=>?_) ⟨x'.i,fun q a hq=>by rw[hrho];exact hq⟩ ?_
  ·apply ak (Rp.l y v hy);intro val q1 q2
   exact⟨val,q1,by rw[hrho];exact q2.mono x'.i fun U U h=>h⟩
  ·exact hval.few (fun k a hk h=>by rw[Mine.rho_take];exact Cy hk h) o1
end
section
variable {Γ:aw}{β:Bd}{Y:Pi}
def vQ(Γ:aw)(fv:AV):Prop:=∀ {h:Heap} {imm:Δ} {ρ:List Addr} {fval:π},VR Γ imm ρ fval fv→Γ.K.In h→(∀ q∈imm,h.get? q.1=some q.2) →
 ∃ k,(k=Keeper.frame∨k=Keeper.machine∨k=Keeper.boundFrame)∧Looks (model Γ.prog Γ.w) h (keeperOf fval) k
def i6(Γ:aw)(n:Nat)(σ:St)(fv:AV)(vs:List AV)(kw:List (Str×AV))(r:AV)(σ':St):Prop :=
 ∀ {c A s m ls imm cs fval vals kwv} {Q E:Θ},be Γ c A n→ao Γ c.h₀ c.L s.heap m ls σ imm cs→VR Γ imm (aj cs) fval fv→ar Γ imm (aj cs) vals vs→kwv.map (·.1)=kw.map (·.1)→ar Γ imm (aj cs) (kwv.map (·.2)) (kw.map (·.2)) →
  (∀ h' tk imm' cs' val,ao Γ c.h₀ c.L h' m ls σ' imm' cs'→aD imm cs imm' cs'→VR Γ imm' (aj cs') val r→Q val (sU s h' tk)) →
  wpAny (model Γ.prog Γ.w) A (call fval vals kwv) Q E s
def be.le(h:n'≤n)(C:be Γ c A n):be Γ c A n':=⟨C.B,C.X,C.T,C.k,C.fr,C.hd,by have:=C.dp;lia,by have:=C.un;lia⟩
set_option tactic.hygienic true in
def FG(h:fnIn Γ.K f=true):keepIn Γ.K (.ref f)=true:=by
 unfold fnIn at h;unfold keepIn
 split at h
 ·rename_i e
  have e':List.lookup f Γ.K=_:=e;simp only [e']
 ·injection h
set_option tactic.hygienic true in
def Wm(h:makesIn Γ.K C=true):keepIn Γ.K (.ref C)=true:=by
 unfold makesIn at h;unfold keepIn
 split at h
 ·rename_i e
  have e':List.lookup C Γ.K=_:=e;simp only [e'];simp only [Y9] at h;exact h.1.2
 ·injection h
def cg.le(h:n'≤n)(H:cg Γ n' σ f vs kw r σ'):cg Γ n σ f vs kw r σ':=by
 intro c A s m ls imm cs vals kwv Rq C;exact H (C.le h)
def rn(a b:List CC):aj (a++b)=aj a++aj b:=Zb ..
def nW(a b:List CC):aG (a++b)=aG a++aG b:=List.flatMap_append ..
def vF{α:Type}(l:List α)(a:α):ae (l++[a]) l.length=some a:=by rw[dt];simp
def Oj(h:Gq σ σ1 D=some (r,σ')){cs cs2:List CC}(hlen:lenA σ=cs.length)
  (R2:ao Γ h₀ L g m ls σ1 imm2 cs2) (x3:aD imm cs imm2 cs2) (at2:ae (aj cs2) (lenA σ)=some x) (hl:∀ y v,lk y ls=some v→∃ val,m y=some val∧VR Γ imm (aj cs) val v) :
  ∃ imm' cs',ao Γ h₀ L g m ls σ' imm' cs'∧aD imm cs imm' cs'∧VR Γ imm' (aj cs') (.ref x) r:=by
 apply b8 h;clear h;intro D' fs e1 h;apply bV h;clear h;intro e2 h;apply bV h;clear h;intro e3 h;apply bV h;clear h;intro e4 h;apply bV h;clear h;intro e5 h;(apply j2 h;clear h;rintro rfl rfl);replace e2:=bg e2;replace e3:=bg e3;subst e2;apply d5 (R2.C.cell at2 (rZ e1));intro d pre post e0 l e6 cr;subst e0;apply ni cr.inst_inv;intro b d2 es n' e0 hfr hp hcl;subst e0;replace e6:b=x:=e6;subst e6;have hpost:post=[]:=by
  have:=R2.C.len;rw[aR] at e3;simp at this;apply Zz;lia
 subst hpost;rw[hlen] at l e4 e5 ⊢;have tk1:(pre++[CC.inst b D' d2 es n']).take cs.length=pre:=by rw[←l];simp
 have hrho:aj pre=aj cs:=by rw[←tk1];exact x3.rho_take
 have fewer:∀ k a,k<cs.length→ae (aj (pre++[CC.inst b D' d2 es n'])) k=some a→ae (aj pre) k=some a:=fun k a hk h=>by
  rw[←tk1,Mine.rho_take];exact Cy hk h
 have im:∀ q∈imm2,q∈(b,instObj D' d2)::(d2,dictOf es n')::imm2:=fun q h=>.tail _ (.tail _ h);have hC:=(R2.C.take cs.length);rw[tk1] at hC;rw[mV] at e5 ⊢;have hC2:=hC.few fewer e5;refine⟨(b,instObj D' d2)::(d2,dictOf es n')::imm2,pre,⟨R2.F,fun q hq=>R2.N q ?_,?_,hC2.mono im fun U U h=>h,fun y v hy'=>?_⟩,⟨fun q h=>im q (x3.i q h),fun k a h=>by rw[hrho];exact h⟩,.obj (.head _) (.tail _ (.head _)) ((hfr.few fewer e4).mono im fun U U h=>h) hp hcl⟩
 ·rw[nW]
  rcases bk hq with rfl|hq
  ·simp [aG,CC.objs]
  ·rcases bk hq with rfl|hq
   ·simp [aG,CC.objs]
   ·rcases dy hq with a|a
    ·exact bn _ a
    ·exact dU _ (bn _ a)
 ·have nd:=R2.nd
  rw[nW,←aC,Zb] at nd;have pm:((((b,instObj D' d2)::(d2,dictOf es n')::imm2)++aG pre).map Prod.fst).Perm ((imm2++aG pre).map Prod.fst++(aG [CC.inst b D' d2 es n']).map Prod.fst):=by
   show ([b,d2]++(imm2++aG pre).map Prod.fst).Perm ((imm2++aG pre).map Prod.fst++[b,d2]);exact List.perm_append_comm
  exact pm.nodup_iff.mpr nd
 ·apply ak (hl y v hy');intro val a q
  exact⟨val,a,by rw[hrho];exact q.mono (fun q h=>im q (x3.i q h)) fun U U h=>h⟩
def ao.newC(R:ao Γ h₀ L h m ls σ imm cs)(F':Fr h₀ L h' m)(N':News h₀ L h' ((x,instObj D dx)::(dx,dictOf [] 0)::(imm++aG cs)))
  (hlt:∀ q∈imm++aG cs,q.1<dx) (hdx:dx<x) (hc:ji Γ D):ao Γ h₀ L h' m ls (σ++[.inst D []]) imm (cs++[.inst x D dx [] 0]):=by
 have mono1:∀ k a,ae (aj cs) k=some a→ae (aj (cs++[.inst x D dx [] 0])) k=some a:=fun k a h=>by rw[rn];exact xO h
 refine⟨F',fun q hq=>N' q ?_,?_,(R.C.mono (fun U h=>h) mono1).snoc (.inst .nil (fun U h=>(nomatch h)) hc),fun y v hy'=>?_⟩
 ·rw[nW,←aC] at hq
  rcases dy hq with a|a
  ·exact .tail _ (.tail _ a)
  ·replace a:q∈[(x,instObj D dx),(dx,dictOf [] 0)]:=by simpa [aG,CC.objs] using a
   rcases bk a with rfl|a
   ·exact .head _
   ·rcases bk a with rfl|a
    ·exact .tail _ (.head _)
    ·cases a
 ·rw[nW,←aC,Zb]
  refine List.nodup_append.mpr ⟨R.nd,?_,?_⟩
  ·show (([x,dx]:List Addr)).Nodup
   exact Zx.mpr ⟨fun q=>Nat.ne_of_gt hdx (bU q),Zx.mpr ⟨fun q=>(nomatch q),.nil⟩⟩
  ·intro a ha b hb
   apply ak (eo ha);intro q hq e0;subst e0;have:=hlt q hq;replace hb:b∈([x,dx]:List Addr):=by simpa [aG,CC.objs] using hb
   rcases bk hb with rfl|hb
   ·exact ZK (Nat.lt_trans this hdx)
   ·rcases bk hb with rfl|hb
    ·exact ZK this
    ·cases hb
 ·apply ak (R.l y v hy');intro val a b
  exact⟨val,a,b.mono (fun U h=>h) mono1⟩
section
variable {n:Nat}{R:aJ}(hy:∀ C c,Y.ci C=some c→eD Γ C c)(hcf:∀ {σ f vs kw r σ'},R.cf σ f vs kw=some (r,σ')→fnIn Γ.K f=true∧cg Γ n σ f vs kw r σ')
include hcf
theorem Lj(ok:eD Γ D ci)(h2:ci.init=some f)(h:Dx R σ D vs kw ci f=some (r,σ')):i6 Γ (n+3) σ (.cls D) vs kw r σ':=by
 apply b8 h;clear h;intro r0 σ1 h3 h;apply bV h;clear h;intro h4 h;apply fj (ok.init f h2);intro i1 i2 i3;apply bq (hcf h3);intro hf H;intro c A s m ls imm cs fval vals kwv Q E C Rp hv ha hk hk2 k;(obtain e:_=_:=VR.inv hv;subst e);refine wpAny_call (make_K Rp.F Rp.N (C.X.keeps Rp.F.keep) i3 i1 i2 ?_);intro x dx h' F' N' hlt hdx;have C':be Γ c (A.under (.builtin "type.__call__" ⟨.ref D::vals,kwv⟩)) n:=⟨C.B,C.X,C.T,C.k,C.fr,C.hd,(by have:=C.dp;show A.depth+1+n≤990;lia),(by have:=C.un;show A.units+1+4*n≤9800;lia)⟩;have mono1:∀ k a,ae (aj cs) k=some a→ae (aj (cs++[.inst x D dx [] 0])) k=some a:=fun k a h=>by rw[rn];exact xO h
 have mono0:∀ q∈imm,q∈imm:=fun U h=>h;have hlen:lenA σ=cs.length:=by rw[aR,Rp.C.len]
 have selfAt:ae (aj (cs++[.inst x D dx [] 0])) (lenA σ)=some x:=by rw[rn,hlen];have:=vF (aj cs) x;rwa [show (aj cs).length=cs.length from Zh ..] at this
 refine H C' (s:={s with heap:=h'}) (Rp.newC F' N' hlt hdx ok.cls) (.cons (.cell selfAt) (ha.mono mono0 mono1)) hk (hk2.mono mono0 mono1) ?_;intro h2 tk imm2 cs2 val R2 x2 q2;have x3:aD imm cs imm2 cs2:=⟨x2.i,fun k a h=>x2.r k a (mono1 k a h)⟩;have at2:=x2.r _ _ selfAt;refine⟨by induction r0 using AV.casesOn<;>first|(injection h4;done)|((obtain e:_=_:=VR.inv q2;subst e);rfl),?_⟩;cases hfz:ci.frozen with
 |false=>
  rw[hfz] at h;(apply j2 h;clear h;rintro rfl rfl);exact k h2 tk imm2 cs2 _ R2 x3 (.cell at2)
 |true=>
  rw[hfz] at h;apply lD (Oj h hlen R2 x3 at2 Rp.l);intro imm' cs' R' x' q';exact k h2 tk imm' cs' _ R' x' q'
include hy
theorem wg(hbf:∀ {σ v vs r σ'},bf Y σ v vs=some (r,σ')→vQ Γ (.bi v)∧i6 Γ (n+3) σ (.bi v) vs [] r σ')
  (h:ky Y R σ fv vs kw=some (r,σ')):vQ Γ fv∧i6 Γ (n+3) σ fv vs kw r σ'∧∀ f self,fv=.meth f self→fnIn Γ.K f=true∧cg Γ (n+3) σ f (self::vs) kw r σ':=by
 induction fv using AV.casesOn with
 |fn f=>
  apply bq (hcf h);intro hf H;refine⟨fun hv X U=>?_,fun C Rp hv ha hk hk2 k=>?_,nofun⟩
  ·(obtain e:_=_:=VR.inv hv;subst e)
   exact keeps_K (FG hf) _ X
  ·(obtain e:_=_:=VR.inv hv;subst e)
   exact wpAny_call (H (C.le (by lia)) Rp ha hk hk2 k)
 |meth f self=>
  apply bq (hcf h);intro hf H;refine⟨fun hv X hi=>?_,fun C Rp hv ha hk hk2 k=>?_,fun f' self' e=>by (injection e with e1 e2;subst e1;subst e2);exact⟨hf,H.le (by lia)⟩⟩
  ·obtain⟨_,_,e0,hm,hs⟩:=VR.inv hv;clear hv;subst e0;exact keeps_M hf _ ⟨hi _ hm,X⟩
  ·obtain⟨_,_,e0,hm,hs⟩:=VR.inv hv;clear hv;subst e0
   exact call_meth Rp.N (bn _ hm) (H (C.le (by lia)) Rp (.cons hs ha) hk hk2 k)
 |cls D=>
  apply aE (show ED Y R σ D vs kw=some (r,σ') from h);clear h;intro ci h1 h;apply aE h;clear h;intro f h2 h;have ok:=hy _ _ h1;refine⟨fun hv X U=>?_,Lj hcf ok h2 h,nofun⟩;(obtain e:_=_:=VR.inv hv;subst e);exact keeps_K (Wm (ok.init f h2).2.2) _ X
 |bi v=>
  apply bV (show Dt Y σ v vs kw=some (r,σ') from h);clear h;intro h1 h;induction kw using oL with
  |cons=>injection h1
  |nil=>exact⟨(hbf h).1,(hbf h).2,nofun⟩
 |_=>injection h
end
end
section
variable {Γ:aw}{β:Bd}{Y:Pi}
def Iq(pos:Pos)(ks:List Keyword)(c:Cx):backToKw pos (keywordEach ks c.env)=ks.map fun k=>(k.arg,do let v ←eval k.value c.env;standAt pos;pure v):=by
 induction ks with
 |nil=>rfl
 |cons k r ih=>
  have e:backToKw pos (keywordEach (k::r) c.env)=(k.arg,do let v ←eval k.value c.env;standAt pos;pure v)::backToKw pos (keywordEach r c.env):=by cases k;rfl
  rw[e,ih];rfl
def wQ(I:bu Γ n R)(h1:R.evs ls σ as=some (vs,σ1))(h2:R.evk ls σ1 ks=some (kw,σ2))
  {c A s m imm cs} {Q E:Θ} (C:be Γ c A n) (l:co c ls) (Rp:ao Γ c.h₀ c.L s.heap m ls.v σ imm cs)
  (hkeep:∀ h,Γ.K.In h→(∀ q∈imm,h.get? q.1=some q.2)→∃ k,(k=Keeper.frame∨k=Keeper.machine∨k=Keeper.boundFrame)∧Looks (model Γ.prog Γ.w) h (keeperOf f) k)
  (k:∀ h' tk imm' cs' vals kwv,ao Γ c.h₀ c.L h' m ls.v σ2 imm' cs'→aD imm cs imm' cs'→ar Γ imm' (aj cs') vals vs→kwv.map (·.1)=kw.map (·.1)→ar Γ imm' (aj cs') (kwv.map (·.2)) (kw.map (·.2))→wpAny (model Γ.prog Γ.w) A (call f (first++vals) kwv) Q E (sU s h' tk)) :
  wpAny (model Γ.prog Γ.w) A (callWith pos f first (backTo pos (starEach as c.env)) (backToKw pos (keywordEach ks c.env))) Q E s:=by
 apply bq (I.evs h1);intro n1 g1;apply bq (I.evk h2);intro n2 g2;rw[ul pos n1.1,Iq];have hall:((ks.map fun k=>(k.arg,do let v ←eval k.value c.env;standAt pos;pure v)):List (κ Str×Sem π)).all (·.1.isSome)=true:=by
  rw[List.all_map,List.all_eq_true];intro x hx;have:x.arg∈ks.map (·.arg):=Zi hx;rw[n2] at this;apply ak (eo this);intro q _ e;show x.arg.isSome=true;rw[←e];rfl
 have hnone:(((ks.map fun k=>(k.arg,do let v ←eval k.value c.env;standAt pos;pure v)):List (κ Str×Sem π)).any (·.1.isNone))=false:=by
  rw[List.any_eq_false];intro x hx;have:=aB hall x hx;cases hh:x.1<;>rw[hh] at this<;>simp_all
 have hstar:(kg as c).any (·.1)=false:=by rw[kg,List.any_map];exact List.any_eq_false.mpr fun U U=>(by simp)
 have names:((ks.map fun k=>(k.arg,do let v ←eval k.value c.env;standAt pos;pure v)):List (κ Str×Sem π)).filterMap (·.1)=kw.map (·.1):=by
  rw[List.filterMap_map];have:ks.filterMap ((fun x=>x.1) ∘ fun k=>(k.arg,(do let v ←eval k.value c.env;standAt pos;pure v:Sem π)))=(ks.map (·.arg)).filterMap id:=by rw[List.filterMap_map];rfl
  rw[this,n2,List.filterMap_map];induction kw with
  |nil=>rfl
  |cons a r _=>simp
 have trees:((ks.map fun k=>(k.arg,do let v ←eval k.value c.env;standAt pos;pure v)):List (κ Str×Sem π)).map (·.2)=AG pos ks c:=by rw[List.map_map];rfl
 have fin:∀ {s1:χ} {i1 c1 vals},s1=(sU s s1.heap s1.toks)→ao Γ c.h₀ c.L s1.heap m ls.v σ1 i1 c1→aD imm cs i1 c1→ar Γ i1 (aj c1) vals vs →
   wpAny (model Γ.prog Γ.w) A (evalAll (((ks.map fun k=>(k.arg,do let v ←eval k.value c.env;standAt pos;pure v)):List (κ Str×Sem π)).map (·.2)))
    (fun kv s2=>(Γ.K.In s2.heap∧∀ q∈imm,s2.heap.get? q.1=some q.2)∧wpAny (model Γ.prog Γ.w) A (call f (first++vals) ((((ks.map fun k=>(k.arg,do let v ←eval k.value c.env;standAt pos;pure v)):List (κ Str×Sem π)).filterMap (·.1)).zip kv)) Q E s2) E s1:=by
  intro s1 i1 c1 vals es R1 x1 q1;rw[trees,names];refine g2 pos C l R1 fun h2 t2 i2 c2 kv R2 x2 q2=>?_;have hl:(kw.map (·.1)).length=kv.length:=by have:=q2.len;simp at this ⊢;lia
  refine⟨⟨C.X.keeps R2.F.keep,fun q hq=>(R2.N q (bn _ (x2.i q (x1.i q hq)))).1⟩,?_⟩;have:=k h2 t2 i2 c2 vals ((kw.map (·.1)).zip kv) R2 (x1.trans x2) (q1.ext x2) (by rw[List.map_fst_zip];lia) (by rw[List.map_snd_zip];exact q2;lia);rw[es];exact this
 refine callWith_of (P:=fun h=>Γ.K.In h∧∀ q∈imm,h.get? q.1=some q.2) (by rw[hstar,hnone];rfl) (fun h hp=>hkeep h hp.1 hp.2) ?_;induction as using oL with
 |nil=>
  have e:vs=[]:=Zz n1.2.symm;subst e;refine Y6 (m:=spliced (kg [] c)) (f:=fun U=>evalArgs f true [] (ks.map fun k=>(k.arg,do let v ←eval k.value c.env;standAt pos;pure v))) (g1 C l Rp fun h1 t1 i1 c1 vals R1 x1 q1=>?_);(obtain e:_=_:=ar.inv q1;subst e);exact evalArgs_kw_nil hall (fin (s1:=sU s h1 t1) rfl R1 x1 .nil)
 |cons e r=>
  refine evalArgs_kw hall (g1 C l Rp fun h1 t1 i1 c1 vals R1 x1 q1=>?_);exact fin (s1:=sU s h1 t1) rfl R1 x1 q1
end
section
variable {Γ:aw}{β:Bd}{Y:Pi}
structure mt (Γ:aw) (n:Nat) (R:aJ):Prop where
 cf:∀ {σ f vs kw r σ'},R.cf σ f vs kw=some (r,σ')→fnIn Γ.K f=true∧cg Γ n σ f vs kw r σ'
 cl:∀ {σ fv vs kw r σ'},R.cl σ fv vs kw=some (r,σ')→vQ Γ fv∧i6 Γ n σ fv vs kw r σ'∧∀ f self,fv=.meth f self→fnIn Γ.K f=true∧cg Γ n σ f (self::vs) kw r σ'
def yJ(I:bu Γ n R)(J:mt Γ n R)
  (h:yn R ls σ x q as ks=some (r,σ')) :
  bM Γ n (fun c=>eval (.Call (.Name x q) as ks pos) c.env) ls σ r σ':=by
 apply b8 h;clear h;intro fv σ1 h1 h;apply b8 h;clear h;intro vs σ2 h2 h;apply b8 h;clear h;intro kw σ3 h3 h;apply fj (J.cl h);intro kp cv _;intro c A s m imm cs Q E C l Rp k;refine wpAny_Call_Name_kw (I.ev h1 C l Rp fun hx tx ix cx fval Rx xx qx=>?_);refine wQ I h2 h3 (s:=sU s hx tx) C l Rx (fun h X hi=>kp qx X hi) ?_;intro h' tk imm' cs' vals kwv R' x' v1 v2 v3;exact cv C (s:=sU s h' tk) R' (qx.ext x') v1 v2 v3 fun h2 t2 i2 c2 val R2 x2 q2=>k h2 t2 i2 c2 val R2 (xx.trans (x'.trans x2)) q2
def MW{n:Nat}{R:aJ}(I:bu Γ n R){ls:ag}{σ σ1:St}{as:List Expr}{vs:List AV}(h1:R.evs ls σ as=some (vs,σ1))
  {c A s m imm cs} {Q E:Θ} {pos:Pos} {id:String} {first:List π} (C:be Γ c A n) (l:co c ls) (Rp:ao Γ c.h₀ c.L s.heap m ls.v σ imm cs)
  (k:∀ h' tk imm' cs' vals,ao Γ c.h₀ c.L h' m ls.v σ1 imm' cs'→aD imm cs imm' cs'→ar Γ imm' (aj cs') vals vs→wpAny (model Γ.prog Γ.w) A (call (.builtin id) (first++vals) []) Q E (sU s h' tk)) :
  wpAny (model Γ.prog Γ.w) A (callWith pos (.builtin id) first (backTo pos (starEach as c.env)) []) Q E s:=by
 apply bq (I.evs h1);intro n1 g1;rw[ul pos n1.1];have hstar:(kg as c).any (·.1)=false:=by rw[kg,List.any_map];exact List.any_eq_false.mpr fun U U=>(by simp)
 refine callWith_of (P:=fun U=>True) (by rw[hstar];rfl) (fun h U=>⟨.machine,.inr (.inl rfl),.of_pure rfl⟩) ?_;induction as using oL with
 |nil=>
  have e:vs=[]:=Zz n1.2.symm;subst e;refine Y6 (m:=spliced (kg [] c)) (f:=fun U=>evalArgs (.builtin id) true [] []) (g1 C l Rp fun h1 t1 i1 c1 vals R1 x1 q1=>?_);(obtain e:_=_:=ar.inv q1;subst e);exact evalArgs_nil3 ⟨trivial,k h1 t1 i1 c1 [] R1 x1 .nil⟩
 |cons e r=>
  exact evalArgs_plain (g1 C l Rp fun h1 t1 i1 c1 vals R1 x1 q1=>⟨trivial,k h1 t1 i1 c1 vals R1 x1 q1⟩)
def uf(Γ:aw)(Y:Pi):Prop :=
 ∀ {σ ov x id},Cl Y σ ov x=some id →
  (∀ {c A s m ls imm cs va pl} {n:Nat} {Q:π×List π→χ→Prop} {E:Θ},be Γ c A n→ao Γ c.h₀ c.L s.heap m ls σ imm cs→VR Γ imm (aj cs) va ov→Q (.builtin id.id,[va]) s→wpAny (model Γ.prog Γ.w) A (getMethod va x pl) Q E s) ∧
  (∀ {σ vs r σ'},bm Y σ id ov vs=some (r,σ')→∀ {c A s m ls imm cs va vals} {n:Nat} {Q E:Θ},be Γ c A n→ao Γ c.h₀ c.L s.heap m ls σ imm cs→VR Γ imm (aj cs) va ov→ar Γ imm (aj cs) vals vs →
   (∀ h' tk imm' cs' val,ao Γ c.h₀ c.L h' m ls σ' imm' cs'→aD imm cs imm' cs'→VR Γ imm' (aj cs') val r→Q val (sU s h' tk))→wpAny (model Γ.prog Γ.w) A (call (.builtin id.id) (va::vals) []) Q E s)
def Gm(Γ:aw)(n:Nat)(ls:ag)(σ1:St)(ov:AV)(x:Str)(as:List Expr)(ks:List Keyword)(pos:Pos)(r:AV)(σ':St):Prop :=
 ∀ {c A s m imm cs va pl} {Q E:Θ},be Γ c A n→co c ls→ao Γ c.h₀ c.L s.heap m ls.v σ1 imm cs→VR Γ imm (aj cs) va ov →
  (∀ h' tk imm' cs' x,ao Γ c.h₀ c.L h' m ls.v σ' imm' cs'→aD imm cs imm' cs'→VR Γ imm' (aj cs') x r→Q x (sU s h' tk)) →
  wpAny (model Γ.prog Γ.w) A (getMethod va x pl) (fun fx s2=>wpAny (model Γ.prog Γ.w) A (callWith pos fx.1 fx.2 (backTo pos (starEach as c.env)) (backToKw pos (keywordEach ks c.env))) Q E s2) E s
section
variable {n:Nat}{R:aJ}{ls:ag}{x:Str}{pos:Pos}{as:List Expr}{ks:List Keyword}{r:AV}
def Ie(I:bu Γ n R){σ σ1 σ':St}{o:Expr}{apos:Pos}{ov:AV}(h0:(mA o&&apos.endLine.beq pos.line&&Nat.blt (lenA as+lenA ks+1) 30)=true)(h1:R.ev ls σ o=some (ov,σ1))
  (n1:∀ e∈as,gU e=true) (n2:∀ y∈ks,y.arg.isSome=true) (hm:Gm Γ n ls σ1 ov x as ks pos r σ'):bM Γ n (fun c=>eval (.Call (.Attribute o x apos) as ks pos) c.env) ls σ r σ':=by
 simp only [Y9] at h0;obtain⟨⟨g1,g2⟩,g3⟩:=h0;replace g2:=bg g2;replace g3:=dX g3;rw[aR,aR] at g3;intro c A s m imm cs Q E C l Rp k;have form:methodCallForm (as.length+ks.length) (backTo pos (starEach as c.env)) (backToKw pos (keywordEach ks c.env))=true:=by
  rw[ul pos n1,Iq];unfold methodCallForm;simp only [Y9,List.all_map,List.all_eq_true,decide_eq_true_eq];refine⟨⟨fun U U=>rfl,fun y hy=>n2 y hy⟩,?_⟩
  split<;>lia
 show wpAny _ _ (do
  let ov ←attributeBase o x c.env (eval o c.env)
  standAt apos.atName
  methodCall o x apos pos c.env ov (as.length+ks.length) (backTo pos (starEach as c.env)) (backToKw pos (keywordEach ks c.env))) _ _ _
 rw[DD g1];refine Y6 (I.ev h1 C l Rp fun hx tx ix cx va Rx xx qx=>Y6 (Zj ?_));unfold methodCall;rw[form];have hpos:methodCallPos true o c.env apos pos=pure pos:=by
  unfold methodCallPos;rw[if_pos (by simp [g2])]
 refine Y6 (Ze (ZF (hm C l (s:=sU s hx tx) Rx qx fun h' tk i' c' v R' x' q'=>k h' tk i' c' v R' (xx.trans x') q') (fun fx s2 h2=>?_) fun U U z=>z));show wpAny _ _ (methodCallPos true o c.env apos pos >>= fun callPos=>callWith callPos fx.1 fx.2 _ _) _ _ _;rw[hpos];exact Y6 (Y8 h2)
def Ru(h:GF v=true):∃ f self,v=.meth f self:=by induction v using AV.casesOn<;>first|exact⟨_,_,rfl⟩|injection h
def Iv(I:bu Γ n R)(J:mt Γ n R){ov:AV}(i1:R.evs ls σ1 as=some (vs,σ2))(i2:R.evk ls σ2 ks=some (kw,σ3))(h:R.cl σ3 (.meth f self) vs kw=some (r,σ'))
  {s:χ} {Q E:Θ} (C:be Γ c A n) (l:co c ls) (Rx:ao Γ c.h₀ c.L s.heap m ls.v σ1 imm cs)
  (hI:InstAt s.heap b (instObj D d) D (some (dictOf es n'))) (hf:aX Γ imm (aj cs) es fs) (hp:∀ q∈fs,findIn Γ.K (.ref D) q.1=some none) (hc:ji Γ D) (z:lk x fs=some (.meth f self))
  (k:∀ h' tk imm' cs' x,ao Γ c.h₀ c.L h' m ls.v σ' imm' cs'→aD imm cs imm' cs'→VR Γ imm' (aj cs') x r→Q x (sU s h' tk)) :
  wpAny (model Γ.prog Γ.w) A (getMethod (.ref b) x pl) (fun fx s2=>wpAny (model Γ.prog Γ.w) A (callWith pos fx.1 fx.2 (backTo pos (starEach as c.env)) (backToKw pos (keywordEach ks c.env))) Q E s2) E s:=by
 apply fj (J.cl h);intro kp cv cm;have g:=hf.get (x:=x);rw[z] at g;apply ak g;intro val g1 g2;have pg:=plainGet_of hc.ga;refine method_usual (C.X.keeps Rx.F.keep) hI pg.1 pg.2 (hp _ (ja z)) rfl ?_;refine get_own Rx.F C.X hI hc.ga hc.hd (hp _ (ja z)) rfl g1 (zP g2 rfl) ?_;refine wQ I i1 i2 C l (s:={s with toks:=s.toks+1}) Rx (fun h X hi=>kp g2 X hi) ?_;intro h' tk imm' cs' vals kwv R' x' v1 v2 v3;exact cv C (s:=sU s h' tk) R' (g2.ext x') v1 v2 v3 fun h2 t2 i2 c2 val R2 x2 q2=>k h2 t2 i2 c2 val R2 (x'.trans x2) q2
def NQ(hy:∀ C c,Y.ci C=some c→eD Γ C c)(I:bu Γ n R)(J:mt Γ n R){σ1 σ':St}{ov fv:AV}(hg:ka Y σ1 ov x=some fv)(h:rM R ls σ1 fv as ks=some (r,σ')) :
  ((∀ e∈as,gU e=true)∧∀ y∈ks,y.arg.isSome=true)∧Gm Γ n ls σ1 ov x as ks pos r σ':=by
 apply bV h;clear h;intro i0 h;apply b8 h;clear h;intro vs σ2 i1 h;apply b8 h;clear h;intro kw σ3 i2 h;apply qX (Ru i0);intro f self e0;subst e0;refine⟨⟨(I.evs i1).1.1,fun y hy=>?_⟩,?_⟩
 ·have n2:=(I.evk i2).1
  have:y.arg∈ks.map (·.arg):=Zi hy;rw[n2] at this;apply ak (eo this);intro q _ e;rw[←e];rfl
 intro c A s m imm cs va pl Q E C l Rx qx k;induction ov using AV.casesOn with
 |cell i=>
  apply b8 (show zf Y σ1 i x=some (.meth f self) from hg);clear hg;intro D fs e1 hg;apply ak qx.cell_inv;intro a e0 ha;subst e0;apply d5 (Rx.C.cell ha (rZ e1));intro d pre post e0 ll e2 cr;subst e0;apply ni cr.inst_inv;intro b d es n' e0 hf hp hc;subst e0;(obtain e:=CC.same e2;subst e);have hI:InstAt s.heap b (instObj D d) D (some (dictOf es n')):=InstAt.of_news Rx.N (Rx.has (d:=.inst b D d es n') (.head _)) (Rx.has (d:=.inst b D d es n') (.tail _ (.head _)));dsimp only at hf hp;cases z:lk x fs with
  |some u=>
   rw[z] at hg;apply bV hg;clear hg;intro h1 hg;(apply j1 hg;clear hg;rintro rfl);exact Iv I J i1 i2 h (ov:=.cell i) C l Rx hI hf hp hc z k
  |none=>
   rw[z] at hg;apply aE hg;clear hg;intro ci h1 hg;have ok:=hy _ _ h1;unfold tq at hg;cases z2:lk x ci.meths with
   |some f'=>
    rw[z2] at hg;(injection hg with e;injection e with e1 e2;symm at e1;subst e1;symm at e2;subst e2);apply lX (ok.meths x f z2);intro m1 m2 m3 m4 m5 m6;apply bq ((J.cl h).2.2 f _ rfl);intro hf1 hrun;refine method_inst Rx.F C.X hI hc.ga m1 m2 (hf.miss z) ?_;refine wQ I i1 i2 C l Rx (fun h X hi=>keeps_K (FG hf1) h X) ?_;intro h' tk imm' cs' vals kwv R' x' v1 v2 v3;exact wpAny_call (hrun C (s:=sU s h' tk) R' (.cons (qx.ext x') v1) v2 v3 fun h2 t2 i2 c2 val R2 x2 q2=>k h2 t2 i2 c2 val R2 (x'.trans x2) q2)
   |none=>
    rw[z2] at hg;apply CF (ok.consts x _ hg);intro a c1 c2 c3 c4 c5;apply lD ((c5 [] []).inv);intro _ _ _ hm _;exact(Zp hm).elim
 |obj D fs=>
  apply aE (show BC fs x=some (.meth f self) from hg);clear hg;intro u e1 hg;apply bV hg;clear hg;intro h1 hg;(apply j1 hg;clear hg;rintro rfl);apply qR qx.obj_inv;intro a d es n' e0 j1 j2 hf hp hc;subst e0;exact Iv I J i1 i2 h (ov:=.obj D fs) C l Rx (InstAt.of_news Rx.N (bn _ j1) (bn _ j2)) hf hp hc e1 k
 |_=>injection hg
def WW(hbm:uf Γ Y)(I:bu Γ n R){σ1 σ':St}{ov:AV}(h:pV Y R ls σ1 ov x as ks=some (r,σ')) :
  ((∀ e∈as,gU e=true)∧∀ y∈ks,y.arg.isSome=true)∧Gm Γ n ls σ1 ov x as ks pos r σ':=by
 apply aE h;clear h;intro id i0 h;apply b8 h;clear h;intro vs σ2 i1 h;apply bV h;clear h;intro i2 h;have hks:ks=[]:=by induction ks using oL with|nil=>rfl|cons=>injection i2
 subst hks;apply bq (hbm i0);intro gm cb;refine⟨⟨(I.evs i1).1.1,fun U q=>(nomatch q)⟩,?_⟩;intro c A s m imm cs va pl Q E C l Rx qx k;refine gm C Rx qx ?_;refine MW I i1 C l Rx ?_;intro h' tk imm' cs' vals R' x' v1;exact cb h C (s:=sU s h' tk) R' (qx.ext x') v1 fun h2 t2 i2 c2 val R2 x2 q2=>k h2 t2 i2 c2 val R2 (x'.trans x2) q2
def Av(hy:∀ C c,Y.ci C=some c→eD Γ C c)(hbm:uf Γ Y)(I:bu Γ n R)(J:mt Γ n R){σ σ':St}{o:Expr}{apos:Pos}(h:vH Y R ls σ o x apos as ks pos=some (r,σ')) :
  bM Γ n (fun c=>eval (.Call (.Attribute o x apos) as ks pos) c.env) ls σ r σ':=by
 apply bV h;clear h;intro h0 h;apply b8 h;clear h;intro ov σ1 h1 h;cases hg:ka Y σ1 ov x with
 |some fv=>
  rw[hg] at h;obtain⟨⟨n1,n2⟩,g⟩:=NQ hy I J hg h;exact Ie I h0 h1 n1 n2 g
 |none=>
  rw[hg] at h;obtain⟨⟨n1,n2⟩,g⟩:=WW hbm I h;exact Ie I h0 h1 n1 n2 g
end
end
section
variable {Γ:aw}{β:Bd}{Y:Pi}
def uL:∀ {A:Δ},((A++(d,o)::B).map Prod.fst).Nodup→Upd d o o' (A++(d,o)::B) (A++(d,o')::B):=by
 intro L0;induction L0 with
 |nil=>
  intro h;replace h:=Zx.mp h;exact .head fun p hp e=>h.1 (ZN.mpr ⟨p,hp,e⟩)
 |cons q A ih=>
  intro h;replace h:=Zx.mp h;refine .tail (fun e=>h.1 ?_) (ih h.2);rw[e];exact ZN.mpr ⟨(d,o),dU _ (.head _),rfl⟩
def ao.put{d d':CC}(R:ao Γ h₀ L h m ls σ imm (pre++d::post))(ha:d'.addr=d.addr)(hf:d'.objs.map Prod.fst=d.objs.map Prod.fst)
  (F:Fr h₀ L h' m) (N:News h₀ L h' (imm++aG (pre++d'::post))) (hc:CR Γ imm (aj (pre++d::post)) d' y):ao Γ h₀ L h' m ls (cC σ pre.length y) imm (pre++d'::post):=by
 refine⟨F,N,?_,?_,?_⟩
 ·have:=R.nd
  rw[nj,Zb,Zb,Zb] at this ⊢;rw[hf];exact this
 ·rw[tC pre post d d' ha]
  exact R.C.set hc
 ·intro x v hx
  rw[tC pre post d d' ha];exact R.l x v hx
def aD.put(imm:Δ)(pre post:List CC)(d d':CC)(ha:d'.addr=d.addr):aD imm (pre++d::post) imm (pre++d'::post):=⟨fun U h=>h,fun k a h=>by rw[tC pre post d d' ha];exact h⟩
def aX.put(hv:VR Γ imm ρ v y)(hf:aX Γ imm ρ es fs):aX Γ imm ρ (putL x hsh (.str x tk) v es) (Mine.put x y fs):=by
 induction hf using aX.ind with
 |nil=>exact .cons hv .nil
 |@cons h t n v' y' es fs a g ih=>
  unfold putL;rw[Bj]
  by_cases q:n=x
  ·subst q
   rw[if_pos (by simp [Value.isStr]),if_pos rfl];exact .cons hv g
  ·rw[if_neg (by simp [Value.isStr,q]),if_neg q]
   exact .cons a ih
def SE(x:Str)(hsh:Int)(key v:π):∀ es:List DictEntry,(putL x hsh key v es).length≤es.length+1:=by
 intro L0;induction L0 with
 |nil=>
  exact Zc _
 |cons e r ih=>
  unfold putL
  split
  ·simp
  ·have:=ih
   simp;lia
def aX.len(h:aX Γ imm ρ es fs):es.length=fs.length:=by
 induction h using aX.ind with
 |nil=>rfl
 |cons _ _ ih=>exact congrArg (·+1) ih
def V0:∀ {fs:List (Str×AV)},q∈Mine.put x y fs→q.1=x∨q∈fs∨∃ q'∈fs,q'.1=q.1:=by
 intro L0;induction L0 with
 |nil=>
  intro h;rcases bk h with rfl|h;exact .inl rfl;cases h
 |cons x0 fs ih=>
  obtain⟨z,u⟩:=x0;intro h;rw[Bj] at h
  by_cases e:z=x
  ·rw[if_pos e] at h
   rcases bk h with rfl|h
   ·exact .inl e
   ·exact .inr (.inl (.tail _ h))
  ·rw[if_neg e] at h
   rcases bk h with rfl|h
   ·exact .inr (.inl (.head _))
   ·rcases ih h with e|e|⟨q',e1,e2⟩
    ·exact .inl e
    ·exact .inr (.inl (.tail _ e))
    ·exact .inr (.inr ⟨q',.tail _ e1,e2⟩)
def CY(hy:∀ C c,Y.ci C=some c→eD Γ C c)(h:zx Y σ k x v=some σ'){s:χ}
  {Q:Unit→χ→Prop} {E:Θ} (C:be Γ c A n) (R:ao Γ c.h₀ c.L s.heap m ls σ imm cs) (ho:VR Γ imm (aj cs) va (.cell k)) (hv:VR Γ imm (aj cs) val v)
  (kk:∀ h' tk imm' cs',ao Γ c.h₀ c.L h' m ls σ' imm' cs'→aD imm cs imm' cs'→Q () (sU s h' tk)):wpAny (model Γ.prog Γ.w) A (setAttr va x val) Q E s:=by
 apply b8 h;clear h;intro D fs e1 h;apply bV h;clear h;intro hcan h;apply bV h;clear h;intro hz h;(apply j1 h;clear h;rintro rfl);apply ak ho.cell_inv;intro a e0 ha;subst e0;apply d5 (R.C.cell ha (rZ e1));intro d pre post e0 l e2 cr;subst e0;apply ni cr.inst_inv;intro b d es n' e0 hf hp hc;subst e0;(obtain e:=CC.same e2;subst e);dsimp only at hf hp hc;have hx:findIn Γ.K (.ref D) x=some none∧takerIn Γ.K D x=some none:=by
  unfold Di at hcan;cases z:lk x fs with
  |some v'=>
   have:=hp _ (ja z);exact⟨this,by unfold takerIn;rw[this];rfl⟩
  |none=>
   rw[z] at hcan;cases q1:Y.ci D with
   |none=>rw[q1] at hcan;injection hcan
   |some ci=>rw[q1] at hcan;exact(hy _ _ q1).flds x hcan
 replace hz:=dX hz;rw[aR] at hz;have hl:(getL x es).isSome=true:=by
  have:=hf.get (x:=x);cases z:lk x fs with
  |some v'=>rw[z] at this;obtain⟨val,g1,_⟩:=this;rw[g1];rfl
  |none=>rw[hf.miss z];rfl
 have I:=InstAt.of_news R.N (R.has (d:=.inst b D d es n') (.head _)) (R.has (d:=.inst b D d es n') (.tail _ (.head _)));have e:∀ z:List DictEntry×Nat,imm++aG (pre++CC.inst b D d z.1 z.2::post)=(imm++aG pre++[(b,instObj D d)])++(d,dictOf z.1 z.2)::aG post:=fun z=>by rw[nj];simp [CC.objs]
 have N:=R.N;have nd:=R.nd;rw[e (es,n')] at N nd;refine set_dict (es':=putL x (PyData.keyHash Γ.w.params x) (.str x (s.toks+1)) val es) (n':=putN x es n') R.F C.X N I rfl hc.sa hc.po hx.2 hc.hd hl rfl (uL nd) (by have:=SE x (PyData.keyHash Γ.w.params x) (.str x (s.toks+1)) val es;have:=hf.len;lia) ?_;intro h' F' N';refine kk h' _ imm (pre++CC.inst b D d (putL x (PyData.keyHash Γ.w.params x) (.str x (s.toks+1)) val es) (putN x es n')::post) ?_ (aD.put imm pre post _ _ rfl);rw[←l];refine R.put rfl rfl F' (by rw[e (putL x (PyData.keyHash Γ.w.params x) (.str x (s.toks+1)) val es,putN x es n')];exact N') (.inst (hf.put hv) (fun q hq=>?_) hc);rcases V0 hq with e|e|⟨q',e1,e2⟩
 ·rw[e];exact hx.1
 ·exact hp q e
 ·rw[←e2];exact hp q' e1
end
section
variable {Γ:aw}{β:Bd}{Y:Pi}
def zW{R:Result→χ→Prop}
  (h:wpAny (model Γ.prog Γ.w) A (isTrue test env (eval test env)) (fun b s₂=>
   if b then wpAny (model Γ.prog Γ.w) A (execs body env) (fun f s₃=>match f with
    |.next|.cont=>codeAny (model Γ.prog Γ.w) A (.whileLoop test body orelse env) R s₃
    |.brk=>R (.ok .next) s₃
    |.ret v=>R (.ok (.ret v)) s₃) (notedBy (model Γ.prog Γ.w) A env fun e s'=>R (.error e) s') s₂
   else wpAny (model Γ.prog Γ.w) A (execs orelse env) (fun f s₃=>R (.ok f) s₃) (notedBy (model Γ.prog Γ.w) A env fun e s'=>R (.error e) s') s₂)
   (notedBy (model Γ.prog Γ.w) A env fun e s'=>R (.error e) s') s):codeAny (model Γ.prog Γ.w) A (.whileLoop test body orelse env) R s:=by
 refine codeAny_of_tree ?_;show wpAny _ A ((whileTurn test body orelse env).onRaise (fun x=>do noteFrame x env;theTreesLotGoes x)) _ _ s;refine wpAny_noted ?_;simp only [whileTurn];refine Y6 (ZF h (fun b s₂ h₂=>?_) fun U U h'=>h');induction b using oB with
 |true=>
  refine Y6 (ZF h₂ (fun f s₃ h₃=>?_) fun U U h'=>h');cases f with
  |next=>exact Y8 ⟨rfl,h₃⟩
  |cont=>exact Y8 ⟨rfl,h₃⟩
  |brk=>exact Y8 h₃
  |ret v=>exact Y8 h₃
 |false=>exact Y6 (ZF h₂ (fun f s₃ h₃=>Y8 h₃) fun U U h'=>h')
def mG{R:Result→χ→Prop}
  (h:wpAny (model Γ.prog Γ.w) A (pyNext it) (fun r s₁=>match r with
   |none=>wpAny (model Γ.prog Γ.w) A (execs orelse env) (fun f s₃=>R (.ok f) s₃) (notedBy (model Γ.prog Γ.w) A env fun e s'=>R (.error e) s') s₁
   |some v=>wpAny (model Γ.prog Γ.w) A (letOwnedTupleGo target it v) (fun U s₂=>wpAny (model Γ.prog Γ.w) A (assign target env v) (fun U s₂=>wpAny (model Γ.prog Γ.w) A (execs body env) (fun f s₃=>match f with
    |.next|.cont=>codeAny (model Γ.prog Γ.w) A (.forLoop target it body orelse env) R s₃
    |.brk=>R (.ok .next) s₃
    |.ret v=>R (.ok (.ret v)) s₃) (notedBy (model Γ.prog Γ.w) A env fun e s'=>R (.error e) s') s₂) (notedBy (model Γ.prog Γ.w) A env fun e s'=>R (.error e) s') s₂) (notedBy (model Γ.prog Γ.w) A env fun e s'=>R (.error e) s') s₁)
   (notedBy (model Γ.prog Γ.w) A env fun e s'=>R (.error e) s') s):codeAny (model Γ.prog Γ.w) A (.forLoop target it body orelse env) R s:=by
 refine codeAny_of_tree ?_;show wpAny _ A ((forTurn target it body orelse env).onRaise (fun x=>do noteFrame x env;theTreesLotGoes x)) _ _ s;refine wpAny_noted ?_;simp only [forTurn];refine Y6 (Zj (Y6 (wpAny_onRaise (ZF h (fun r s₁ h₁=>?_) fun U U h'=>Zj h'))));induction r using oO with
 |none=>exact Y8 ⟨rfl,codeAny_block h₁⟩
 |some v=>
  refine Y6 (ZF h₁ (fun U s₂ h₂=>?_) fun U U h'=>h');refine Y6 (ZF h₂ (fun U s₂ h₂=>Y6 (ZF h₂ (fun f s₃ h₃=>?_) fun U U h'=>h')) fun U U h'=>h');cases f with
  |next=>exact Y8 ⟨rfl,h₃⟩
  |cont=>exact Y8 ⟨rfl,h₃⟩
  |brk=>exact Y8 h₃
  |ret v=>exact Y8 h₃
def zn{α:Type}(Γ:aw)(n:Nat)(t:Cx→α→Sem Unit)(P:Δ→List CC→α→Prop)(ls:ag)(σ:St)(ls':ag)(σ':St):Prop :=
 ∀ {c A s m imm cs x} {Q:Unit→χ→Prop} {E:Θ},be Γ c A n→co c ls→ao Γ c.h₀ c.L s.heap m ls.v σ imm cs→P imm cs x →
  (∀ h' tk m' imm' cs',ao Γ c.h₀ c.L h' m' ls'.v σ' imm' cs'→co c ls'→aD imm cs imm' cs'→Q () (sU s h' tk))→wpAny (model Γ.prog Γ.w) A (t c x) Q E s
def ao.store{h₀ h h':Heap}(R:ao Γ h₀ L h m ls σ imm cs)(hv:VR Γ imm (aj cs) val v)
  (hn:h'.Ns L (fun y=>if y=x then some val else m y)) (hs:Heap.SameBut L h h'):ao Γ h₀ L h' (fun y=>if y=x then some val else m y) (Mine.put x v ls) σ imm cs:=by
 refine⟨R.F.set hn hs,R.N.set hs,R.nd,R.C,fun y u hy=>?_⟩;rw[E8] at hy
 by_cases e:y=x
 ·rw[if_pos e] at hy
  (apply j1 hy;clear hy;rintro rfl);exact⟨val,if_pos e,hv⟩
 ·rw[if_neg e] at hy
  apply ak (R.l y u hy);intro val' a b;exact⟨val',by rw[if_neg e];exact a,b⟩
def GI(h:AA ls x v=some ls'){s:χ}{Q:Unit→χ→Prop}{E:Θ}
  (C:be Γ c A n) (l:co c ls) (R:ao Γ c.h₀ c.L s.heap m ls.v σ imm cs) (hv:VR Γ imm (aj cs) val v)
  (k:∀ h' tk m',ao Γ c.h₀ c.L h' m' ls'.v σ imm cs→co c ls'→Q () (sU s h' tk)):wpAny (model Γ.prog Γ.w) A (storeName c.env x val) Q E s:=by
 apply bV h;clear h;intro h1 h;(apply j1 h;clear h;rintro rfl);have hk:c.cs.names.lookup x=some .local:=by
  rw[l.sc] at h1;exact AY h1
 apply nJ c.parts;intro p1 p2 p3 p4;refine wpAny_storeName_local (m:=m) (by unfold Env.kindOf;rw[p1];exact hk) (by rw[p2];exact R.F.ns) (fun h' hn hs=>?_) (by rw[p1,C.k];rfl);rw[p2] at hn hs;refine k h' _ _ (R.store hv hn hs) ⟨l.sc,fun y u hy=>?_,l.nd⟩;replace hy:lk y (Mine.put x v ls.v)=some u:=hy;rw[E8] at hy
 by_cases e:y=x
 ·rw[e];exact hk
 ·rw[if_neg e] at hy;exact l.lo y u hy
abbrev jM (Γ:aw) (n:Nat) (t:Cx→π→Sem Unit) (v:AV) (ls:ag) (σ:St) (ls':ag) (σ':St):Prop:=zn Γ n t (EH Γ v) ls σ ls' σ'
structure gW (Γ:aw) (n:Nat) (R:aJ):Prop where
 exs:∀ {ls σ ss f ls' σ'},R.exs ls σ ss=some (f,ls',σ')→bj Γ n (fun c=>execs ss c.env) ls σ f ls' σ'
 ex:∀ {ls σ st f ls' σ'},R.ex ls σ st=some (f,ls',σ')→bj Γ n (fun c=>exec st c.env) ls σ f ls' σ'
 asg:∀ {ls σ v t ls' σ'},R.asg ls σ v t=some (ls',σ')→jM Γ n (fun c=>assign t c.env) v ls σ ls' σ'
 asgs:∀ {ls σ vs ts ls' σ'},R.asgs ls σ vs ts=some (ls',σ')→(∀ t∈ts,gU t=true)∧ts.length=vs.length∧zn Γ n (fun c vals=>assignInOrder (ts.map fun t=>assign t c.env) vals) (nX Γ vs) ls σ ls' σ'
 asgm:∀ {ls σ v ts ls' σ'},R.asgm ls σ v ts=some (ls',σ')→(∀ t∈ts,gU t=true)∧jM Γ n (fun c val=>assignAll val (ts.map fun t=>assign t c.env)) v ls σ ls' σ'
 wh:∀ {ls σ t b f ls' σ'},R.wh ls σ t b=some (f,ls',σ')→∀ {c A s m imm cs} {Rq:Result→χ→Prop},be Γ c A n→co c ls→ao Γ c.h₀ c.L s.heap m ls.v σ imm cs →
  (∀ h' tk m' imm' cs' fl,ao Γ c.h₀ c.L h' m' ls'.v σ' imm' cs'→co c ls'→aD imm cs imm' cs'→FR Γ imm' cs' fl f→Rq (.ok fl) (sU s h' tk))→codeAny (model Γ.prog Γ.w) A (.whileLoop t b [] c.env) Rq s
def LW(S:gW Γ n R)(h:zm Y R ls σ ss=some (f,ls',σ')):bj Γ n (fun c=>execs ss c.env) ls σ f ls' σ':=by
 unfold zm at h;induction ss using oL with
 |nil=>
  (apply j3 h;rintro rfl rfl rfl);intro c A s m imm cs Q E C l Rp k;exact wpAny_execs_nil (k s.heap s.toks m imm cs _ Rp l (aD.refl ..) .next)
 |cons st r=>
  apply xc h;clear h;intro f1 ls1 σ1 h1 h;intro c A s m imm cs Q E C l Rp k;refine ZM (S.ex h1 C l Rp fun hx tx mx ix cx fl Rx lx xx fx=>?_);induction f1 using Fl.casesOn with
  |next=>
   (obtain e:_=_:=FR.inv fx;subst e);exact S.exs h C lx (s:=sU s hx tx) Rx fun h2 t2 m2 i2 c2 fl R2 l2 x2 f2=>k h2 t2 m2 i2 c2 fl R2 l2 (xx.trans x2) f2
  |ret v=>(apply j3 h;rintro rfl rfl rfl);obtain⟨_,e0,hv⟩:=FR.inv fx;clear fx;subst e0;exact k hx tx mx ix cx _ Rx lx xx (.ret hv)
def VY(I:bu Γ n R)(S:gW Γ n R)(h:Hm Y R ls σ t b=some (f,ls',σ')) :
  ∀ {c A s m imm cs} {Rq:Result→χ→Prop},be Γ c A n→co c ls→ao Γ c.h₀ c.L s.heap m ls.v σ imm cs →
  (∀ h' tk m' imm' cs' fl,ao Γ c.h₀ c.L h' m' ls'.v σ' imm' cs'→co c ls'→aD imm cs imm' cs'→FR Γ imm' cs' fl f→Rq (.ok fl) (sU s h' tk))→codeAny (model Γ.prog Γ.w) A (.whileLoop t b [] c.env) Rq s:=by
 intro c A s m imm cs Rq C l Rp k;apply b8 h;clear h;intro q σ1 h1 h;refine zW (I.tst h1 C l Rp fun hx tx ix cx x Rx xx qx=>?_);cases qx;induction q using oB with
 |false=>
  (apply j3 h;rintro rfl rfl rfl);exact wpAny_execs_nil (k hx tx m ix cx _ Rx l xx .next)
 |true=>
  apply xc h;clear h;intro f1 ls1 σ2 h2 h;refine S.exs h2 C l (s:=sU s hx tx) Rx fun hy ty my iy cy fl Ry ly xy fy=>?_;have again:R.wh ls1 σ2 t b=some (f,ls',σ')→codeAny (model Γ.prog Γ.w) A (.whileLoop t b [] c.env) Rq (sU s hy ty):=fun h=>
   S.wh h C ly (s:=sU s hy ty) Ry fun h2 t2 m2 i2 c2 fl R2 l2 x2 f2=>k h2 t2 m2 i2 c2 fl R2 l2 (xx.trans (xy.trans x2)) f2
  induction f1 using Fl.casesOn with
  |next=>(obtain e:_=_:=FR.inv fy;subst e);exact again h
  |ret v=>(apply j3 h;rintro rfl rfl rfl);obtain⟨_,e0,hv⟩:=FR.inv fy;clear fy;subst e0;exact k hy ty my iy cy _ Ry ly (xx.trans xy) (.ret hv)
end
section
variable {Γ:aw}{β:Bd}{Y:Pi}
def zD(Γ:aw):Prop :=
 ∀ {σ k xs iv j pl v},ae σ k=some (.list xs)→j4 iv=some j→dh (lenA xs) j=some pl →
  ∀ {c A s m ls imm cs va vi val} {n:Nat} {Q:Unit→χ→Prop} {E:Θ},be Γ c A n→ao Γ c.h₀ c.L s.heap m ls σ imm cs→VR Γ imm (aj cs) va (.cell k)→VR Γ imm (aj cs) vi iv→VR Γ imm (aj cs) val v →
   (∀ h' tk cs',ao Γ c.h₀ c.L h' m ls (cC σ k (.list (cC xs pl v))) imm cs'→aD imm cs imm cs'→Q () (sU s h' tk))→wpAny (model Γ.prog Γ.w) A (setItem va vi val) Q E s
def Hh(he:Γ.ε.Ok)(hb:aV β Γ.ε)(ho:A9 op=true)(h:nu β op a b=some r):iY Γ (inplaceOp op) a b r:=by
 cases op with
 |Add=>
  induction a using AV.casesOn with
  |int x=>
   apply aE (show (ob (eU b) fun y=>some (AV.int (x.add y)))=some r from h);intro y h1 h;(obtain e:=gP h1;subst e);(apply j1 h;rintro rfl);exact XB
  |str x=>
   apply aE (show (ob (kB b) fun y=>fu β (x.app y))=some r from h);intro y h1 h;(obtain e:=nw h1;subst e);exact VQ he hb h
  |_=>injection h
 |Sub=>
  apply aE (show AM a b=some r from h);intro x h1 h;apply aE h;intro y h2 h;(obtain e:=gP h1;subst e);(obtain e:=gP h2;subst e);(apply j1 h;rintro rfl);exact O2
 |_=>injection ho
def oQ{c:Cx}:(∀ t∈ts,gU t=true)→assignEach ts c.env=ts.map fun t=>(false,assign t c.env):=by
 induction ts with
 |nil=>intro _;rfl
 |cons t r ih=>
  intro h;have e:assignEach (t::r) c.env=(false,assign t c.env)::assignEach r c.env:=by
   have:=h t (.head _);induction t using PySem.Expr.casesOn<;>first|rfl|(exact Bool.noConfusion (show false=true from this))
  rw[e,ih fun x hx=>h x (.tail _ hx)];rfl
section
variable {n:Nat}{R:aJ}{ls:ag}{σ:St}{v:AV}{pos:Pos}
def Kw:OB (Ho ls σ v x) fun q=>jM Γ n (fun c=>assign (.Name x pos) c.env) v ls σ q.1 q.2 :=
 OB.ob fun ls1 h1=>OB.pure fun {c A s m imm cs val Q E} C l Rp hv k=>wpAny_assign_Name (GI h1 C l Rp hv fun h' tk m' R' l'=>k h' tk m' imm cs R' l' (aD.refl ..))
def K2(hy:∀ C c,Y.ci C=some c→eD Γ C c)(I:bu Γ n R):OB (Dw Y R ls σ v o x) fun q=>jM Γ n (fun c=>assign (.Attribute o x pos) c.env) v ls σ q.1 q.2 :=
 OB.obp fun ov σ1 h1=>OB.ob fun kk h2=>OB.ob fun σ2 h3=>OB.pure fun {c A s m imm cs val Q E} C l Rp hv k=>by
  (obtain e:=jK h2;subst e);show wpAny _ _ (do let ov ←holding [val] (eval o c.env);standAt pos.atName;holding [val,ov] (setAttr ov x val);release [val,ov] []) _ _ _;refine Y6 (Ze (I.ev h1 C l Rp fun hx tx ix cx va Rx xx qx=>Y6 (Zj (Y6 (Ze ?_)))));refine CY hy h3 (s:=sU s hx tx) C Rx qx (hv.ext xx) fun h' tk i2 c2 R2 x2=>wpAny_release ?_;exact k h' tk m i2 c2 R2 l (xx.trans x2)
theorem El{E:Θ}(hne:l≠it):∀ (n i:Nat) (s:χ) (Q:List π→χ→Prop),s.heap.IsListIter it l i→s.heap.IsList l items→i+n≤items.size →
  (∀ h',h'.IsListIter it l (i+n)→Heap.SameBut it s.heap h'→Q ((items.toList.drop i).take n) {s with heap:=h'})→wpAny (model Γ.prog Γ.w) A (draw (.ref it) n) Q E s
 |0,i,s,Q,hit,_,_,hQ=>by
  show wpAny _ _ (pure []) Q E s;exact Y8 (by simpa using hQ s.heap hit (Heap.SameBut.refl ..))
 |n+1,i,s,Q,hit,ht,hle,hQ=>by
  have hlt:i<items.size:=by lia
  show wpAny _ _ (pyNext (.ref it) >>= _) Q E s;refine Y6 (wpAny_pyNext_list_item hit ht (x:=items[i]) (by simp [hlt]) fun h₁ hit₁ hs₁=>?_);have ht1:h₁.IsList l items:=by
   apply ak ht;intro o ho r;exact⟨o,hs₁.extBut l o hne ho,r⟩
  refine Y6 (Ze (El hne n (i+1) _ _ hit₁ ht1 (by lia) fun h₂ hit₂ hs₂=>Y8 ?_));have hd:items.toList.drop i=items[i]::items.toList.drop (i+1):=by simp [List.drop_eq_getElem_cons,hlt]
  have:=hQ h₂ (by rw[show i+(n+1)=i+1+n by lia];exact hit₂) (hs₁.trans hs₂);rw[hd,List.take_succ_cons] at this;exact this
def X6{A:Around}{E:Θ}{s:χ}{Q:Unit→χ→Prop}(hh:A.handled=none)(ht:s.heap.IsList l items)
  (hn:(assignEach elts env).length=items.size) (hstar:(assignEach elts env).findIdx? (·.1)=none)
  (h:∀ h',Heap.ExtBut s.heap.objs.size s.heap h'→wpAny (model Γ.prog Γ.w) A (assignInOrder ((assignEach elts env).map (·.2)) items.toList) Q E {s with heap:=h'}) :
  wpAny (model Γ.prog Γ.w) A (assign (.Tuple elts x1 pos) env (.ref l)) Q E s:=by
 rw[arm_assign_Tuple];refine Y6 (Zj ?_);have hlt:l≠s.heap.objs.size:=by obtain⟨o,ho,_⟩:=ht;exact ZK (Zy ho)
 unfold unpack;rw[hn,hstar];refine Y6 (Ze ?_);unfold unpackItems;refine Y6 ?_;unfold notIterableAtAll;refine Y6 (wpAny_specialOf ht.typeIs F.slot_list_iter.lookup ?_);refine Y8 ?_;simp only [Bool.false_eq_true,if_false];refine Y6 (Ze (wpAny_pyIter_list ht ?_));have htp:(s.heap.push {cls:=.type "list_iterator",data:=.fields #[.ref l,.int 0 0]}).IsList l items:=by
  apply ak ht;intro o ho r;exact⟨o,Heap.get?_push_of_some _ ho,r⟩
 refine Y6 (Ze (El hlt items.size 0 _ _ ⟨_,Heap.get?_push_size _ rfl,rfl,rfl⟩ htp (by lia) fun h₁ hit₁ hs₁=>?_));have hall:List.take items.size (List.drop 0 items.toList)=items.toList:=by
  rw[List.drop_zero];exact ZE (by simp)
 rw[hall,if_neg (by simp)];have ht₁:h₁.IsList l items:=by
  apply ak htp;intro o ho r;exact⟨o,hs₁.extBut l o hlt ho,r⟩
 refine Y6 (Ze (wpAny_pyNext_list_end hh hit₁ ht₁ (by simp) fun h₂ he₂=>?_));simp only [Option.isSome_none,Bool.false_eq_true,if_false];exact Y8 (h h₂ fun b o hb e=>he₂ b o hb (hs₁.extBut b o hb (Heap.get?_push_of_some _ e)))
def Qn(S:gW Γ n R):OB (Gp R ls σ v ts) fun q'=>jM Γ n (fun c=>assign (.Tuple ts q pos) c.env) v ls σ q'.1 q'.2:=by
 induction v using AV.casesOn with
 |tup vs=>
  intro q' h;apply fj (S.asgs (show R.asgs ls σ vs ts=some (q'.1,q'.2) from h));intro n1 n2 g;intro c A s m imm cs val Q E C l Rp hv k;apply gg hv.tup_inv;intro a vals nn e0 hk hvs;subst e0;have ho:s.heap.get? a=some {cls:=.type "tuple",data:=.seq vals.toArray nn}:=Rp.kn C.X hk;have hsz:(assignEach ts c.env).length=vals.toArray.size:=by rw[oQ n1,Zh,n2,←hvs.len];simp
  refine wpAny_assign_Tuple C.hd ⟨_,ho,rfl,_,rfl⟩ hsz (by rw[oQ n1];exact List.findIdx?_eq_none_iff.mpr (by intro x hx;obtain⟨_,_,rfl⟩:=eo hx;rfl)) fun h' hx=>?_;have kp:∀ b o,s.heap.get? b=some o→h'.get? b=some o:=fun b o e=>hx b o (ZK (Zy e)) e;rw[oQ n1,List.map_map];have R':ao Γ c.h₀ c.L h' m ls.v σ imm cs:=⟨Rp.F.after kp,fun q hq=>⟨kp _ _ (Rp.N q hq).1,(Rp.N q hq).2⟩,Rp.nd,Rp.C,Rp.l⟩;exact g C l (s:={s with heap:=h'}) (x:=vals) R' hvs (Q:=Q) (E:=E) fun h2 tk m2 i2 c2 R2 l2 x2=>k h2 tk m2 i2 c2 R2 l2 x2
 |cell kk=>
  show OB (ob (dC σ kk) fun vs=>R.asgs ls σ vs ts) _;refine OB.ob fun vs hx q' h=>?_;apply fj (S.asgs (show R.asgs ls σ vs ts=some (q'.1,q'.2) from h));intro n1 n2 g;intro c A s m imm cs val Q E C l Rp hv k;apply ak hv.cell_inv;intro a e0 ha;subst e0;apply d5 (Rp.C.cell ha (gE hx));intro dd pre post e0 hl e2 cr;subst e0;apply gg cr.list_inv;intro a2 vals nn e0 hvs hsz';subst e0;replace e2:a2=a:=e2;subst e2;have hsz:(assignEach ts c.env).length=vals.toArray.size:=by rw[oQ n1,Zh,n2,←hvs.len];simp
  refine X6 C.hd ⟨_,(Rp.N _ (Rp.has (d:=.list a2 vals nn) (.head _))).1,rfl,_,rfl⟩ hsz (by rw[oQ n1];exact List.findIdx?_eq_none_iff.mpr (by intro x hx;obtain⟨_,_,rfl⟩:=eo hx;rfl)) fun h' hx=>?_;have kp:∀ b o,s.heap.get? b=some o→h'.get? b=some o:=fun b o e=>hx b o (ZK (Zy e)) e;rw[oQ n1,List.map_map];have R':ao Γ c.h₀ c.L h' m ls.v σ imm (pre++CC.list a2 vals nn::post):=⟨Rp.F.after kp,fun q hq=>⟨kp _ _ (Rp.N q hq).1,(Rp.N q hq).2⟩,Rp.nd,Rp.C,Rp.l⟩;exact g C l (s:={s with heap:=h'}) (x:=vals) R' hvs (Q:=Q) (E:=E) fun h2 tk m2 i2 c2 R2 l2 x2=>k h2 tk m2 i2 c2 R2 l2 x2
 |_=>exact OB.no
def Uq(hpi:zD Γ)(I:bu Γ n R):OB (Fp R ls σ v o i) fun q=>jM Γ n (fun c=>assign (.Subscript o i pos) c.env) v ls σ q.1 q.2 :=
 OB.gd fun h0=>OB.obp fun ov σ1 h1=>OB.obp fun iv σ2 h2=>OB.ob fun kk h3=>OB.ob fun xs h4=>OB.ob fun j h5=>OB.ob fun pl h6=>OB.pure fun {c A s m imm cs val Q E} C l Rp hv k=>by
  (obtain e:=jK h3;subst e);show wpAny _ _ (do let ov ←holding [val] (eval o c.env);let iv ←holding [val,ov] (eval i c.env);standAt pos;holding [val,ov,iv] (setItem ov iv val);release (match (generalizing:=false) i with|.Slice _ _ none _=>[iv,val,ov]|_=>[val,ov,iv]) []) _ _ _;refine Y6 (Ze (I.ev h1 C l Rp fun hx tx ix cx va Rx xx qx=>?_));refine Y6 (Ze (I.ev h2 C l (s:=sU s hx tx) Rx fun hy' ty iy cy vi Ry xy qy=>Y6 (Zj (Y6 (Ze ?_)))));refine hpi (gE h4) h5 h6 C (s:=sU s hy' ty) Ry (qx.ext xy) qy (hv.ext (xx.trans xy)) fun h' tk c2 R2 x2=>wpAny_release ?_;exact k h' tk m iy c2 R2 l (xx.trans (xy.trans x2))
def Ld(hy:∀ C c,Y.ci C=some c→eD Γ C c)(hpi:zD Γ)(I:bu Γ n R)(S:gW Γ n R)(h:yY Y R ls σ v t=some (ls',σ')) :
  jM Γ n (fun c=>assign t c.env) v ls σ ls' σ':=by
 induction t using PySem.Expr.casesOn with
 |Name x pos=>exact Kw _ h
 |Attribute o x pos=>exact K2 hy I _ h
 |Tuple ts q pos=>exact Qn S _ h
 |Subscript o i pos=>exact Uq hpi I _ h
 |ListComp e2 gs sc pos=>
  unfold yY at h;rw[show vE (.ListComp e2 gs sc pos)=j6 e2 sc gs from rfl] at h;rcases l8 e2 sc gs with q|⟨_,_,_,q⟩<;>rw[q] at h<;>injection h
 |_=>injection h
end
set_option tactic.hygienic true in
def Ou(S:gW Γ n R)(h:Er Y R ls σ vs ts=some (ls',σ')) :
  (∀ t∈ts,gU t=true)∧ts.length=vs.length∧zn Γ n (fun c vals=>assignInOrder (ts.map fun t=>assign t c.env) vals) (nX Γ vs) ls σ ls' σ':=by
 induction vs using oL<;>induction ts using oL<;>try (injection h;done)
 ·(apply j2 h;clear h;rintro rfl rfl)
  refine⟨fun _ q=>(nomatch q),rfl,?_⟩;intro c A s m imm cs vals Q E C l Rp hv k;(obtain e:_=_:=ar.inv hv;subst e);exact Y8 (k s.heap s.toks m imm cs Rp l (aD.refl ..))
 ·rename_i v vs t ts
  apply bV h;clear h;intro h0 h;apply b8 h;clear h;intro ls1 σ1 h1 h;apply fj (S.asgs h);intro n1 n2 g;refine⟨fun e q=>(bk q).elim (fun q=>q▸h0) (n1 e),congrArg (·+1) n2,?_⟩;intro c A s m imm cs vals Q E C l Rp hv k;obtain⟨_,_,e0,a1,b1⟩:=ar.inv hv;clear hv;subst e0;revert a1 b1;intro hv hvs;refine Y6 (Ze (S.asg h1 C l Rp hv fun hx tx mx ix cx Rx lx xx=>?_));exact g C lx (s:=sU s hx tx) Rx (hvs.ext xx) fun h2 t2 m2 i2 c2 R2 l2 x2=>k h2 t2 m2 i2 c2 R2 l2 (xx.trans x2)
def Ri(S:gW Γ n R)(h:EI Y R ls σ v ts=some (ls',σ')) :
  (∀ t∈ts,gU t=true)∧jM Γ n (fun c val=>assignAll val (ts.map fun t=>assign t c.env)) v ls σ ls' σ':=by
 induction ts using oL with
 |nil=>injection h
 |cons t ts=>
  apply bV h;clear h;intro h0 h;induction ts using oL with
  |nil=>
   refine⟨fun e q=>(bk q).elim (fun q=>q▸h0) fun q=>(nomatch q),?_⟩;exact S.asg h
  |cons t2 ts=>
   apply b8 h;clear h;intro ls1 σ1 h1 h;apply bq (S.asgm h);intro n1 g;refine⟨fun e q=>(bk q).elim (fun q=>q▸h0) (n1 e),?_⟩;intro c A s m imm cs val Q E C l Rp hv k;refine Y6 (Ze (S.asg h1 C l Rp hv fun hx tx mx ix cx Rx lx xx=>?_));exact g C lx (s:=sU s hx tx) Rx (hv.ext xx) fun h2 t2 m2 i2 c2 R2 l2 x2=>k h2 t2 m2 i2 c2 R2 l2 (xx.trans x2)
end
section
variable {Γ:aw}{β:Bd}{Y:Pi}
def Hi(h:rF e=true)(t:κ Expr)(line:Nat)(env:Env):swapsWith e t line env=pure false:=by
 unfold swapsWith;induction e using PySem.Expr.casesOn<;>first|rfl|(exact(Ay h).elim)|(exact Bool.noConfusion (show false=true from h))
def Kj(h:Fd ts e=true)(env:Env):swappedStores ts e env=pure none:=by
 have tup:∀ (us vs:List Expr),vs.all (foldedForSure 8)=true→(do
   if !(us.length == 2 ||us.length == 3) ||vs.length != us.length ||env.blockKind != .function then return none
   if vs.any fun|.Starred ..=>true|_=>false then return none
   let line:=(us.head?.map (·.pos.line)).getD 0
   let names:=us.filterMap fun
    |.Name id pos=>if env.kindOf id == some .local&&pos.line == line then some id else none
    |_=>none
   if names.length != us.length ||names.eraseDups.length != names.length then return none
   if vs.all (foldedForSure 8) then return none
   if vs.all (constantsAlone 8) then unsupported "assign.tuple-of-constant-expressions:order-of-the-stores"
   return some names:Sem (κ (List Str)))=pure none:=by
  intro us vs hv;dsimp only
  split
  ·rfl
  ·split
   ·rfl
   ·split
    ·rfl
    ·first|rfl|rw[if_pos hv]
 match ts with
 |[]=>rfl
 |t::_::_=>induction t using PySem.Expr.casesOn<;>first|rfl|(cases e<;>rfl)
 |[t]=>
  induction t using PySem.Expr.casesOn with
  |Tuple us q pos=>
   induction e using PySem.Expr.casesOn with
   |Tuple vs q2 pos2=>exact tup us vs h
   |_=>rfl
  |List=>exact Bool.noConfusion (show false=true from h)
  |_=>rfl
def AO(Γ:aw)(n:Nat)(R:aJ):Prop :=
 ∀ {ls σ v it t b f ls' σ'},rU σ v=some it→R.fo ls σ t it b=some (f,ls',σ')→∀ {c A s m imm cs va ex} {Q:Flow→χ→Prop} {E:Θ},be Γ c A n→co c ls→ao Γ c.h₀ c.L s.heap m ls.v σ imm cs→VR Γ imm (aj cs) va v→jE ex=true→iZ t=true →
  (∀ h' tk m' imm' cs' fl,ao Γ c.h₀ c.L h' m' ls'.v σ' imm' cs'→co c ls'→aD imm cs imm' cs'→FR Γ imm' cs' fl f→Q fl (sU s h' tk)) →
  wpAny (model Γ.prog Γ.w) A (foldedSetIterable ex c.env va >>= fun x=>standAt ex.pos >>= fun U=>holding [x] (pyIter x) >>= fun i=>runOwn (.forLoop t i b [] c.env) c.env) Q E s
abbrev kR (Γ:aw) (n:Nat) (t:Cx→Sem Flow) (ls:ag) (σ:St) (q:Fl×ag×St):Prop:=bj Γ n t ls σ q.1 q.2.1 q.2.2
section
variable {n:Nat}{R:aJ}{ls:ag}{σ:St}{pos:Pos}
def DK(I:bu Γ n R):OB (CL R ls σ e) (kR Γ n (fun c=>exec (.Expr e pos) c.env) ls σ) :=
 OB.gd fun h0=>OB.obp fun v σ1 h1=>OB.pure fun {c A s m imm cs Q E} C l Rp k=>by
  have hint:interactive c.env=false:=by
   unfold interactive;rw[c.parts.1,C.k];rfl
  exact wpAny_Expr_any (I.ev h1 C l Rp fun hx tx ix cx va Rx xx qx=>k hx tx m ix cx _ Rx l xx .next) hint (Hi h0 _ _ _)
def DR(I:bu Γ n R):OB (AQ R ls σ e) (kR Γ n (fun c=>exec (.Return e pos) c.env) ls σ):=by
 induction e using oO with
 |none=>exact OB.pure fun {c A s m imm cs Q E} C l Rp k=>wpAny_Return_none (k s.heap s.toks m imm cs _ Rp l (aD.refl ..) (.ret .none))
 |some e=>
  show OB (obp (R.ev ls σ e) fun v σ=>some (Fl.ret v,ls,σ)) _;exact OB.obp fun v σ1 h1=>OB.pure fun {c A s m imm cs Q E} C l Rp k=>wpAny_Return_some (I.ev h1 C l Rp fun hx tx ix cx va Rx xx qx=>k hx tx m ix cx _ Rx l xx (.ret qx))
def NG(h:rF e=true)(line:Nat)(env:Env):swapsWithSole ts e line env=pure false:=by
 cases ts with
 |nil=>rfl
 |cons t r=>
  cases r with
  |nil=>exact Hi h _ _ _
  |cons=>rfl
def GE(I:bu Γ n R)(S:gW Γ n R):OB (B7 R ls σ ts e) (kR Γ n (fun c=>exec (.Assign ts e pos) c.env) ls σ) :=
 OB.gd fun h0=>OB.obp fun v σ1 h1=>OB.obp fun ls1 σ2 h2=>OB.pure fun {c A s m imm cs Q E} C l Rp k=>by
  replace h0:=aA h0;apply bq (S.asgm h2);intro n1 g;refine wpAny_Assign_stores (I.ev h1 C l Rp fun hx tx ix cx va Rx xx qx=>?_) ?_ (Kj h0.2 _)
  ·rw[oQ n1,List.map_map]
   exact g C l (s:=sU s hx tx) Rx qx fun h' tk m' i2 c2 R2 l2 x2=>k h' tk m' i2 c2 _ R2 l2 (xx.trans x2) .next
  ·exact NG h0.1 _ _
def PA(he:Γ.ε.Ok)(hb:aV Y.β Γ.ε)(I:bu Γ n R):OB (Id Y R ls σ x op e) (kR Γ n (fun c=>exec (.AugAssign (.Name x q) op e pos) c.env) ls σ) :=
 OB.gd fun h0=>OB.ob fun a h1=>OB.obp fun b σ1 h2=>OB.ob fun r h3=>OB.ob fun ls1 h4=>OB.pure fun {c A s m imm cs Q E} C l Rp k=>by
  replace h0:=aA h0;apply ak (Rp.l x a h1);intro val v1 v2;apply nJ c.parts;intro p1 p2 p3 p4;refine wpAny_AugAssign_Name (wpAny_loadName_local (m:=m) (by rw[p1];exact C.k) (by unfold Env.kindOf;rw[p1];exact l.lo x a h1) (by rw[p2];exact Rp.F.ns) v1 ?_);refine I.ev h2 C l Rp fun hx tx ix cx va Rx xx qx=>?_;refine Hh he hb h0.2 h3 (v2.ext xx) qx fun tk val2 q2=>?_;exact GI h4 C l (s:=sU s hx tk) Rx q2 fun h' tk' m' R' l'=>k h' tk' m' ix cx _ R' l' xx .next
def OM(he:Γ.ε.Ok)(hb:aV Y.β Γ.ε)(hy:∀ C c,Y.ci C=some c→eD Γ C c)(I:bu Γ n R):OB (DO Y R ls σ o x op e) (kR Γ n (fun c=>exec (.AugAssign (.Attribute o x q) op e pos) c.env) ls σ) :=
 OB.gd fun h0=>OB.obp fun ov σ1 h1=>OB.ob fun kk h2=>OB.ob fun a h3=>OB.obp fun b σ2 h4=>OB.ob fun r h5=>OB.ob fun σ3 h6=>OB.pure fun {c A s m imm cs Q E} C l Rp k=>by
  (obtain e:=jK h2;subst e);refine wpAny_AugAssign_AttributeAny (I.ev h1 C l Rp fun hx tx ix cx va Rx xx qx=>?_);refine IH hy h3 (s:=sU s hx tx) C Rx qx fun ha ta ia ca vo Ra xa qa=>?_;refine I.ev h4 C l (s:=sU s ha ta) Ra fun hz tz iz cz vb Rz xz qz=>?_;refine Hh he hb h0 h5 (qa.ext xz) qz fun tk val2 q2=>?_;refine CY hy h6 (s:=sU s hz tk) C Rz (qx.ext (xa.trans xz)) q2 fun h' tk' i2 c2 R2 x2=>?_;exact k h' tk' m i2 c2 _ R2 l (xx.trans (xa.trans (xz.trans x2))) .next
def U0(I:bu Γ n R)(S:gW Γ n R):OB (Ir R ls σ t b o) (kR Γ n (fun c=>exec (.If t b o pos) c.env) ls σ) :=
 OB.obp fun q σ1 h1 z h=>by
  intro c A s m imm cs Q E C l Rp k;refine wpAny_If (I.tst h1 C l Rp fun hx tx ix cx x Rx xx qx=>?_);cases qx;induction q using oB with
  |true=>exact S.exs h C l (s:=sU s hx tx) Rx fun h2 t2 m2 i2 c2 fl R2 l2 x2 f2=>k h2 t2 m2 i2 c2 fl R2 l2 (xx.trans x2) f2
  |false=>exact S.exs h C l (s:=sU s hx tx) Rx fun h2 t2 m2 i2 c2 fl R2 l2 x2 f2=>k h2 t2 m2 i2 c2 fl R2 l2 (xx.trans x2) f2
def PB(S:gW Γ n R):OB (HJ R ls σ t b o) (kR Γ n (fun c=>exec (.While t b o pos) c.env) ls σ) :=
 OB.gd fun h0 z h=>by
  have ho:o=[]:=by induction o using oL with|nil=>rfl|cons=>injection h0
  subst ho;intro c A s m imm cs Q E C l Rp k;exact wpAny_While (S.wh h C l Rp k)
def NR(I:bu Γ n R)(hfo:AO Γ n R):OB (Ea R ls σ t it b o) (kR Γ n (fun c=>exec (.For t it b o pos) c.env) ls σ) :=
 OB.gd fun h0=>OB.obp fun v σ1 h1=>OB.ob fun i h2 z h=>by
  simp only [Y9] at h0;obtain⟨⟨g1,g2⟩,g3⟩:=h0;have ho:o=[]:=by induction o using oL with|nil=>rfl|cons=>injection g1
  subst ho;intro c A s m imm cs Q E C l Rp k;show wpAny _ _ (exec (.For t it b [] pos) c.env) _ _ _;rw[exec_For];refine Y6 (Zj (Y6 (I.ev h1 C l Rp fun hx tx ix cx va Rx xx qx=>?_)));exact hfo h2 h C l (s:=sU s hx tx) Rx qx g2 g3 fun h' tk m' i2 c2 fl R2 l2 x2 f2=>k h' tk m' i2 c2 fl R2 l2 (xx.trans x2) f2
def Lo(he:Γ.ε.Ok)(hb:aV Y.β Γ.ε)(hy:∀ C c,Y.ci C=some c→eD Γ C c)(I:bu Γ n R)(S:gW Γ n R)
  (hfo:AO Γ n R) {ls':ag} {σ':St} {st:Stmt} {f:Fl} (h:yP Y R ls σ st=some (f,ls',σ')):bj Γ n (fun c=>exec st c.env) ls σ f ls' σ':=by
 induction st using PySem.Stmt.casesOn with
 |Expr e pos=>exact DK I _ h
 |Pass pos=>(apply j3 h;rintro rfl rfl rfl);exact fun {c A s m imm cs Q E} C l Rp k=>wpAny_Pass (k s.heap s.toks m imm cs _ Rp l (aD.refl ..) .next)
 |Return e pos=>exact DR I _ h
 |Assign ts e pos=>exact GE I S _ h
 |AugAssign t op e pos=>
  induction t using PySem.Expr.casesOn with
  |Name x q=>exact PA he hb I _ h
  |Attribute o x q=>exact OM he hb hy I _ h
  |ListComp e2 gs sc q=>
   unfold yP at h;rw[show vS (.AugAssign (.ListComp e2 gs sc q) op e pos)=.aug (.ListComp e2 gs sc q) op e from rfl] at h;replace h:B6 Y R ls σ (.ListComp e2 gs sc q) op e=some (f,ls',σ'):=h;unfold B6 at h;rw[show vE (.ListComp e2 gs sc q)=j6 e2 sc gs from rfl] at h;rcases l8 e2 sc gs with q|⟨_,_,_,q⟩<;>rw[q] at h<;>injection h
  |_=>injection h
 |If t b o pos=>exact U0 I S _ h
 |While t b o pos=>
  have D:kR Γ n (fun c=>exec (.While t b o pos) c.env) ls σ (f,ls',σ'):=PB S _ h;exact @D
 |For t it b o pos=>
  have D:kR Γ n (fun c=>exec (.For t it b o pos) c.env) ls σ (f,ls',σ'):=NR I hfo _ h;exact @D
 |_=>injection h
end
end
section
variable {Γ:aw}{imm imm':Δ}{ρ:List Addr}
section
variable (hi:∀ p∈imm,cT p.2=false→p∈imm')
include hi
theorem VR.drop:VR Γ imm ρ v x→VR Γ imm' ρ v x:=VR.all (n:=0) (q:=false) hi (fun U U U h=>h) nofun
theorem ar.drop:ar Γ imm ρ v x→ar Γ imm' ρ v x:=ar.all (n:=0) (q:=false) hi (fun U U U h=>h) nofun
theorem aX.drop:aX Γ imm ρ v x→aX Γ imm' ρ v x:=aX.all (n:=0) (q:=false) hi (fun U U U h=>h) nofun
theorem CR.drop(h:CR Γ imm ρ c x):CR Γ imm' ρ c x :=
 CR.casesOn (motive:=fun c x U=>CR Γ imm' ρ c x) h (fun h k=>.list (h.drop hi) k) (fun h g k=>.rows h g k) (fun h g k=>.inst (h.drop hi) g k) .any
theorem bh.drop(h:bh Γ imm ρ c x):bh Γ imm' ρ c x:=by
 induction h with
 |nil=>exact .nil
 |cons h _ ih=>exact .cons (h.drop hi) ih
end
noncomputable def kF(S:List Addr)(imm:Δ):Δ:=imm.filter fun q=>!S.contains q.1
def hK:q∈kF S imm↔q∈imm∧q.1 ∉ S:=by
 unfold kF;rw[List.mem_filter];simp
variable {h₀ h h':Heap}{L I:Addr}{S:List Addr}{m:ω}{ls:List (Str×AV)}{σ:St}{cs:List CC}{o:Obj}
abbrev te (S:List Addr) (imm:Δ):Prop:=∀ I∈S,∃ o,(I,o)∈imm∧cT o=true
def te.one(hI:(I,o)∈imm)(ho:cT o=true):te [I] imm:=fun U h=>bU h▸⟨o,hI,ho⟩
def nG(h:b≠I):b ∉ [I]:=fun q=>h (bU q)
def ao.keepsIters(R:ao Γ h₀ L h m ls σ imm cs)(hS:te S imm):∀ p∈imm,cT p.2=false→p∈kF S imm:=fun p hp q=>by
 refine hK.mpr ⟨hp,fun e=>?_⟩;apply ak (hS _ e);intro o hI ho;have h1:=(R.N p (bn _ hp)).1;have h2:=(R.N _ (bn _ hI)).1;rw[h2] at h1;(apply j1 h1;clear h1;rintro rfl);rw[ho] at q;injection q
def ao.keepsIter(R:ao Γ h₀ L h m ls σ imm cs)(hI:(I,o)∈imm)(ho:cT o=true):∀ p∈imm,cT p.2=false→p∈kF [I] imm:=R.keepsIters (.one hI ho)
def ao.dropIters(R:ao Γ h₀ L h m ls σ imm cs)(hS:te S imm)(hx:∀ b x,b ∉ S→h.get? b=some x→h'.get? b=some x):ao Γ h₀ L h' m ls σ (kF S imm) cs:=by
 have hd:=R.keepsIters hS;have nd:=R.nd;rw[Zb] at nd;refine⟨⟨?_,fun b x e=>hx b x (fun z=>?_) (R.F.keep b x e),R.F.above⟩,fun q hq=>?_,?_,R.C.drop hd,fun x v hv=>?_⟩
 ·apply sg R.F.ns;intro oL es ep hL r
  refine⟨oL,es,ep,hx L oL (fun z=>?_) hL,r⟩;apply ak (hS _ z);intro o hI _;exact(R.N _ (bn _ hI)).2.1 rfl
 ·apply ak (hS _ z);intro o hI _
  rw[(R.N _ (bn _ hI)).2.2] at e;injection e
 ·rcases dy hq with a|a
  ·have:=hK.mp a
   have N:=R.N q (bn _ this.1);exact⟨hx _ _ this.2 N.1,N.2⟩
  ·have N:=R.N q (dU _ a)
   refine⟨hx _ _ (fun z=>?_) N.1,N.2⟩;apply ak (hS _ z);intro o hI _;exact(List.nodup_append.mp nd).2.2 q.1 (ZN.mpr ⟨_,hI,rfl⟩) q.1 (Zi a) rfl
 ·exact R.nd.sublist ((List.filter_sublist.append (List.Sublist.refl _)).map _)
 ·apply ak (R.l x v hv);intro val a b
  exact⟨val,a,b.drop hd⟩
def ao.dropIter(R:ao Γ h₀ L h m ls σ imm cs)(hI:(I,o)∈imm)(ho:cT o=true)(hx:Heap.ExtBut I h h'):ao Γ h₀ L h' m ls σ (kF [I] imm) cs:=R.dropIters (.one hI ho) fun b x hb=>hx b x fun e=>hb (e▸.head _)
def ao.addI(R:ao Γ h₀ L h m ls σ imm cs)(hg:h.get? I=some o)(hL:I≠L)(h0:h₀.get? I=none)(hn:I ∉ (imm++aG cs).map Prod.fst):ao Γ h₀ L h m ls σ ((I,o)::imm) cs:=by
 refine⟨R.F,fun q hq=>?_,Zx.mpr ⟨hn,R.nd⟩,R.C.mono (fun U h=>.tail _ h) fun U U h=>h,fun x v hv=>?_⟩
 ·rcases bk hq with rfl|hq
  ·exact⟨hg,hL,h0⟩
  ·exact R.N q hq
 ·apply ak (R.l x v hv);intro val a b
  exact⟨val,a,b.mono (fun U h=>.tail _ h) fun U U h=>h⟩
def ao.gone(R:ao Γ h₀ L h m ls σ imm cs)(hI:(I,o)∈imm)(hs:I∈S):I ∉ (kF S imm++aG cs).map Prod.fst:=fun hq=>by
 have nd:=R.nd;rw[Zb] at nd;apply ak (eo hq);intro q h1 h2;rcases dy h1 with a|a
 ·exact(hK.mp a).2 (h2▸hs)
 ·exact(List.nodup_append.mp nd).2.2 I (ZN.mpr ⟨_,hI,rfl⟩) q.1 (Zi a) h2.symm
def ao.putIter(R:ao Γ h₀ L h m ls σ imm cs)(hI:(I,o)∈imm)(ho:cT o=true)(hx:Heap.ExtBut I h h')(hg:h'.get? I=some o'):ao Γ h₀ L h' m ls σ ((I,o')::kF [I] imm) cs:=by
 have NI:=R.N _ (bn _ hI);exact(R.dropIter hI ho hx).addI hg NI.2.1 NI.2.2 (R.gone hI (.head _))
structure np (I:Addr) (imm:Δ) (cs:List CC) (imm':Δ) (cs':List CC):Prop where
 i:∀ p∈imm,p.1≠I→p∈imm'
 r:∀ k a,ae (aj cs) k=some a→ae (aj cs') k=some a
noncomputable def gf(i n:Nat):Obj:={cls:=.type "range_iterator",data:=.fields #[rawInt (i:Int),rawInt (n:Int),rawInt 1]}
inductive gN (imm:Δ) (ρ:List Addr) (I:Addr):It→Prop
 |lst {l k i:Nat} {o:Obj}:(I,o)∈imm→ae ρ k=some l→o.cls=.type "list_iterator"→o.data=.fields #[.ref l,.int i 0]→gN imm ρ I (.lst k i)
 |str {x:Str} {t:Tok} {i:Nat} {ty:String} {o:Obj}:(I,o)∈imm→(ty="str_iterator"∨ty="str_ascii_iterator")→o.cls=.type ty→o.data=.fields #[.str x t,.int i 0]→gN imm ρ I (.vals ((x.cps.toList.drop i).map fun c=>.str [.lit [c]]))
 |rng {i n:Nat}:(I,gf i n)∈imm→gN imm ρ I (.vals (xW i n))
def gN.ext(e:aD imm cs imm' cs'):gN imm (aj cs) I it→gN imm' (aj cs') I it
 |.lst a b c d=>.lst (e.i _ a) (e.r _ _ b) c d
 |.str a b c d=>.str (e.i _ a) b c d
 |.rng a=>.rng (e.i _ a)
noncomputable def pj(o:Obj):Bool:=match o.cls with|.type n=>n == "enumerate"|_=>false
def gN.obj(h:gN imm ρ I it):∃ o,(I,o)∈imm∧(cT o=true∧pj o=false):=by
 cases h with
 |lst a b c d=>exact⟨_,a,by unfold cT pj;rw[c];decide⟩
 |str a b c d=>exact⟨_,a,by unfold cT pj;rw[c];rcases b with rfl|rfl<;>decide⟩
 |rng a=>exact⟨_,a,by dsimp only [cT,pj,gf];decide⟩
def su{Γ:aw}{E:Θ}{s:χ}{Q:Unit→χ→Prop}(ht:iZ t=true)(ho:s.heap.get? I=some o)(hi:cT o=true∧pj o=false)(k:Q () s):wpAny (model Γ.prog Γ.w) A (letOwnedTupleGo t (.ref I) v) Q E s:=by
 have go:∀ es q p,wpAny (model Γ.prog Γ.w) A (letOwnedTupleGo (.Tuple es q p) (.ref I) v) Q E s:=fun es q p=>by
  unfold letOwnedTupleGo;cases v with
  |ref a=>
   refine Y6 (wpAny_load ho ?_);obtain⟨oc,od,odt,osl⟩:=o;dsimp only;unfold cT pj at hi;dsimp only at hi;cases oc with
   |type n=>
    cases odt with
    |fields vs=>
     dsimp only at hi ⊢;have hn:(["enumerate","zip","dict_itemiterator","dict_reverseitemiterator","odict_iterator","itertools.zip_longest","itertools.pairwise"].contains n)=false:=by
      rw[hi.2,Bool.false_or] at hi;replace hi:=hi.1;simp only [Bool.or_eq_true,Zq] at hi;rcases hi with (((rfl|rfl)|rfl)|rfl)|rfl<;>decide
     rw[if_neg (by rw[hn,Bool.false_and];exact Bool.false_ne_true)];exact Y8 k
    |_=>exact Y8 k
   |_=>injection hi.1
  |_=>exact Y8 k
 induction t using PySem.Expr.casesOn with
 |Name x p=>exact Y8 k
 |Tuple es q p=>exact go es q p
 |ListComp e gs sc p=>
  unfold iZ at ht;rw[show vE (.ListComp e gs sc p)=j6 e sc gs from rfl] at ht;rcases l8 e sc gs with q|⟨_,_,_,q⟩<;>rw[q] at ht<;>injection ht
 |_=>exact Bool.noConfusion (show false=true from ht)
def Ca(h:ty="str_iterator"∨ty="str_ascii_iterator"){o:Obj}(hc:o.cls=.type ty):cT o=true:=by
 unfold cT;rw[hc];rcases h with rfl|rfl<;>decide
end
section
variable {Γ:aw}{β:Bd}{Y:Pi}
def ar.item(h:ar Γ imm ρ vs xs)(i:Nat):match ae xs i with
  |some v=>∃ val,vs[i]?=some val∧VR Γ imm ρ val v
  |none=>vs[i]?=none:=by
 induction h using ar.ind generalizing i with
 |nil=>rfl
 |cons a _ ih=>
  cases i with
  |zero=>exact⟨_,rfl,a⟩
  |succ i=>exact ih i
def N6{A:Around}{E:Θ}{s:χ}{Q:κ π→χ→Prop}(hh:A.handled=none)(hty:ty="str_iterator"∨ty="str_ascii_iterator")(hit:s.heap.IsStrIter it ty x t i)
  (h1:∀ c h',x.cps[i]?=some c→h'.IsStrIter it ty x t (i+1)→Heap.SameBut it s.heap h'→Q (some (.str ⟨#[c]⟩ s.toks)) (sU s h' (s.toks+1)))
  (h2:∀ h',x.cps[i]?=none→Heap.ExtBut it s.heap h'→Q none {s with heap:=h'}):wpAny (model Γ.prog Γ.w) A (pyNext (.ref it)) Q E s:=by
 rcases hty with rfl|rfl
 ·cases e:x.cps[i]? with
  |some c=>exact wpAny_pyNext_wide_item hit e fun h' a b=>h1 c h' e a b
  |none=>exact wpAny_pyNext_wide_end hh hit e fun h' a=>h2 h' e a
 ·cases e:x.cps[i]? with
  |some c=>exact wpAny_pyNext_ascii_item hit e fun h' a b=>h1 c h' e a b
  |none=>exact wpAny_pyNext_ascii_end hh hit e fun h' a=>h2 h' e a
def w5(Γ:aw)(c:Cx)(m:ω)(ls:List (Str×AV))(σ:St)(imm:Δ)(cs:List CC)(I:Addr)(s:χ)(Q:κ π→χ→Prop):κ (AV×It)→Prop
 |none=>∀ h' tk imm',ao Γ c.h₀ c.L h' m ls σ imm' cs→(∀ q∈imm,q.1≠I→q∈imm')→Q none (sU s h' tk)
 |some (v,it')=>∀ h' tk imm' val,ao Γ c.h₀ c.L h' m ls σ imm' cs→(∀ q∈imm,q.1≠I→q∈imm')→gN imm' (aj cs) I it'→VR Γ imm' (aj cs) val v→Q (some val) (sU s h' tk)
section
variable {σ:St}{c:Cx}{A:Around}{n:Nat}{s:χ}{m:ω}{ls:List (Str×AV)}{imm:Δ}{cs:List CC}{I:Addr}{Q:κ π→χ→Prop}{E:Θ}{o:Obj}
 (C:be Γ c A n) (R:ao Γ c.h₀ c.L s.heap m ls σ imm cs) (a:(I,o)∈imm)
include C R a
def Nc{l:Addr}{kk i:Nat}{xs:List AV}(hx:ae σ kk=some (.list xs))(b:ae (aj cs) kk=some l)(c1:o.cls=.type "list_iterator")(d:o.data=.fields #[.ref l,.int i 0])(k:w5 Γ c m ls σ imm cs I s Q (mH kk i xs)):wpAny (model Γ.prog Γ.w) A (pyNext (.ref I)) Q E s:=by
 have ho:cT o=true:=by unfold cT;rw[c1];decide
 apply d5 (R.C.cell b hx);intro dd pre post e0 hl e2 cr;subst e0;apply gg cr.list_inv;intro a2 vs nn e0 hvs hsz;subst e0;replace e2:a2=l:=e2;subst e2;have hL:s.heap.IsList a2 vs.toArray:=⟨_,(R.N _ (R.has (d:=.list a2 vs nn) (.head _))).1,rfl,_,rfl⟩;have hit:s.heap.IsListIter I a2 i:=⟨o,(R.N _ (bn _ a)).1,c1,d⟩;have hrel:=hvs.item i;unfold mH at k;cases hv:ae xs i with
 |some v=>
  rw[hv] at hrel k;apply ak hrel;intro val g1 g2;refine wpAny_pyNext_list_item hit hL (by rw[Zm];exact g1) fun h' hit' hs=>?_;apply ed hit';intro o' ho' hc' hd';refine k h' s.toks _ val (R.putIter a ho hs.extBut ho') (fun q hq hn=>.tail _ (hK.mpr ⟨hq,nG hn⟩)) (.lst (.head _) b hc' hd') ?_;exact(g2.drop (R.keepsIter a ho)).mono (fun U h=>.tail _ h) fun U U h=>h
 |none=>
  rw[hv] at hrel k;refine wpAny_pyNext_list_end C.hd hit hL (by rw[Zm];exact hrel) fun h' hs=>?_;exact k h' s.toks _ (R.dropIter a ho hs) fun q hq hn=>hK.mpr ⟨hq,nG hn⟩
def VH{x:Str}{t:Tok}{i:Nat}{ty:String}(b:ty="str_iterator"∨ty="str_ascii_iterator")(c1:o.cls=.type ty)(d:o.data=.fields #[.str x t,.int i 0])(k:w5 Γ c m ls σ imm cs I s Q (Bx ((x.cps.toList.drop i).map fun c=>.str [.lit [c]]))):wpAny (model Γ.prog Γ.w) A (pyNext (.ref I)) Q E s:=by
 have ho:cT o=true:=Ca b c1;have hit:s.heap.IsStrIter I ty x t i:=⟨o,(R.N _ (bn _ a)).1,c1,d⟩;refine N6 C.hd b hit (fun cc h' hc hit' hs=>?_) fun h' hc hs=>?_
 ·obtain⟨o',ho',hc',hd'⟩:=hit'
  have e:x.cps.toList.drop i=cc::x.cps.toList.drop (i+1):=by
   have:x.cps.toList[i]?=some cc:=by rw[Array.getElem?_toList];exact hc
   obtain⟨hlt,hv⟩:=Zo.mp this;rw[List.drop_eq_getElem_cons hlt,hv]
  rw[e] at k;refine k h' _ _ _ (R.putIter a ho hs.extBut ho') (fun q hq hn=>.tail _ (hK.mpr ⟨hq,nG hn⟩)) (.str (.head _) b hc' hd') ?_;exact .str rfl (jm [cc]) (show 1≤16777216 by decide)
 ·have e:x.cps.toList.drop i=[]:=by
   have:x.cps.toList[i]?=none:=by rw[Array.getElem?_toList];exact hc
   exact List.drop_eq_nil_iff.mpr (List.getElem?_eq_none_iff.mp this)
  rw[e] at k;exact k h' s.toks _ (R.dropIter a ho hs) fun q hq hn=>hK.mpr ⟨hq,nG hn⟩
end
def UT{s:χ}{Q:κ π→χ→Prop}{E:Θ}
  (C:be Γ c A nn) (R:ao Γ c.h₀ c.L s.heap m ls σ imm cs) (a:(I,gf i n)∈imm) (k:w5 Γ c m ls σ imm cs I s Q (Bx (xW i n))):wpAny (model Γ.prog Γ.w) A (pyNext (.ref I)) Q E s:=by
 have ho:cT (gf i n)=true:=by dsimp only [cT,gf];decide
 have hg:=(R.N _ (bn _ a)).1;cases n with
 |zero=>exact wpAny_pyNext_range_end C.hd (x:=(i:Int)) (left:=0) (step:=1) hg (cI _) fun h' hs=>k h' s.toks _ (R.dropIter a ho hs) fun q hq hn=>hK.mpr ⟨hq,nG hn⟩
 |succ n=>
  refine wpAny_pyNext_range_item (x:=(i:Int)) (left:=((n+1:Nat):Int)) (step:=1) hg (by lia) fun h' hit' hs=>?_;have hit':h'.get? I=some (gf (i+1) n):=by
   have e1:((n+1:Nat):Int)-1=(n:Int):=by lia
   have e2:(i:Int)+1=((i+1:Nat):Int):=by lia
   replace hit':h'.get? I=some {cls:=.type "range_iterator",data:=.fields #[rawInt ((i:Int)+1),rawInt (((n+1:Nat):Int)-1),rawInt 1]}:=hit';rw[e1,e2] at hit';exact hit'
  exact k h' _ _ _ (R.putIter a ho hs.extBut hit') (fun q hq hn=>.tail _ (hK.mpr ⟨hq,nG hn⟩)) (.rng (.head _)) (.int (cF _).symm)
def ot(h:jw σ it=some r){s:χ}{Q:κ π→χ→Prop}{E:Θ}
  (C:be Γ c A n) (R:ao Γ c.h₀ c.L s.heap m ls σ imm cs) (hi:gN imm (aj cs) I it) (k:w5 Γ c m ls σ imm cs I s Q r):wpAny (model Γ.prog Γ.w) A (pyNext (.ref I)) Q E s:=by
 cases hi with
 |lst a b c1 d=>
  apply aE h;clear h;intro xs hx h;rw[←osI h] at k;exact Nc C R a (gE hx) b c1 d k
 |str a b c1 d=>rw[←osI h] at k;exact VH C R a b c1 d k
 |rng a=>rw[←osI h] at k;exact UT C R a k
end
section
variable {Γ:aw}{β:Bd}{Y:Pi}
def tD(Γ:aw)(n:Nat)(fo:ag→St→Expr→It→List Stmt→κ (Fl×ag×St)):Prop :=
 ∀ {ls σ it t b f ls' σ'},fo ls σ t it b=some (f,ls',σ')→iZ t=true→∀ {c A s m imm cs I} {Rq:Result→χ→Prop},be Γ c A n→co c ls→ao Γ c.h₀ c.L s.heap m ls.v σ imm cs→gN imm (aj cs) I it →
  (∀ h' tk m' imm' cs' fl,ao Γ c.h₀ c.L h' m' ls'.v σ' imm' cs'→co c ls'→np I imm cs imm' cs'→FR Γ imm' cs' fl f→Rq (.ok fl) (sU s h' tk))→codeAny (model Γ.prog Γ.w) A (.forLoop t (.ref I) b [] c.env) Rq s
def W0(S:gW Γ n R)(F:tD Γ n R.fo):tD Γ n (Jg Y R):=by
 intro ls σ it t b f ls' σ' h hn c A s m imm cs I Rq C l Rp hi k;apply aE h;clear h;intro r h1 h;refine mG (ot h1 C Rp hi ?_);induction r using oO with
 |none=>
  (apply j3 h;rintro rfl rfl rfl);intro h' tk imm' R' x';exact wpAny_execs_nil (k h' tk m imm' cs _ R' l ⟨x',fun U U h=>h⟩ .next)
 |some q=>
  obtain⟨v,it'⟩:=q;apply b8 h;clear h;intro ls1 σ1 h2 h;apply xc h;clear h;intro f1 ls2 σ2 h3 h;intro h' tk imm' val R' x' i' hv;apply ak i'.obj;intro o1 o2 o3;refine su hn (s:=sU s h' tk) (R'.N _ (bn _ o2)).1 o3 ?_;refine S.asg h2 C l (s:=sU s h' tk) R' hv fun ha ta ma ia ca Ra la xa=>?_;refine S.exs h3 C la (s:=sU s ha ta) Ra fun hz tz mz iz cz fl Rz lz xz fz=>?_;have xt:aD imm' cs iz cz:=xa.trans xz;have xI:np I imm cs iz cz:=⟨fun q hq hne=>xt.i q (x' q hq hne),xt.r⟩;have again:R.fo ls2 σ2 t it' b=some (f,ls',σ')→codeAny (model Γ.prog Γ.w) A (.forLoop t (.ref I) b [] c.env) Rq (sU s hz tz):=fun h=>
   F h hn C lz (s:=sU s hz tz) Rz (i'.ext xt) fun h2 t2 m2 i2 c2 fl R2 l2 x2 f2=>k h2 t2 m2 i2 c2 fl R2 l2 ⟨fun q hq hne=>x2.i q (xI.i q hq hne) hne,fun k a h=>x2.r k a (xI.r k a h)⟩ f2
  induction f1 using Fl.casesOn with
  |next=>(obtain e:_=_:=FR.inv fz;subst e);exact again h
  |ret v=>(apply j3 h;rintro rfl rfl rfl);obtain⟨_,e0,hv⟩:=FR.inv fz;clear fz;subst e0;exact k hz tz mz iz cz _ Rz lz xI (.ret hv)
def tW{s:SS}(h:s.conc=some l):s.val Γ.ε=l:=by rw[jU h]
set_option tactic.hygienic true in
def H9{R:aJ}(F:tD Γ n R.fo):AO Γ n R:=by
 intro ls σ v it t b f ls' σ' hi h c A s m imm cs va ex Q E C l Rp hv hs hn k;have hfold:foldedSetIterable ex c.env va=pure va:=by
  unfold foldedSetIterable;induction ex using PySem.Expr.casesOn<;>first|rfl|(exact(Ay hs).elim)|(exact Bool.noConfusion (show false=true from hs))
 refine Y6 (u2 hfold (Y8 (Y6 (Zj (Y6 (Ze ?_))))));have go:∀ {o:Obj},cT o=true→o.isFreed=false→gN ((s.heap.objs.size,o)::imm) (aj cs) s.heap.objs.size it→wpAny (model Γ.prog Γ.w) A (runOwn (.forLoop t (.ref s.heap.objs.size) b [] c.env) c.env) Q E {s with heap:=s.heap.push o}:=by
  intro o ho hfr hit;refine wpAny_runOwn (F h hn C l (s:={s with heap:=s.heap.push o}) (Rp.newI o hfr) hit fun h' tk m' imm' cs' fl R' l' x' f'=>?_);refine k h' tk m' imm' cs' fl R' l' ⟨fun q hq=>x'.i q (.tail _ hq) fun e=>?_,x'.r⟩ f';have:=Zy (Rp.N q (bn _ hq)).1;rw[e] at this;exact Nat.lt_irrefl _ this
 induction v using AV.casesOn with
 |cell kk=>
  apply aE (show (ob (dC σ kk) fun _=>some (It.lst kk 0))=some it from hi);clear hi;intro xs hx hi;(apply j1 hi;clear hi;rintro rfl);apply ak hv.cell_inv;intro a e0 ha;subst e0;apply d5 (Rp.C.cell ha (gE hx));intro dd pre post e0 hl e2 cr;subst e0;apply gg cr.list_inv;intro a2 vs nn e0 hvs hsz;subst e0;replace e2:a2=a:=e2;subst e2;refine wpAny_pyIter_list (items:=vs.toArray) ⟨_,(Rp.N _ (Rp.has (d:=.list a2 vs nn) (.head _))).1,rfl,_,rfl⟩ ?_;exact go (by dsimp only [cT];decide) rfl (.lst (.head _) ha rfl rfl)
 |str ss=>
  apply aE (show (ob ss.conc fun l=>some (It.vals (l.map fun c=>.str [.lit [c]])))=some it from hi);clear hi;intro q hq hi;(apply j1 hi;clear hi;rintro rfl);apply ak hv.str_inv;intro tt e0 hok;subst e0;have e:(aL (ss.val Γ.ε)).cps.toList.drop 0=q:=by rw[List.drop_zero,tW hq];rfl
  have go2:∀ ty,(ty="str_iterator"∨ty="str_ascii_iterator")→wpAny (model Γ.prog Γ.w) A (runOwn (.forLoop t (.ref s.heap.objs.size) b [] c.env) c.env) Q E {s with heap:=s.heap.push {cls:=.type ty,data:=.fields #[.str (aL (ss.val Γ.ε)) tt,.int 0 0]}}:=fun ty hty=>by
   refine go (Ca hty rfl) rfl ?_;have:=gN.str (imm:=(s.heap.objs.size,({cls:=.type ty,data:=.fields #[.str (aL (ss.val Γ.ε)) tt,.int 0 0]}:Obj))::imm) (ρ:=aj cs) (I:=s.heap.objs.size) (i:=0) (.head _) hty rfl rfl;rw[e] at this;exact this
  cases ha:(aL (ss.val Γ.ε)).cps.all (·<128) with
  |true=>exact wpAny_pyIter_ascii ha (go2 _ (.inr rfl))
  |false=>exact wpAny_pyIter_wide ha (go2 _ (.inl rfl))
 |rng n=>
  (apply j1 hi;clear hi;rintro rfl);apply pW hv.inv;intro aa tt uu vv e0 hb hle;subst e0
  ·have hr:IsRange s.heap aa 0 (n:Int) 1 tt uu vv:=(Rp.N _ (bn _ hb)).1
   have hsz:Builtin.Range.rangeSize 0 (n:Int) 1=(n:Int):=by
    rw[rangeSize_one]
    split<;>lia
   refine wpAny_pyIter_range hr ?_ ?_
   ·exact small_one (by lia) (by lia) (by lia) (by lia)
   ·rw[hsz]
    exact go (by dsimp only [cT];decide) rfl (.rng (.head _))
 |_=>injection hi
end
section
variable {Γ:aw}{β:Bd}{Y:Pi}
def aD.snoc(imm:Δ)(cs:List CC)(d:CC):aD imm cs imm (cs++[d]):=⟨fun U h=>h,fun k a h=>by rw[rn];exact xO h⟩
def ao.newL(R:ao Γ h₀ L h m ls σ imm cs)(hv:ar Γ imm (aj cs) vs xs)(hn:xs.length≤200000) :
  ao Γ h₀ L (h.push (listOf vs.toArray 0)) m ls (σ++[.list xs]) imm (cs++[.list h.objs.size vs 0]):=by
 have e:=aD.snoc imm cs (.list h.objs.size vs 0);refine⟨R.F.push _,fun q hq=>?_,?_,(R.C.mono e.i e.r).snoc (.list (hv.ext e) hn),fun x v hx=>?_⟩
 ·have hq':q∈(h.objs.size,listOf vs.toArray 0)::(imm++aG cs):=by
   rw[nW,←aC] at hq;rcases dy hq with a|a
   ·exact .tail _ a
   ·have:q∈[(h.objs.size,listOf vs.toArray 0)]:=by simpa [aG,CC.objs] using a
    rw[bU this];exact .head _
  exact(R.N.push R.F (listOf vs.toArray 0)) q hq'
 ·rw[nW,←aC,Zb]
  refine List.nodup_append.mpr ⟨R.nd,Zx.mpr ⟨fun q=>(nomatch q),.nil⟩,fun a ha b hb=>?_⟩;replace hb:b=h.objs.size:=bU hb;rw[hb];exact ZK (R.lt ha)
 ·apply ak (R.l x v hx);intro val a b
  exact⟨val,a,b.ext e⟩
def AW{h:Heap}(C:bh Γ imm ρ cs σ):VR Γ imm (aj (cs++[.list h.objs.size vs 0])) (.ref h.objs.size) (.cell (lenA σ)):=by
 refine .cell ?_;rw[rn,aR,←C.len];have:=vF (aj cs) h.objs.size
 rwa [show (aj cs).length=cs.length from Zh ..] at this
def Dg(I:bu Γ n R)
  (h:Am R ls σ es=some (r,σ')):bM Γ n (fun c=>eval (.List es pos) c.env) ls σ r σ':=by
 apply b8 h;clear h;intro vs σ1 h1 h;apply bV h;clear h;intro h2 h;(apply j2 h;clear h;rintro rfl rfl);apply bq (I.evs h1);intro ns g;have hz:=dX h2;rw[aR] at hz;intro c A s m imm cs Q E C l Rp k;show wpAny _ _ (standAt pos >>= fun U=>spliced (backTo pos (starEach es c.env)) >>= fun v=>newList v) _ _ _;refine Y6 (Zj (Y6 ?_));rw[ul pos ns.1];refine g C l Rp fun hx tx ix cx x Rx xx qx=>wpAny_newList ?_ (by rw[qx.len,ZH];lia);exact k _ tx _ _ _ (Rx.newL qx (by lia)) (xx.trans (aD.snoc ..)) (AW Rx.C)
def ar.app(g:ar Γ imm ρ vs xs)(h:ar Γ imm ρ us ys):ar Γ imm ρ (vs++us) (xs++ys):=by
 induction g using ar.ind with
 |nil=>exact h
 |cons a _ ih=>exact .cons a ih
def Dy(hx:ae σ k=some (.list xs))(hz:lenA xs≤100000){s:χ}{Q E:Θ}
  (_C:be Γ c A n) (R:ao Γ c.h₀ c.L s.heap m ls σ imm cs) (ho:VR Γ imm (aj cs) va (.cell k)) (hv:VR Γ imm (aj cs) val v)
  (kk:∀ h' imm' cs',ao Γ c.h₀ c.L h' m ls (cC σ k (.list (xs++[v]))) imm' cs'→aD imm cs imm' cs'→Q .none {s with heap:=h'}):wpAny (model Γ.prog Γ.w) A (call (.builtin "list.append") [va,val] []) Q E s:=by
 apply ak ho.cell_inv;intro a e0 ha;subst e0;apply d5 (R.C.cell ha hx);intro d pre post e0 l e2 cr;subst e0;apply gg cr.list_inv;intro b vs nn e0 hvs hsz;subst e0;(obtain e:=CC.same e2;subst e);rw[aR] at hz;have e:∀ z:List π×Nat,imm++aG (pre++CC.list b z.1 z.2::post)=(imm++aG pre)++(b,listOf z.1.toArray z.2)::aG post:=fun z=>by rw[nj];simp [CC.objs]
 have N:=R.N;have nd:=R.nd;rw[e (vs,nn)] at N nd;refine append_K (n:=nn) R.F N (uL nd) (fun h' F' N'=>?_) (by rw[Zl,hvs.len,ZH];lia);refine kk h' imm (pre++CC.list b (vs++[val]) (nn+1)::post) ?_ (aD.put imm pre post _ _ rfl);rw[←l];refine R.put rfl rfl F' (by have z:=e (vs++[val],nn+1);dsimp only at z;rw[z];rw[List.push_toArray] at N';exact N') (.list (hvs.app (.cons hv .nil)) (by rw[au,List.length_singleton];lia))
def Oa(hx:ae σ k=some (.rows t q))(hz:q.val Γ.ε≤1000000){s:χ}{Q E:Θ}
  (_C:be Γ c A n) (R:ao Γ c.h₀ c.L s.heap m ls σ imm cs) (ho:VR Γ imm (aj cs) va (.cell k)) (hv:VR Γ imm (aj cs) val (.str r))
  (kk:∀ h' imm' cs',ao Γ c.h₀ c.L h' m ls (cC σ k (.rows (t.app r) (q.add (.k 1)))) imm' cs'→aD imm cs imm' cs'→Q .none {s with heap:=h'}):wpAny (model Γ.prog Γ.w) A (call (.builtin "list.append") [va,val] []) Q E s:=by
 apply ak ho.cell_inv;intro a e0 ha;subst e0;apply d5 (R.C.cell ha hx);intro d pre post e0 l e2 cr;subst e0;apply d5 cr.rows_inv;intro b vs nn e0 hvs hok hsz;subst e0;(obtain e:=CC.same e2;subst e);apply ak hv.str_inv;intro tt e0 hro;subst e0;have e:∀ z:List π×Nat,imm++aG (pre++CC.list b z.1 z.2::post)=(imm++aG pre)++(b,listOf z.1.toArray z.2)::aG post:=fun z=>by rw[nj];simp [CC.objs]
 have N:=R.N;have nd:=R.nd;rw[e (vs,nn)] at N nd;refine append_K (n:=nn) R.F N (uL nd) (fun h' F' N'=>?_) (by rw[Zl,ZH];show vs.length≤_;lia);refine kk h' imm (pre++CC.list b (vs++[.str (aL (r.val Γ.ε)) tt]) (nn+1)::post) ?_ (aD.put imm pre post _ _ rfl);rw[←l];refine R.put rfl rfl F' (by have z:=e (vs++[.str (aL (r.val Γ.ε)) tt],nn+1);dsimp only at z;rw[z];rw[List.push_toArray] at N';exact N') (.rows ?_ (lF hok hro) (by rw[au,List.length_singleton,kS,cF];lia));rw[ir];exact .snoc hvs
end
section
variable {Γ:aw}{β:Bd}{Y:Pi}
def ut(h:jO i=true):i.natAbs≤1000001:=by
 exact Nat.le_succ_of_le (dX h)
set_option tactic.hygienic true in
def XK(h:jO i=true):Builtin.Int.intBits i≤64:=by
 have:=ut h;unfold Builtin.Int.intBits
 split
 ·lia
 ·rename_i q
  have hz:i.natAbs≠0:=by simpa using q
  have:i.natAbs.log2<63:=(Nat.log2_lt hz).mpr (by lia);lia
def O4(m:Int):∀ l:List (Nat×Int),b9 ε (l.map fun p=>(p.1,p.2*m))=b9 ε l*m:=by
 intro L0;induction L0 with
 |nil=>
  exact(Int.zero_mul m).symm
 |cons x0 r ih=>
  obtain⟨v,a⟩:=x0;show a*m*ε.iv v+b9 ε (r.map _)=(a*ε.iv v+b9 ε r)*m;rw[ih,Int.add_mul,Int.mul_assoc,Int.mul_comm m,←Int.mul_assoc]
def UY(x:ax)(m:Int):(x.smul m).val ε=x.val ε*m:=by
 show x.c*m+b9 ε (x.l.map _)=(x.c+b9 ε x.l)*m;rw[O4,Int.add_mul]
def Ly{x y:ax}(hy:y.conc=some j)(hs:jO j=true):iY Γ (binaryOp .Mult) (.int x) (.int y) (.int (x.smul j)):=by
 intro A s Q E imm ρ va vb ha hb k;apply bC ha.int_inv;intro t e0;subst e0;apply bC hb.int_inv;intro u e0;subst e0;rw[gJ hy];exact mul_int (k _ _ (.int (UY _ _).symm)) (.of_right (XK hs))
set_option smartUnfolding false in
def Rg(hm:0<m):∀ {l:List (Nat×Int)},mr m l=true→b9 ε l=(m:Int)*b9 ε (l.map fun p=>(p.1,Int.fdiv p.2 (.ofNat m))):=by
 intro L0;induction L0 with
 |nil=>
  intro _;exact(Int.mul_zero _).symm
 |cons x0 r ih=>
  obtain⟨v,a⟩:=x0;intro h;replace h:=aA (show (Nat.beq (a.natAbs % m) 0&&mr m r)=true from h);have h1:a.natAbs % m=0:=bg h.1;have h2:(m:Int) ∣ a:=Int.ofNat_dvd_left.mpr (Nat.dvd_of_mod_eq_zero h1);have h3:(m:Int)*a.fdiv m=a:=Int.mul_fdiv_cancel' h2;show a*ε.iv v+b9 ε r=(m:Int)*(Int.fdiv a m*ε.iv v+b9 ε (r.map fun p=>(p.1,Int.fdiv p.2 (.ofNat m))));rw[ih h.2,Int.mul_add,←Int.mul_assoc,h3]
def KG{x y:ax}(hx:mr m x.l=true)(hy:y.conc=some (Int.ofNat m))(hm:0<m)(hs:jO (.ofNat m)=true):iY Γ (binaryOp .FloorDiv) (.int x) (.int y) (.int (x.fdv m)):=by
 intro A s Q E imm ρ va vb ha hb k;apply bC ha.int_inv;intro t e0;subst e0;apply bC hb.int_inv;intro u e0;subst e0;rw[gJ hy];refine floordiv_int (by show (m:Int)≠0;lia) (k _ _ (.int ?_)) (.inl (PyProof.noPylong_small ?_))
 ·show Int.fdiv (x.c+b9 Γ.ε x.l) m=Int.fdiv x.c m+b9 Γ.ε (x.l.map fun p=>(p.1,Int.fdiv p.2 (.ofNat m)))
  rw[Rg hm hx,Int.add_mul_fdiv_left _ _ (by lia)]
 ·have:=ut hs;lia
def xJ(n:Nat)(l:ξ):(i9 n l).length=n*l.length:=by
 induction n with
 |zero=>exact(Nat.zero_mul _).symm
 |succ n ih=>show (l++i9 n l).length=_;rw[au,ih,Nat.succ_mul];lia
theorem Ju(l:ξ):∀ (n:Nat) (acc:Array Nat),((List.replicate n l.toArray).foldl (·++·) acc).toList=acc.toList++i9 n l
 |0,acc=>(apN _).symm
 |n+1,acc=>by
  rw[Zr,List.foldl_cons,Ju l n,Array.toList_append,aC];rfl
set_option tactic.hygienic true in
def Ia(l:ξ)(n:Nat):Txt.mul (aL l) (Int.ofNat n)=aL (i9 n l):=by
 unfold Txt.mul
 by_cases h1:Int.ofNat n<1
 ·rw[if_pos h1]
  have:n=0:=by have:(n:Int)<1:=h1;lia
  subst this;rfl
 ·rw[if_neg h1]
  split
  ·rename_i h2
   rcases Bool.or_eq_true_iff.mp h2 with h2|h2
   ·have:n=1:=by have:=Zq.mp h2;have:(n:Int)=1:=this;lia
    subst this;show aL l=aL (l++[]);rw[apN]
   ·have:=Zq.mp h2
    rw[eQ] at this;have:=Zz this;subst this;have e:∀ n,i9 n ([]:ξ)=[]:=fun n=>by induction n with|zero=>rfl|succ n ih=>exact ih
    rw[e]
  ·have:=Ju l n #[]
   show (⟨_⟩ : Str)=⟨_⟩
   congr 1
   apply Array.toList_inj.mp;show ((List.replicate n l.toArray).foldl (·++·) #[]).toList=_;rw[this];simp
set_option tactic.hygienic true in
def G9{l:ξ}(h:n*l.length≤1000000)(hn:n≤1000001):MulOk (aL l) (Int.ofNat n):=by
 refine⟨?_,fun _ _=>?_,fun _ _=>?_⟩
 ·have:((n:Int)<2 ^ 63):=by lia
  have h2:¬ ((n:Int) < -(2 ^ 63)):=by lia
  show (decide ((n:Int) < -(2 ^ 63)) ||decide ((n:Int)≥2 ^ 63))=false;simp;lia
 ·rename_i h1 _
  have hn0:(0:Int)<(n:Int):=by have:¬ ((n:Int)<1):=h1;lia
  have:(((aL l).length:Nat):Int)≤(2 ^ 63-1) / (n:Int):=by
   refine Int.le_ediv_of_mul_le hn0 ?_;rw[eQ];have:(l.length:Int)*(n:Int)=((n*l.length:Nat):Int):=by rw[Int.natCast_mul,Int.mul_comm]
   rw[this];lia
  exact Int.not_lt.mpr this
 ·show decide (_>sizeLine)=false
  rw[eQ,ZH,Zg];have:l.length*(Int.ofNat n).toNat=n*l.length:=by rw[Nat.mul_comm];rfl
  rw[this];lia
theorem Il(ch:Nat):∀ n,i9 n [ch]=List.replicate n ch
 |0=>rfl
 |n+1=>by show ch::i9 n [ch]=_;rw[Il ch n];rfl
def WF(he:Γ.ε.Ok)(hb:aV β Γ.ε)(h:Jy β s b=some r):iY Γ (binaryOp .Mult) (.str s) b r:=by
 apply aE h;clear h;intro l hl h;apply aE h;intro n e hj;(obtain e:=gP e;subst e);clear h;have put:∀ {ss:SS} {m:Int},n.val Γ.ε=m→cE Γ.ε ss→(ss.val Γ.ε).length≤16777216→MulOk (aL l) m→Txt.mul (aL l) m=aL (ss.val Γ.ε)→iY Γ (binaryOp .Mult) (.str s) (.int n) (.str ss):=fun e1 e2 e3 e4 e5=>by
  intro A st Q E imm ρ va vb ha hb' k;apply ak ha.str_inv;intro t e0 o1;subst e0;apply bC hb'.int_inv;intro u e0;subst e0;rw[tW hl,e1];refine SB.mul e4 fun t' k'=>?_;rw[e5];exact k k' _ (.str rfl e2 e3)
 cases hn:n.conc with
 |some m=>
  rw[hn] at hj;cases m with
  |ofNat m=>
   apply bV (show yw β l (.ofNat m)=some r from hj);intro g h;have hz:=uv he hb (jm _) h;apply bq (r8 h);intro e0 _;subst e0;rw[dY,xJ] at hz;exact @put (SS.k (i9 m l)) _ (gJ hn) (jm _) (by rw[dY,xJ];lia) (G9 hz (ut g)) (by rw[Ia,dY])
  |negSucc m=>
   apply bV (show yw β l (.negSucc m)=some r from hj);intro g h;(apply j1 h;clear h;rintro rfl);have hs:=ut g;have h0:=Int.negSucc_lt_zero m;refine @put [] _ (gJ hn) (fun U h=>(nomatch h)) (by show 0≤_;lia) ⟨?_,fun h1=>absurd h0 (fun z=>h1 (by lia)),fun h1=>absurd h0 (fun z=>h1 (by lia))⟩ (by unfold Txt.mul;rw[if_pos (by lia)];rfl);rw[Bool.or_eq_false_iff,Zg,Zg];constructor<;>lia
 |none=>
  rw[hn] at hj;apply aE (show Fv β l n=some r from hj);intro ch h1 h;apply aE h;clear h;intro neg h2 h;apply bV h;clear h;intro h3 h;(obtain e:=ow h1;subst e);have hneg:neg=false:=by induction neg using oB<;>first|rfl|injection h3
  subst hneg;have h0:0≤n.val Γ.ε:=by
   have:=tT hb h2;have z:(ax.k 0).val Γ.ε=0:=cF 0;rw[z] at this;simpa using this
  have hso:cE Γ.ε [.rep ch n]:=fun q hq=>by rw[bU hq];exact h0
  have hz:=uv he hb hso h;apply bq (r8 h);intro e0 _;subst e0;apply bC (Int.eq_ofNat_of_zero_le h0);intro m hm;have hv:SS.val Γ.ε [.rep ch n]=i9 m [ch]:=by
   rw[Il];show List.replicate (n.val Γ.ε).toNat ch++[]=_;rw[hm,apN];rfl
  rw[hv,xJ] at hz;exact @put [.rep ch n] (Int.ofNat m) hm hso (by rw[hv,xJ];lia) (G9 hz (by simp at hz;lia)) (by rw[Ia,hv])
end
section
variable {Γ:aw}{β:Bd}{Y:Pi}
def H0(h:BW i=some m):i=Int.ofNat m∧0<m:=by
 cases i with
 |ofNat n=>
  cases n with
  |zero=>injection h
  |succ n=>exact osI h▸⟨rfl,Nat.succ_pos _⟩
 |negSucc n=>injection h
abbrev B2 (Γ:aw) (op:Operator) (a b r:AV):Prop:=iY Γ (binaryOp op) a b r
section
variable {a b:AV}
def Ol(he:Γ.ε.Ok)(hb:aV β Γ.ε):OB (DF β a b) (B2 Γ .Add a b):=by
 induction a using AV.casesOn with
 |int x=>exact OB.ob (m:=eU b) (f:=fun y=>some (AV.int (x.add y))) fun y h1=>by (obtain e:=gP h1;subst e);exact OB.pure fun ha hb2 k=>Nh ha hb2 k
 |str x=>exact OB.ob (m:=kB b) (f:=fun y=>fu β (x.app y)) fun y h1 r h=>by (obtain e:=nw h1;subst e);exact fun ha hb2 k=>(Q9 he hb h) ha hb2 k
 |_=>exact OB.no
def NM:OB (AM a b) (B2 Γ .Sub a b):=OB.ob fun x h1=>OB.ob fun y h2=>by (obtain e:=gP h1;subst e);(obtain e:=gP h2;subst e);exact OB.pure fun ha hb2 k=>J6 ha hb2 k
def MX(he:Γ.ε.Ok)(hb:aV β Γ.ε):OB (HV β a b) (B2 Γ .Mult a b):=by
 induction a using AV.casesOn with
 |int x=>
  show OB (C6 x b) _;exact OB.ob fun j h2=>OB.gd fun h3=>by
   apply ak (mQ h2);intro y e0 hy;subst e0;exact OB.pure fun ha hb2 k=>Ly hy h3 ha hb2 k
 |str s=>exact fun r h=>WF he hb h
 |_=>exact OB.no
def Rm:OB (FX a b) (B2 Γ .FloorDiv a b):=OB.ob fun x h1=>OB.ob fun j h2=>OB.gd fun h3=>OB.ob fun m h4=>OB.gd fun h5=>by
 (obtain e:=gP h1;subst e);apply ak (mQ h2);intro y e0 hy;subst e0;apply bq (H0 h4);intro e0 hm;subst e0;exact OB.pure fun ha hb2 k=>KG h5 hy hm h3 ha hb2 k
def U7:OB (IM a b) (B2 Γ .Mod a b):=by
 induction a using AV.casesOn with
 |int x=>
  show OB (Jw x b) _;exact OB.ob fun j h2=>OB.ob fun m h4=>OB.gd fun h1=>by
   apply ak (mQ h2);intro y e0 hy;subst e0;apply bq (H0 h4);intro e0 hm;subst e0;exact OB.pure fun ha hb2 k=>Wn h1 hy hm ha hb2 k
 |_=>exact OB.no
def He(he:Γ.ε.Ok)(hb:aV β Γ.ε)(h:nu β op a b=some r):B2 Γ op a b r:=by
 cases op with
 |Add=>exact Ol he hb r h
 |Sub=>exact NM r h
 |Mult=>exact MX he hb r h
 |FloorDiv=>exact Rm r h
 |Mod=>exact U7 r h
 |_=>injection h
end
def E7(Γ:aw):Prop :=
 ∀ {σ i j xs ys},ae σ i=some (.list xs)→ae σ j=some (.list ys)→lenA xs+lenA ys≤100000→∀ {c A s m ls imm cs va vb} {n:Nat} {Q E:Θ},be Γ c A n→ao Γ c.h₀ c.L s.heap m ls σ imm cs→VR Γ imm (aj cs) va (.cell i)→VR Γ imm (aj cs) vb (.cell j) →
  (∀ h' tk cs' val,ao Γ c.h₀ c.L h' m ls (σ++[.list (xs++ys)]) imm cs'→aD imm cs imm cs'→VR Γ imm (aj cs') val (.cell (lenA σ))→Q val (sU s h' tk))→wpAny (model Γ.prog Γ.w) A (binaryOp .Add va vb) Q E s
def Nd(he:Γ.ε.Ok)(hb:aV Y.β Γ.ε)(hl:E7 Γ)(I:bu Γ n R)
  (h:IZ Y R ls σ el op er=some (r,σ')):bM Γ n (fun c=>eval (.BinOp el op er pos) c.env) ls σ r σ':=by
 apply b8 h;clear h;intro a σ1 h1 h;apply b8 h;clear h;intro b σ2 h2 h;cases q:eG a with
 |none=>
  rw[q] at h;apply aE (show JP Y op a b σ2=some (r,σ') from h);clear h;intro r' h3 h;(apply j2 h;clear h;rintro rfl rfl);exact CS (I.ev h1) (I.ev h2) (He he hb h3)
 |some i=>
  rw[q] at h;(obtain e:=jK q;subst e);cases op with
  |Add=>
   apply aE (show EO σ2 i b=some (r,σ') from h);clear h;intro j h3 h;apply aE h;clear h;intro x h4 h;apply aE h;clear h;intro y h5 h;apply bV h;clear h;intro h7 h;(apply j2 h;clear h;rintro rfl rfl);(obtain e:=jK h3;subst e);intro c A s m imm cs Q E C l Rp k;refine wpAny_BinOp (I.ev h1 C l Rp fun hx tx ix cx va Rx xx qx=>I.ev h2 C l (s:=sU s hx tx) Rx fun hy ty iy cy vb Ry xy qy=>?_);exact hl (gE h4) (gE h5) (dX h7) C (s:=sU s hy ty) Ry (qx.ext xy) qy fun h' tk cs' val R' x' q'=>k h' tk iy cs' val R' (xx.trans (xy.trans x')) q'
  |_=>injection h
end
section
variable {Γ:aw}{β:Bd}{Y:Pi}
def ao.newAt(R:ao Γ h₀ L h m ls σ imm cs){vs:List π}(F:Fr h₀ L h' m)(N:News h₀ L h' ((a,listOf vs.toArray nn)::(imm++aG cs)))
  (ha:a ∉ (imm++aG cs).map Prod.fst) (hv:ar Γ imm (aj cs) vs xs) (hn:xs.length≤200000):ao Γ h₀ L h' m ls (σ++[.list xs]) imm (cs++[.list a vs nn]):=by
 have e:=aD.snoc imm cs (.list a vs nn);refine⟨F,fun q hq=>?_,?_,(R.C.mono e.i e.r).snoc (.list (hv.ext e) hn),fun x v hx=>?_⟩
 ·refine N q ?_
  rw[nW,←aC] at hq;rcases dy hq with a2|a2
  ·exact .tail _ a2
  ·have:q∈[(a,listOf vs.toArray nn)]:=by simpa [aG,CC.objs] using a2
   rw[bU this];exact .head _
 ·rw[nW,←aC,Zb]
  refine List.nodup_append.mpr ⟨R.nd,Zx.mpr ⟨fun q=>(nomatch q),.nil⟩,fun a' ha' b hb=>?_⟩;replace hb:b=a:=bU hb;rw[hb];exact fun e=>ha (e▸ha')
 ·apply ak (R.l x v hx);intro val q1 q2
  exact⟨val,q1,q2.ext e⟩
def O9(C:bh Γ imm ρ cs σ):VR Γ imm2 (aj (cs++[d])) (.ref d.addr) (.cell (lenA σ)):=by
 refine .cell ?_;rw[rn,aR,←C.len];have:=vF (aj cs) d.addr
 rwa [show (aj cs).length=cs.length from Zh ..] at this
def FP:E7 Γ:=by
 intro σ i j xs ys hi hj hz c A s m ls imm cs va vb n Q E C R ha hb k;apply jc (R.lst ha hi);intro a vs n1 pre post e0 e1 _ g1 v1 z1;subst e0;apply jc (R.lst hb hj);intro b us n2 pre2 post2 e0 e2 _ g2 v2 z2;subst e0;rw[aR,aR] at hz;refine add_lists R.F R.N ⟨_,g1,rfl,_,rfl⟩ ⟨_,g2,rfl,_,rfl⟩ (fun h' F' N'=>?_) (by rw[v1.len,v2.len,ZH];lia);refine k h' s.toks (cs++[.list s.heap.objs.size (vs++us) 0]) _ (R.newAt F' N' (fun q=>Nat.lt_irrefl _ (R.lt q)) (v1.app v2) (by rw[au];lia)) (aD.snoc ..) (O9 R.C)
def M6(he:Γ.ε.Ok)(hb:aV Y.β Γ.ε)(I:bu Γ n R)
  (h:DY Y R ls σ e=some (r,σ')):bM Γ n (fun c=>eval (.UnaryOp .Not e pos) c.env) ls σ r σ':=by
 apply b8 h;clear h;intro v σ1 h1 h;apply aE h;clear h;intro b h2 h;(apply j2 h;clear h;rintro rfl rfl);intro c A s m imm cs Q E C l Rp k;show wpAny _ _ (eval e c.env >>= fun v=>standAt pos >>= fun U=>holding [v] (unaryOp .Not v)) _ _ _;refine Y6 (I.ev h1 C l Rp fun hx tx ix cx va Rx xx qx=>Y6 (Zj (Ze ?_)));unfold unaryOp;refine Ze ?_;show wpAny _ _ (truthy va >>= fun b=>pure (Value.bool !b)) _ _ _;refine Y6 ?_;exact v8 (Γ:=Γ) he hb h2 qx C Rx fun tk=>Y8 (k hx tk ix cx _ Rx xx (.bool _))
def J8:bM Γ n (fun c=>eval (.UnaryOp .USub (.Constant (.int i) q p2) pos) c.env) ls σ (.int (.k (-i))) σ:=by
 intro c A s m imm cs Q E C l Rp k;show wpAny _ _ (eval (.Constant (.int i) q p2) c.env >>= fun v=>standAt pos >>= fun U=>holding [v] (unaryOp .USub v)) _ _ _;refine Y6 (wpAny_Constant_int (Y6 (Zj (Ze (PyProof.Rows.neg_int ?_)))));exact k s.heap _ imm cs _ Rp (aD.refl ..) (.int (cF _).symm)
end
end
section
set_option backward.match.sparseCases false
section
variable {ε:Ev}
def Bq(he:ε.Ok)(h:cE ε (p::r)):p.len.val ε=((p.val ε).length:Int):=by
 have hp:=h p (.head _);induction p using Pc.casesOn with
 |lit l=>show (ax.k (.ofNat (lenA l))).val ε=_;rw[cF,aR];rfl
 |var i=>show (0+(1*ε.iv (2*i+1)+0))=_;rw[he i];show (0+(1*((ε.sv i).length:Int)+0))=((ε.sv i).length:Int);lia
 |rep c n=>show n.val ε=((List.replicate (n.val ε).toNat c).length:Int);rw[Za];have:0≤n.val ε:=hp;lia
def cE.tl(h:cE ε (p::r)):cE ε r:=fun q hq=>h q (.tail _ hq)
def zB(h:lJ o l=some k):o.val ε=(k:Int)∧k<l.length:=by
 apply aE h;clear h;intro i h1 h;cases i with
 |negSucc _=>injection h
 |ofNat j=>
  replace h:Bool.rec (motive:=fun U=>κ Nat) none (some j) (j.blt (lenA l))=some k:=h;cases q:Nat.blt j (lenA l) with
  |false=>rw[q] at h;injection h
  |true=>
   rw[q] at h;(apply j1 h;clear h;rintro rfl);rw[aR] at q;exact⟨gJ h1,dX q⟩
def vG{o q:ax}{m k:Nat}(h1:(o.sub q).val ε=(k:Int))(h2:q.val ε=(m:Int)):o.val ε=((m+k:Nat):Int):=by
 rw[nq,h2] at h1;lia
def Rk(he:ε.Ok):∀ {o:ax},cE ε s→tc s o=some c→∃ k:Nat,o.val ε=(k:Int)∧(s.val ε)[k]?=some c:=by
 induction s with
 |nil=>intro o _ h;injection h
 |cons p r ih=>
  intro o hs h;replace h:Ft p o (tc r (o.sub p.len))=some c:=h;have go:tc r (o.sub p.len)=some c→∃ k:Nat,o.val ε=(k:Int)∧(p.val ε++SS.val ε r)[k]?=some c:=fun h=>by
   apply ak (ih hs.tl h);intro k h1 h2;exact⟨(p.val ε).length+k,vG h1 (Bq he hs),by rw[List.getElem?_append_right (Nat.le_add_right ..),Zt];exact h2⟩
  induction p using Pc.casesOn with
  |lit l=>
   replace h:Option.rec (motive:=fun U=>κ Nat) (tc r (o.sub (Pc.lit l).len)) (fun k=>ae l k) (lJ o l)=some c:=h;cases q:lJ o l with
   |none=>rw[q] at h;exact go h
   |some k=>
    rw[q] at h;apply bq (zB (ε:=ε) q);intro h1 h2;replace h:ae l k=some c:=h;rw[dt] at h;exact⟨k,h1,(List.getElem?_append_left h2).trans h⟩
  |var i=>exact go h
  |rep _ n=>exact go h
def wC(h:jA o=true):o.val ε=0:=by
 replace h:Option.rec (motive:=fun U=>Bool) false (fun i=>lU i 0) o.conc=true:=h;cases q:o.conc with
 |none=>rw[q] at h;injection h
 |some i=>
  rw[q] at h;rw[gJ q];cases i with
  |ofNat n=>exact congrArg Int.ofNat (bg h)
  |negSucc n=>injection h
def Le(he:ε.Ok):∀ {o:ax},cE ε s→pE s o=some t→cE ε t∧∃ k:Nat,o.val ε=(k:Int)∧k≤(s.val ε).length∧t.val ε=(s.val ε).drop k:=by
 induction s with
 |nil=>
  intro o hs h;replace h:Bool.rec (motive:=fun U=>κ SS) none (some []) (jA o)=some t:=h;cases q:jA o with
  |false=>rw[q] at h;injection h
  |true=>rw[q] at h;(apply j1 h;clear h;rintro rfl);exact⟨hs,0,wC q,Zc _,rfl⟩
 |cons p r ih=>
  intro o hs h;replace h:Bool.rec (motive:=fun U=>κ SS) (AH p r o (pE r (o.sub p.len))) (some (p::r)) (jA o)=some t:=h;cases z:jA o with
  |true=>rw[z] at h;(apply j1 h;clear h;rintro rfl);exact⟨hs,0,wC z,ZA _,rfl⟩
  |false=>
   rw[z] at h;replace h:AH p r o (pE r (o.sub p.len))=some t:=h;have go:pE r (o.sub p.len)=some t→cE ε t∧∃ k:Nat,o.val ε=(k:Int)∧k≤(p.val ε++SS.val ε r).length∧t.val ε=(p.val ε++SS.val ε r).drop k:=fun h=>by
    apply bq (ih hs.tl h);clear h;intro h0 h;apply ed h;intro k h1 h2 h3;exact⟨h0,(p.val ε).length+k,vG h1 (Bq he hs),by rw[au];exact Nat.add_le_add_left h2 _,h3.trans (List.drop_length_add_append _).symm⟩
   induction p using Pc.casesOn with
   |lit l=>
    replace h:Option.rec (motive:=fun U=>κ SS) (pE r (o.sub (Pc.lit l).len)) (fun k=>some (.lit (aO k l)::r)) (lJ o l)=some t:=h;cases q:lJ o l with
    |none=>rw[q] at h;exact go h
    |some k=>
     rw[q] at h;(apply j1 h;clear h;rintro rfl);apply bq (zB (ε:=ε) q);intro h1 h2;refine⟨fun x hx=>(bk hx).elim (fun e=>by rw[e];trivial) fun hx=>hs x (.tail _ hx),k,h1,?_,?_⟩
     ·show k≤(l++SS.val ε r).length;rw[au];exact Nat.le_trans (Nat.le_of_lt h2) (Nat.le_add_right ..)
     ·show aO k l++SS.val ε r=(l++SS.val ε r).drop k
      rw[ux,List.drop_append_of_le_length (Nat.le_of_lt h2)]
   |var i=>exact go h
   |rep _ n=>exact go h
def YL(he:ε.Ok):∀ {o:ax} {t:SS},cE ε s→r6 s o=some t→cE ε t∧∃ k:Nat,o.val ε=(k:Int)∧k≤(s.val ε).length∧t.val ε=(s.val ε).take k:=by
 induction s with
 |nil=>
  intro o t hs h;replace h:Bool.rec (motive:=fun U=>κ SS) none (some []) (jA o)=some t:=h;cases q:jA o with
  |false=>rw[q] at h;injection h
  |true=>rw[q] at h;(apply j1 h;clear h;rintro rfl);exact⟨hs,0,wC q,Zc _,rfl⟩
 |cons p r ih=>
  intro o t hs h;replace h:Bool.rec (motive:=fun U=>κ SS) (AL p o (r6 r (o.sub p.len))) (some []) (jA o)=some t:=h;cases z:jA o with
  |true=>rw[z] at h;(apply j1 h;clear h;rintro rfl);exact⟨fun U h=>absurd h Zp,0,wC z,ZA _,rfl⟩
  |false=>
   rw[z] at h;replace h:AL p o (r6 r (o.sub p.len))=some t:=h;have go:(ob (r6 r (o.sub p.len)) fun t=>some (p::t))=some t→cE ε t∧∃ k:Nat,o.val ε=(k:Int)∧k≤(p.val ε++SS.val ε r).length∧t.val ε=(p.val ε++SS.val ε r).take k:=fun h=>by
    apply aE h;clear h;intro u h0 h;(apply j1 h;clear h;rintro rfl);apply bq (ih hs.tl h0);clear h0;intro h0 h;apply ed h;intro k h1 h2 h3;exact⟨fun x hx=>(bk hx).elim (fun e=>e▸hs p (.head _)) fun hx=>h0 x hx,(p.val ε).length+k,vG h1 (Bq he hs),by rw[au];exact Nat.add_le_add_left h2 _,(congrArg (p.val ε++·) h3).trans (List.take_length_add_append _).symm⟩
   induction p using Pc.casesOn with
   |lit l=>
    replace h:Option.rec (motive:=fun U=>κ SS) (ob (r6 r (o.sub (Pc.lit l).len)) fun t=>some (.lit l::t)) (fun k=>some [.lit (aQ k l)]) (lJ o l)=some t:=h;cases q:lJ o l with
    |none=>rw[q] at h;exact go h
    |some k=>
     rw[q] at h;(apply j1 h;clear h;rintro rfl);apply bq (zB (ε:=ε) q);intro h1 h2;refine⟨fun x hx=>by rw[bU hx];trivial,k,h1,?_,?_⟩
     ·show k≤(l++SS.val ε r).length;rw[au];exact Nat.le_trans (Nat.le_of_lt h2) (Nat.le_add_right ..)
     ·show aQ k l++[]=(l++SS.val ε r).take k
      rw[mV,apN,List.take_append_of_le_length (Nat.le_of_lt h2)]
   |var i=>exact go h
   |rep _ n=>exact go h
def yE(he:ε.Ok)(hs:cE ε s):(0≤(m8 s n).val ε→(m8 s n).val ε=n.val ε∨(n.val ε<0∧(m8 s n).val ε=((s.val ε).length:Int)+n.val ε)):=by
 intro h;have e:m8 s n=Option.rec (motive:=fun U=>ax) n (fun i=>match i with|.ofNat _=>n|.negSucc _=>s.len.add n) n.conc:=rfl;cases q:n.conc with
 |none=>rw[q] at e;rw[e];exact .inl rfl
 |some i=>
  rw[q] at e;cases i with
  |ofNat k=>rw[e];exact .inl rfl
  |negSucc k=>rw[e];right;show _∧(s.len.add n).val ε=_;rw[kS,jT he hs,gJ q];exact⟨Int.negSucc_lt_zero k,rfl⟩
end
end
section
section
variable {Γ:aw}{β:Bd}{Y:Pi}
def ue(h:dh n j=some q):q<n∧((0≤j∧j=(q:Int))∨(j<0∧-(n:Int)≤j∧j+(n:Int)=(q:Int))):=by
 unfold dh seqIndex? at h;dsimp only at h;rw[Option.ite_none_right_eq_some,Y9,decide_eq_true_iff,decide_eq_true_iff] at h;obtain⟨⟨h1,h2⟩,h3⟩:=h;injection h3 with h3;replace h3:=h3▸(Int.toNat_of_nonneg h1).symm;rw[h3] at h2;refine⟨Int.ofNat_lt.mp h2,?_⟩
 by_cases h0:j<0
 ·rw[if_pos h0] at h1 h3;exact .inr ⟨h0,Int.add_nonneg_iff_neg_le.mp h1,h3⟩
 ·rw[if_neg h0] at h3;exact .inl ⟨Int.not_lt.mp h0,h3⟩
def Mn{n:ax}(hx:ae σ k=some (.list xs))(hj:n.conc=some j)(hq:dh (lenA xs) j=some q)(hr:ae xs q=some r){s:χ}{Q E:Θ}
  (_C:be Γ c A d) (R:ao Γ c.h₀ c.L s.heap m ls σ imm cs) (ha:VR Γ imm (aj cs) va (.cell k)) (hi:VR Γ imm (aj cs) vi (.int n)) (kk:∀ tk val,VR Γ imm (aj cs) val r→Q val {s with toks:=tk}):wpAny (model Γ.prog Γ.w) A (getItem va vi) Q E s:=by
 apply jc (R.lst ha hx);intro a vs nn pre post e0 e1 _ g1 v1 z1;subst e0;apply bC hi.int_inv;intro t e0;subst e0;rw[gJ hj];rw[aR] at hq;apply bq (ue hq);intro hlt hcase;have hit:=v1.item q;rw[hr] at hit;apply ak hit;intro val i1 i2;have hsz:vs.toArray.size=xs.length:=by rw[Zl,v1.len]
 rcases hcase with ⟨h0,rfl⟩|⟨h0,h1,h2⟩
 ·exact wpAny_getItem_list ⟨_,g1,rfl,_,rfl⟩ h0 (by lia) (by rw[Zm];exact i1) (kk s.toks val i2)
 ·exact wpAny_getItem_list_neg ⟨_,g1,rfl,_,rfl⟩ h0 (by rw[hsz];exact h1) (by lia) (by rw[hsz,h2,Zm];exact i1) (kk s.toks val i2)
def yq{n:Nat}{j:Int}{q:Nat}(hlt:q<n)(hcase:(0≤j∧j=(q:Int))∨(j<0∧-(n:Int)≤j∧j+(n:Int)=(q:Int))):seqIndex? j n=some q:=by
 rcases hcase with ⟨h0,rfl⟩|⟨h0,h1,h2⟩
 ·exact PySem.seqIndex_of h0 (Int.ofNat_lt.mpr hlt)
 ·rw[PySem.seqIndex_neg h0 h1,h2];rfl
def seqIndex_of(h:dh n j=some q):seqIndex? j n=some q:=h
def Eu{ss:SS}{n:ax}(hlt:q<(ss.val Γ.ε).length)(hcase:(0≤n.val Γ.ε∧n.val Γ.ε=(q:Int))∨(n.val Γ.ε<0∧-((ss.val Γ.ε).length:Int)≤n.val Γ.ε∧n.val Γ.ε+((ss.val Γ.ε).length:Int)=(q:Int)))(hr:(ss.val Γ.ε)[q]?=some ch){Q E:Θ}
  (ha:VR Γ imm ρ va (.str ss)) (hi:VR Γ imm ρ vi (.int n)) (kk:∀ tk val,VR Γ imm ρ val (.str [.lit [ch]])→Q val {s with toks:=tk}):wpAny (model Γ.prog Γ.w) A (getItem va vi) Q E s:=by
 apply ak ha.str_inv;intro t e0 _;subst e0;have hz:=ha.str_len;apply bC hi.int_inv;intro u e0;subst e0;refine P.getItem_str (c:=ch) ?_ ?_ (kk _ _ (.str rfl (jm [ch]) (show 1≤16777216 by decide)))
 ·rw[Bool.or_eq_false_iff,Zg,Zg]
  rcases hcase with ⟨h0,h1⟩|⟨h0,h1,h2⟩<;>constructor<;>lia
 ·rw[eQ,yq hlt hcase]
  show (aL (ss.val Γ.ε)).cps[q]?=some ch;show (ss.val Γ.ε).toArray[q]?=some ch;rw[Zm];exact hr
def NV(he:Γ.ε.Ok)(h:A1 ss n=some r){Q E:Θ}
  (ha:VR Γ imm ρ va (.str ss)) (hi:VR Γ imm ρ vi (.int n)) (kk:∀ tk val,VR Γ imm ρ val r→Q val {s with toks:=tk}):wpAny (model Γ.prog Γ.w) A (getItem va vi) Q E s:=by
 replace h:Option.rec (motive:=fun U=>κ AV) (IA ss n) (fun l=>HB l n) ss.conc=some r:=h;cases q:ss.conc with
 |some l=>
  rw[q] at h;apply aE h;intro j e2 hj;apply aE hj;clear hj;intro i hq hj;apply aE hj;clear hj;intro ch e3 hj;(apply j1 hj;clear hj;rintro rfl);rw[aR] at hq;apply bq (ue hq);intro hlt hcase;have e:=jU (ε:=Γ.ε) q;rw[dt] at e3;exact Eu (by rw[e];exact hlt) (by rw[e,gJ e2];exact hcase) (by rw[e];exact e3) ha hi kk
 |none=>
  rw[q] at h;apply aE h;clear h;intro ch h1 h;(apply j1 h;clear h;rintro rfl);replace ho:cE Γ.ε ss:=by apply ak ha.str_inv;intro t e0 ho;exact ho
  apply ak (Rk he ho h1);intro k g1 g2;refine Eu (Zo.mp g2).1 ?_ g2 ha hi kk;rcases yE he ho (by rw[g1];exact cW _) with e|⟨e0,e⟩
  ·replace e:=e.symm.trans g1;exact .inl ⟨by rw[e];exact cW _,e⟩
  ·replace e:=(Int.add_comm ..).trans (e.symm.trans g1);exact .inr ⟨e0,Int.add_nonneg_iff_neg_le.mp (by rw[e];exact cW _),e⟩
def Tq{n:ax}(hj:n.conc=some j)(hq:dh (lenA xs) j=some q)(hr:ae xs q=some r){s:χ}{Q E:Θ}
  (C:be Γ c A d) (R:ao Γ c.h₀ c.L s.heap m ls σ imm cs) (hs:jO j=true) (ha:VR Γ imm (aj cs) va (.tup xs)) (hi:VR Γ imm (aj cs) vi (.int n)) (kk:∀ tk val,VR Γ imm (aj cs) val r→Q val {s with toks:=tk}):wpAny (model Γ.prog Γ.w) A (getItem va vi) Q E s:=by
 apply gg ha.tup_inv;intro a vs nn e0 hk v1;subst e0;apply bC hi.int_inv;intro t e0;subst e0;have g1:s.heap.get? a=some {cls:=.type "tuple",data:=.seq vs.toArray nn}:=hk.elim (fun z=>(R.N _ (bn _ z)).1) (fun z=>C.X.keeps R.F.keep _ _ z);rw[gJ hj];rw[aR] at hq;have hit:=v1.item q;rw[hr] at hit;apply ak hit;intro val i1 i2;have hsz:vs.toArray.size=xs.length:=by rw[Zl,v1.len]
 have:=ut hs;exact P.getItem_tuple (n:=nn) g1 (by lia) (by lia) (by rw[hsz];exact seqIndex_of hq) (by rw[Zm];exact i1) (kk s.toks val i2)
end
section
variable {prog:Program}{w:World}{A:Around}{E:Θ}{s:χ}
def XO{Q:Unit→χ→Prop}(hl:s.heap.IsList l items)
  (h0:k<0) (h1 : -(items.size:Int)≤k) (hfit : -(2 ^ 63)≤k) (hx:items[(k+items.size).toNat]?=some x)
  (hQ:∀ h',h'=s.heap.update l (Obj.mapSeq (·.setIfInBounds (k+items.size).toNat v))→Q () {s with heap:=h'}):wpAny (model prog w) A (setItem (.ref l) (.int k t) v) Q E s:=by
 apply JG (id hl);intro o ho hc ne hd;unfold setItem
 try with_reducible refine Ze ?_
 first|refine Y6 (Y8 ?_)|skip
 refine Y6 (wpAny_sequenceKey hl.typeIs (by decide) ?_);refine Y6 (wpAny_callSpecial?_slot (name:=Str.ofString "__setitem__") hl.typeIs slot_list_setitem
  (wpAny_call_entry slot_list_setitem hl.typeIs entry_list_setitem ?_ (args_list_setitem _ _ _)))
 show wpAny _ _ (Builtin.List.listSubscript? (.int k t) >>= _) _ _ s;refine Y6 (wpAny_listSubscript_int (fitsIndex_neg h0 hfit) ?_);clear hfit;have hidx:=seqIndex_neg h0 h1;generalize hq:(k+(items.size:Int)).toNat=q at *
 obtain⟨j,rfl⟩ : ∃ j:Nat,k=Int.negSucc j:=by
  cases k with
  |ofNat n=>exact absurd h0 (Int.not_lt.mpr (cW n))
  |negSucc n=>exact⟨n,rfl⟩
 show wpAny _ _ ((Builtin.List.listItems (.ref l) >>= fun xs=>pure ((seqIndex? (Int.negSucc j) xs.size).bind fun i=>xs[i]?.map (i,·))) >>= _) _ _ s;refine Y6 (Y6 ?_);show wpAny _ _ (seqItems? (.ref l) >>= _) _ _ s;refine Y6 (wpAny_seqItems ho hd (Y8 (Y8 ?_)));rw[hidx];simp only [Option.bind_some,hx,Option.map_some];show wpAny _ _ (setSeqItemAt l q v >>= _) _ _ s;refine Y6 (wpAny_setSeqItemAt ho hd ?_)
 first
  |exact Y6 (Y8 (Y8 ⟨.none,rfl,Y8 (hQ _ rfl)⟩))
  |exact Y8 ⟨.none,rfl,Y8 (hQ _ rfl)⟩
def V2{Q:Unit→χ→Prop}(hl:s.heap.IsList l items)
  (h0:0≤k) (hfit:k<2 ^ 63) (hx:items[k.toNat]?=some x)
  (hQ:∀ h',h'=s.heap.update l (Obj.mapSeq (·.setIfInBounds k.toNat v))→Q () {s with heap:=h'}):wpAny (model prog w) A (setItem (.ref l) (.int k t) v) Q E s:=by
 apply JG (id hl);intro o ho hc ne hd;unfold setItem
 try with_reducible refine Ze ?_
 first|refine Y6 (Y8 ?_)|skip
 refine Y6 (wpAny_sequenceKey hl.typeIs (by decide) ?_);refine Y6 (wpAny_callSpecial?_slot (name:=Str.ofString "__setitem__") hl.typeIs slot_list_setitem
  (wpAny_call_entry slot_list_setitem hl.typeIs entry_list_setitem ?_ (args_list_setitem _ _ _)))
 show wpAny _ _ (Builtin.List.listSubscript? (.int k t) >>= _) _ _ s;refine Y6 (wpAny_listSubscript_int (fitsIndex_of h0 hfit) ?_);clear hfit;apply bC (Int.eq_ofNat_of_zero_le h0);intro j e0;subst e0;replace hx:items[j]?=some x:=hx;show wpAny _ _ ((seqItemAt l j >>= fun r=>pure (r.map (j,·))) >>= _) _ _ s;refine Y6 (Y6 (wpAny_seqItemAt ho hd (Y8 ?_)));rw[hx];show wpAny _ _ (setSeqItemAt l j v >>= _) _ _ s;refine Y6 (wpAny_setSeqItemAt ho hd ?_)
 first
  |exact Y6 (Y8 (Y8 ⟨.none,rfl,Y8 (hQ _ rfl)⟩))
  |exact Y8 ⟨.none,rfl,Y8 (hQ _ rfl)⟩
end
section
variable {Γ:aw}{β:Bd}{Y:Pi}
def ar.set(h:VR Γ imm ρ v x)(g:ar Γ imm ρ vs xs)(q:Nat):ar Γ imm ρ (vs.set q v) (cC xs q x):=by
 induction g using ar.ind generalizing q with
 |nil=>exact .nil
 |cons a g ih=>
  cases q with
  |zero=>exact .cons h g
  |succ q=>exact .cons a (ih q)
theorem Df{α:Type}(x:α):∀ (l:List α) (q:Nat),(cC l q x).length=l.length
 |[],_=>rfl
 |_::_,0=>rfl
 |_::r,q+1=>congrArg (·+1) (Df x r q)
def Nj:zD Γ:=by
 intro σ k xs iv j pl v hx hj hp c A s m ls imm cs va vi val n Q E C R ha hi hv kk;apply jc (R.lst ha hx);intro a vs nn pre post e0 e01 l g1 v1 z1;subst e0;subst e01;apply ak (mQ hj);intro li e0 hl;subst e0;apply bC hi.int_inv;intro t e0;subst e0;rw[gJ hl];rw[aR] at hp;apply bq (ue hp);intro hlt hcase;have hsz:vs.toArray.size=xs.length:=by rw[Zl,v1.len]
 have hlt2:pl<vs.length:=by rw[v1.len];exact hlt
 have hget:vs.toArray[pl]?=some vs[pl]:=by rw[Zm];exact List.getElem?_eq_getElem hlt2
 have e:∀ z:List π×Nat,imm++aG (pre++CC.list a z.1 z.2::post)=(imm++aG pre)++(a,listOf z.1.toArray z.2)::aG post:=fun z=>by rw[nj];simp [CC.objs]
 have N:=R.N;have nd:=R.nd;rw[e (vs,nn)] at N nd;have fin:∀ h',h'=s.heap.update a (Obj.mapSeq (·.setIfInBounds pl val))→Q () {s with heap:=h'}:=fun h' eh=>by
  subst eh;have hm:(a,listOf vs.toArray nn)∈imm++aG pre++(a,listOf vs.toArray nn)::aG post:=dU _ (.head _);have nd':=nd;rw[Zb] at nd';apply fj (List.nodup_append.mp nd');intro _ nd2 nd3;have h1:∀ p∈imm++aG pre,p.1≠a:=fun p hp=>nd3 p.1 (Zi hp) a (.head _);have h2:∀ p∈aG post,p.1≠a:=fun p hp e=>(Zx.mp nd2).1 (ZN.mpr ⟨p,hp,e⟩);have ef:∃ n',Obj.mapSeq (·.setIfInBounds pl val) (listOf vs.toArray nn)=listOf (vs.set pl val).toArray n':=by
   have z:vs.toArray.setIfInBounds pl val=(vs.set pl val).toArray:=List.setIfInBounds_toArray ..;refine⟨if (vs.toArray.setIfInBounds pl val).size == vs.toArray.size then nn else nn+1,?_⟩;rw[←z];rfl
  apply bC ef;clear ef;intro n' ef;apply bq (news_upd R.F N h1 h2 ef rfl);intro F' N';refine kk _ s.toks (pre++CC.list a (vs.set pl val) n'::post) ?_ (aD.put imm pre post _ _ rfl);rw[←l];refine R.put rfl rfl F' (by have z:=e (vs.set pl val,n');dsimp only at z;rw[z];exact N') (.list (v1.set hv pl) (by rw[Df];exact z1))
 rcases hcase with ⟨h0,rfl⟩|⟨h0,h1,h2⟩
 ·exact V2 ⟨_,g1,rfl,_,rfl⟩ h0 (by lia) hget fin
 ·have hk:(j+(vs.toArray.size:Int)).toNat=pl:=by rw[hsz,h2];rfl
  exact XO ⟨_,g1,rfl,_,rfl⟩ h0 (by rw[hsz];exact h1) (by lia) (by rw[hk];exact hget) (by rw[hk];exact fin)
end
section
variable {Γ:aw}{β:Bd}{Y:Pi}
def Fx(he:Γ.ε.Ok)(hw:Γ.ε.P=Γ.w.params)(h:wk β σ v i=some r){s:χ}{Q E:Θ}
  (C:be Γ c A n) (R:ao Γ c.h₀ c.L s.heap m ls σ imm cs) (ha:VR Γ imm (aj cs) va v) (hi:VR Γ imm (aj cs) vi i) (kk:∀ tk val,VR Γ imm (aj cs) val r→Q val {s with toks:=tk}) :
  (∃ T id,s.TypeIs va T∧typeLookup (.type T) "__getitem__"=pure (some (.builtin id)))∧wpAny (model Γ.prog Γ.w) A (getItem va vi) Q E s:=by
 induction v using AV.casesOn with
 |str ss=>
  apply aE (show (ob (eU i) fun n=>A1 ss n)=some r from h);intro nn q1 hj;clear h;(obtain e:=gP q1;subst e);apply ak ha.str_inv;intro t e0 _;exact⟨⟨"str",_,e0▸typeIs_str _ _ _,F.slot_str_getitem.lookup⟩,NV he hj ha hi kk⟩
 |cell k=>
  apply aE (show (ob (eU i) fun n=>Hg σ k n)=some r from h);intro nn q1 hj;clear h;apply aE hj;intro xs e1 hj;apply aE hj;intro j e2 hj;apply aE hj;intro q hq hj;(obtain e:=gP q1;subst e);apply VJ (R.lst ha (gE e1));intro a vs n1 pre post e0 _ _ g1 _;exact⟨⟨"list",_,e0▸⟨_,g1,rfl⟩,slot_list_getitem.lookup⟩,Mn (gE e1) e2 hq hj C R ha hi kk⟩
 |tup xs=>
  apply aE (show (ob (eU i) fun n=>EW xs n)=some r from h);intro nn q1 hj;clear h;apply aE hj;intro j e2 hj;apply bV hj;intro hs hj;apply aE hj;intro q hq hj;(obtain e:=gP q1;subst e);apply gg ha.tup_inv;intro a vs nn e0 hk v1;exact⟨⟨"tuple",_,e0▸⟨_,R.kn C.X hk,rfl⟩,F.slot_tuple_getitem.lookup⟩,Tq e2 hq hj C R hs ha hi kk⟩
 |_=>injection h
set_option tactic.hygienic true in
def An{E:Θ}{Q:Θ}
  (h:wpAny (model Γ.prog Γ.w) A (eval value env) (fun o s₁=>wpAny (model Γ.prog Γ.w) A (eval slice env) (fun i s₂=>(∃ T id,s₂.TypeIs o T∧typeLookup (.type T) "__getitem__"=pure (some (.builtin id)))∧wpAny (model Γ.prog Γ.w) A (getItem o i) Q E s₂) E s₁) E s) :
  wpAny (model Γ.prog Γ.w) A (eval (.Subscript value slice pos) env) Q E s:=by
 refine Subscript_ (ZF h (fun o s₁ h₁=>ZF h₁ (fun i s₂ h₂=>?_) fun _ _ x=>x) fun _ _ x=>x);obtain⟨⟨T,id,h1,h2⟩,h3⟩:=h₂;have hs:∃ ops,subscripted slice false o i=operate ops (getItem o i):=by
  induction slice using PySem.Expr.casesOn<;>first|exact⟨_,rfl⟩|(rename_i q _;induction q using oO<;>exact⟨_,rfl⟩)
 apply bC hs;clear hs;intro ops hs;exact tail_any h1 h2 h3 hs
end
def cutA(n:Nat):κ Int→Nat
 |some i=>clip n i
 |none=>0
def cutB(n:Nat):κ Int→Nat
 |some i=>clip n i
 |none=>n
def E0(n:Nat)(i:Int):max 0 (min (if i<0 then i+(n:Int) else i) (n:Int))=(clip n i:Int):=(Int.toNat_of_nonneg (Int.le_max_left ..)).symm
def Nw(n:Nat)(i:Int):clip n i≤n:=Int.toNat_le.mpr (Int.max_le.mpr ⟨cW _,Int.min_le_right ..⟩)
def Ma(n:Nat)(i:κ Int):cutB n i≤n:=by
 induction i using oO with
 |none=>exact Zc _
 |some i=>exact Nw n i
def j8{α:Type}(l:List α)(lo hi:κ Int):cut l lo hi=(l.drop (cutA l.length lo)).take (cutB l.length hi-cutA l.length lo):=by
 unfold cut;rw[aR];dsimp only;rw[mV,ux];induction lo using oO<;>induction hi using oO<;>rfl
def BP{α:Type}(l:List α)(lo hi:κ Int):(cut l lo hi).length≤l.length:=by
 rw[j8];exact Nat.le_trans (List.length_take_le' ..) (length_drop_le_self ..)
def Et{α γ:Type}(f:α→γ)(l:List α)(lo hi:κ Int):cut (l.map f) lo hi=(cut l lo hi).map f:=by
 rw[j8,j8,Zh,List.map_take,List.map_drop]
def QN(lo hi:κ Int)(n:Nat):sliceBounds lo hi none n=((cutA n lo:Int),(cutB n hi:Int),1):=by
 unfold sliceBounds;simp only [Option.getD_none,show (1:Int)>0 by decide,if_true];induction lo using oO<;>induction hi using oO<;>simp only [cutA,cutB,E0]<;>rfl
def UU(items:Array π)(lo hi:κ Int):slicePick items lo hi none=(cut items.toList lo hi).toArray:=by
 unfold slicePick;rw[QN];dsimp only;rw[sliceRange_one,pick_run,j8,Array.length_toList]
def VT(lo hi:κ Int)(n:Nat):Builtin.Str.strSliceIndices lo hi 1 n=(List.range (cutB n hi-cutA n lo)).map (cutA n lo+·):=by
 rw[←sliceRange_one];unfold Builtin.Str.strSliceIndices;simp only [show (1:Int)>0 by decide,if_true];induction lo using oO<;>induction hi using oO<;>simp only [cutA,cutB,E0]<;>rfl
section
variable {Γ:aw}{β:Bd}{Y:Pi}
def w3(h:jd v=some b)(hv:kj Γ v imm cs val):∃ q:κ (Int×Tok),val=partValue q∧q.map (·.1)=b:=by
 induction v using oO with
 |none=>(apply j1 h;rintro rfl);exact⟨none,hv,rfl⟩
 |some v=>
  apply aE (show (ob (j4 v) fun i=>some (some i))=some b from h);intro i h1 h;(apply j1 h;rintro rfl);apply ak (mQ h1);intro l e0 h1;subst e0;apply bC (VR.int_inv (Γ:=Γ) hv);intro t e0;subst e0;exact⟨some (l.val Γ.ε,t),rfl,by rw[gJ h1];rfl⟩
def kj.ext(e:aD i1 c1 i2 c2)(h:kj Γ v i1 c1 val):kj Γ v i2 c2 val:=by
 induction v using oO with
 |none=>exact h
 |some v=>exact VR.ext (Γ:=Γ) e h
def OY{l:ξ}(h:(l.length=cutB l.length b-cutA l.length a)):cut l a b=l:=by
 rw[j8];have h1:=Ma l.length b;have h2:cutA l.length a=0∨l.length=0:=by lia
 rcases h2 with h2|h2
 ·rw[h2,List.drop_zero,ZE (by lia)]
 ·have:=Zz h2
  subst this;simp
def ar.cut(h:ar Γ imm ρ vs xs)(a b:κ Int):ar Γ imm ρ (Mine.cut vs a b) (Mine.cut xs a b):=by
 apply ak h.pairs;intro l e0 e01;subst e0;subst e01;rw[Et,Et];generalize Mine.cut l a b=l;induction l with
 |nil=>exact .nil
 |cons q r ih=>exact .cons q.2 ih
def Gg(q:κ (Int×Tok)):IsPart (partValue q) (q.map (·.1)):=by
 induction q using oO with
 |none=>exact .none
 |some q=>exact .int _ _
set_option tactic.hygienic true in
def H6{ss r:SS}(hrv:r.val Γ.ε=cut (ss.val Γ.ε) a b)(hro:cE Γ.ε r){s:χ}{Q E:Θ}(_C:be Γ c A n)(R:ao Γ c.h₀ c.L s.heap m ls σ imm cs)
  (hv:VR Γ imm (aj cs) va (.str ss)) {qa qb:κ (Int×Tok)} (ea:qa.map (·.1)=a) (eb:qb.map (·.1)=b)
  (k:∀ h' tk imm' cs' x,ao Γ c.h₀ c.L h' m ls σ imm' cs'→aD imm cs imm' cs'→VR Γ imm' (aj cs') x (.str r)→Q x (sU s h' tk)) :
  (∃ T id,({s with heap:=s.heap.push {cls:=.type "slice",data:=.fields #[partValue qa,partValue qb,.none]}}:χ).TypeIs va T∧typeLookup (.type T) "__getitem__"=pure (some (.builtin id))) ∧
   wpAny (model Γ.prog Γ.w) A (getItem va (.ref s.heap.objs.size)) Q E {s with heap:=s.heap.push {cls:=.type "slice",data:=.fields #[partValue qa,partValue qb,.none]}}:=by
 have Rn:=R.newI {cls:=.type "slice",data:=.fields #[partValue qa,partValue qb,.none]} rfl;have xn:=R.extI {cls:=.type "slice",data:=.fields #[partValue qa,partValue qb,.none]};apply ak hv.str_inv;intro t e0 ok;subst e0;have hlen:=hv.str_len;generalize ss.val Γ.ε=q at hrv hlen ⊢;refine⟨⟨"str",_,typeIs_str _ _ _,F.slot_str_getitem.lookup⟩,wpAny_getItem_str_slice (l:=qa) (u:=qb) (st:=none) ⟨_,Heap.get?_push_size _ rfl,rfl,rfl⟩ rfl ?_⟩;have fin:∀ tk t',Q (.str (aL (cut q a b)) t') {s with heap:=s.heap.push {cls:=.type "slice",data:=.fields #[partValue qa,partValue qb,.none]},toks:=tk}:=fun tk t'=>
  k _ tk _ _ _ Rn xn (.str (by rw[hrv]) hro (by rw[hrv];have:=BP q a b;lia))
 have e1:slicePicked (aL q) qa qb none=(List.range (cutB q.length b-cutA q.length a)).map (cutA q.length a+·):=by
  unfold slicePicked;rw[ea,eb,eQ];exact VT a b q.length
 have e2:((List.range (cutB q.length b-cutA q.length a)).map (cutA q.length a+·)).filterMap ((aL q).cps[·]?)=cut q a b:=by
  rw[pick_run,j8];rfl
 unfold sliceMade;rw[e1,e2,eQ]
 split
 ·rename_i hh
  replace hh:=(aA hh).2;replace hh:=Zq.mp hh;rw[Zh,List.length_range] at hh;have:=OY (l:=q) (a:=a) (b:=b) hh.symm;have f:=fin s.toks t;rw[this] at f;exact f
 ·refine⟨?_,fin _ _⟩
  show (aL (cut q a b)).length≤_;rw[eQ,ZH];have:=BP q a b;lia
def Jz{L k:Nat}{n o:Int}(h0:o=(k:Int))(h1:k≤L)(h:o=n∨(n<0∧o=(L:Int)+n)):clip L n=k:=by
 subst h0;have e:(if n<0 then n+(L:Int) else n)=(k:Int):=by
  rcases h with h|⟨h2,h⟩
  ·rw[←h];exact if_neg (Int.not_lt.mpr (cW _))
  ·rw[if_pos h2,Int.add_comm,h]
 unfold clip;rw[e,Int.min_eq_left (vn h1),Int.max_eq_right (cW _)];rfl
def C1(h:CJ s d v=some i)(hv:kj Γ v imm cs val) :
  ∃ q:κ (Int×Tok),val=partValue q∧((q.map (·.1)=none∧i=d)∨∃ n:ax,q.map (·.1)=some (n.val Γ.ε)∧i=m8 s n):=by
 induction v using oO with
 |none=>(apply j1 h;rintro rfl);exact⟨none,hv,.inl ⟨rfl,rfl⟩⟩
 |some v=>
  apply aE (show (ob (eU v) fun n=>some (m8 s n))=some i from h);intro n h1 h;(apply j1 h;rintro rfl);(obtain e:=gP h1;subst e);apply bC (VR.int_inv (Γ:=Γ) hv);intro t e0;subst e0;exact⟨some (n.val Γ.ε,t),rfl,.inr ⟨n,rfl,rfl⟩⟩
def S9(he:Γ.ε.Ok)(h:ms v a b σ=some (r,σ')){c:Cx}{s:χ}{Q E:Θ}(C:be Γ c A n)(R:ao Γ c.h₀ c.L s.heap m ls σ imm cs)
  (hv:VR Γ imm (aj cs) va v) (ha:kj Γ a imm cs pa) (hb:kj Γ b imm cs pb)
  (k:∀ h' tk imm' cs' x,ao Γ c.h₀ c.L h' m ls σ' imm' cs'→aD imm cs imm' cs'→VR Γ imm' (aj cs') x r→Q x (sU s h' tk)) :
  (∃ T id,({s with heap:=s.heap.push {cls:=.type "slice",data:=.fields #[pa,pb,.none]}}:χ).TypeIs va T∧typeLookup (.type T) "__getitem__"=pure (some (.builtin id))) ∧
   wpAny (model Γ.prog Γ.w) A (getItem va (.ref s.heap.objs.size)) Q E {s with heap:=s.heap.push {cls:=.type "slice",data:=.fields #[pa,pb,.none]}}:=by
 apply aE h;clear h;intro ss h1 h;(obtain e:=nw h1;subst e);replace h:Option.rec (motive:=fun U=>κ (AV×St)) (Aj ss a b σ) (fun l=>yG l a b σ) ss.conc=some (r,σ'):=h;replace ho:cE Γ.ε ss:=by apply ak hv.str_inv;intro t e0 ho;exact ho
 cases q:ss.conc with
 |some l=>
  rw[q] at h;apply aE h;clear h;intro x h2 h;apply aE h;clear h;intro y h3 h;(apply j2 h;clear h;rintro rfl rfl);apply ak (w3 h2 ha);intro qa e0 ea;subst e0;apply ak (w3 h3 hb);intro qb e0 eb;subst e0;exact H6 (by rw[dY,jU q]) (jm _) C R hv ea eb k
 |none=>
  rw[q] at h;apply aE h;clear h;intro i h2 h;apply aE h;clear h;intro j h3 h;apply aE h;clear h;intro t h4 h;apply aE h;clear h;intro u h5 h;(apply j2 h;clear h;rintro rfl rfl);apply ak (C1 h2 ha);intro qa e0 ea;subst e0;apply ak (C1 h3 hb);intro qb e0 eb;subst e0;apply bq (Le he ho h4);intro d0 d;apply ed d;intro ki d1 d2 d3;apply bq (YL he d0 h5);intro t0 t;apply ed t;intro kt t1 t2 t3;replace t1:=vG (ε:=Γ.ε) t1 d1;rw[d3,List.length_drop] at t2;have eA:cutA (ss.val Γ.ε).length (qa.map (·.1))=ki:=by
   rcases ea with ⟨e1,e2⟩|⟨n,e1,e2⟩
   ·rw[e1];rw[e2,cF] at d1;exact Int.ofNat.inj d1
   ·rw[e1];subst e2;exact Jz d1 d2 (yE he ho (by rw[d1];exact cW _))
  have eB:cutB (ss.val Γ.ε).length (qb.map (·.1))=ki+kt:=by
   rcases eb with ⟨e1,e2⟩|⟨n,e1,e2⟩
   ·rw[e1];rw[e2,jT he ho] at t1;exact Int.ofNat.inj t1
   ·rw[e1];subst e2;exact Jz t1 ((Nat.le_sub_iff_add_le' d2).mp t2) (yE he ho (by rw[t1];exact cW _))
  refine H6 ?_ t0 C R hv rfl rfl k;rw[j8,eA,eB,t3,d3,Zt]
def NH(h:kH kk av bv σ=some (r,σ')){s:χ}{Q E:Θ}(_C:be Γ c A n)(R:ao Γ c.h₀ c.L s.heap m ls σ imm cs)
  (hv:VR Γ imm (aj cs) va (.cell kk)) (ha:kj Γ av imm cs pa) (hb:kj Γ bv imm cs pb)
  (k:∀ h' tk imm' cs' x,ao Γ c.h₀ c.L h' m ls σ' imm' cs'→aD imm cs imm' cs'→VR Γ imm' (aj cs') x r→Q x (sU s h' tk)) :
  (∃ T id,({s with heap:=s.heap.push {cls:=.type "slice",data:=.fields #[pa,pb,.none]}}:χ).TypeIs va T∧typeLookup (.type T) "__getitem__"=pure (some (.builtin id))) ∧
   wpAny (model Γ.prog Γ.w) A (getItem va (.ref s.heap.objs.size)) Q E {s with heap:=s.heap.push {cls:=.type "slice",data:=.fields #[pa,pb,.none]}}:=by
 apply aE h;clear h;intro a h6 h;apply aE h;clear h;intro b h7 h;apply ak (w3 h6 ha);intro qa e0 ea;subst e0;apply ak (w3 h7 hb);intro qb e0 eb;subst e0;apply aE h;clear h;intro xs h8 h;(apply j2 h;clear h;rintro rfl rfl);have Rn:=R.newI {cls:=.type "slice",data:=.fields #[partValue qa,partValue qb,.none]} rfl;have xn:=R.extI {cls:=.type "slice",data:=.fields #[partValue qa,partValue qb,.none]};apply jc (R.lst hv (gE h8));intro ad vs nn pre post e0 e1 _ g1 v1 z1;subst e0;have hL:s.heap.IsList ad vs.toArray:=⟨_,g1,rfl,_,rfl⟩;have hL':Heap.IsList (s.heap.push {cls:=.type "slice",data:=.fields #[partValue qa,partValue qb,.none]}) ad vs.toArray:=hL.push _;refine⟨⟨"list",_,hL'.typeIs,slot_list_getitem.lookup⟩,wpAny_getItem_list_slice hL' (Heap.IsSliceOf.new ..) (Gg qa) (Gg qb) .none (by simp) ?_ (by rw[Zl,v1.len,ZH];lia)⟩;rw[ea,eb,UU];have v2:ar Γ ((s.heap.objs.size,{cls:=.type "slice",data:=.fields #[partValue qa,partValue qb,.none]})::imm) (aj cs) (cut vs a b) (cut xs a b):=(v1.ext xn).cut a b;exact k _ s.toks _ _ _ (Rn.newL v2 (by have:=BP xs a b;lia)) (xn.trans (aD.snoc ..)) (AW Rn.C)
def y0{n:Nat}{R:aJ}(he:Γ.ε.Ok)(I:bu Γ n R){ls:ag}{σ σ':St}{o:Expr}{lo hi st:κ Expr}{p2 pos:Pos}{r:AV}
  (h:wV R ls σ o lo hi st=some (r,σ')):bM Γ n (fun c=>eval (.Subscript o (.Slice lo hi st p2) pos) c.env) ls σ r σ':=by
 apply b8 h;clear h;intro v σ1 h1 h;apply bV h;clear h;intro h2 h;apply b8 h;clear h;intro a0 σ2 h3 h;apply b8 h;intro b0 σ3 h4 hj;have hst:st=none:=by induction st using oO with|none=>rfl|some=>injection h2
 subst hst;clear h;intro c A s m imm cs Q E C l Rp k;refine An (I.ev h1 C l Rp fun hx tx ix cx va Rx xx qx=>?_);refine wpAny_Slice (I.evo h3 C l (s:=sU s hx tx) Rx fun hy ty iy cy pa Ry xy qy=>I.evo h4 C l (s:=sU s hy ty) Ry fun hz tz iz cz pb Rz xz qz=>?_);rw[evalPart_none];refine Y8 ?_;have qx':=qx.ext (xy.trans xz);have kf:∀ h' tk imm' cs' x,ao Γ c.h₀ c.L h' m ls.v σ' imm' cs'→aD iz cz imm' cs'→VR Γ imm' (aj cs') x r→Q x (sU s h' tk):=fun h' tk i' c' x R' x' q'=>k h' tk i' c' x R' (xx.trans (xy.trans (xz.trans x'))) q';cases q:eG v with
 |none=>rw[q] at hj;exact S9 he hj C (s:=sU s hz tz) Rz qx' (qy.ext xz) qz kf
 |some kk=>rw[q] at hj;(obtain e:=jK q;subst e);exact NH hj C (s:=sU s hz tz) Rz qx' (qy.ext xz) qz kf
def x7(Γ:aw)(a:Addr)(xs:List AV):Prop:=∃ (vs:List π) (n:Nat),Γ.K.lookup a=some {cls:=.type "list",data:=.seq vs.toArray n}∧xs.length≤200000∧∀ imm ρ,ar Γ imm ρ vs xs
def GY(hl:∀ a xs,Y.lst a=some xs→x7 Γ a xs)(he:Γ.ε.Ok)(hw:Γ.ε.P=Γ.w.params)(I:bu Γ n R)
  (h:Jm Y R ls σ o i=some (r,σ')):bM Γ n (fun c=>eval (.Subscript o i pos) c.env) ls σ r σ':=by
 apply b8 h;clear h;intro v σ1 h1 h;apply b8 h;clear h;intro iv σ2 h2 h;intro c A s m imm cs Q E C l Rp k;refine An (I.ev h1 C l Rp fun hx tx ix cx va Rx xx qx=>I.ev h2 C l (s:=sU s hx tx) Rx fun hy ty iy cy vi Ry xy qy=>?_);cases q:w7 v with
 |some a=>
  rw[q] at h;apply aE (show EF Y a iv σ2=some (r,σ') from h);clear h;intro xs h3 h;apply aE h;clear h;intro j h4 h;apply aE h;clear h;intro p h5 h;apply aE h;clear h;intro r' h6 h;(apply j2 h;clear h;rintro rfl rfl);(obtain e:=Du q;subst e);obtain⟨vs,nn,g1,z1,g2⟩:=hl _ _ h3;(obtain e:_=_:=VR.inv qx;subst e);have g3:=Ry.kn C.X (.inr g1);apply ak (mQ h4);intro ln e0 e1;subst e0;apply bC qy.int_inv;intro t e0;subst e0;rw[gJ e1];rw[aR] at h5;apply bq (ue h5);intro hlt hcase;have v1:=g2 iy (aj cy);have hit:=v1.item p;rw[h6] at hit;apply ak hit;intro val i1 i2;have hsz:vs.toArray.size=xs.length:=by rw[Zl,v1.len]
  have kk:=k hy ty iy cy val Ry (xx.trans xy) i2;refine⟨⟨"list",_,⟨_,g3,rfl⟩,slot_list_getitem.lookup⟩,?_⟩;rcases hcase with ⟨h0,rfl⟩|⟨h0,h1,h2⟩
  ·exact wpAny_getItem_list ⟨_,g3,rfl,_,rfl⟩ h0 (by lia) (by rw[Zm];exact i1) kk
  ·exact wpAny_getItem_list_neg ⟨_,g3,rfl,_,rfl⟩ h0 (by rw[hsz];exact h1) (by lia) (by rw[hsz,h2,Zm];exact i1) kk
 |none=>
 rw[q] at h;apply aE h;clear h;intro r' h3 h;(apply j2 h;clear h;rintro rfl rfl);exact Fx he hw h3 C (s:=sU s hy ty) Ry (qx.ext xy) qy fun tk val q=>k hy tk iy cy val Ry (xx.trans xy) q
end
section
variable {Γ:aw}{β:Bd}{Y:Pi}
def ar.take(n:Nat)(h:ar Γ imm ρ vs xs):ar Γ imm ρ (vs.take n) (xs.take n):=by
 apply ak h.pairs;intro l e0 e01;subst e0;subst e01;rw[←List.map_take,←List.map_take];generalize l.take n=l;induction l with
 |nil=>exact .nil
 |cons q r ih=>exact .cons q.2 ih
def Yu:∀ (l:List π) (y:π),kl_last (l++[y])=some (l,y):=by
 intro L0;induction L0 with
 |nil=>
  intro _;exact rfl
 |cons x r ih=>
  intro y;show (match kl_last (r++[y]) with|some (p,y)=>some (x::p,y)|none=>some ([],x))=_;rw[ih y]
def Qe(hx:ae σ k=some (.list xs))(hq:dh (lenA xs) (-1)=some q)(hv:ae xs q=some v){s:χ}{Q E:Θ}
  (_C:be Γ c A n) (R:ao Γ c.h₀ c.L s.heap m ls σ imm cs) (ho:VR Γ imm (aj cs) va (.cell k))
  (kk:∀ h' imm' cs' val,ao Γ c.h₀ c.L h' m ls (cC σ k (.list (aQ q xs))) imm' cs'→aD imm cs imm' cs'→VR Γ imm' (aj cs') val v→Q val {s with heap:=h'}):wpAny (model Γ.prog Γ.w) A (call (.builtin "list.pop") [va] []) Q E s:=by
 apply jc (R.lst ho hx);intro a vs nn pre post e0 e01 l g1 v1 z1;subst e0;subst e01;rw[aR] at hq;apply bq (ue hq);intro hlt hcase;have hq1:q+1=xs.length:=by rcases hcase with ⟨h0,h1⟩|⟨h0,h1,h2⟩<;>lia
 have it:=v1.item q;rw[hv] at it;apply ak it;intro y y1 y2;have hvl:=v1.len;have evs:vs=vs.take q++[y]:=by
  have h1:vs.drop q=[y]:=by
   obtain⟨hl,hy⟩:=Zo.mp y1;rw[List.drop_eq_getElem_cons hl,hy,List.drop_eq_nil_of_le (by lia)]
  have:=List.take_append_drop q vs;rw[h1] at this;exact this.symm
 have e:∀ z:List π×Nat,imm++aG (pre++CC.list a z.1 z.2::post)=(imm++aG pre)++(a,listOf z.1.toArray z.2)::aG post:=fun z=>by rw[nj];simp [CC.objs]
 have N:=R.N;have nd:=R.nd;rw[e (vs,nn)] at N nd;refine kl_pop (its:=vs.toArray) (n:=nn) (p:=vs.take q) (y:=y) R.F N (by show kl_last vs=_;have:=Yu (vs.take q) y;rw[←evs] at this;exact this) (uL nd) (by show vs.length≤_;rw[hvl,ZH];lia) fun h' F' N'=>?_;refine kk h' imm (pre++CC.list a (vs.take q) (nn+1)::post) y ?_ (aD.put imm pre post _ _ rfl) (by rw[tC pre post (CC.list a vs nn) (CC.list a (vs.take q) (nn+1)) rfl];exact y2);rw[←l,mV];exact R.put rfl rfl F' (by have z:=e (vs.take q,nn+1);dsimp only at z;rw[z];exact N') (.list (v1.take q) (by rw[List.length_take];lia))
def QA(hx:ae σ k=some (.list (v::xs))){s:χ}{Q E:Θ}
  (_C:be Γ c A n) (R:ao Γ c.h₀ c.L s.heap m ls σ imm cs) (ho:VR Γ imm (aj cs) va (.cell k))
  (kk:∀ h' imm' cs' val,ao Γ c.h₀ c.L h' m ls (cC σ k (.list xs)) imm' cs'→aD imm cs imm' cs'→VR Γ imm' (aj cs') val v→Q val {s with heap:=h'}):wpAny (model Γ.prog Γ.w) A (call (.builtin "list.pop") [va,.int 0 t] []) Q E s:=by
 apply jc (R.lst ho hx);intro a vs nn pre post e0 e01 l g1 v1 z1;subst e0;subst e01;have hvl:=v1.len;have e:∀ z:List π×Nat,imm++aG (pre++CC.list a z.1 z.2::post)=(imm++aG pre)++(a,listOf z.1.toArray z.2)::aG post:=fun z=>by rw[nj];simp [CC.objs]
 have N:=R.N;have nd:=R.nd;rw[e (vs,nn)] at N nd;cases v1 with
 |@cons y _ vs' _ y2 v2=>
  refine kl_popAt (its:=(y::vs').toArray) (n:=nn) (p:=[]) (q:=vs') (y:=y) (k:=0) R.F N (by decide) (by show seqIndex? 0 (y::vs').toArray.size=_;rw[Zl];unfold seqIndex?;simp) rfl (uL nd) (by show (y::vs').length≤_;rw[hvl,ZH];lia) fun h' F' N'=>?_;refine kk h' imm (pre++CC.list a vs' (nn+1)::post) y ?_ (aD.put imm pre post _ _ rfl) (by rw[tC pre post (CC.list a (y::vs') nn) (CC.list a vs' (nn+1)) rfl];exact y2);rw[←l];exact R.put rfl rfl F' (by have z:=e (vs',nn+1);dsimp only at z;rw[z];exact N') (.list v2 (by have:=z1;simp at this;lia))
noncomputable def kr(sep:ξ):List ξ→ξ
 |[]=>[]
 |[x]=>x
 |x::y::r=>x++(sep++kr sep (y::r))
theorem Iz(sep:ξ):∀ ys:List ξ,Str.join (aL sep) (ys.map aL)=aL (kr sep ys)
 |[]=>rfl
 |[x]=>rfl
 |x::y::r=>by
  show aL x++aL sep++Str.join (aL sep) ((y::r).map aL)=aL (x++(sep++kr sep (y::r)));rw[Iz sep (y::r),vR,vR,aC]
theorem DJ(sep:ξ):∀ ys:List ξ,(ys.map List.length).sum+ys.length*sep.length≤(kr sep ys).length+sep.length
 |[]=>by show 0+0*sep.length≤_;rw[Nat.zero_mul];exact ZA _
 |[x]=>by show x.length+0+1*sep.length≤x.length+sep.length;rw[Nat.one_mul];exact Zc _
 |x::y::r=>by
  have ih:=DJ sep (y::r);have e:kr sep (x::y::r)=x++(sep++kr sep (y::r)):=rfl;rw[e,au,au,ZI,List.sum_cons,bJ,Nat.succ_mul];lia
def Nm{sep:SS}(hs:sep.val Γ.ε=l)(hso:cE Γ.ε sep)(g:ar Γ imm ρ vs xs):oD sep xs=some t →
  ∃ ys:List ξ,StrsAre vs (ys.map aL)∧t.val Γ.ε=kr l ys∧cE Γ.ε t:=by
 induction g using ar.ind generalizing t with
 |nil=>intro h;(apply j1 h;clear h;rintro rfl);exact⟨[],.nil,rfl,fun U h=>(nomatch h)⟩
 |cons hv hr ih=>
  intro h;apply aE h;intro s e hj;apply aE hj;clear hj;intro t' h1 hj;(obtain e:=nw e;subst e);apply ak hv.str_inv;intro tt e0 o;subst e0;apply ed (ih h1);intro ys y1 y2 y3;cases hr with
  |nil=>
   induction ys using oL with
   |cons=>cases y1
   |nil=>exact⟨[s.val Γ.ε],.cons _ _ .nil,by rw[←osI hj];rfl,by rw[←osI hj];exact o⟩
  |cons a b=>
   have ht:s.app (sep.app t')=t:=osI hj;refine⟨s.val Γ.ε::ys,.cons _ _ y1,?_,by rw[←ht];exact lF o (lF hso y3)⟩;rw[←ht,ir,ir,hs,y2];induction ys using oL with
   |nil=>cases y1
   |cons y ys=>rfl
theorem EB:∀ {vs:List π} {l:ξ},kd Γ.ε vs l→∃ ys:List ξ,StrsAre vs (ys.map aL)∧l=kr [] ys∧vs.length=ys.length
 |_,_,.nil=>⟨[],.nil,rfl,rfl⟩
 |_,_,.snoc (r:=r) (t:=t) h=>by
  apply ed (EB h);intro ys y1 e0 y3;subst e0;refine⟨ys++[r],?_,?_,by simp [y3]⟩
  ·rw[Zb]
   have app:∀ {a b:List π} {x y:List Str},StrsAre a x→StrsAre b y→StrsAre (a++b) (x++y):=by
    intro a b x y h1 h2;induction h1 with
    |nil=>exact h2
    |cons i t _ ih=>exact .cons i t ih
   exact app y1 (.cons _ _ .nil)
  ·clear y1 y3 h
   induction ys with
   |nil=>rfl
   |cons a ys ih=>
    induction ys using oL with
    |nil=>rfl
    |cons b ys=>
     show a++([]++kr [] (b::ys))++r=a++([]++kr [] ((b::ys)++[r]));rw[←ih,ZL,ZL,aC]
def Wq(x y:ξ):Txt.startswith (aL x) (aL y)=mT y x:=by
 have h1:Builtin.Str.subAt (aL x) (aL y) 0=(x.take y.length == y):=by
  have e:=StrLaws.subAt_eq (aL x) (aL y) 0;rw[eQ] at e;exact e
 unfold Txt.startswith;rw[h1,eQ,eQ];have:∀ y x:ξ,(decide (0+y.length≤x.length)&&(x.take y.length == y))=mT y x:=by
  intro y;induction y with
  |nil=>intro x;show _=true;simp
  |cons b y ih=>
   intro x;induction x using oL with
   |nil=>show _=false;simp
   |cons a x=>
    have e:mT (b::y) (a::x)=(b.beq a&&mT y x):=by
     show Bool.rec (motive:=fun U=>Bool) false (mT y x) (b.beq a)=_;cases b.beq a<;>rfl
    rw[e,←ih x,BE]
    by_cases hb:b=a
    ·subst hb;simp
    ·simp [hb,Ne.symm hb]
 exact this y x
end
section
variable {Γ:aw}{β:Bd}{Y:Pi}
def ao.kept{h₀ h h':Heap}(R:ao Γ h₀ L h m ls σ imm cs)(kp:∀ b x,h.get? b=some x→h'.get? b=some x)(hs:h.objs.size≤a)(hg:h'.get? a=some o) :
  ao Γ h₀ L h' m ls σ ((a,o)::imm) cs:=by
 have e:∀ p∈imm,p∈(a,o)::imm:=fun p hp=>.tail _ hp;refine⟨R.F.after kp,R.N.kept_cons R.F kp hs hg,?_,R.C.mono e fun U U h=>h,fun x v hx=>?_⟩
 ·show (a::(imm++aG cs).map Prod.fst).Nodup
  exact Zx.mpr ⟨fun q=>Nat.lt_irrefl _ (Nat.lt_of_lt_of_le (R.lt q) hs),R.nd⟩
 ·apply ak (R.l x v hx);intro val a b
  exact⟨val,a,b.mono e fun U U h=>h⟩
def Sa{h₀ h:Heap}(g:h₀.Ns mainGlobals mg)(kp:∀ b x,h₀.get? b=some x→h.get? b=some x):(h.objs.size == sysModules)=false:=by
 apply sg g;intro o _ _ hL _;have h1:=Zy (kp _ _ hL);have h2:(sysModules:Nat)<mainGlobals:=by decide
 have h3:h.objs.size≠sysModules:=Nat.ne_of_gt (Nat.lt_trans h2 h1);cases q:h.objs.size == sysModules with
 |false=>rfl
 |true=>exact absurd (Zq.mp q) h3
def oz(Γ:aw)(id:BM)(ov:AV)(vs:List AV)(σ:St)(q:AV×St):Prop :=
 ∀ {c A s m ls imm cs va vals} {n:Nat} {Q E:Θ},be Γ c A n→ao Γ c.h₀ c.L s.heap m ls σ imm cs→VR Γ imm (aj cs) va ov→ar Γ imm (aj cs) vals vs →
  (∀ h' tk imm' cs' val,ao Γ c.h₀ c.L h' m ls q.2 imm' cs'→aD imm cs imm' cs'→VR Γ imm' (aj cs') val q.1→Q val (sU s h' tk))→wpAny (model Γ.prog Γ.w) A (call (.builtin id.id) (va::vals) []) Q E s
def ar.one(h:ar Γ imm ρ vals [v]):∃ val,vals=[val]∧VR Γ imm ρ val v:=by
 obtain⟨_,_,e0,a,b⟩:=ar.inv h;clear h;subst e0;(obtain e:_=_:=ar.inv b;subst e);exact⟨_,rfl,a⟩
def ar.none(h:ar Γ imm ρ vals []):vals=[]:=by (obtain e:_=_:=ar.inv h;subst e);rfl
section
variable {σ:St}{o:AV}{as:List AV}
def Wg(hb:aV Y.β Γ.ε)(hx:ae σ k=some c):OB (Ah Y.β σ k v c) (oz Γ .append (.cell k) [v] σ):=by
 induction c using ay.casesOn with
 |list xs=>
  show OB (gd (Nat.ble (lenA xs) 100000) (some (AV.none,cC σ k (.list (xs++[v]))))) _;exact OB.gd fun h2=>OB.pure fun {c A s m ls imm cs va vals n Q E} C R hv hvs kk=>by
   apply ak hvs.one;intro val e0 hv1;subst e0;exact Dy hx (dX h2) C R hv hv1 fun h' imm' cs' R' x'=>kk h' s.toks imm' cs' _ R' x' .none
 |rows t q=>
  show OB (ob (kB v) fun s=>ob (jX Y.β q (.k 1000000)) fun b=>gd b (some (AV.none,cC σ k (.rows (t.app s) (q.add (.k 1)))))) _;exact OB.ob fun r h1=>OB.ob fun z h0=>OB.gd fun h2=>OB.pure fun {c A s m ls imm cs va vals n Q E} C R hv hvs kk=>by
   apply ak hvs.one;intro val e0 hv1;subst e0;(obtain e:=nw h1;subst e);exact Oa hx (by have:=wc hb h0;rw[h2,cF] at this;exact ZB this.symm) C R hv hv1 fun h' imm' cs' R' x'=>kk h' s.toks imm' cs' _ R' x' .none
 |inst=>exact OB.no
 |any=>exact OB.no
def L6(hb:aV Y.β Γ.ε):OB (GK Y.β σ o as) (oz Γ .append o as σ):=OB.ob fun k h1=>OB.ob fun v h2=>OB.ob fun c h3=>by
 (obtain e:=jK h1;subst e);(obtain e:=ow h2;subst e);exact Wg hb h3
def Kp:OB (ER σ o as) (oz Γ .pop o as σ):=OB.ob fun k h1=>OB.ob fun xs h2=>by
 (obtain e:=jK h1;subst e);replace h2:=gE h2
 match as with
 |[]=>
  show OB (FK σ k xs) _;exact OB.ob fun p h3=>OB.ob fun v h4=>OB.pure fun {c A s m ls imm cs va vals n Q E} C R hv hvs kk=>by
   obtain rfl:=hvs.none;exact Qe h2 h3 h4 C R hv fun h' imm' cs' val R' x' q'=>kk h' s.toks imm' cs' val R' x' q'
 |[i]=>
  show OB (GG σ k xs i) _;refine OB.ob fun j h3=>OB.gd fun h4=>?_;rw[BS] at h4;replace h4:=ZB h4;subst h4;induction xs using oL with
  |nil=>exact OB.no
  |cons v r=>
   show OB (some (v,cC σ k (.list r))) _;exact OB.pure fun {c A s m ls imm cs va vals n Q E} C R hv hvs kk=>by
    apply ak hvs.one;intro val e0 hv1;subst e0;apply ak (mQ h3);intro l e0 e2;subst e0;apply bC hv1.int_inv;intro t e0;subst e0;rw[gJ e2];exact QA h2 C R hv fun h' imm' cs' val R' x' q'=>kk h' s.toks imm' cs' val R' x' q'
 |_::_::_=>exact OB.no
section
variable (he:Γ.ε.Ok)(hb:aV Y.β Γ.ε)
include he hb
theorem Dp{l:ξ}{vs:List π}{ys:List ξ}{tx:SS}{s:χ}{Q E:Θ}
  (hl:l.length≤1000) (_C:be Γ c A n) (R:ao Γ c.h₀ c.L s.heap m ls σ imm cs) (hg:s.heap.get? a=some (listOf vs.toArray nn)) (hs:StrsAre vs (ys.map aL)) (ht:tx.val Γ.ε=kr l ys) (ho:cE Γ.ε tx) (hm:fu Y.β tx=some r)
  (kk:∀ h' tk imm' cs' val,ao Γ c.h₀ c.L h' m ls σ imm' cs'→aD imm cs imm' cs'→VR Γ imm' (aj cs') val r→Q val (sU s h' tk)) :
  wpAny (model Γ.prog Γ.w) A (call (.builtin "str.join") [.str (aL l) t,.ref a] []) Q E s:=by
 have hz:=uv he hb ho hm;apply bq (r8 hm);intro e0 _;subst e0;have hlen:=DJ l ys;rw[←ht] at hlen;refine join_list (items:=vs.toArray) ⟨_,hg,rfl,_,rfl⟩ hs ?_ fun t' tk=>?_
 ·rw[List.map_map,Zh,eQ]
  have:(ys.map (Str.length ∘ aL))=ys.map List.length:=List.map_congr_left fun y U=>eQ y;rw[this];lia
 ·show Q (.str (Txt.join (aL l) (ys.map aL)) t') _
  rw[show Txt.join (aL l) (ys.map aL)=Str.join (aL l) (ys.map aL) from StrLaws.glued_eq_join _ _,Iz,←ht];exact kk s.heap tk imm cs _ R (aD.refl ..) (.str rfl ho (by lia))
theorem Nb{ss:SS}(h1:ss.conc=some l)(hl:l.length≤1000)(hx:ae σ k=some c):OB (Gr Y σ l c) (oz Γ .join (.str ss) [.cell k] σ):=by
 induction c using ay.casesOn with
 |list xs=>
  show OB (ob (oD (.k l) xs) fun t=>ob (fu Y.β t) fun r=>some (r,σ)) _;exact OB.ob fun tx h3=>OB.ob fun r h4=>OB.pure fun {c A s m ls imm cs va vals n Q E} C R hv hvs kk=>by
   apply ak hvs.one;intro val e0 hv1;subst e0;apply ak hv.str_inv;intro t e0 _;subst e0;rw[tW h1];apply jc (R.lst hv1 hx);intro a vs nn pre post e0 _ _ g1 v1 z1;subst e0;apply ed (Nm (dY l) (jm l) v1 h3);intro ys y1 y2 y3;exact Dp he hb hl C R g1 y1 y2 y3 h4 kk
 |rows tx q=>
  show OB (gd (aI l) (ob (fu Y.β tx) fun r=>some (r,σ))) _;exact OB.gd fun h2=>OB.ob fun r h4=>OB.pure fun {c A s m ls imm cs va vals n Q E} C R hv hvs kk=>by
   obtain rfl:=v5 h2;apply ak hvs.one;intro val e0 hv1;subst e0;apply ak hv.str_inv;intro t e0 _;subst e0;rw[tW h1];apply ak hv1.cell_inv;intro a e0 ha;subst e0;apply d5 (R.C.cell ha hx);intro d pre post e0 lq e2 cr;subst e0;apply d5 cr.rows_inv;intro b vs nn e0 hvs2 hok hsz;subst e0;(obtain e:=CC.same e2;subst e);apply ed (EB hvs2);intro ys y1 y2 y3;exact Dp he hb hl C R (R.N _ (R.has (d:=.list b vs nn) (.head _))).1 y1 y2 hok h4 kk
 |inst=>exact OB.no
 |any=>exact OB.no
theorem Yg:OB (C8 Y σ o as) (oz Γ .join o as σ):=OB.ob fun l h1=>OB.gd fun h2=>OB.ob fun a h3=>OB.ob fun k h4=>OB.ob fun c h5=>by
 apply ak (xp h1);clear h1;intro ss e0 h1;subst e0;(obtain e:=ow h3;subst e);(obtain e:=jK h4;subst e);replace h2:=dX h2;rw[aR] at h2;exact Nb he hb h1 h2 h5
end
theorem DE:∀ {p l r:ξ} {e b:Bool},y7 p l e=some b→(e=true→r=[])→mT p (l++r)=b
 |[],_,_,_,_,h,_=>osI h
 |x::p,[],r,e,b,h,g=>by
  cases e with
  |false=>injection h
  |true=>rw[g rfl];exact osI h
 |x::p,a::l,r,e,b,h,g=>by
  replace h:Bool.rec (motive:=fun U=>κ Bool) (some false) (y7 p l e) (x.beq a)=some b:=h;show Bool.rec (motive:=fun U=>Bool) false (mT p (l++r)) (x.beq a)=b;cases q:Nat.beq x a with
  |false=>rw[q] at h;exact osI h
  |true=>rw[q] at h;exact DE h g
def TH(h:Gx p s=some b):mT p (s.val Γ.ε)=b:=by
 induction s using oL with
 |nil=>have h:=osI h;subst h;cases p<;>rfl
 |cons q r=>
  induction q using Pc.casesOn with
  |lit l=>exact DE h fun e=>by cases r with|nil=>rfl|cons=>injection e
  |var i=>injection h
  |rep _ _=>injection h
def RV:OB (IW σ o as) (oz Γ .starts o as σ):=OB.ob fun ss h1=>OB.ob fun p h2=>OB.ob fun q h3=>OB.ob fun b h4=>OB.pure fun {c A s m ls imm cs va vals n Q E} C R hv hvs kk=>by
 (obtain e:=nw h1;subst e);(obtain e:=ow h2;subst e);apply ak (xp h3);clear h3;intro s2 e0 h3;subst e0;apply ak hvs.one;intro val e0 hv1;subst e0;apply ak hv.str_inv;intro t e0 _;subst e0;apply ak hv1.str_inv;intro u e0 _;subst e0;rw[tW h3];refine SC.startswith ?_;rw[Wq,TH h4];exact kk s.heap s.toks imm cs _ R (aD.refl ..) (.bool _)
def Rl:OB (HH σ o as) (oz Γ .copy o as σ):=by
 induction o using AV.casesOn with
 |dict=>
  exact OB.gd fun h2=>OB.pure fun {c A s m ls imm cs va vals n Q E} C R hv hvs kk=>by
   obtain rfl:=v5 h2;obtain rfl:=hvs.none;obtain⟨a,es',nn,rfl,hk,lo,kvs,d1,d2,d3,d4⟩:=hv.dict_inv;have hD:s.heap.DictOf (strKind Γ.prog Γ.w) a kvs:=⟨_,es'.toArray,nn,R.kn C.X hk,⟨rfl,rfl,rfl⟩,rfl,d1,by simpa using d2,d3⟩;refine call_meetsIn F.slot_dict_copy hD.typeIs F.entry_dict_copy (F.args_dict_copy_1 _) (meets_dict_copy (strKind Γ.prog Γ.w) a lo) ⟨kvs,hD,by rw[ZH];lia,?_⟩;intro h' hnew _ kp;obtain⟨⟨c1,d1,dt1,sl1⟩,es3,ep3,ho3,⟨rfl,rfl,rfl⟩,hdt3,hk3,hp3,hn3⟩:=hnew;replace hdt3:dt1=.dict es3 ep3:=hdt3;subst hdt3;obtain⟨es3⟩:=es3;exact kk h' s.toks _ _ (.ref s.heap.objs.size) (R.kept kp (Zc _) ho3) ⟨fun U h=>.tail _ h,fun U U h=>h⟩ (.dict (.inl (.head _)) (Sa C.T.g R.F.keep) ⟨kvs,hk3,hp3,hn3,d4⟩)
 |_=>exact OB.no
end
def qt(Y:Pi):Prop:=Y.nm 0=Str.ofString "append"∧Y.nm 1=Str.ofString "pop"∧Y.nm 2=Str.ofString "join"∧Y.nm 3=Str.ofString "startswith"∧Y.nm 4=Str.ofString "copy"
def rR{α:Type}{b:Bool}{x y:κ α}{r:α}(h:(Bool.rec (motive:=fun U=>κ α) x y b)=some r):(b=true∧y=some r)∨(b=false∧x=some r):=by
 induction b using oB with
 |true=>exact .inl ⟨rfl,h⟩
 |false=>exact .inr ⟨rfl,h⟩
def wS(Γ:aw)(σ:St)(ov:AV)(x:Str)(id:BM):Prop :=
 ∀ {c A s m ls imm cs va pl} {n:Nat} {Q:π×List π→χ→Prop} {E:Θ},be Γ c A n→ao Γ c.h₀ c.L s.heap m ls σ imm cs→VR Γ imm (aj cs) va ov→Q (.builtin id.id,[va]) s→wpAny (model Γ.prog Γ.w) A (getMethod va x pl) Q E s
section
variable {σ:St}{x:Str}{id:BM}
def KY(hnm:qt Y){k:Nat}{c:ay}(hx:ae σ k=some c)(hc:xB c=true)(h:oP Y x=some id):wS Γ σ (.cell k) x id:=by
 apply fj hnm;intro n0 n1 _;have hh:(x=Str.ofString "append"∧id=.append)∨(x=Str.ofString "pop"∧id=.pop):=by
  rcases rR h with ⟨q,h⟩|⟨_,h⟩
  ·(apply j1 h;clear h;rintro rfl);exact .inl ⟨by rw[←iw.mp q] at n0;exact n0,rfl⟩
  ·rcases rR h with ⟨q,h⟩|⟨_,h⟩
   ·(apply j1 h;clear h;rintro rfl);exact .inr ⟨by rw[←iw.mp q] at n1;exact n1,rfl⟩
   ·injection h
 intro c' A s m ls imm cs va pl n Q E C R hv kk;apply ak hv.cell_inv;intro a e0 ha;subst e0;apply d5 (R.C.cell ha hx);intro d pre post e0 l e2 cr;subst e0;have:∃ vs nn,s.heap.get? a=some (listOf vs nn):=by
  induction c using ay.casesOn with
  |list=>obtain⟨b,vs,nn,rfl,_⟩:=cr.list_inv;(obtain e:=CC.same e2;subst e);exact⟨_,_,(R.N _ (R.has (d:=.list b vs nn) (.head _))).1⟩
  |rows=>obtain⟨b,vs,nn,rfl,_⟩:=cr.rows_inv;(obtain e:=CC.same e2;subst e);exact⟨_,_,(R.N _ (R.has (d:=.list b vs nn) (.head _))).1⟩
  |inst=>injection hc
  |any=>injection hc
 apply qX this;intro vs nn hg;rcases hh with ⟨rfl,rfl⟩|⟨rfl,rfl⟩<;>dsimp only [BM.id] at kk
 ·exact getMethod_builtin ⟨_,hg,rfl⟩ F.plainAttrs_list F.slot_list_append F.type_list_append (fun a e=>by (injection e with e;subst e);exact⟨_,hg,rfl⟩) kk
 ·exact getMethod_builtin ⟨_,hg,rfl⟩ F.plainAttrs_list F.slot_list_pop F.type_list_pop (fun a e=>by (injection e with e;subst e);exact⟨_,hg,rfl⟩) kk
def Sb(hnm:qt Y){ss:SS}(h:EL Y x=some id):wS Γ σ (.str ss) x id:=by
 apply o6 hnm;intro _ _ n2 n3 _;intro c' A s m ls imm cs va pl n Q E C R hv kk;apply ak hv.str_inv;intro t e0 _;subst e0;rcases rR h with ⟨q,h⟩|⟨_,h⟩
 ·(apply j1 h;clear h;rintro rfl)
  have e:x=Str.ofString "join":=by rw[←iw.mp q] at n2;exact n2
  subst e;exact @getMethod_builtin (model Γ.prog Γ.w) A E s (.str (aL (ss.val Γ.ε)) t) "str" (Str.ofString "join") "str.join" pl Q (typeIs_str s (aL (ss.val Γ.ε)) t) F.plainAttrs_str F.slot_str_join F.type_str_join (fun a e=>by injection e) kk
 ·rcases rR h with ⟨q,h⟩|⟨_,h⟩
  ·(apply j1 h;clear h;rintro rfl)
   have e:x=Str.ofString "startswith":=by rw[←iw.mp q] at n3;exact n3
   subst e;exact @getMethod_builtin (model Γ.prog Γ.w) A E s (.str (aL (ss.val Γ.ε)) t) "str" (Str.ofString "startswith") "str.startswith" pl Q (typeIs_str s (aL (ss.val Γ.ε)) t) F.plainAttrs_str F.slot_str_startswith F.type_str_startswith (fun a e=>by injection e) kk
  ·injection h
def UG(hnm:qt Y)(h:Fj Y x=some id):wS Γ σ .dict x id:=by
 apply o6 hnm;intro _ _ _ _ n4;intro c' A s m ls imm cs va pl n Q E C R hv kk;apply d5 hv.dict_inv;intro a es' nn e0 hk _ _;subst e0;have hg:=R.kn C.X hk;rcases rR h with ⟨q,h⟩|⟨_,h⟩
 ·(apply j1 h;clear h;rintro rfl)
  have e:x=Str.ofString "copy":=by rw[←iw.mp q] at n4;exact n4
  subst e;dsimp only [BM.id] at kk;exact getMethod_builtin ⟨_,hg,rfl⟩ F.plainAttrs_dict F.slot_dict_copy F.type_dict_copy (fun a e=>by (injection e with e;subst e);exact⟨_,hg,rfl⟩) kk
 ·injection h
def Rs(hnm:qt Y)(h:Cl Y σ ov x=some id):wS Γ σ ov x id:=by
 induction ov using AV.casesOn with
 |cell k=>
  apply aE (show (ob (ae σ k) fun c=>gd (xB c) (oP Y x))=some id from h);intro c h1 h;apply bV h;intro h2 h;exact KY hnm h1 h2 h
 |str s=>exact Sb hnm h
 |dict=>exact UG hnm h
 |_=>injection h
end
def CD(hw:Γ.ε.P=Γ.w.params)(he:Γ.ε.Ok)(hb:aV Y.β Γ.ε)(hnm:qt Y):uf Γ Y:=by
 intro σ0 ov x id hid;refine⟨Rs hnm hid,?_⟩;intro σ vs r σ' h;cases id with
 |append=>exact L6 hb _ h
 |pop=>exact Kp _ h
 |join=>exact Yg he hb _ h
 |starts=>exact RV _ h
 |copy=>exact Rl _ h
end
section
variable {Γ:aw}{β:Bd}{Y:Pi}
def H2(hy:∀ C c,Y.ci C=some c→eD Γ C c)(h:m9 Y D C=some b):kitOne Γ.K (.ref D) (.ref C)=some b:=by
 apply aE h;clear h;intro c h1 h;apply aE h;clear h;intro c' h2 h;(apply j1 h;clear h;rintro rfl);have o1:=(hy _ _ h1).isa;have o2:=(hy _ _ h2).isa;obtain⟨⟨cd,e1,e2,e3⟩,_,e4⟩:=o1;obtain⟨⟨cd',f1,_,_⟩,f2,_⟩:=o2;unfold kitOne
 by_cases q:(Value.ref D == Value.ref C)=true
 ·rw[if_pos q]
  have:D=C:=Value.ref.inj (Zq.mp q);subst this;rw[e4]
 ·rw[if_neg q]
  unfold kitCls;dsimp only;rw[if_pos (by rw[f1,f2];rfl)];show mroIn Γ.K D (.ref C)=_;unfold mroIn;rw[e1];show (if cd.mro.isEmpty then none else some (cd.mro.contains (.ref C)))=_;rw[e2,if_neg (by decide),e3]
def GV(hy:∀ C c,Y.ci C=some c→eD Γ C c)(h:pA Y σ v C=some b)(R:ao Γ h₀ L hp m ls σ imm cs)(hv:VR Γ imm (aj cs) va v) :
  ∃ x D d od,va=.ref x∧InstAt hp x (instObj D d) D (some od)∧∀ C b,pA Y σ v C=some b→m9 Y D C=some b:=by
 induction v using AV.casesOn with
 |obj D fs=>
  apply qR hv.obj_inv;intro a d es n e0 h1 h2 hf hp hc;subst e0;exact⟨a,_,d,_,rfl,InstAt.of_news R.N (bn _ h1) (bn _ h2),fun C b h=>h⟩
 |cell k=>
  apply b8 (show (obp (nN σ k) fun D U=>m9 Y D C)=some b from h);intro D fs e _;apply ak hv.cell_inv;intro a e0 ha;subst e0;apply d5 (R.C.cell ha (rZ e));intro d pre post e0 l e2 cr;subst e0;apply ni cr.inst_inv;intro b' d es n e0 hf hp hc;subst e0;(obtain e:=CC.same e2;subst e);refine⟨_,D,d,_,rfl,InstAt.of_news R.N (R.has (d:=.inst b' D d es n) (.head _)) (R.has (d:=.inst b' D d es n) (.tail _ (.head _))),fun C b h=>?_⟩;have h:(obp (nN σ k) fun D U=>m9 Y D C)=some b:=h;rw[e] at h;exact h
 |_=>injection h
def GZ(h:m9 Y D C=some b):∃ c,Y.ci D=some c:=by
 apply aE h;intro c h1 _;exact⟨c,h1⟩
def Ey(hy:∀ C c,Y.ci C=some c→eD Γ C c)(h:Y.ci D=some c):KitX Γ.K (.ref x) (.ref D) (fun h=>InstAt h x (instObj D d) D (some od)):=by
 have ok:=hy _ _ h;apply o6 ok.kin;intro k1 k2 k3 k4 k5;exact kitx_own k1 ok.cls.hd k2 k3 k4 k5
def RL(hy:∀ C c,Y.ci C=some c→eD Γ C c)(hD:∀ C b,pA Y σ v C=some b→m9 Y D C=some b)(g:ar Γ imm ρ vs xs):ug Y σ v xs=some b→kitAny Γ.K (.ref D) vs=some b:=by
 induction g using ar.ind generalizing b with
 |nil=>intro h;(apply j1 h;clear h;rintro rfl);rfl
 |cons hv hr ih=>
  intro h;apply aE h;intro C e hj;apply aE hj;clear hj;intro q e2 hj;(obtain e:=Du e;subst e);(obtain e:_=_:=VR.inv hv;subst e);unfold kitAny;rw[H2 hy (hD _ _ e2)];induction q using oB with
  |true=>(injection hj with e;subst e);rfl
  |false=>exact ih hj
def Oz(h:ug Y σ v xs=some b)(hne:xs≠[]):∃ C b',pA Y σ v C=some b':=by
 induction xs using oL with
 |nil=>exact absurd rfl hne
 |cons x xs=>
  apply aE h;clear h;intro C e h;apply aE h;clear h;intro q e2 h;exact⟨_,_,e2⟩
end
section
variable {Γ:aw}{β:Bd}{Y:Pi}
def Nq(he:Γ.ε.Ok)(h:HC σ v=some l){s:χ}{Q E:Θ}
  (C:be Γ c A n) (R:ao Γ c.h₀ c.L s.heap m ls σ imm cs) (hv:VR Γ imm (aj cs) va v) (k:∀ tk val,VR Γ imm (aj cs) val (.int l)→Q val {s with toks:=tk}):wpAny (model Γ.prog Γ.w) A (call (.builtin "len") [va] []) Q E s:=by
 induction v using AV.casesOn with
 |str ss=>
  (apply j1 h;rintro rfl);have hl:=hv.str_len;apply ak hv.str_inv;intro t e0 o;subst e0;refine PySem.P.len_str (by rw[eQ];lia) ?_;rw[eQ];exact k _ _ (.int (jT he o).symm)
 |cell kk=>
  apply aE (show (ob (dC σ kk) fun xs=>some (ax.k (.ofNat (lenA xs))))=some l from h);intro xs e h;(apply j1 h;rintro rfl);apply jc (R.lst hv (gE e));intro a vs' nn pre post e0 _ _ g1 v1 z1;subst e0;refine call_len_list ⟨_,g1,rfl,_,rfl⟩ (by rw[Zl,v1.len];lia) ?_;refine k _ _ (.int ?_);rw[Zl,v1.len,cF,aR];rfl
 |_=>injection h
abbrev sz (Γ:aw) (n:Nat) (f:BF) (vs:List AV) (σ:St) (q:AV×St):Prop:=i6 Γ n σ (.bi f) vs [] q.1 q.2
def pr{kwv:List (Str×π)}{kw:List (Str×AV)}(h:kwv.map (·.1)=kw.map (·.1))(e:kw=[]):kwv=[]:=by subst e;induction kwv using oL with|nil=>rfl|cons=>injection h
section
variable {n:Nat}{σ:St}{vs:List AV}
def QI(he:Γ.ε.Ok):OB (Ex σ vs) (sz Γ n .len vs σ):=OB.ob fun v h1=>OB.ob fun l h2=>OB.pure fun {c A s m ls imm cs fval vals kwv Q E} C R hv ha hk hk2 k=>by
 obtain rfl:=pr hk rfl;(obtain e:=ow h1;subst e);apply ak ha.one;intro val e0 hv1;subst e0;(obtain e:_=_:=VR.inv hv;subst e);exact Nq he h2 C R hv1 fun tk val q=>k s.heap tk imm cs val R (aD.refl ..) q
def SD(hy:∀ C c,Y.ci C=some c→eD Γ C c):OB (GQ Y σ v t) (sz Γ n .isi [v,t] σ):=by
 induction t using AV.casesOn with
 |cls D=>
  show OB (ob (pA Y σ v D) fun b=>some (AV.bool b,σ)) _;exact OB.ob fun b h1=>OB.pure fun {c A s m ls imm cs fval vals kwv Q E} C R hv ha hk hk2 k=>by
   obtain rfl:=pr hk rfl;(obtain e:_=_:=VR.inv hv;subst e);obtain⟨_,_,e0,hv,hn⟩:=ar.inv ha;clear ha;subst e0;apply ak hn.one;intro val e0 hc;subst e0;(obtain e:_=_:=VR.inv hc;subst e);apply pW (GV hy h1 R hv);intro x D' d od e0 I e;subst e0;replace e:=e _ _ h1;apply bC (GZ e);intro ci hci;exact kia_one (Ey hy hci) (C.X.keeps R.F.keep) I (H2 hy e) (by intro z;injection z) fun tk=>k s.heap tk imm cs _ R (aD.refl ..) (.bool _)
 |tup xs=>
  show OB (gd (Bool.rec true false (aI xs)) (ob (ug Y σ v xs) fun b=>some (AV.bool b,σ))) _;exact OB.gd fun h0=>OB.ob fun b h1=>OB.pure fun {c A s m ls imm cs fval vals kwv Q E} C R hv ha hk hk2 k=>by
   obtain rfl:=pr hk rfl;(obtain e:_=_:=VR.inv hv;subst e);obtain⟨_,_,e0,hv,hn⟩:=ar.inv ha;clear ha;subst e0;apply ak hn.one;intro val e0 hc;subst e0;apply gg hc.tup_inv;intro a vs' nn e0 hk v1;subst e0;have hne:xs≠[]:=by rintro rfl;injection h0
   apply qX (Oz h1 hne);intro C0 b0 hh;apply pW (GV hy hh R hv);intro x D' d od e0 I e;subst e0;apply bC (GZ (e _ _ hh));intro ci hci;exact kia_tup (Ey hy hci) (C.X.keeps R.F.keep) I (R.kn C.X hk) (RL hy e v1 h1) (by intro z;injection z) fun tk=>k s.heap tk imm cs _ R (aD.refl ..) (.bool _)
 |_=>exact OB.no
def UD(hy:∀ C c,Y.ci C=some c→eD Γ C c):OB (CX Y σ vs) (sz Γ n .isi vs σ):=by
 match vs with
 |[v,t]=>exact SD hy
 |[]=>exact OB.no
 |[_]=>exact OB.no
 |_::_::_::_=>exact OB.no
def Os:OB (IU σ vs) (sz Γ n .range vs σ):=OB.ob fun v h1=>OB.ob fun i h2=>OB.ob fun j h3=>OB.gd fun h4=>OB.pure fun {c A s m ls imm cs fval vals kwv Q E} C R hv ha hk hk2 k=>by
 obtain rfl:=pr hk rfl;(obtain e:=ow h1;subst e);apply ak (mQ h2);intro l e0 e;subst e0;have hi:i=Int.ofNat j:=by cases i<;>(first|apply j1 h3;rintro rfl|injection h3);rfl
 subst hi;apply ak ha.one;intro val e0 hv1;subst e0;(obtain e:_=_:=VR.inv hv;subst e);apply bC hv1.int_inv;intro t e0;subst e0;rw[gJ e];exact call_range_1 (k _ _ _ _ _ (R.newI (zl j s.toks t (s.toks+1)) rfl) (R.extI _) (.rng (.head _) (dX h4)))
def M4(n:Nat)(h:n<10):Str.ofString (toString (Int.ofNat n))=aL [n+48]:=(by decide +kernel:∀ n∈List.range 10,Str.ofString (toString (Int.ofNat n))=aL [n+48]) n (il h)
def MA:OB (C7 σ vs) (sz Γ n .str vs σ):=OB.ob fun v h1=>OB.ob fun i h2=>OB.ob fun j h3=>OB.gd fun h4=>OB.pure fun {c A s m ls imm cs fval vals kwv Q E} C R hv ha hk hk2 k=>by
 obtain rfl:=pr hk rfl;(obtain e:=ow h1;subst e);apply ak (mQ h2);intro l e0 e;subst e0;have hi:i=Int.ofNat j:=by cases i<;>(first|apply j1 h3;rintro rfl|injection h3);rfl
 subst hi;apply ak ha.one;intro val e0 hv1;subst e0;(obtain e:_=_:=VR.inv hv;subst e);apply bC hv1.int_inv;intro t e0;subst e0;rw[gJ e];have hj:j<10:=dX h4;refine PySem.P.str_of_int ?_ ?_
 ·show j.log2<1920
  by_cases hz:j=0
  ·subst hz;decide
  ·exact(Nat.log2_lt hz).mpr (Nat.lt_of_lt_of_le hj (by decide))
 ·refine k _ _ _ _ _ R (aD.refl ..) (.str ((M4 j hj).trans (congrArg aL (apN _).symm)) (jm [j+48]) (by show ([j+48]++[]).length≤16777216;simp))
def Ul(hb:aV Y.β Γ.ε):OB (Iw Y.β σ vs) (sz Γ n .max vs σ):=by
 match vs with
 |[a,b]=>
  show OB (ob (eU a) fun x=>ob (eU b) fun y=>ob (ld Y.β x y) fun t=>some (AV.int (Bool.rec x y t),σ)) _;refine OB.ob fun x h1=>OB.ob fun y h2=>OB.ob fun t h3=>OB.pure fun {c A s m ls imm cs fval vals kwv Q E} C R hv ha hk hk2 k=>?_;obtain rfl:=pr hk rfl;(obtain e:=gP h1;subst e);(obtain e:=gP h2;subst e);(obtain e:_=_:=VR.inv hv;subst e);obtain⟨_,_,e0,ha1,ha2⟩:=ar.inv ha;clear ha;subst e0;apply ak ha2.one;intro val e0 hv2;subst e0;apply bC ha1.int_inv;intro t e0;subst e0;apply bC hv2.int_inv;intro u e0;subst e0;have h1:=tT hb h3;subst h1;refine max_two_N C.hd R.F R.N fun h' tk F' N'=>k h' tk imm cs _ ⟨F',N',R.nd,R.C,R.l⟩ (aD.refl ..) ?_
  by_cases q:x.val Γ.ε<y.val Γ.ε
  ·rw[if_pos q,decide_eq_true q];exact .int rfl
  ·rw[if_neg q,Zw q];exact .int rfl
 |[]=>exact OB.no
 |[_]=>exact OB.no
 |_::_::_::_=>exact OB.no
end
def xM(hw:Γ.ε.P=Γ.w.params)(he:Γ.ε.Ok)(hb:aV Y.β Γ.ε)(hy:∀ C c,Y.ci C=some c→eD Γ C c)(h:bf Y σ f vs=some (r,σ')):vQ Γ (.bi f)∧i6 Γ n σ (.bi f) vs [] r σ':=by
 refine⟨fun hv X hi=>by (obtain e:_=_:=VR.inv hv;subst e);cases f<;>exact⟨.machine,.inr (.inl rfl),.of_pure rfl⟩,?_⟩;cases f with
 |len=>exact QI he _ h
 |isi=>exact UD hy _ h
 |range=>exact Os _ h
 |str=>exact MA _ h
 |max=>exact Ul hb _ h
 |enum=>injection h
end
section
variable {Γ:aw}{β:Bd}{Y:Pi}
end
section
variable {Γ:aw}{Y:Pi}
def XR(C:be Γ c A n)(R:ao Γ c.h₀ c.L h m ls σ imm cs) :
  Below A c.base c.fr (hideAll h ((imm++aG cs).map (·.1)))∧c.h₀.StaysIn (hideAll h ((imm++aG cs).map (·.1))):=by
 have nm:∀ b o,c.h₀.get? b=some o→b ∉ (imm++aG cs).map (·.1):=fun b o e q=>by
  apply ak (eo q);intro p hp e0;subst e0;rw[(R.N p hp).2.2] at e;cases e
 have st:c.h₀.StaysIn (hideAll h ((imm++aG cs).map (·.1))):=fun b o e=>hideAll_get _ (R.F.keep b o e) (nm b o e);refine⟨?_,st⟩;apply bC C.B;intro A₀ B;have cfr:=C.fr;cases hu:c.up with
 |some fl=>
  have hfr:c.fr=c.outer:=by unfold Cx.fr;rw[hu]
  rw[hfr] at cfr ⊢;exact⟨cfr,fun b o e=>st b o (B.stays b o e),B.frames.of_keeps fun b o e U=>⟨o,st b o e,rfl⟩⟩
 |none=>
  have hfr:c.fr=envOf c.cn c.cs c.L c.a c.cd::c.outer:=by unfold Cx.fr Cx.env;rw[hu]
  rw[hfr] at cfr ⊢;have nL:c.L ∉ (imm++aG cs).map (·.1):=fun q=>by
   apply ak (eo q);intro p hp e;exact(R.N p hp).2.1 e
  have B₁:=B.push (name:=c.cn) (scope:=c.cs) (a:=c.a) (cd:=c.cd) R.F C.k;exact⟨cfr,fun b o e=>st b o (B.stays b o e),funFrames_hideAll B₁.frames fun env he b hb hf=>by
   cases he with
   |head=>exact nL ((osI hf:c.L=b)▸hb)
   |tail _ he=>
    apply Rd (funFrames_in B.frames env he);intro L₁ o₁ hf₁ ho₁;rw[hf₁] at hf;exact nm L₁ o₁ ho₁ ((osI hf:L₁=b)▸hb)⟩
def Hk{R:Result→χ→Prop}
  (h:wpAny (model Γ.prog Γ.w) A (pyNext it) (fun r s₁=>match r with
   |none=>R (.ok .next) s₁
   |some v=>wpAny (model Γ.prog Γ.w) A (letOwnedTupleGo target it v) (fun U s₂=>wpAny (model Γ.prog Γ.w) A (assign target env v) (fun U s₃=>wpAny (model Γ.prog Γ.w) A (eval elt env) (fun x s₄=>
    wpAny (model Γ.prog Γ.w) A (call (.builtin "list.append") [acc,x]) (fun U s₅=>codeAny (model Γ.prog Γ.w) A (.compLoop (.ListComp elt [⟨target,iter,[],0⟩] scope pos) 0 it acc env) R s₅) (notedBy (model Γ.prog Γ.w) A env fun e s'=>R (.error e) s') s₄)
    (notedBy (model Γ.prog Γ.w) A env fun e s'=>R (.error e) s') s₃) (notedBy (model Γ.prog Γ.w) A env fun e s'=>R (.error e) s') s₂) (notedBy (model Γ.prog Γ.w) A env fun e s'=>R (.error e) s') s₁) (notedBy (model Γ.prog Γ.w) A env fun e s'=>R (.error e) s') s) :
  codeAny (model Γ.prog Γ.w) A (.compLoop (.ListComp elt [⟨target,iter,[],0⟩] scope pos) 0 it acc env) R s:=by
 refine codeAny_of_tree ?_;show wpAny _ A ((compTurn (.ListComp elt [⟨target,iter,[],0⟩] scope pos) 0 it acc env).onRaise (fun x=>do noteFrame x env;theTreesLotGoes x)) _ _ s;refine wpAny_noted ?_;rw[compTurn_list1];refine Y6 (Zj (Y6 (ZF h (fun r s₁ h₁=>?_) fun U U h'=>h')));induction r using oO with
 |none=>exact Y8 h₁
 |some v=>
  refine Y6 (ZF h₁ (fun U s₂ h₂=>?_) fun U U h'=>h');exact Y6 (ZF h₂ (fun U s₃ h₃=>Y6 (Y6 (ZF h₃ (fun x s₄ h₄=>Y6 (ZF h₄
   (fun U s₅ h₅=>Y8 (Y8 ⟨rfl,h₅⟩)) fun U U h'=>h')) fun U U h'=>h'))) fun U U h'=>h')
def ao.noLs(R:ao Γ h₀ L h m ls σ imm cs):ao Γ h₀ L h m [] σ imm cs:=⟨R.F,R.N,R.nd,R.C,fun x v hx=>by injection hx⟩
inductive Cz (Γ:aw) (n:Nat) (sc:List (Str×NameKind)) (t e:Expr) (kk:Nat):It→St→St→Prop
 |stop {it:It} {σ:St}:jw σ it=some none→Cz Γ n sc t e kk it σ σ
 |step {it it':It} {v y:AV} {ls:ag} {σ σ1 σ2 σ':St} {xs:List AV}:jw σ it=some (some (v,it'))→jM Γ n (fun c=>assign t c.env) v ⟨[],sc⟩ σ ls σ1→bM Γ n (fun c=>eval e c.env) ls σ1 y σ2→dC σ2 kk=some xs→xs.length≤1000 →
  Cz Γ n sc t e kk it' (cC σ2 kk (.list (xs++[y]))) σ'→Cz Γ n sc t e kk it σ σ'
def WM(I:bu Γ n R)(S:gW Γ n R):∀ (f:List AV) {it:It} {σ σ':St},Al R sc t e kk f it σ=some σ'→Cz Γ n sc t e kk it σ σ':=by
 intro f;induction f with
 |nil=>intro it σ σ' h;injection h
 |cons _ f ih=>
  intro it σ σ' h;apply aE (show (ob (jw σ it) fun x=>Option.rec (motive:=fun U=>κ St) (some σ) (fun p=>Prod.rec (fun v j=>
   obp (R.asg ⟨[],sc⟩ σ v t) fun ls σ=>obp (R.ev ls σ e) fun y σ=>ob (dC σ kk) fun xs=>gd (Nat.ble (lenA xs) 1000) <|Al R sc t e kk f j (cC σ kk (.list (xs++[y])))) p) x)=some σ' from h);intro r h1 h
  induction r using oO with
  |none=>
   (apply j1 h;clear h;rintro rfl);exact .stop h1
  |some q=>
   obtain⟨v,it'⟩:=q;apply b8 h;clear h;intro ls1 σ1 h2 h;apply b8 h;clear h;intro y σ2 h3 h;apply aE h;clear h;intro xs h4 h;apply bV h;clear h;intro h5 h;exact .step h1 (S.asg h2) (I.ev h3) h4 (aR xs▸dX h5) (ih h)
def XM{sc:Scope}(ht:iZ t=true)(hnd:sc.names.lookup ("__debug__" : Str)=none)(h:Cz Γ n sc.names t e kk it σ σ') :
  ∀ {c A s m imm cs D Iter} {Rq:Result→χ→Prop},be Γ c A n→c.cs=sc→ao Γ c.h₀ c.L s.heap m [] σ imm cs→gN imm (aj cs) Iter it→VR Γ imm (aj cs) D (.cell kk) →
  (∀ h' tk m' imm' cs',ao Γ c.h₀ c.L h' m' [] σ' imm' cs'→np Iter imm cs imm' cs'→Rq (.ok .next) (sU s h' tk))→codeAny (model Γ.prog Γ.w) A (.compLoop (.ListComp e [⟨t,iter,[],0⟩] sc pos) 0 (.ref Iter) D c.env) Rq s:=by
 induction h with
 |stop h1=>
  intro c A s m imm cs D Iter Rq C hcs Rp hi hD k;refine Hk (ot h1 C Rp hi ?_);intro h' tk imm' R' x';exact k h' tk m imm' cs R' ⟨x',fun U U h=>h⟩
 |step h1 h2 h3 h4 h5 _ ih=>
  intro c A s m imm cs D Iter Rq C hcs Rp hi hD k;refine Hk (ot h1 C Rp hi ?_);intro h' tk imm' val R' x' i' hv;have l0:co c ⟨[],sc.names⟩:=⟨by rw[hcs],fun x v hx=>by injection hx,by rw[hcs];exact hnd⟩;apply ak i'.obj;intro o1 o2 o3;refine su ht (s:=sU s h' tk) (R'.N _ (bn _ o2)).1 o3 ?_;refine h2 C l0 (s:=sU s h' tk) R' hv fun ha ta ma ia ca Ra la xa=>?_;refine h3 C la (s:=sU s ha ta) Ra fun hz tz iz cz yv Rz xz hy=>?_;have xt:aD imm' cs iz cz:=xa.trans xz;have hD':VR Γ iz (aj cz) D (.cell kk):=by
   apply ak hD.cell_inv;intro a e0 ha;subst e0;exact .cell (xt.r _ _ ha)
  refine Dy (gE h4) (by rw[aR];exact Nat.le_trans h5 (by decide)) C (s:=sU s hz tz) Rz hD' hy fun hq iq cq Rq' xq=>?_;have xu:aD imm' cs iq cq:=xt.trans xq;refine ih C hcs (s:=sU s hq tz) Rq'.noLs (i'.ext xu) ?_ fun h2 t2 m2 i2 c2 R2 x2=>k h2 t2 m2 i2 c2 R2 ⟨fun q hq hne=>x2.i q (xu.i q (x' q hq hne)) hne,fun k a h=>x2.r k a (xu.r k a h)⟩;apply ak hD.cell_inv;intro a e0 ha;subst e0;exact .cell (xu.r _ _ ha)
def GW(h:ww sc=true):sc.kind=.function∧(∀ x∈sc.names,x.2≠.free)∧(∀ x∈sc.names,x.2≠.cell)∧(∀ x∈sc.names,x.2=.local→sc.names.lookup x.1=some .local)∧sc.names.lookup ("__debug__" : Str)=none:=by
 have a:=aA h;have b:=aA a.2;have h1:=a.1;have h2:=b.1;have h3:=b.2;have al:∀ x∈sc.names,uh sc.names x=true:=fun x hx=>aB h2 x hx;refine⟨?_,fun x hx e=>?_,fun x hx e=>?_,fun x hx e=>?_,by rw[ke] at h3;exact Option.isNone_iff_eq_none.mp h3⟩
 ·revert h1
  cases sc.kind<;>intro h1<;>first|rfl|injection h1
 ·have:=al x hx;unfold uh at this;rw[e] at this;injection this
 ·have:=al x hx;unfold uh at this;rw[e] at this;injection this
 ·have:=al x hx
  unfold uh at this;rw[e] at this;exact AY this
def WK(ht:iZ t=true)(hs:ww sc=true)(h:Cz Γ n sc.names t e d (.lst kk 0) σ σ')
  {s:χ} {Q E:Θ} (C:be Γ c A n) (Rp:ao Γ c.h₀ c.L s.heap m ls σ imm cs) (hi:gN imm (aj cs) Iter (.lst kk 0)) (hD:VR Γ imm (aj cs) D (.cell d))
  (k:∀ h' tk imm' cs',ao Γ c.h₀ c.L h' m ls σ' imm' cs'→np Iter imm cs imm' cs'→Q D (sU s h' tk)) :
  wpAny (model Γ.prog Γ.w) A (newFunctionEnv sc c.env.globals [] [] c.env.qual none .none (some c.env)) (fun cenv s₄=>
    codeAny (model Γ.prog Γ.w) A (.compStart (.ListComp e [⟨t,iter,[],0⟩] sc pos) 0 (.ref Iter) D {cenv with scope:=sc}) (fun r s'=>∃ m,s'.heap.Ns cenv.locals m∧∀ h',Heap.SameBut cenv.locals s'.heap h' →
     match r with|.ok _=>Q D {s' with heap:=h'}|.error x=>wpAny (model Γ.prog Γ.w) A (passOn "comprehension.variables-let-go" x {cenv with scope:=sc}) Q E {s' with heap:=h'}) s₄) E s:=by
 apply o6 (GW hs);intro c1 c2 c3 c4 c5;refine wpAny_newFunctionEnv c3 (fun x hx=>by cases hx) (fun h₁ hns hsb=>?_) c1;apply bq (XR C Rp);intro B st;generalize hg:hideAll s.heap ((imm++aG cs).map (·.1))=g at B st;have hgs:g.objs.size=s.heap.objs.size:=by rw[←hg];exact hideAll_size _ _
 have of_g:∀ b o,g.get? b=some o→s.heap.get? b=some o:=fun b o e=>of_hideAll _ (by rw[hg];exact e);have none_g:∀ b,b∈(imm++aG cs).map (·.1)→g.get? b=none:=fun b hb=>by rw[←hg];exact hideAll_none _ hb
 have old:∀ b o,s.heap.get? b=some o→h₁.get? b=some o:=fun b o e=>hsb.extBut b o (ZK (Zy e)) (Heap.get?_push_of_some _ e);apply d5 Rp.F.ns;intro oL es ep hL hLd hLk hLf;have nL:c.L ∉ (imm++aG cs).map (·.1):=fun q=>by
  apply ak (eo q);intro p hp e;exact(Rp.N p hp).2.1 e
 have hLg:g.get? c.L=some oL:=by rw[←hg];exact hideAll_get _ hL nL
 have henv:∃ fl,(⟨sc,s.heap.objs.size,c.env.globals,[],c.env.qual,none,c.env.code,c.env.frame,c.env.builtins⟩ : Env)=Cx.env ⟨c.base,g,c.fr,s.heap.objs.size,c.a,c.cn,sc,c.cd,some fl⟩:=by
  cases hu:c.up with
  |none=>exact⟨c.L,by unfold Cx.env;rw[hu];rfl⟩
  |some fl=>exact⟨fl,by unfold Cx.env;rw[hu]⟩
 apply bC henv;clear henv;intro fl henv
 suffices hh:∀ (tk:Nat) (ev:Env),ev=Cx.env ⟨c.base,g,c.fr,s.heap.objs.size,c.a,c.cn,sc,c.cd,some fl⟩→codeAny (model Γ.prog Γ.w) A (.compStart (.ListComp e [⟨t,iter,[],0⟩] sc pos) 0 (.ref Iter) D ev) (fun r s'=>∃ m,s'.heap.Ns s.heap.objs.size m∧∀ h',Heap.SameBut s.heap.objs.size s'.heap h' →
     match r with|.ok _=>Q D {s' with heap:=h'}|.error x=>wpAny (model Γ.prog Γ.w) A (passOn "comprehension.variables-let-go" x ev) Q E {s' with heap:=h'}) (sU s h₁ tk) from hh _ _ henv
 rintro tk0 ev rfl;generalize hc':(⟨c.base,g,c.fr,s.heap.objs.size,c.a,c.cn,sc,c.cd,some fl⟩ : Cx)=c';have C':be Γ c' A n:=by
  subst hc';exact⟨⟨A,B⟩,C.X.keeps st,C.T.keeps st,c1,C.fr,C.hd,C.dp,C.un⟩
 have e1:c'.cs=sc:=by subst hc';rfl
 have e2:c'.h₀=g:=by subst hc';rfl
 have e3:c'.L=s.heap.objs.size:=by subst hc';rfl
 have R':ao Γ c'.h₀ c'.L h₁ (fun U=>none) [] σ imm cs:=by
  rw[e2,e3];refine⟨⟨hns,fun b o e=>old b o (of_g b o e),Nat.le_of_eq hgs⟩,fun p hp=>⟨old _ _ (Rp.N p hp).1,ZK (Zy (Rp.N p hp).1),none_g _ (Zi hp)⟩,Rp.nd,Rp.C,fun x v hx=>by injection hx⟩
 have loop:∀ tk,codeAny (model Γ.prog Γ.w) A (.compLoop (.ListComp e [⟨t,iter,[],0⟩] sc pos) 0 (.ref Iter) D c'.env) (fun r s'=>∃ m,s'.heap.Ns s.heap.objs.size m∧∀ h',Heap.SameBut s.heap.objs.size s'.heap h' →
     match r with|.ok _=>Q D {s' with heap:=h'}|.error x=>wpAny (model Γ.prog Γ.w) A (passOn "comprehension.variables-let-go" x c'.env) Q E {s' with heap:=h'}) (sU s h₁ tk):=fun tk=>by
  refine XM ht c5 h C' e1 (s:=sU s h₁ tk) R' hi hD fun h2 t2 m2 i2 cs2 R2 x2=>⟨m2,e3▸R2.F.ns,fun h3 hsb3=>?_⟩;rw[e2,e3] at R2;have keep3:∀ b o,b≠s.heap.objs.size→h2.get? b=some o→h3.get? b=some o:=fun b o hb e=>hsb3.extBut b o hb e;have lt0:∀ b o,g.get? b=some o→b≠s.heap.objs.size:=fun b o e=>ZK (Zy (of_g b o e));have F3:Fr c.h₀ c.L h3 m:=⟨⟨oL,es,ep,keep3 _ _ (lt0 _ _ hLg) (R2.F.keep _ _ hLg),hLd,hLk,hLf⟩,fun b o e=>keep3 _ _ (lt0 _ _ (st b o e)) (R2.F.keep _ _ (st b o e)),Rp.F.above⟩;have N3:News c.h₀ c.L h3 (i2++aG cs2):=fun p hp=>⟨keep3 _ _ (R2.N p hp).2.1 (R2.N p hp).1,(fun q=>by
   have:=(R2.N p hp).2.2;rw[q,hLg] at this;cases this),by
   cases q:c.h₀.get? p.1 with
   |none=>rfl
   |some o=>have:=(R2.N p hp).2.2;rw[st _ _ q] at this;cases this⟩
  refine k h3 t2 i2 cs2 ⟨F3,N3,R2.nd,R2.C,fun x v hx=>?_⟩ x2;apply ak (Rp.l x v hx);intro val q1 q2;refine⟨val,q1,q2.all (n:=0) (q:=false) (fun p hp hq=>x2.i p hp fun e=>?_) (fun k a U=>x2.r k a) nofun⟩;apply ak hi.obj;intro o o1 o2;have g1:=(Rp.N p (bn _ hp)).1;have g2:=(Rp.N _ (bn _ o1)).1;rw[e,g2] at g1;rw[←osI g1,o2.1] at hq;injection hq
 refine codeAny_compStart_list (loop tk0) ?_;cases hi with
 |lst a b d1 d2=>exact wpAny_pyIter_listiter (s:=sU s h₁ tk0) ⟨_,(R'.N _ (bn _ a)).1,d1,d2⟩ (loop tk0)
def SH(g1:ww sc=true)(g2:jE it=true)(g3:iZ t=true)(hy:bM Γ n (fun c=>eval it c.env) ls σ (.cell kk) σ1)(h3:dC σ1 kk=some xs)
  (h4:Cz Γ n sc.names t e (lenA σ1) (.lst kk 0) (σ1++[.list []]) σ2):bM Γ n (fun c=>eval (.ListComp e [⟨t,it,[],0⟩] sc pos) c.env) ls σ (.cell (lenA σ1)) σ2:=by
 apply o6 (GW g1);intro c1 c2 c3 c4 c5;intro c A s m imm cs Q E C l Rp k;apply nJ c.parts;intro p1 p2 p3 p4;refine wpAny_ListComp c2 c1 c4 (hy C l Rp fun hx tx ix cx va Rx xx qx=>?_) ?_
 rotate_left
 ·intro x
  unfold foldedSetIterable;induction it using PySem.Expr.casesOn<;>first|rfl|(exact(Ay g2).elim)|(exact Bool.noConfusion (show false=true from g2))
 apply ak qx.cell_inv;intro a e0 ha;subst e0;apply d5 (Rx.C.cell ha (gE h3));intro dd pre post e0 hl e2 cr;subst e0;apply gg cr.list_inv;intro a2 vs nn e0 hvs hsz;subst e0;replace e2:a2=a:=e2;subst e2;refine wpAny_pyIter_list (items:=vs.toArray) ⟨_,(Rx.N _ (Rx.has (d:=.list a2 vs nn) (.head _))).1,rfl,_,rfl⟩ ?_;have R2:=Rx.newI {cls:=.type "list_iterator",data:=.fields #[.ref a2,.int 0 0]} rfl;generalize hcs:pre++CC.list a2 vs nn::post=cx at *
 refine wpAny_newList ?_ (by decide);have R3:=R2.newL (vs:=[]) (xs:=[]) .nil (by decide);have hv3:=AW (h:=hx.push {cls:=.type "list_iterator",data:=.fields #[.ref a2,.int 0 0]}) (vs:=[]) R2.C;have i3:gN ((hx.objs.size,({cls:=.type "list_iterator",data:=.fields #[.ref a2,.int 0 0]}:Obj))::ix) (aj (cx++[CC.list (hx.push {cls:=.type "list_iterator",data:=.fields #[.ref a2,.int 0 0]}).objs.size [] 0])) hx.objs.size (.lst kk 0) :=
  .lst (.head _) ((aD.snoc ix cx _).r _ _ ha) rfl rfl
 refine WK g3 g1 h4 C R3 i3 hv3 fun h' tk imm' cs' R' x'=>?_;have lt:∀ q∈ix,q.1≠hx.objs.size:=fun q hq=>ZK (Zy (Rx.N q (bn _ hq)).1);have x3:aD ix cx imm' cs':=⟨fun q hq=>x'.i q (.tail _ hq) (lt q hq),fun k a h=>x'.r k a ((aD.snoc ix cx _).r k a h)⟩;refine k h' tk imm' cs' _ R' (xx.trans x3) ?_;apply ak hv3.cell_inv;intro a e0 ha';rw[e0];exact .cell (x'.r _ _ ha')
def Xl(I:bu Γ n R)(S:gW Γ n R)(h:DH R ls σ e t it sc=some (v,σ')):bM Γ n (fun c=>eval (.ListComp e [⟨t,it,[],0⟩] sc pos) c.env) ls σ v σ':=by
 apply bV h;clear h;intro h0 h;apply b8 h;clear h;intro u σ1 h1 h;apply aE h;clear h;intro kk h2 h;apply aE h;clear h;intro xs h3 h;apply aE h;clear h;intro σ2 h4 h;(apply j2 h;clear h;rintro rfl rfl);simp only [Y9] at h0;(obtain e0:=jK h2;subst e0);exact SH h0.1 h0.2.1 h0.2.2 (I.ev h1) h3 (WM I S _ h4)
end
section
variable {Γ:aw}{β:Bd}{Y:Pi}
section
variable {n:Nat}{R:aJ}{ls:ag}{σ σ':St}{v:AV}
def Sg(hg:∀ x v,Y.glob x=some v→tG Γ x v)(h:zo Y ls σ x=some (v,σ')):bM Γ n (fun c=>eval (.Name x pos) c.env) ls σ v σ':=by
 unfold zo at h;cases q:lk x ls.v with
 |some u=>rw[q] at h;(apply j2 h;clear h;rintro rfl rfl);exact T9 q
 |none=>
  rw[q] at h;apply bV h;clear h;intro h1 h;apply aE h;clear h;intro v' h2 h;(apply j2 h;clear h;rintro rfl rfl);exact UF h1 (hg _ _ h2)
def Wd(he:Γ.ε.Ok)(hb:aV Y.β Γ.ε)(I:bu Γ n R)(h:Aq Y R ls σ op e=some (v,σ')):bM Γ n (fun c=>eval (.UnaryOp op e pos) c.env) ls σ v σ':=by
 cases op with
 |USub=>
  induction e using PySem.Expr.casesOn with
  |Constant c q p=>
   cases c with
   |int i=>(apply j2 h;clear h;rintro rfl rfl);exact J8
   |_=>injection h
  |ListComp e2 gs sc pos2=>
   unfold Aq at h;rw[show vE (.ListComp e2 gs sc pos2)=j6 e2 sc gs from rfl] at h;rcases l8 e2 sc gs with q|⟨_,_,_,q⟩<;>rw[q] at h<;>injection h
  |_=>injection h
 |Not=>exact M6 he hb I h
 |_=>injection h
def Lm(hw:Γ.ε.P=Γ.w.params)(he:Γ.ε.Ok)(hb:aV Y.β Γ.ε)(hy:∀ C c,Y.ci C=some c→eD Γ C c)(hbm:uf Γ Y)(hg:∀ x v,Y.glob x=some v→tG Γ x v)(hl:∀ a xs,Y.lst a=some xs→x7 Γ a xs)
  (I:bu Γ n R) (S:gW Γ n R) (J:mt Γ n R) (h:Cr Y R ls σ e=some (v,σ')) :
  bM Γ n (fun c=>eval e c.env) ls σ v σ':=by
 induction e using PySem.Expr.casesOn with
 |Constant c q pos=>
  apply aE (show CW σ c=some (v,σ') from h);intro v' h1 h2;(apply j2 h2;clear h2;rintro rfl rfl);exact SI h1
 |Name x pos=>exact Sg hg h
 |Attribute o x pos=>exact Kt hy I h
 |BoolOp op vs pos=>exact I.bl h pos
 |UnaryOp op e pos=>exact Wd he hb I h
 |IfExp t b o pos=>exact Tm I h
 |BinOp l op r pos=>exact Nd he hb FP I h
 |Compare l ops rs pos=>exact NO I h
 |Tuple es q pos=>exact T6 I h
 |List es pos=>exact Dg I h
 |Subscript o s pos=>
  induction s using PySem.Expr.casesOn with
  |Slice lo hi st p2=>exact y0 he I h
  |ListComp e2 gs sc pos2=>
   replace h:BZ Y R ls σ o (.ListComp e2 gs sc pos2)=some (v,σ'):=h;unfold BZ at h;rw[show vE (.ListComp e2 gs sc pos2)=j6 e2 sc gs from rfl] at h;have D:bM Γ n (fun c=>eval (.Subscript o (.ListComp e2 gs sc pos2) pos) c.env) ls σ v σ':=by
    rcases l8 e2 sc gs with q|⟨_,_,_,q⟩<;>rw[q] at h<;>exact GY (Y:=Y) hl he hw I h
   exact @D
  |_=>exact GY hl he hw I h
 |Call f as ks pos=>
  induction f using PySem.Expr.casesOn with
  |Attribute o x apos=>exact Av hy hbm I J h
  |Name x q=>exact yJ I J h
  |ListComp e2 gs sc pos2=>
   replace h:zt Y R ls σ (.ListComp e2 gs sc pos2) as ks pos=some (v,σ'):=h;unfold zt at h;rw[show vE (.ListComp e2 gs sc pos2)=j6 e2 sc gs from rfl] at h;rcases l8 e2 sc gs with q|⟨_,_,_,q⟩<;>rw[q] at h<;>injection h
  |_=>injection h
 |ListComp e2 gs sc pos=>
  unfold Cr at h;rw[show vE (.ListComp e2 gs sc pos)=j6 e2 sc gs from rfl] at h;rcases l8 e2 sc gs with q|⟨t,it,hg,q⟩<;>rw[q] at h
  ·injection h
  ·subst hg
   have D:bM Γ n (fun c=>eval (.ListComp e2 [⟨t,it,[],0⟩] sc pos) c.env) ls σ v σ':=Xl I S h;exact @D
 |_=>injection h
end
end
structure gM (Γ:aw) (b:Nat) (Y:Pi):Prop where
 hw:Γ.ε.P=Γ.w.params
 he:Γ.ε.Ok
 hb:aV Y.β Γ.ε
 hy:∀ C c,Y.ci C=some c→eD Γ C c
 hg:∀ x v,Y.glob x=some v→tG Γ x v
 hl:∀ a xs,Y.lst a=some xs→x7 Γ a xs
 hf:∀ f fi,Y.fn f=some fi→fnIn Γ.K f=true∧Cb Γ f fi
 hs:∀ σ f vs p,Y.spec σ f vs=some p→fnIn Γ.K f=true∧cg Γ (b+25) σ f vs [] p.1 p.2
 nm:qt Y
structure u3 (Γ:aw) (b d:Nat) (R:aJ):Prop where
 E:bu Γ (10*d+b+30) R
 C:mt Γ (10*d+b+30) R
 S:gW Γ (10*d+b+30) R
 F:tD Γ (10*d+b+30) R.fo
 cf:∀ {σ f vs kw r σ'},R.cf σ f vs kw=some (r,σ')→fnIn Γ.K f=true∧cg Γ (10*d+b+25) σ f vs kw r σ'
section
variable {Γ:aw}{Y:Pi}{b:Nat}
def Vi(d:Nat):u3 Γ b d .bot where
 E:=⟨nofun,nofun,nofun,nofun,nofun,nofun,nofun,nofun⟩
 C:=⟨nofun,nofun⟩
 S:=⟨nofun,nofun,nofun,nofun,nofun,nofun⟩
 F:=nofun
 cf:=nofun
def i6.le(h:n'≤n)(H:i6 Γ n' σ fv vs kw r σ'):i6 Γ n σ fv vs kw r σ':=by
 intro c A s m ls imm cs fval vals kwv Q E C;exact H (C.le h)
def Ke(P:gM Γ b Y)(H:∀ {ls σ ss f ls' σ'},(C ()).exs ls σ ss=some (f,ls',σ')→bj Γ (10*d+b+20) (fun c=>execs ss c.env) ls σ f ls' σ')
  (h:w9 Y C σ f vs kw=some (r,σ')):fnIn Γ.K f=true∧cg Γ (10*d+b+25) σ f vs kw r σ':=by
 have go:Ce Y C σ f vs kw=some (r,σ')→fnIn Γ.K f=true∧cg Γ (10*d+b+25) σ f vs kw r σ':=fun h=>by
  apply aE h;clear h;intro fi h1 h;apply aE h;clear h;intro ls h2 h;apply xc h;clear h;intro fl ls' σ1 h3 h;apply bq (P.hf _ _ h1);intro g1 g2;refine⟨g1,?_⟩;induction fl using Fl.casesOn with
  |ret v=>(apply j2 h;clear h;rintro rfl rfl);exact tB g2 h2 (by lia) (.inl rfl) (H h3)
  |next=>(apply j2 h;clear h;rintro rfl rfl);exact tB g2 h2 (by lia) (.inr ⟨rfl,rfl⟩) (H h3)
 unfold w9 at h;cases e:Y.spec σ f vs with
 |none=>rw[e] at h;exact go h
 |some p=>
  rw[e] at h;rcases rR h with ⟨q,h⟩|⟨_,h⟩
  ·(obtain e:=v5 q;subst e)
   (injection h with e;subst e);apply bq (P.hs _ _ _ _ e);intro h1 h2;exact⟨h1,cg.le (by lia) h2⟩
  ·exact go h
def Xo(P:gM Γ b Y)(I:u3 Γ b d R)(H:∀ {ls σ ss f ls' σ'},(C ()).exs ls σ ss=some (f,ls',σ')→bj Γ (10*d+b+20) (fun c=>execs ss c.env) ls σ f ls' σ') :
  u3 Γ b d (.step Y R C):=by
 have hbm:uf Γ Y:=CD P.hw P.he P.hb P.nm;have cf5:∀ {σ f vs kw r σ'},w9 Y C σ f vs kw=some (r,σ')→fnIn Γ.K f=true∧cg Γ (10*d+b+25) σ f vs kw r σ':=fun h=>Ke P H h;refine⟨⟨?_,?_,?_,?_,?_,?_,?_,?_⟩,⟨?_,?_⟩,⟨?_,?_,?_,?_,?_,?_⟩,?_,cf5⟩
 ·exact fun h=>Lm P.hw P.he P.hb P.hy hbm P.hg P.hl I.E I.S I.C h
 ·exact fun h=>Rt (Y:=Y) I.E h
 ·exact fun h=>Ph (Y:=Y) I.E h
 ·exact fun h=>Tn (Y:=Y) I.E h
 ·exact fun h pos=>Sc P.he P.hb I.E h pos
 ·exact fun h pos=>B9 P.hw P.he P.hb I.E h pos
 ·exact fun h=>Rb P.he P.hb I.E h
 ·exact fun h=>QO (Y:=Y) I.E h
 ·exact fun h=>⟨(cf5 h).1,cg.le (by lia) (cf5 h).2⟩
 ·intro σ fv vs kw r σ' h
  apply fj (wg (n:=10*d+b+25) P.hy I.cf (fun h=>xM P.hw P.he P.hb P.hy h) h);intro a b c;exact⟨a,i6.le (by lia) b,fun f self e=>⟨(c f self e).1,cg.le (by lia) (c f self e).2⟩⟩
 ·exact fun h=>LW (Y:=Y) I.S h
 ·exact fun h=>Lo P.he P.hb P.hy I.E I.S (H9 I.F) h
 ·exact fun h=>Ld P.hy Nj I.E I.S h
 ·exact fun h=>Ou (Y:=Y) I.S h
 ·exact fun h=>Ri (Y:=Y) I.S h
 ·exact fun h=>VY (Y:=Y) I.E I.S h
 ·exact W0 (Y:=Y) I.S I.F
theorem cN(P:gM Γ b Y):∀ n d:Nat,u3 Γ b d (mk Y n d)
 |0,d=>Vi d
 |n+1,d=>by
  show u3 Γ b d (.step Y (mk Y n d) (fun U=>Nat.rec .bot (fun d' U=>mk Y n d') d));refine Xo P (cN P n d) ?_;cases d with
  |zero=>exact fun h=>by injection h
  |succ d=>
   intro ls σ ss f ls' σ' h;rw[show 10*(d+1)+b+20=10*d+b+30 by lia];exact(cN P n d).S.exs h
end
end
section
set_option backward.match.sparseCases false
def X7:fastLookup "function" "__get__"=some (some (.builtin "function.__get__")):=by kernel_rfl
def Pw:fastLookup "function" "__set__"=some none:=by kernel_rfl
def M8:fastLookup "function" "__delete__"=some none:=by kernel_rfl
def JB{K:Frag}{f:Addr}(h:isFn K (.ref f)=true):specialIn K (.ref f) "__get__"=some (some (.builtin "function.__get__"))∧takesIn K (.ref f)=some false:=by
 have e:=Zq.mp h;have e1:∀ x,specialIn K (.ref f) x=fastLookup "function" x:=fun x=>by unfold specialIn;rw[e];rfl
 refine⟨by rw[e1,X7],?_⟩;unfold takesIn;rw[e1,Pw];show Option.map _ (specialIn K (.ref f) "__delete__")=_;rw[e1,M8];rfl
noncomputable def eC{α:Type}(a:Addr):List (Addr×α)→κ α
 |[]=>none
 |p::r=>match Nat.beq p.1 a with|true=>some p.2|false=>eC a r
set_option smartUnfolding false in
def wt{α:Type}{a:Addr}{v:α}:∀ {l:List (Addr×α)},eC a l=some v→(a,v)∈l:=by
 intro L0;induction L0 with
 |nil=>
  intro h;injection h
 |cons p r ih=>
  intro h;replace h:Bool.rec (motive:=fun U=>κ α) (eC a r) (some p.2) (Nat.beq p.1 a)=some v:=h;cases q:Nat.beq p.1 a with
  |true=>rw[q] at h;rw[←osI h,←bg q];exact .head _
  |false=>rw[q] at h;exact .tail _ (ih h)
noncomputable def Cf:π→Bool
 |.ref _=>false
 |_=>true
noncomputable def yh:List π→List Addr→Bool
 |.ref a::r,b::s=>a.beq b&&yh r s
 |l,[]=>l.all Cf
 |_,_=>false
def Wv{l:List π}(h:l.all Cf=true)(D:Addr):l.contains (.ref D)=false:=by
 induction l with
 |nil=>rfl
 |cons v r ih=>
  rw[List.all_cons,Y9] at h;rw[List.contains_cons,ih h.2,Bool.or_false];cases v<;>first|rfl|cases h.1
theorem Jq:∀ {l:List π} {m:List Addr},yh l m=true→∀ D,l.contains (.ref D)=m.any (Nat.beq D)
 |l,[],h,D=>by
  have h:l.all Cf=true:=by
   induction l using oL with
   |nil=>rfl
   |cons v r=>cases v<;>exact h
  rw[Wv h];rfl
 |[],b::s,h,D=>by injection h
 |v::r,b::s,h,D=>by
  cases v with
  |ref a=>
   replace h:(a.beq b&&yh r s)=true:=h;rw[Y9] at h;have:=bg h.1;subst this;rw[List.contains_cons,List.any_cons,Jq h.2 D]
   congr 1
   cases q:Nat.beq D a with
   |true=>rw[bg q];simp
   |false=>
    have:=Nat.ne_of_beq_eq_false q;simp [this]
  |_=>injection h
noncomputable def Ax(K:Frag)(C:Addr)(p:Str×Addr):Bool:=findIn K (.ref C) p.1 == some (some (.ref p.2))&&isFn K (.ref p.2)&&fnIn K p.2&&!copiedNames.contains p.1
noncomputable def Jf(K:Frag)(C:Addr)(x:Str):Bool:=findIn K (.ref C) x == some none
def Ck(K:Frag)(C:Addr)(c:CI):Bool :=
 plainGet K C ""&&hasDictIn K C&&findIn K (.ref C) "__setattr__" == some (some (.builtin "object.__setattr__"))&&plainOver K C&&findIn K (.ref C) "__bool__" == some none&&findIn K (.ref C) "__len__" == some none &&
 (match c.init with|some f=>findIn K (.ref C) "__init__" == some (some (.ref f))&&typeIn K (.ref f) == some (.type "function")&&makesIn K C|none=>true) &&
 (match clsIn K C with|some cd=>!cd.mro.isEmpty&&yh cd.mro c.mro|none=>false)&&typeIn K (.ref C) == some (.type "type")&&c.mro.any (Nat.beq C) &&
 plainGet K C "__class__"&&findIn K (.ref C) "__class__" == some (some (.builtin "object.__class__"))&&mroIn K C (.type "object") == some true
noncomputable def F4(v:π):Bool:=match v with|.none=>true|_=>false
noncomputable def HQ(v:π)(b:Bool):Bool:=match v with|.bool a=>a == b|_=>false
noncomputable def yO(v:π)(i:Int):Bool:=match v with|.int j _=>decide (j=i)|_=>false
def yF(v:π)(l:ξ):Bool:=match v with|.str x _=>bQ x.cps.toList l|_=>false
def II(v:π)(l:κ ξ):Bool:=match l with|some l=>yF v l&&Nat.ble (lenA l) 1000|none=>false
def Cc(v:π)(x:AV):Bool:=match x with
 |.none=>F4 v
 |.bool b=>HQ v b
 |.int l=>aI l.l&&yO v l.c
 |.str s=>II v s.conc
 |_=>false
def KP(h:F4 v=true):v=.none:=by cases v<;>first|rfl|injection h
def VL(h:HQ v b=true):v=.bool b:=by
 cases v with
 |bool a=>rw[Zq.mp h]
 |_=>injection h
def L7(h:yO v i=true):∃ t,v=.int i t:=by
 cases v with
 |int j t=>exact⟨t,by rw[ZB h]⟩
 |_=>injection h
def VZ(h:yF v l=true):∃ t,v=.str (aL l) t:=by
 cases v with
 |str x t=>exact⟨t,by rw[←fH.mp h];rfl⟩
 |_=>injection h
noncomputable def uj:List π→List AV→Bool
 |[],[]=>true
 |v::vs,x::xs=>Cc v x&&uj vs xs
 |_,_=>false
def Yt(h:Cc v x=true):VR Γ imm ρ v x:=by
 induction x using AV.casesOn with
 |none=>rw[KP h];exact .none
 |bool b=>rw[VL h];exact .bool _
 |int l=>
  replace h:=aA (show (aI l.l&&yO v l.c)=true from h);apply bC (L7 h.2);intro t e0;subst e0;refine .int ?_;unfold ax.val;cases e:l.l with
  |nil=>show l.c=l.c+0;lia
  |cons=>rw[e] at h;cases h.1
 |str s=>
  replace h:II v s.conc=true:=h;cases e:s.conc with
  |none=>rw[e] at h;injection h
  |some l=>
   rw[e] at h;replace h:=aA (show (yF v l&&Nat.ble (lenA l) 1000)=true from h);apply bC (VZ h.1);intro t e0;subst e0;have h2:=dX h.2;rw[aR] at h2;have hs:cE Γ.ε s:=by
    induction s using oL with
    |nil=>exact fun U h=>absurd h Zp
    |cons p r=>
     induction p using Pc.casesOn<;>induction r using oL<;>try (injection e;done)
     intro p hp;rw[bU hp];trivial
   exact .str (by rw[jU e]) hs (by rw[jU e];lia)
 |_=>injection h
theorem CN:∀ {vs:List π} {xs:List AV},uj vs xs=true→ar Γ imm ρ vs xs
 |[],[],_=>.nil
 |[],_::_,h=>by injection h
 |_::_,[],h=>by injection h
 |v::vs,x::xs,h=>by
  replace h:(Cc v x&&uj vs xs)=true:=h;rw[Y9] at h;exact .cons (Yt h.1) (CN h.2)
noncomputable def xT:List Arg→List Str→Bool
 |[],[]=>true
 |a::r,x::xs=>seq a.arg x&&xT r xs
 |_,_=>false
theorem Fc:∀ {l:List Arg} {m:List Str},xT l m=true→l.map (·.arg)=m
 |[],[],_=>rfl
 |[],_::_,h=>by injection h
 |_::_,[],h=>by injection h
 |a::r,x::xs,h=>by
  replace h:(seq a.arg x&&xT r xs)=true:=h;rw[Y9] at h;rw[ZI,iw.mp h.1,Fc h.2]
noncomputable def Vm:NameKind→Bool
 |.cell=>true
 |_=>false
def yA(K:Frag)(st:Stmt)(args:List Str)(cd:π)(qual:Str):Bool :=
 codeIn K cd qual&&(fA st).posonlyargs.isEmpty&&(fA st).vararg.isNone&&(fA st).kwonlyargs.isEmpty&&(fA st).kw_defaults.isEmpty&&(fA st).kwarg.isNone&&xT (fA st).args args &&
 (fS st).kind == .function&&!(fS st).isCoroutine&&!(fS st).isGenerator&&(fS st).names.all (fun x=>!Vm x.2)&&args.all (fun x=>rx x (fS st).names)&&(lk ("__debug__" : Str) (fS st).names).isNone
def DV(dflt:List AV)(o:κ Obj):Bool:=match o with
 |some ⟨_,_,.seq xs _,_⟩=>uj xs.toList dflt
 |_=>false
def zN(K:Frag)(dV:π)(dflt:List AV):Bool:=match dV with
 |.none=>dflt.isEmpty
 |.ref t=>DV dflt (K.lookup t)
 |_=>false
def Eh(K:Frag)(a:Addr)(fi:nI):Prop:=∃ (st:Stmt) (name qual:Str) (dV kV doc pm:π) (an:κ Addr) (cd ct:π),
 K.lookup a=some ⟨.type "function",none,.func (fnOf name qual (fA st) (fB st) (fS st) dV kV doc pm an cd ct),#[]⟩∧fi.body=fB st∧fi.sc=(fS st).names∧yA K st fi.args cd qual=true∧zN K dV fi.dflt=true
def M5{Γ:aw}{dV:π}{dflt:List AV}(h:zN Γ.K dV dflt=true):(dV=.none∧dflt=[])∨∃ t o items q,dV=.ref t∧Γ.K.lookup t=some o∧o.data=.seq (List.toArray items) q∧∀ imm ρ,ar Γ imm ρ items dflt:=by
 induction dV using Value.casesOn with
 |none=>exact .inl ⟨rfl,List.isEmpty_iff.mp h⟩
 |ref t=>
  replace h:DV dflt (Γ.K.lookup t)=true:=h;cases e:Γ.K.lookup t with
  |none=>rw[e] at h;injection h
  |some o=>
   rw[e] at h;obtain⟨_,_,d,_⟩:=o;induction d using Data.casesOn with
   |seq xs q=>exact .inr ⟨t,_,xs.toList,q,rfl,e,rfl,fun _ _=>CN h⟩
   |_=>injection h
 |_=>injection h
set_option tactic.hygienic true in
def Qh{Γ:aw}(h:Eh Γ.K a fi):fnIn Γ.K a=true∧Cb Γ a fi:=by
 obtain⟨st,name,qual,dV,kV,doc,pm,an,cd,ct,ho,hb,hs,hc,hd⟩:=h;unfold yA at hc;have a1:=aA hc;have a2:=aA a1.1;have a3:=aA a2.1;have a4:=aA a3.1;have a5:=aA a4.1;have a6:=aA a5.1;have a7:=aA a6.1;have a8:=aA a7.1;have a9:=aA a8.1;have a10:=aA a9.1;have a11:=aA a10.1;have a12:=aA a11.1;have eta:∀ a:Arguments,a.posonlyargs=[]→a.vararg=none→a.kwonlyargs=[]→a.kw_defaults=[]→a.kwarg=none→a={posonlyargs:=[],args:=a.args,vararg:=none,kwonlyargs:=[],kw_defaults:=[],kwarg:=none,defaults:=a.defaults}:=fun ⟨_,_,_,_,_,_,_⟩ h1 h2 h3 h4 h5=>by
  dsimp only at h1 h2 h3 h4 h5;rw[h1,h2,h3,h4,h5]
 have hA:=eta (fA st) (List.isEmpty_iff.mp a12.2) (Option.isNone_iff_eq_none.mp a11.2) (List.isEmpty_iff.mp a10.2) (List.isEmpty_iff.mp a9.2) (Option.isNone_iff_eq_none.mp a8.2);have ho2:=ho;rw[hA,←hb] at ho;refine⟨by unfold fnIn;rw[ho2],.mk name qual (fA st).args (fA st).defaults (fS st) dV kV doc pm cd ct (.type "function") an none #[] ho a12.1 (Fc a7.2) hs.symm (by
   have c8:=a6.2;revert c8;cases (fS st).kind<;>intro c8<;>first|rfl|injection c8) (Bool.not_eq_true' _▸a5.2) (Bool.not_eq_true' _▸a4.2) ?_ ?_ ?_ ?_⟩
 ·intro x hx e
  have:=aB a3.2 x hx;rw[e] at this;injection this
 ·intro x hx
  exact AY (aB a2.2 x hx)
 ·exact Option.isNone_iff_eq_none.mp (ke _ _▸a1.2)
 ·exact M5 hd
def YT:(fun P:Params=>oa.all fun p=>Ck (cG P) p.1 p.2)=fun U=>true:=by kernel_rfl
def Ps:(fun P:Params=>oa.all fun p=>p.2.meths.all (Ax (cG P) p.1))=fun U=>true:=by kernel_rfl
def Lq:(fun P:Params=>oa.all fun p=>p.2.flds.all (Jf (cG P) p.1))=fun U=>true:=by kernel_rfl
def YG:List Stmt:=[tS 0,mS 4 0,mS 4 1,mS 5 0,mS 6 0,mS 8 0,mS 10 0,mS 11 0,mS 13 0,mS 20 0,mS 21 1,mS 21 2,mS 21 3,mS 21 4,mS 21 5,mS 21 6,mS 21 7,mS 21 8,mS 21 9,mS 21 10,mS 21 11,mS 21 12,mS 21 13,mS 21 14,mS 21 15,mS 21 16,mS 21 17,mS 21 18,mS 21 19,mS 21 20,mS 21 21,mS 21 22,mS 21 23,mS 21 24,mS 21 25,mS 21 26,mS 21 27,mS 21 28,mS 21 29,mS 21 30,mS 21 31,mS 21 32,mS 21 33,mS 21 34,mS 21 35,mS 21 36,mS 21 37,mS 21 38,mS 21 39,mS 21 40,mS 21 41,mS 21 42,mS 21 43,mS 21 44,mS 21 45,mS 21 46,mS 21 47,mS 21 48,mS 21 49,mS 21 50,mS 21 51,mS 21 52,mS 21 53,mS 21 54,mS 21 56,mS 21 57,mS 21 58,mS 21 59,mS 21 60,mS 22 0,mS 22 1,mS 22 2,tS 25,tS 26,tS 27,tS 28,tS 29,tS 30,tS 31,tS 32]
def tR:List ((Addr×nI)×Stmt):=hG.zip YG
structure IC where
 name:Str
 qual:Str
 dV:π
 kV:π
 doc:π
 pm:π
 an:κ Addr
 cd:π
 ct:π
def wi(o:κ Obj):IC:=match o with
 |some ⟨_,_,.func f,_⟩=>⟨f.name,f.qualname,f.defaults,f.kwdefaults,f.doc,f.pyModule,f.annotations,f.code,f.closureTuple⟩
 |_=>⟨n0,n0,.none,.none,.none,.none,none,.none,.none⟩
def OV(st:Stmt)(d:IC):κ Obj:=some ⟨.type "function",none,.func (fnOf d.name d.qual (fA st) (fB st) (fS st) d.dV d.kV d.doc d.pm d.an d.cd d.ct),#[]⟩
def UP:hG=tR.map Prod.fst:=by kernel_rfl
def YR(P:Params):∀ q∈tR,(cG P).lookup q.1.1=OV q.2 (wi ((cG P).lookup q.1.1)):=List.map_inj_left.mp (by kernel_rfl)
def Sk:∀ q∈tR,q.1.2.body=fB q.2:=List.map_inj_left.mp (by kernel_rfl)
def Ut:∀ q∈tR,q.1.2.sc=(fS q.2).names:=List.map_inj_left.mp (by kernel_rfl)
def Mu(P:Params):(tR.all fun q=>yA (cG P) q.2 q.1.2.args (wi ((cG P).lookup q.1.1)).cd (wi ((cG P).lookup q.1.1)).qual&&zN (cG P) (wi ((cG P).lookup q.1.1)).dV q.1.2.dflt)=true:=by kernel_rfl
def PN(P:Params)(p:Addr×nI)(hp:p∈hG):Eh (cG P) p.1 p.2:=by
 rw[UP] at hp;apply ak (eo hp);intro q hq e0;subst e0;have h:=aA (aB (Mu P) q hq);exact⟨q.2,_,_,_,_,_,_,_,_,_,YR P q hq,Sk q hq,Ut q hq,h.1,h.2⟩
def ab(w:World)(mg mb:ω)(ε:Ev):aw:=⟨jf,w,cG w.params,vw,looseW vw loose,mg,mb,ε⟩
noncomputable def q9:Nat→Str
 |0=>⟨#[97,112,112,101,110,100]⟩
 |1=>⟨#[112,111,112]⟩
 |2=>⟨#[106,111,105,110]⟩
 |3=>⟨#[115,116,97,114,116,115,119,105,116,104]⟩
 |_=>⟨#[99,111,112,121]⟩
abbrev td:=St→Addr→List AV→κ (AV×St)
def d7(β:Bd)(sp:td):Pi:={β,fn:=fun a=>eC a hG,ci:=fun a=>eC a oa,glob:=fun x=>lk x GM,lst:=fun a=>eC a Fm,spec:=sp,nm:=q9}
def xl(β:Bd):Pi:=d7 β fun U U U=>none
def XX:q9 0=Str.ofString "append"∧q9 1=Str.ofString "pop"∧q9 2=Str.ofString "join"∧q9 3=Str.ofString "startswith"∧q9 4=Str.ofString "copy" :=
 ⟨by kernel_rfl,by kernel_rfl,by kernel_rfl,by kernel_rfl,by kernel_rfl⟩
def Io(K:Frag)(p:Str×AV):Bool:=match p.2 with
 |.cls a=>nsIn K mainGlobals p.1 == some (some (.ref a))
 |.fn a=>nsIn K mainGlobals p.1 == some (some (.ref a))
 |.bi k=>nsIn K mainGlobals p.1 == some none&&bootBuiltins p.1 == some k.val&&p.1 != "__name__"
 |_=>false
def NT:(fun P:Params=>GM.all (Io (cG P)))=fun U=>true:=by kernel_rfl
def MQ{Γ:aw}(h:Io Γ.K p=true):tG Γ p.1 p.2:=by
 obtain⟨x,v⟩:=p;induction v using AV.casesOn<;>try (injection h;done)
 ·exact⟨_,fun U U=>.cls,.inl (Zq.mp h)⟩
 ·exact⟨_,fun U U=>.fn,.inl (Zq.mp h)⟩
 ·replace h:=aA h
  have g:=aA h.1;exact⟨_,fun U U=>.bi,.inr ⟨Zq.mp g.1,Zq.mp g.2,bne_iff_ne.mp h.2⟩⟩
set_option tactic.hygienic true in
def SR{Γ:aw}(h:Ck Γ.K C c=true)(hm:c.meths.all (Ax Γ.K C)=true)(hf:c.flds.all (Jf Γ.K C)=true)
  (hc:∀ x v,lk x c.consts=some v→∃ a,findIn Γ.K (.ref C) x=some (some a)∧specialIn Γ.K a "__get__"=some none∧handedIn a=true∧copiedNames.contains x=false∧∀ imm ρ,VR Γ imm ρ a v)
  (hk:specialIn Γ.K (.builtin "object.__class__") "__get__"=some (some (.builtin "getset_descriptor.__get__"))∧takesIn Γ.K (.builtin "object.__class__")=some true):eD Γ C c:=by
 unfold Ck at h;simp only [Y9] at h;obtain⟨⟨⟨⟨⟨⟨⟨⟨⟨⟨⟨⟨h1,h2⟩,h3⟩,h4⟩,h5⟩,h6⟩,h7⟩,h8⟩,h9⟩,h10⟩,h11⟩,h12⟩,h13⟩:=h;refine⟨⟨h1,h2,Zq.mp h3,h4,Zq.mp h5,Zq.mp h6⟩,?_,hc,?_,?_,⟨h11,Zq.mp h12,hk.1,hk.2,Zq.mp h13⟩,?_⟩
 ·intro x f hx
  have:=aB hm (x,f) (ja hx);unfold Ax at this;simp only [Y9] at this;obtain⟨⟨⟨a1,a2⟩,a3⟩,a4⟩:=this;exact⟨Zq.mp a1,a2,a3,(JB a2).1,(JB a2).2,by simpa using a4⟩
 ·intro x hx
  replace hx:x∈c.flds:=Bf hx;have:=Zq.mp (aB hf x hx);exact⟨this,by unfold takerIn;rw[this];rfl⟩
 ·refine⟨?_,Zq.mp h9,h10⟩
  split at h8
  ·rename_i cd e
   rw[Y9] at h8;exact⟨cd,e,by simpa using h8.1,fun D=>Jq h8.2 D⟩
  ·injection h8
 ·intro f hf
  rw[hf] at h7;simp only [Y9] at h7;exact⟨Zq.mp h7.1.1,Zq.mp h7.1.2,h7.2⟩
def Oo(P:Params):specialIn (cG P) (.builtin "object.__class__") "__get__"=some (some (.builtin "getset_descriptor.__get__"))∧takesIn (cG P) (.builtin "object.__class__")=some true:=⟨by kernel_rfl,by kernel_rfl⟩
def UJ:xf Γ (wJ Γ.w.params) :=
 ⟨[(tH,.str tH 634),(BN,.str Dq 636)],fun e he=>by
  rcases bk (show e∈wJ Γ.w.params by simpa using he) with rfl|he
  ·exact⟨_,strKind_is Γ.prog Γ.w _ _,rfl⟩
  ·rw[bU he];exact⟨_,strKind_is Γ.prog Γ.w _ _,rfl⟩,.cons (strKind_is Γ.prog Γ.w _ _) rfl (.cons (strKind_is Γ.prog Γ.w _ _) rfl .nil),(by decide +kernel:[tH,BN].Nodup),(by decide:2≤1000)⟩
def RK(P:Params):(cG P).lookup 308=some (dictOf (wJ P) 2):=by kernel_rfl
def Wb(P:Params):findIn (cG P) (.ref 736) t7=some (some (.ref 308))∧specialIn (cG P) (.ref 308) "__get__"=some none∧copiedNames.contains t7=false:=⟨by kernel_rfl,by kernel_rfl,by kernel_rfl⟩
def Q2:(oa.all fun p=>p.2.consts.isEmpty ||Nat.beq p.1 736)=true:=by kernel_rfl
def C4:CI:=(eC 736 oa).getD ⟨none,false,[],[],[],[]⟩
def Q3:C4.consts=[(t7,.dict)]:=by kernel_rfl
def VF:eC 736 oa=some C4:=by kernel_rfl
def QG{w:World}{ε:Ev}(hw:ε.P=w.params):∀ C c,eC C oa=some c→eD (ab w mg mb ε) C c:=fun C c h=>by
 have hm:=wt h;have c1:=aB (congrFun YT w.params) _ hm;have c2:=aB (congrFun Ps w.params) _ hm;have c3:=aB (congrFun Lq w.params) _ hm;refine SR (Γ:=ab w mg mb ε) c1 c2 c3 (fun x v hx=>?_) (Oo w.params);have c4:=aB Q2 _ hm;dsimp only at c4;rw[Bool.or_eq_true] at c4;rcases c4 with c4|c4
 ·rw[List.isEmpty_iff.mp c4] at hx;injection hx
 ·have:=bg c4
  subst this;rw[VF] at h;(apply j1 h;clear h;rintro rfl);rw[Q3] at hx;replace hx:=ja hx;(injection bU hx with e1 e2;subst e1;subst e2);apply fj (Wb w.params);intro f1 f2 f3;exact⟨.ref 308,f1,f2,rfl,f3,fun imm ρ=>.dict (.inr (RK w.params)) (by decide) UJ⟩
def TK{α:Type}{x:Str}{v:α}{l:List (Str×α)}{f:Str×α→Bool}(h:l.all f=true)(hx:lk x l=some v):f (x,v)=true:=aB h _ (ja hx)
def py(Γ:aw)(b:Nat)(sp:td):Prop:=∀ σ f vs p,sp σ f vs=some p→fnIn Γ.K f=true∧cg Γ (b+25) σ f vs [] p.1 p.2
def Wu(P:Params):(cG P).lookup 776=some {cls:=.type "list",data:=.seq Jh.toArray 0}:=by kernel_rfl
def TD:uj Jh (fW.map fun l=>.str (.k l))=true:=by kernel_rfl
def TY{w:World}{ε:Ev}(hw:ε.P=w.params)(h:(a,xs)∈Fm):x7 (ab w mg mb ε) a xs:=by
 cases bU h;exact⟨_,_,Wu w.params,(by decide),fun imm ρ=>CN TD⟩
def r7{w:World}{ε:Ev}(hw:ε.P=w.params)(he:ε.Ok)(hb:aV β ε)(hs:py (ab w mg mb ε) b sp):gM (ab w mg mb ε) b (d7 β sp) where
 hw:=hw
 he:=he
 hb:=hb
 hy:=QG hw
 hg:=fun x v h=>MQ (Γ:=ab w mg mb ε) (p:=(x,v)) (TK (congrFun NT w.params) h)
 hl:=fun a xs h=>TY hw (wt h)
 hf:=fun f fi h=>Qh (Γ:=ab w mg mb ε) (PN w.params _ (wt h))
 hs:=hs
 nm:=XX
def Ct{w:World}{ε:Ev}(hw:ε.P=w.params)(he:ε.Ok)(hb:aV β ε):gM (ab w mg mb ε) 0 (xl β):=r7 hw he hb fun U U U U h=>by injection h
abbrev Sp:=td
noncomputable def ac:Sp:=fun U U U=>none
def nE:py Γ b ac:=fun U U U U h=>by injection h
def tn{α:Type}(d:α)(l:List α)(k:Nat):α:=(ae l k).getD d
def tO{α:Type}(o:Nat→α)(i:Nat)(l:List (κ α))(k:Nat):α:=Bool.rec (o k) (((ae l (k-i)).getD none).getD (o k)) (i.ble k)
def mC(h:k<i):Nat.ble i k=false:=by
 cases e:Nat.ble i k with
 |false=>rfl
 |true=>exact absurd (dX e) (Nat.not_le.mpr h)
def Uh{α:Type}{o:Nat→α}{i:Nat}{l:List (κ α)}{k:Nat}(h:k<i):tO o i l k=o k:=by
 unfold tO;rw[mC h]
def yL{α:Type}{o:Nat→α}{i:Nat}{l:List (κ α)}{k:Nat}(h:i+l.length≤k):tO o i l k=o k:=by
 unfold tO;rw[dt,ZG (Nat.le_sub_of_add_le' h)];cases i.ble k<;>rfl
def AV.ind{p:AV→Prop}(none:p .none)(bool:∀ b,p (.bool b))(int:∀ l,p (.int l))(str:∀ s,p (.str s))(cell:∀ k,p (.cell k))(tup:∀ xs,(∀ x∈xs,p x)→p (.tup xs))
  (obj:∀ C fs,(∀ q∈fs,p q.2)→p (.obj C fs)) (dict:p .dict) (cls:∀ a,p (.cls a)) (fn:∀ a,p (.fn a)) (bi:∀ k,p (.bi k))
  (meth:∀ f v,p v→p (.meth f v)) (any:∀ i,p (.any i)) (rng:∀ n,p (.rng n)):∀ x,p x :=
 AV.rec (motive_1:=p) (motive_2:=fun xs=>∀ x∈xs,p x) (motive_3:=fun xs=>∀ q∈xs,p q.2) (motive_4:=fun q=>p q.2)
  none bool int str cell tup obj dict cls fn bi meth any rng
  (fun x h=>by cases h) (fun U U a b=>List.forall_mem_cons.mpr ⟨a,b⟩) (fun x h=>by cases h) (fun U U a b=>List.forall_mem_cons.mpr ⟨a,b⟩) (fun U U h=>h)
structure eO where
 L:ax→ax
 S:SS→SS
 v:Nat→AV
 z:Nat→ay
 c:Nat→Nat
def flA(φ:eO):AV→AV :=
 AV.rec (motive_1:=fun U=>AV) (motive_2:=fun U=>List AV) (motive_3:=fun U=>List (Str×AV)) (motive_4:=fun U=>Str×AV)
  .none .bool (fun l=>.int (φ.L l)) (fun s=>.str (φ.S s)) (fun k=>.cell (φ.c k)) (fun U h=>.tup h) (fun C U h=>.obj C h) .dict .cls .fn .bi (fun f U h=>.meth f h) (fun i=>φ.v i) .rng
  [] (fun U U a b=>a::b) [] (fun U U a b=>a::b) (fun x U h=>(x,h))
def bX(φ:eO)(xs:List AV):List AV:=xs.map (flA φ)
def fQ{α:Type}(φ:eO)(xs:List (α×AV)):List (α×AV):=xs.map fun q=>(q.1,flA φ q.2)
def lv:AV→List AV :=
 AV.rec (motive_1:=fun U=>List AV) (motive_2:=fun U=>List AV) (motive_3:=fun U=>List AV) (motive_4:=fun U=>List AV)
  [] (fun U=>[]) (fun U=>[]) (fun s=>[.str s]) (fun k=>[.cell k]) (fun U h=>h) (fun U U h=>h) [] (fun U=>[]) (fun U=>[]) (fun U=>[]) (fun U U h=>h) (fun i=>[.any i]) (fun U=>[])
  [] (fun U U a b=>a++b) [] (fun U U a b=>a++b) (fun U U h=>h)
def ii(xs:List AV):List AV:=xs.flatMap lv
def dw{α:Type}(xs:List (α×AV)):List AV:=xs.flatMap fun q=>lv q.2
section
variable (φ:eO)
theorem yC:∀ xs,flA φ (.tup xs)=.tup (bX φ xs):=by
 intro L0;induction L0 with
 |nil=>
  exact rfl
 |cons a r ih=>
  exact congrArg (fun v=>match v with|.tup l=>AV.tup (flA φ a::l)|v=>v) (ih)
theorem z8(C:Addr):∀ xs,flA φ (.obj C xs)=.obj C (fQ φ xs):=by
 intro L0;induction L0 with
 |nil=>
  exact rfl
 |cons a r ih=>
  exact congrArg (fun v=>match v with|.obj C l=>AV.obj C ((a.1,flA φ a.2)::l)|v=>v) (ih)
end
def yH:∀ xs,lv (.tup xs)=ii xs:=by
 intro L0;induction L0 with
 |nil=>
  exact rfl
 |cons a r ih=>
  exact congrArg (lv a++·) (ih)
def zF(C:Addr):∀ xs,lv (.obj C xs)=dw xs:=by
 intro L0;induction L0 with
 |nil=>
  exact rfl
 |cons a r ih=>
  exact congrArg (lv a.2++·) (ih)
noncomputable def y5(x:AV):ξ:=match x with
 |.any i=>[i]
 |_=>[]
def kP(l:List AV):ξ:=l.flatMap y5
noncomputable def OR(x:AV):ξ:=match x with
 |.cell k=>[k]
 |_=>[]
def vO(l:List AV):ξ:=l.flatMap OR
def qo(a b:List AV):kP (a++b)=kP a++kP b:=List.flatMap_append ..
def EM(a b:List AV):vO (a++b)=vO a++vO b:=List.flatMap_append ..
def oG(β:Bd)(p:Pc):Bool:=match p with
 |.rep _ n=>match n.lo β with|some (.ofNat _)=>true|_=>false
 |_=>true
def lG(β:Bd)(x:AV):Bool:=match x with
 |.str s=>s.all (oG β)
 |_=>true
noncomputable def aw.wE(Γ:aw)(ε:Ev):aw:={Γ with ε:=ε}
noncomputable def Ev.wO(ε:Ev)(ov:Nat→π)(cv:Nat→CC):Ev:={ε with ov:=ov,cv:=cv}
section
variable {ε:Ev}{ov:Nat→π}{cv:Nat→CC}
def Xm:∀ l,b9 (ε.wO ov cv) l=b9 ε l:=by
 intro L0;induction L0 with
 |nil=>
  exact rfl
 |cons p r ih=>
  show p.2*ε.iv p.1+b9 (ε.wO ov cv) r=_;rw[ih];rfl
def pB(l:ax):l.val (ε.wO ov cv)=l.val ε:=by unfold ax.val;rw[Xm]
def Uc:∀ p:Pc,p.val (ε.wO ov cv)=p.val ε
 |.lit _=>rfl
 |.var _=>rfl
 |.rep c n=>by show List.replicate (n.val (ε.wO ov cv)).toNat c=_;rw[pB];rfl
def rB:∀ s:SS,s.val (ε.wO ov cv)=s.val ε:=by
 intro L0;induction L0 with
 |nil=>
  exact rfl
 |cons p r ih=>
  show p.val (ε.wO ov cv)++SS.val (ε.wO ov cv) r=_;rw[Uc,ih];rfl
def w0:cE (ε.wO ov cv) s↔cE ε s:=by
 constructor<;>intro h p hp<;>have:=h p hp
 ·induction p using Pc.casesOn with
  |rep c n=>have h2:0≤n.val (ε.wO ov cv):=this;rw[pB] at h2;exact h2
  |_=>trivial
 ·induction p using Pc.casesOn with
  |rep c n=>show 0≤n.val (ε.wO ov cv);rw[pB];exact this
  |_=>trivial
def GB(h:ji Γ C):ji (Γ.wE ε) C:=⟨h.ga,h.hd,h.sa,h.po,h.tb,h.tl⟩
def Ei{Γ:aw}(h:ji (Γ.wE ε) C):ji Γ C:=⟨h.ga,h.hd,h.sa,h.po,h.tb,h.tl⟩
end
structure eR (Γ:aw) (β:Bd) (ε:Ev) (φ:eO):Prop where
 P:ε.P=Γ.ε.P
 he:ε.Ok
 hb:aV β ε
 L:∀ l,(φ.L l).val Γ.ε=l.val ε
 S:∀ s,(φ.S s).val Γ.ε=s.val ε
 O:∀ s,cE ε s→cE Γ.ε (φ.S s)
def A5{α:Type}{f:α→Bool}{a b:List α}(h:(a++b).all f=true):a.all f=true∧b.all f=true:=by
 rw[List.all_append,Y9] at h;exact h
section
variable {Γ:aw}{β:Bd}{ε:Ev}{φ:eO}
def wB(hb:aV β ε){s:SS}(h:s.all (oG β)=true):cE ε s:=by
 intro p hp;have:=aB h p hp;induction p using Pc.casesOn with
 |rep c n=>
  show 0≤n.val ε;have this:(match n.lo β with|some (.ofNat _)=>true|_=>false)=true:=this;cases e:n.lo β with
  |none=>rw[e] at this;injection this
  |some t=>
   rw[e] at this;cases t with
   |ofNat t=>exact Int.le_trans (cW t) (uk hb e)
   |negSucc t=>injection this
 |_=>trivial
def ya{α:Type}(fs:List (α×AV)):(fQ φ fs).map Prod.fst=fs.map Prod.fst:=by unfold fQ;rw[List.map_map];rfl
def vZ{C:Addr}{K:Frag}{fs gs:List (Str×AV)}(e:fs.map Prod.fst=gs.map Prod.fst)(h:∀ p∈fs,findIn K (.ref C) p.1=some none):∀ p∈gs,findIn K (.ref C) p.1=some none:=fun p hp=>by
 have:p.1∈fs.map Prod.fst:=e▸Zi hp;apply ak (eo this);intro q h1 h2;rw[←h2];exact h q h1
section
variable {imm:Δ}{ρ ρ':List Addr}
abbrev oF (Γ:aw) (imm:Δ) (ρ:List Addr) (θ:Nat→AV) (as:List (Nat×π)):Prop:=∀ p∈as,VR Γ imm ρ p.2 (θ p.1)
abbrev lc (ov:Nat→π) (as:List (Nat×π)):Prop:=∀ p∈as,ov p.1=p.2
def oF.app(h:oF Γ imm ρ θ as)(g:oF Γ imm ρ θ bs):oF Γ imm ρ θ (as++bs):=fun p hp=>(dy hp).elim (h p) (g p)
def lc.l{ov:Nat→π}{as bs:List (Nat×π)}(h:lc ov (as++bs)):lc ov as:=fun p hp=>h p (bn _ hp)
def lc.r{ov:Nat→π}{as bs:List (Nat×π)}(h:lc ov (as++bs)):lc ov bs:=fun p hp=>h p (dU _ hp)
def Dn(Γ:aw)(β:Bd)(φ:eO)(imm:Δ)(ρ:List Addr)(l:List AV)(X:(Nat→π)→(Nat→CC)→Prop):Prop :=
 l.all (lG β)=true→∃ as,as.map Prod.fst=kP l∧oF Γ imm ρ φ.v as∧∀ ov cv,lc ov as→X ov cv
def Dn.nil{X:(Nat→π)→(Nat→CC)→Prop}(h:∀ ov cv,X ov cv):Dn Γ β φ imm ρ [] X:=fun U=>⟨[],rfl,fun U h=>absurd h Zp,fun U U U=>h _ _⟩
def Dn.to{X X':(Nat→π)→(Nat→CC)→Prop}(h:Dn Γ β φ imm ρ l X)(f:∀ ov cv,X ov cv→X' ov cv):Dn Γ β φ imm ρ l X':=fun g=>by
 apply ed (h g);intro as e s t;exact⟨as,e,s,fun ov cv k=>f _ _ (t ov cv k)⟩
def Dn.app{l l':List AV}{X X' Z:(Nat→π)→(Nat→CC)→Prop}(h:Dn Γ β φ imm ρ l X)(h':Dn Γ β φ imm ρ l' X')(f:∀ ov cv,X ov cv→X' ov cv→Z ov cv):Dn Γ β φ imm ρ (l++l') Z:=fun g=>by
 apply bq (A5 g);intro g1 g2;apply ed (h g1);intro as e s t;apply ed (h' g2);intro bs e' s' t';exact⟨as++bs,by rw[Zb,e,e',qo],s.app s',fun ov cv k=>f _ _ (t ov cv k.l) (t' ov cv k.r)⟩
def Dn.letter{X:(Nat→π)→(Nat→CC)→Prop}(hx:y5 x=[i])(h:VR Γ imm ρ v (φ.v i))(f:lG β x=true→∀ ov cv,ov i=v→X ov cv):Dn Γ β φ imm ρ [x] X:=fun g=>
 ⟨[(i,v)],by show _=y5 x++[];rw[hx];rfl,fun p hp=>by rw[bU hp];exact h,fun ov cv k=>f (by simpa using g) ov cv (k (i,v) (.head _))⟩
def ar.dn(H:∀ x∈xs,∀ v,VR Γ imm ρ v (flA φ x)→Dn Γ β φ imm ρ (lv x) fun ov cv=>VR (Γ.wE (ε.wO ov cv)) imm ρ v x):∀ vs,ar Γ imm ρ vs (bX φ xs)→Dn Γ β φ imm ρ (ii xs) fun ov cv=>ar (Γ.wE (ε.wO ov cv)) imm ρ vs xs:=by
 induction xs with
 |nil=>exact fun vs h=>by (obtain e:_=_:=ar.inv h;subst e);exact .nil fun U U=>.nil
 |cons x r ih=>exact fun vs h=>by obtain⟨_,_,e0,a,b⟩:=ar.inv h;clear h;subst e0;exact(H _ (.head _) _ a).app (ih (fun y hy=>H y (.tail _ hy)) _ b) fun U U=>.cons
def aX.dn(H:∀ q∈xs,∀ v,VR Γ imm ρ v (flA φ q.2)→Dn Γ β φ imm ρ (lv q.2) fun ov cv=>VR (Γ.wE (ε.wO ov cv)) imm ρ v q.2):∀ vs,aX Γ imm ρ vs (fQ φ xs)→Dn Γ β φ imm ρ (dw xs) fun ov cv=>aX (Γ.wE (ε.wO ov cv)) imm ρ vs xs:=by
 induction xs with
 |nil=>exact fun vs h=>by cases h;exact .nil fun U U=>.nil
 |cons x r ih=>exact fun vs h=>by obtain⟨_,_,_,_,e0,a,b⟩:=aX.inv h;clear h;subst e0;exact(H _ (.head _) _ a).app (ih (fun y hy=>H y (.tail _ hy)) _ b) fun U U=>.cons
def VR.dn(F:eR Γ β ε φ)(hc:φ.c=id):∀ (x:AV) (v:π),VR Γ imm ρ v (flA φ x)→Dn Γ β φ imm ρ (lv x) fun ov cv=>VR (Γ.wE (ε.wO ov cv)) imm ρ v x:=by
 refine AV.ind ?_ ?_ ?_ ?_ ?_ ?_ ?_ ?_ ?_ ?_ ?_ ?_ ?_ ?_
 ·exact fun v h=>h.inv▸.nil fun U U=>.none
 ·exact fun b v h=>h.inv▸.nil fun U U=>.bool b
 ·exact fun l v h=>by obtain⟨t,rfl⟩:=h.inv;exact .nil fun U U=>.int (by rw[F.L];exact(pB l).symm)
 ·exact fun s v h g=>by
   have g:s.all (oG β)=true:=by
    have:(lG β (.str s)&&true)=true:=g;rw[Bool.and_true] at this;exact this
   apply ed h.inv;intro t e0 o k;subst e0;rw[F.S] at k ⊢;exact⟨[],rfl,nofun,fun U U U=>.str (congrArg aL (rB s).symm) (w0.mpr (wB (ε:=ε) F.hb g)) (by rw[show (Γ.wE (ε.wO _ _)).ε=ε.wO _ _ from rfl,rB];exact k)⟩
 ·exact fun l v h U=>by
   apply ak h.inv;intro a e0 e;subst e0;rw[hc] at e;exact⟨[],rfl,nofun,fun U U U=>.cell e⟩
 ·exact fun xs ih v h=>by
   rw[yC] at h;rw[yH];apply gg h.inv;intro _ _ _ e0 a b;subst e0;exact(ar.dn ih _ b).to fun U U=>.tup a
 ·exact fun C fs ih v h=>by
   rw[z8] at h;rw[zF];apply qR h.inv;intro _ _ _ _ e0 a b c d e;subst e0;exact(aX.dn ih _ c).to fun U U r=>.obj a b r (vZ (ya fs) d) (GB e)
 ·exact fun v h=>by obtain⟨_,_,_,rfl,a,b,c⟩:=h.inv;exact .nil fun U U=>.dict a b c
 ·exact fun U v h=>h.inv▸.nil fun U U=>.cls
 ·exact fun U v h=>h.inv▸.nil fun U U=>.fn
 ·exact fun U v h=>h.inv▸.nil fun U U=>.bi
 ·exact fun f x ih v h=>by
   apply lD h.inv;intro _ _ e0 a b;subst e0;exact(ih _ b).to fun U U=>.meth a
 ·exact fun i v h=>.letter (i:=i) rfl h fun U ov cv k=>.any k
 ·exact fun n v h=>by obtain⟨_,_,_,_,rfl,a,b⟩:=h.inv;exact .nil fun U U=>.rng a b
def eM(Γ:aw)(φ:eO)(imm:Δ)(ρ ρ':List Addr)(ov:Nat→π)(l:List AV):Prop:=(∀ i∈kP l,VR Γ imm ρ' (ov i) (φ.v i))∧∀ k∈vO l,∀ a,ae ρ k=some a→ae ρ' (φ.c k)=some a
section
variable {ov:Nat→π}{cv:Nat→CC}
def eM.l{l l':List AV}(h:eM Γ φ imm ρ ρ' ov (l++l')):eM Γ φ imm ρ ρ' ov l:=by
 unfold eM at h ⊢;rw[qo,EM] at h;exact⟨fun i hi=>h.1 i (bn _ hi),fun i hi=>h.2 i (bn _ hi)⟩
def eM.r{l l':List AV}(h:eM Γ φ imm ρ ρ' ov (l++l')):eM Γ φ imm ρ ρ' ov l':=by
 unfold eM at h ⊢;rw[qo,EM] at h;exact⟨fun i hi=>h.1 i (dU _ hi),fun i hi=>h.2 i (dU _ hi)⟩
def ar.up'{xs:List AV}(H:∀ x∈xs,∀ v,eM Γ φ imm ρ ρ' ov (lv x)→VR (Γ.wE (ε.wO ov cv)) imm ρ v x→VR Γ imm ρ' v (flA φ x)):∀ vs,eM Γ φ imm ρ ρ' ov (ii xs)→ar (Γ.wE (ε.wO ov cv)) imm ρ vs xs→ar Γ imm ρ' vs (bX φ xs):=by
 induction xs with
 |nil=>exact fun vs U h=>by (obtain e:_=_:=ar.inv h;subst e);exact .nil
 |cons x r ih=>exact fun vs o h=>by obtain⟨_,_,e0,a,b⟩:=ar.inv h;clear h;subst e0;exact .cons (H _ (.head _) _ o.l a) (ih (fun y hy=>H y (.tail _ hy)) _ o.r b)
def aX.up'{xs:List (Str×AV)}(H:∀ q∈xs,∀ v,eM Γ φ imm ρ ρ' ov (lv q.2)→VR (Γ.wE (ε.wO ov cv)) imm ρ v q.2→VR Γ imm ρ' v (flA φ q.2)):∀ vs,eM Γ φ imm ρ ρ' ov (dw xs)→aX (Γ.wE (ε.wO ov cv)) imm ρ vs xs→aX Γ imm ρ' vs (fQ φ xs):=by
 induction xs with
 |nil=>exact fun vs U h=>by cases h;exact .nil
 |cons x r ih=>exact fun vs o h=>by obtain⟨_,_,_,_,e0,a,b⟩:=aX.inv h;clear h;subst e0;exact .cons (H _ (.head _) _ o.l a) (ih (fun y hy=>H y (.tail _ hy)) _ o.r b)
def VR.up(F:eR Γ β ε φ):∀ (x:AV) (v:π),eM Γ φ imm ρ ρ' ov (lv x)→VR (Γ.wE (ε.wO ov cv)) imm ρ v x→VR Γ imm ρ' v (flA φ x):=by
 refine AV.ind ?_ ?_ ?_ ?_ ?_ ?_ ?_ ?_ ?_ ?_ ?_ ?_ ?_ ?_
 ·exact fun v U h=>h.inv▸.none
 ·exact fun b v U h=>h.inv▸.bool b
 ·exact fun l v U h=>by obtain⟨t,rfl⟩:=h.inv;exact .int ((pB l).trans (F.L _).symm)
 ·exact fun s v U h=>by obtain⟨t,rfl,g,k⟩:=h.inv;exact .str (congrArg aL ((rB s).trans (F.S _).symm)) (F.O _ (w0.mp g)) (by rw[F.S,←rB];exact k)
 ·exact fun k v o h=>by obtain⟨a,rfl,e⟩:=h.inv;exact .cell (o.2 k (.head _) _ e)
 ·exact fun xs ih v o h=>by
   rw[yH] at o;rw[yC];obtain⟨_,_,_,rfl,a,b⟩:=h.inv;exact .tup a (ar.up' ih _ o b)
 ·exact fun C fs ih v o h=>by
   rw[zF] at o;rw[z8];obtain⟨_,_,_,_,rfl,a,b,c,d,e⟩:=h.inv;exact .obj a b (aX.up' ih _ o c) (vZ (ya fs).symm d) (Ei e)
 ·exact fun v U h=>by obtain⟨_,_,_,rfl,a,b,c⟩:=h.inv;exact .dict a b c
 ·exact fun U v U h=>h.inv▸.cls
 ·exact fun U v U h=>h.inv▸.fn
 ·exact fun U v U h=>h.inv▸.bi
 ·exact fun f x ih v o h=>by
   obtain⟨_,_,rfl,a,b⟩:=h.inv;exact .meth a (ih _ o b)
 ·exact fun i v o h=>by
   have:VR Γ imm ρ' (ov i) (φ.v i):=o.1 i (.head _);rw[show ov i=v from h.inv] at this;exact this
 ·exact fun n v U h=>by obtain⟨_,_,_,_,rfl,a,b⟩:=h.inv;exact .rng a b
def ar.up(F:eR Γ β ε φ)(xs:List AV)(vs:List π):eM Γ φ imm ρ ρ' ov (ii xs)→ar (Γ.wE (ε.wO ov cv)) imm ρ vs xs→ar Γ imm ρ' vs (bX φ xs):=ar.up' (fun x U=>VR.up F x) vs
def aX.up(F:eR Γ β ε φ)(xs:List (Str×AV))(vs:List DictEntry):eM Γ φ imm ρ ρ' ov (dw xs)→aX (Γ.wE (ε.wO ov cv)) imm ρ vs xs→aX Γ imm ρ' vs (fQ φ xs):=aX.up' (fun x U=>VR.up F x.2) vs
end
end
end
noncomputable def mN:ξ→Bool
 |[]=>true
 |a::r=>!aK a r&&mN r
def AD(a b:ξ):Bool:=a.all fun i=>aK i b
noncomputable def mP:List (Str×AV)→Bool
 |[]=>true
 |p::r=>match lk p.1 r with
  |none=>mP r
  |some _=>false
def qM:∀ {l:ξ},aK i l=true↔i∈l:=by
 intro L0;induction L0 with
 |nil=>
  exact⟨fun h=>(nomatch (show false=true from h)),fun h=>(nomatch h)⟩
 |cons b r ih=>
  have e:aK i (b::r)=(i.beq b ||aK i r):=by
   show Bool.rec (motive:=fun U=>Bool) (aK i r) true (i.beq b)=_;cases i.beq b<;>rfl
  rw[e,Bool.or_eq_true,ih,List.mem_cons];exact or_congr_left ⟨bg,fun h=>by rw[h];exact Nat.beq_refl _⟩
set_option smartUnfolding false in
def Ad:∀ {l:ξ},mN l=true→l.Nodup:=by
 intro L0;induction L0 with
 |nil=>
  intro _;exact .nil
 |cons a r ih=>
  intro h;replace h:=aA (show (!aK a r&&mN r)=true from h);refine Zx.mpr ⟨fun q=>?_,ih h.2⟩;rw[qM.mpr q] at h;cases h.1
def H8(h:AD a b=true):∀ i∈a,i∈b:=fun i hi=>qM.mp (aB h i hi)
def fC(φ:eO)(c:ay):ay:=match c with
 |.list xs=>.list (bX φ xs)
 |.rows t n=>.rows (φ.S t) (φ.L n)
 |.inst C fs=>.inst C (fQ φ fs)
 |.any i=>φ.z i
def bL(φ:eO)(σ:St):St:=σ.map (fC φ)
def fF(φ:eO)(f:Fl):Fl:=match f with
 |.ret v=>.ret (flA φ v)
 |.next=>.next
def cU(φ:eO)(ls:ag):ag:=⟨fQ φ ls.v,ls.sc⟩
def rG(c:ay):List AV:=match c with
 |.list xs=>ii xs
 |.rows t _=>[.str t]
 |.inst _ fs=>dw fs
 |.any _=>[]
def iJ(σ:St):List AV:=σ.flatMap rG
def Jl(f:Fl):List AV:=match f with
 |.ret v=>lv v
 |_=>[]
noncomputable def xe(c:ay):ξ:=match c with|.any i=>[i]|_=>[]
def mF(σ:St):ξ:=σ.flatMap xe
section
variable {Γ:aw}{β:Bd}{ε:Ev}{φ:eO}
def pc(x:Str)(ls:List (Str×AV)):lk x (fQ φ ls)=(lk x ls).map (flA φ):=px (flA φ) x ls
section
variable {imm:Δ}{ρ ρ':List Addr}
abbrev EJ (Γ:aw) (imm:Δ) (ρ:List Addr) (ζ:Nat→ay) (as:List (Nat×CC)):Prop:=∀ p∈as,CR Γ imm ρ p.2 (ζ p.1)
abbrev zM (cv:Nat→CC) (as:List (Nat×CC)):Prop:=∀ p∈as,cv p.1=p.2
def m0(Γ:aw)(β:Bd)(φ:eO)(imm:Δ)(ρ:List Addr)(l:List AV)(z:ξ)(X:(Nat→π)→(Nat→CC)→Prop):Prop :=
 l.all (lG β)=true→∃ as cas,as.map Prod.fst=kP l∧oF Γ imm ρ φ.v as∧cas.map Prod.fst=z∧EJ Γ imm ρ φ.z cas∧∀ ov cv,lc ov as→zM cv cas→X ov cv
def m0.of{X:(Nat→π)→(Nat→CC)→Prop}(h:Dn Γ β φ imm ρ l X):m0 Γ β φ imm ρ l [] X:=fun g=>by
 apply ed (h g);intro as e s t;exact⟨as,[],e,s,rfl,nofun,fun ov cv k U=>t ov cv k⟩
def m0.app{X X' Z:(Nat→π)→(Nat→CC)→Prop}(h:m0 Γ β φ imm ρ l z X)(h':m0 Γ β φ imm ρ l' z' X')(f:∀ ov cv,X ov cv→X' ov cv→Z ov cv):m0 Γ β φ imm ρ (l++l') (z++z') Z:=fun g=>by
 apply bq (A5 g);intro g1 g2;apply vk (h g1);intro as ca e s d u t;apply vk (h' g2);intro bs cb e' s' d' u' t';exact⟨as++bs,ca++cb,by rw[Zb,e,e',qo],s.app s',by rw[Zb,d,d'],fun p hp=>(dy hp).elim (u p) (u' p),
  fun ov cv k j=>f _ _ (t ov cv k.l fun p hp=>j p (bn _ hp)) (t' ov cv k.r fun p hp=>j p (dU _ hp))⟩
def kd.mv(h:kd ε vs l):kd ε' vs l:=by
 induction h with
 |nil=>exact .nil
 |snoc _ ih=>exact .snoc ih
def CR.dn(F:eR Γ β ε φ)(hc:φ.c=id)(x:ay)(h:CR Γ imm ρ c (fC φ x)):m0 Γ β φ imm ρ (rG x) (xe x) fun ov cv=>CR (Γ.wE (ε.wO ov cv)) imm ρ c x:=by
 induction x using ay.casesOn with
 |list xs=>
  apply gg (CR.list_inv h);intro _ _ _ e0 a b;subst e0;exact .of ((ar.dn (fun x U=>VR.dn F hc x) _ a).to fun U U r=>.list r (by unfold bX at b;rw[Zh] at b;exact b))
 |rows tx n=>
  apply d5 (CR.rows_inv h);intro _ _ _ e0 a b d;subst e0;rw[F.S] at a;intro g;have g:tx.all (oG β)=true:=by
   have:(lG β (.str tx)&&true)=true:=g;rw[Bool.and_true] at this;exact this
  exact⟨[],[],rfl,nofun,rfl,nofun,fun ov cv U U=>.rows (by show kd (ε.wO ov cv) _ (SS.val (ε.wO ov cv) tx);rw[rB];exact a.mv) (w0.mpr (wB (ε:=ε) F.hb g)) (by rw[F.L] at d;show _≤n.val (ε.wO ov cv);rw[pB];exact d)⟩
 |inst C fs=>
  apply ni (CR.inst_inv h);intro _ _ _ _ e0 a b d;subst e0;exact .of ((aX.dn (fun x U=>VR.dn F hc x.2) _ a).to fun U U r=>.inst r (vZ (ya fs) b) (GB d))
 |any i=>exact fun U=>⟨[],[(i,c)],rfl,nofun,rfl,fun p hp=>by rw[bU hp];exact h,fun ov cv U k=>.any (k (i,c) (.head _))⟩
def bh.dn(F:eR Γ β ε φ)(hc:φ.c=id):∀ (x:St) {cs:List CC},bh Γ imm ρ cs (bL φ x)→m0 Γ β φ imm ρ (iJ x) (mF x) fun ov cv=>bh (Γ.wE (ε.wO ov cv)) imm ρ cs x:=by
 intro L0;induction L0 with
 |nil=>
  intro _ h;cases h;exact fun U=>⟨[],[],rfl,nofun,rfl,nofun,fun U U U U=>.nil⟩
 |cons x r ih=>
  intro _ h;cases h with|cons a b=>exact(CR.dn F hc x a).app (ih b) fun U U=>.cons
def CR.up(F:eR Γ β ε φ)(x:ay)(o:eM Γ φ imm ρ ρ' ov (rG x))(oc:∀ i∈xe x,CR Γ imm ρ' (cv i) (φ.z i))(h:CR (Γ.wE (ε.wO ov cv)) imm ρ c x):CR Γ imm ρ' c (fC φ x):=by
 induction x using ay.casesOn with
 |list xs=>
  apply gg (CR.list_inv h);intro _ _ _ e0 a b;subst e0;exact .list (ar.up F xs _ o a) (by unfold bX;rw[Zh];exact b)
 |rows tx n=>
  apply d5 (CR.rows_inv h);intro _ _ _ e0 a b d;subst e0;exact .rows (by
   rw[F.S];replace a:kd (ε.wO ov cv) _ (SS.val (ε.wO ov cv) tx):=a;rw[rB] at a;exact a.mv) (F.O _ (w0.mp b)) (by rw[F.L,←pB];exact d)
 |inst C fs=>
  apply ni (CR.inst_inv h);intro _ _ _ _ e0 a b d;subst e0;exact .inst (aX.up F fs _ o a) (vZ (ya fs).symm b) (Ei d)
 |any i=>
  have:=oc i (.head _);cases h with|any e=>rw[show cv i=_ from e] at this;exact this
def bh.up(F:eR Γ β ε φ):∀ (x:St) {cs:List CC},eM Γ φ imm ρ ρ' ov (iJ x)→(∀ i∈mF x,CR Γ imm ρ' (cv i) (φ.z i))→bh (Γ.wE (ε.wO ov cv)) imm ρ cs x→bh Γ imm ρ' cs (bL φ x):=by
 intro L0;induction L0 with
 |nil=>
  intro _ _ _ h;cases h;exact .nil
 |cons x r ih=>
  intro _ o oc h;replace o:eM Γ φ imm ρ ρ' ov (rG x++iJ r):=o;replace oc:∀ i∈xe x++mF r,CR Γ imm ρ' (cv i) (φ.z i):=oc;cases h with|cons a b=>exact .cons (CR.up F x o.l (fun i hi=>oc i (bn _ hi)) a) (ih o.r (fun i hi=>oc i (dU _ hi)) b)
abbrev nZ (Γ:aw) (imm:Δ) (ρ:List Addr) (m:ω) (ls:List (Str×AV)):Prop:=∀ x v,lk x ls=some v→∃ val,m x=some val∧VR Γ imm ρ val v
set_option tactic.hygienic true in
def CE(F:eR Γ β ε φ)(hc:φ.c=id):∀ (ls:List (Str×AV)),mP ls=true→nZ Γ imm ρ m (fQ φ ls)→Dn Γ β φ imm ρ (dw ls) fun ov cv=>nZ (Γ.wE (ε.wO ov cv)) imm ρ m ls:=by
 intro L0;induction L0 with
 |nil=>
  intro _ _;exact .nil fun _ _ x v h=>by injection h
 |cons x0 r ih=>
  obtain⟨y,u⟩:=x0;intro n h;unfold mP at n;dsimp only at n
  split at n
  ·rename_i e
   obtain⟨val,m1,r1⟩:=h y (flA φ u) (by rw[pc,gn,if_pos rfl];rfl);refine(VR.dn F hc u _ r1).app (ih n fun x v hx=>h x v ?_) fun ov cv a b x v hx=>?_
   ·rw[pc] at hx ⊢
    rw[gn]
    by_cases q:y=x
    ·subst q;rw[e] at hx;injection hx
    ·rw[if_neg q];exact hx
   ·rw[gn] at hx
    by_cases q:y=x
    ·subst q;rw[if_pos rfl] at hx;(apply j1 hx;clear hx;rintro rfl);exact⟨val,m1,a⟩
    ·rw[if_neg q] at hx;exact b x v hx
  ·injection n
def P4:∀ {ls:List (Str×AV)},lk x ls=some u→∃ a b,dw ls=a++(lv u++b):=by
 intro L0;induction L0 with
 |nil=>
  intro h;injection h
 |cons x0 r ih=>
  obtain⟨y,v⟩:=x0;intro h;rw[gn] at h
  by_cases e:y=x
  ·rw[if_pos e] at h;(apply j1 h;clear h;rintro rfl);exact⟨[],dw r,rfl⟩
  ·rw[if_neg e] at h
   apply qX (ih h);intro a b q;exact⟨lv v++a,b,by show lv v++dw r=_;rw[q,aC]⟩
def vj(F:eR Γ β ε φ)(o:eM Γ φ imm ρ ρ' ov (dw ls))(h:nZ (Γ.wE (ε.wO ov cv)) imm ρ m ls):nZ Γ imm ρ' m (fQ φ ls):=fun x v hx=>by
 rw[pc] at hx;cases q:lk x ls with
 |none=>rw[q] at hx;injection hx
 |some u=>
  rw[q] at hx;(apply j1 hx;clear hx;rintro rfl);apply ak (h x u q);intro val a b;apply qX (P4 q);intro l r e;rw[e] at o;exact⟨val,a,VR.up F u _ o.r.l b⟩
end
noncomputable def t8(x:AV):Bool:=match x with|.bool _=>true|_=>false
noncomputable def pQ(x:AV):π:=match x with|.bool b=>.bool b|_=>.none
def ic(fr:ξ)(θ:Nat→AV)(ov:Nat→π):Prop:=∀ i∈fr,∃ b,θ i=.bool b∧ov i=.bool b
def nM(fr:ξ)(β:Bd)(θ:Nat→AV)(L:List AV)(P:St):Bool:=L.all (lG β)&&((iJ P).all (lG β)&&(mN (kP (L++iJ P)++fr)&&(mN (mF P)&&fr.all fun i=>t8 (θ i))))
def stays(fr:ξ)(L:List AV)(P:St)(L':List AV)(P':St):Bool:=AD (kP (L'++iJ P')) (kP (L++iJ P)++fr)&&AD (mF P') (mF P)
noncomputable def vI(as:List (Nat×π))(i:Nat):π:=(as.lookup i).getD .none
noncomputable def zA(as:List (Nat×CC))(i:Nat):CC:=(as.lookup i).getD (.list 0 [] 0)
def Fi{α:Type}{as:List (Nat×α)}(h:(as.map Prod.fst).Nodup){p:Nat×α}(hp:p∈as):as.lookup p.1=some p.2:=by
 induction as with
 |nil=>cases hp
 |cons q r ih=>
  obtain⟨i,a⟩:=q;apply bq (Zx.mp h);intro h1 h2;rw[List.lookup_cons];rcases bk hp with rfl|hp
  ·simp
  ·have:(p.1 == i)=false:=by
    rw[beq_eq_false_iff_ne];intro e;exact h1 (by rw[←e];exact ZN.mpr ⟨p,hp,rfl⟩)
   rw[this];exact ih h2 hp
def Ox{as:List (Nat×π)}(h:(as.map Prod.fst).Nodup):lc (vI as) as:=fun p hp=>by unfold vI;rw[Fi h hp];rfl
def Oc{as:List (Nat×CC)}(h:(as.map Prod.fst).Nodup):zM (zA as) as:=fun p hp=>by unfold zA;rw[Fi h hp];rfl
structure qD (Γ:aw) (φ:eO) (fr:ξ) (imm:Δ) (cs:List CC) (L:List AV) (P:St) (ov:Nat→π) (cv:Nat→CC):Prop where
 v:∀ i∈kP (L++iJ P)++fr,VR Γ imm (aj cs) (ov i) (φ.v i)
 c:∀ i∈mF P,CR Γ imm (aj cs) (cv i) (φ.z i)
def qD.ext(h:qD Γ φ fr imm cs L P ov cv)(x:aD imm cs imm' cs'):qD Γ φ fr imm' cs' L P ov cv :=
 ⟨fun i hi=>(h.v i hi).ext x,fun i hi=>(h.c i hi).mono x.i x.r⟩
def qD.upL(h:qD Γ φ fr imm cs L P ov cv)(g:stays fr L P L' P'=true)(hc:φ.c=id) :
  eM Γ φ imm (aj cs) (aj cs) ov (L'++iJ P')∧∀ i∈mF P',CR Γ imm (aj cs) (cv i) (φ.z i):=by
 unfold stays at g;rw[Y9] at g;exact⟨⟨fun i hi=>h.v i (H8 g.1 i hi),fun k U a e=>by rw[hc];exact e⟩,fun i hi=>h.c i (H8 g.2 i hi)⟩
def wY(F:eR Γ β ε φ)(hc:φ.c=id)(g:nM fr β φ.v L P=true){X:(Nat→π)→(Nat→CC)→Prop}
  (hL:Dn Γ β φ imm (aj cs) L X) (hC:bh Γ imm (aj cs) cs (bL φ P)) :
  ∃ ov cv,qD Γ φ fr imm cs L P ov cv∧ic fr φ.v ov∧X ov cv∧bh (Γ.wE (ε.wO ov cv)) imm (aj cs) cs P:=by
 unfold nM at g;simp only [Y9] at g;apply o6 g;intro g1 g2 g3 g4 g5;apply ed (hL g1);intro as e1 s1 t1;apply vk (bh.dn F hc P hC g2);intro bs ca e2 s2 e3 s3 t2;have ef:(fr.map fun i=>(i,pQ (φ.v i))).map Prod.fst=fr:=by rw[List.map_map];exact(List.map_congr_left fun U U=>rfl).trans (List.map_id fr)
 have nd:(((as++bs)++fr.map fun i=>(i,pQ (φ.v i))).map Prod.fst).Nodup:=by rw[Zb,Zb,e1,e2,ef,←qo];exact Ad g3
 have nc:(ca.map Prod.fst).Nodup:=by rw[e3];exact Ad g4
 have k:=Ox nd;have kc:=Oc nc;have bo:∀ i∈fr,∃ b,φ.v i=.bool b∧vI ((as++bs)++fr.map fun i=>(i,pQ (φ.v i))) i=.bool b:=fun i hi=>by
  have h1:=aB g5 i hi;have h2:=k (i,pQ (φ.v i)) (dU _ (ZN.mpr ⟨i,hi,rfl⟩));cases q:φ.v i with
  |bool b=>rw[q] at h2;exact⟨b,rfl,h2⟩
  |_=>rw[q] at h1;injection h1
 refine⟨vI ((as++bs)++fr.map fun i=>(i,pQ (φ.v i))),zA ca,⟨fun i hi=>?_,fun i hi=>?_⟩,bo,t1 _ _ k.l.l,t2 _ _ k.l.r kc⟩
 ·rcases dy hi with hi|hi
  ·rw[qo,←e1,←e2,←Zb] at hi
   apply ak (eo hi);intro p hp e0;subst e0;rw[k p (bn _ hp)];exact(s1.app s2) p hp
  ·apply ak (bo i hi);intro b q1 q2
   rw[q1,q2];exact .bool b
 ·rw[←e3] at hi
  apply ak (eo hi);intro p hp e0;subst e0;rw[kc p hp];exact s3 p hp
def be.wE(C:be Γ c A n):be (Γ.wE ε) c A n:=⟨C.B,C.X,C.T,C.k,C.fr,C.hd,C.dp,C.un⟩
def co.down(h:co c (cU φ ls)):co c ls:=⟨h.sc,fun x v hx=>h.lo x (flA φ v) (by show lk x (fQ φ ls.v)=_;rw[pc,hx];rfl),h.nd⟩
def co.up(h:co c ls):co c (cU φ ls):=⟨h.sc,fun x v hx=>by
 replace hx:lk x (fQ φ ls.v)=_:=hx;rw[pc] at hx;cases q:lk x ls.v with
 |none=>rw[q] at hx;injection hx
 |some u=>exact h.lo x u q,h.nd⟩
def bj.fill(F:eR Γ β ε φ)(hc:φ.c=id){ls ls':ag}(nl:mP ls.v=true)(g:nM fr β φ.v (dw ls.v) P=true)(g':stays fr (dw ls.v) P (Jl f++dw ls'.v) P'=true)
  (H:∀ ov cv,ic fr φ.v ov→bj (Γ.wE (ε.wO ov cv)) n t ls P f ls' P'):bj Γ n t (cU φ ls) (bL φ P) (fF φ f) (cU φ ls') (bL φ P'):=by
 intro c A s m imm cs Q E C l R k;apply yg (wY F hc g (X:=fun ov cv=>nZ (Γ.wE (ε.wO ov cv)) imm (aj cs) m ls.v) (CE F hc ls.v nl R.l) R.C);intro ov cv fo fk hl hcc;refine H ov cv fk C.wE l.down ⟨R.F,R.N,R.nd,hcc,hl⟩ fun h' tk m' imm' cs' fl R' l' x' f'=>?_;apply bq ((fo.ext x').upL g' hc);intro u uc;refine k h' tk m' imm' cs' fl ⟨R'.F,R'.N,R'.nd,bh.up F P' u.r uc R'.C,vj F u.l.r R'.l⟩ l'.up x' ?_;cases f' with
 |next=>exact .next
 |ret h=>exact .ret (VR.up F _ _ u.l.l h)
def di.fillB(F:eR Γ β ε φ)(hc:φ.c=id){ls:ag}(nl:mP ls.v=true)(g:nM fr β φ.v (dw ls.v) P=true)(g':stays fr (dw ls.v) P (dw ls.v) P'=true)
  (H:∀ ov cv,ic fr φ.v ov→di (Γ.wE (ε.wO ov cv)) n t ls P (hH b) P'):di Γ n t (cU φ ls) (bL φ P) (hH b) (bL φ P'):=by
 intro c A s m imm cs Q E C l R k;apply yg (wY F hc g (X:=fun ov cv=>nZ (Γ.wE (ε.wO ov cv)) imm (aj cs) m ls.v) (CE F hc ls.v nl R.l) R.C);intro ov cv fo fk hl hcc;refine H ov cv fk C.wE l.down ⟨R.F,R.N,R.nd,hcc,hl⟩ fun h' tk imm' cs' x R' x' hx=>?_;apply bq ((fo.ext x').upL g' hc);intro u uc;exact k h' tk imm' cs' x ⟨R'.F,R'.N,R'.nd,bh.up F P' u.r uc R'.C,vj F u.l R'.l⟩ x' hx
def ar.nil_of(h:ar Γ imm ρ l []):l=[]:=by (obtain e:_=_:=ar.inv h;subst e);rfl
def cg.fill(F:eR Γ β ε φ)(hc:φ.c=id)(g:nM fr β φ.v (ii vs) P=true)(g':stays fr (ii vs) P (lv r) P'=true)
  (H:∀ ov cv,ic fr φ.v ov→cg (Γ.wE (ε.wO ov cv)) n P f vs [] r P'):cg Γ n (bL φ P) f (bX φ vs) [] (flA φ r) (bL φ P'):=by
 intro c A s m ls imm cs vals kwv Rq C R hv hk hk2 k;apply yg (wY F hc g (X:=fun ov cv=>ar (Γ.wE (ε.wO ov cv)) imm (aj cs) vals vs) (ar.dn (fun x U=>VR.dn F hc x) _ hv) R.C);intro ov cv fo fk hl hcc;have hk2':ar (Γ.wE (ε.wO ov cv)) imm (aj cs) (kwv.map (·.2)) (([]:List (Str×AV)).map (·.2)):=by rw[ar.nil_of hk2];exact .nil
 refine H ov cv fk (ls:=[]) C.wE ⟨R.F,R.N,R.nd,hcc,fun x v hx=>by injection hx⟩ hl hk hk2' fun h' tk imm' cs' val R' x' hx=>?_;apply bq ((fo.ext x').upL g' hc);intro u uc;refine k h' tk imm' cs' val ⟨R'.F,R'.N,R'.nd,bh.up F P' u.r uc R'.C,fun x v hx=>?_⟩ x' (VR.up F r _ u.l hx);apply ak (R.l x v hx);intro val a b;exact⟨val,a,b.ext x'⟩
end
def jG{α:Type}(f:α→α→Bool)(a:List α):List α→Bool:=List.rec (fun b=>aI b) (fun x U ih b=>List.rec false (fun y r U=>Bool.rec false (ih r) (f x y)) b) a
theorem kN{α:Type}{f:α→α→Bool}:∀ {a b:List α},(∀ x∈a,∀ y,f x y=true→x=y)→jG f a b=true→a=b
 |[],[],_,_=>rfl
 |[],_::_,_,h=>nomatch (show false=true from h)
 |_::_,[],_,h=>nomatch (show false=true from h)
 |x::a,y::b,H,h=>by
  replace h:Bool.rec (motive:=fun U=>Bool) false (jG f a b) (f x y)=true:=h;cases e:f x y with
  |false=>rw[e] at h;injection h
  |true=>rw[e] at h;rw[H x (.head _) y e,kN (fun z hz=>H z (.tail _ hz)) h]
def Cu(p q:Nat×Int):Bool:=Nat.beq p.1 q.1&&lU p.2 q.2
def pI(a b:ax):Bool:=lU a.c b.c&&jG Cu a.l b.l
def Js(p q:Pc):Bool:=match p with
 |.lit a=>match q with|.lit b=>bQ a b|_=>false
 |.var i=>match q with|.var j=>i.beq j|_=>false
 |.rep c n=>match q with|.rep d m=>c.beq d&&pI n m|_=>false
def Ao(a b:SS):Bool:=jG Js a b
def uK(a b:Bool):Bool:=Bool.rec (Bool.rec true false b) b a
noncomputable def EG(a b:BF):Bool:=a.ctorIdx.beq b.ctorIdx
noncomputable def Sv(n:Nat):BF:=[BF.len,.isi,.range,.str,.max,.enum].getD n .len
def Dk(h:lU a b=true):a=b:=by rw[BS] at h;exact ZB h
def CH{a b:ax}(h:pI a b=true):a=b:=by
 unfold pI at h;rw[Y9] at h;cases a;cases b;have h1:=Dk h.1;have h2:=kN (f:=Cu) (fun x U y e=>by
  unfold Cu at e;rw[Y9] at e;exact Prod.ext (bg e.1) (Dk e.2)) h.2
 dsimp only at h1 h2;rw[h1,h2]
def PK(h:Js p q=true):p=q:=by
 induction p using Pc.casesOn with
 |lit a=>induction q using Pc.casesOn with
  |lit b=>rw[fH.mp h]
  |_=>injection h
 |var i=>induction q using Pc.casesOn with
  |var j=>rw[bg h]
  |_=>injection h
 |rep c n=>induction q using Pc.casesOn with
  |rep d m=>
   replace h:(c.beq d&&pI n m)=true:=h;rw[Y9] at h;rw[bg h.1,CH h.2]
  |_=>injection h
def Ed{a b:SS}(h:Ao a b=true):a=b:=kN (fun U U U e=>PK e) h
def vK{a b:Bool}(h:uK a b=true):a=b:=by induction a using oB<;>induction b using oB<;>first|rfl|injection h
def Jx(a:BF):Sv a.ctorIdx=a:=by cases a<;>rfl
def Me{a b:BF}(h:EG a b=true):a=b:=by rw[←Jx a,←Jx b,bg h]
def dG:AV→AV→Bool :=
 AV.rec (motive_1:=fun U=>AV→Bool) (motive_2:=fun U=>List AV→Bool) (motive_3:=fun U=>List (Str×AV)→Bool) (motive_4:=fun U=>Str×AV→Bool)
  (fun y=>match y with|.none=>true|_=>false)
  (fun b y=>match y with|.bool c=>uK b c|_=>false)
  (fun l y=>match y with|.int m=>pI l m|_=>false)
  (fun l y=>match y with|.str m=>Ao l m|_=>false)
  (fun l y=>match y with|.cell m=>l.beq m|_=>false)
  (fun U h y=>match y with|.tup m=>h m|_=>false)
  (fun C U h y=>match y with|.obj D m=>Bool.rec false (h m) (C.beq D)|_=>false)
  (fun y=>match y with|.dict=>true|_=>false)
  (fun l y=>match y with|.cls m=>l.beq m|_=>false)
  (fun l y=>match y with|.fn m=>l.beq m|_=>false)
  (fun l y=>match y with|.bi m=>EG l m|_=>false)
  (fun f U h y=>match y with|.meth g m=>Bool.rec false (h m) (f.beq g)|_=>false)
  (fun l y=>match y with|.any m=>l.beq m|_=>false)
  (fun l y=>match y with|.rng m=>l.beq m|_=>false)
  (fun b=>aI b) (fun U U h t b=>List.rec false (fun y r U=>Bool.rec false (t r) (h y)) b)
  (fun b=>aI b) (fun U U h t b=>List.rec false (fun y r U=>Bool.rec false (t r) (h y)) b)
  (fun x U h y=>seq x y.1&&h y.2)
def qY(p q:Str×AV):Bool:=seq p.1 q.1&&dG p.2 q.2
theorem GH:∀ xs ys,dG (.tup xs) (.tup ys)=jG dG xs ys
 |[],_=>rfl
 |_::_,[]=>rfl
 |a::r,b::s=>congrArg (fun t=>Bool.rec (motive:=fun U=>Bool) false t (dG a b)) (GH r s)
theorem Ha:∀ xs ys,dG (.obj 0 xs) (.obj 0 ys)=jG qY xs ys
 |[],_=>rfl
 |_::_,[]=>rfl
 |a::r,b::s=>congrArg (fun t=>Bool.rec (motive:=fun U=>Bool) false t (qY a b)) (Ha r s)
def Wt(C D:Addr)(xs ys:List (Str×AV)):dG (.obj C xs) (.obj D ys)=Bool.rec (motive:=fun U=>Bool) false (jG qY xs ys) (C.beq D):=by
 rw[←Ha];rfl
def gX:∀ x y,dG x y=true→x=y:=by
 refine AV.ind ?_ ?_ ?_ ?_ ?_ ?_ ?_ ?_ ?_ ?_ ?_ ?_ ?_ ?_
 ·intro y h;induction y using AV.casesOn<;>first|rfl|injection h
 ·intro b y h;induction y using AV.casesOn<;>first|exact congrArg _ (vK h)|injection h
 ·intro b y h;induction y using AV.casesOn<;>first|exact congrArg _ (CH h)|injection h
 ·intro b y h;induction y using AV.casesOn<;>first|exact congrArg _ (Ed h)|injection h
 ·intro b y h;induction y using AV.casesOn<;>first|exact congrArg _ (bg h)|injection h
 ·intro xs ih y h;induction y using AV.casesOn<;>first|(rw[GH] at h;exact congrArg _ (kN ih h))|injection h
 ·intro C fs ih y h
  induction y using AV.casesOn with
  |obj D gs=>
   rw[Wt] at h;cases q:Nat.beq C D with
   |false=>rw[q] at h;injection h
   |true=>
    rw[q] at h;rw[bg q];refine congrArg _ (kN (fun x hx y e=>?_) h);replace e:=aA e;exact Prod.ext (iw.mp e.1) (ih x hx y.2 e.2)
  |_=>injection h
 ·intro y h;induction y using AV.casesOn<;>first|rfl|injection h
 ·intro b y h;induction y using AV.casesOn<;>first|exact congrArg _ (bg h)|injection h
 ·intro b y h;induction y using AV.casesOn<;>first|exact congrArg _ (bg h)|injection h
 ·intro b y h;induction y using AV.casesOn<;>first|exact congrArg _ (Me h)|injection h
 ·intro f v ih y h
  induction y using AV.casesOn with
  |meth g w=>
   cases q:Nat.beq f g with
   |false=>
    replace h:Bool.rec (motive:=fun U=>Bool) false _ (f.beq g)=true:=h;rw[q] at h;injection h
   |true=>
    replace h:Bool.rec (motive:=fun U=>Bool) false (dG v w) (f.beq g)=true:=h;rw[q] at h;rw[bg q,ih w h]
  |_=>injection h
 ·intro b y h;induction y using AV.casesOn<;>first|exact congrArg _ (bg h)|injection h
 ·intro b y h;induction y using AV.casesOn<;>first|exact congrArg _ (bg h)|injection h
def Ew(c d:ay):Bool:=match c with
 |.list xs=>match d with|.list ys=>jG dG xs ys|_=>false
 |.rows t n=>match d with|.rows u m=>Ao t u&&pI n m|_=>false
 |.inst C fs=>match d with|.inst D gs=>C.beq D&&jG qY fs gs|_=>false
 |.any i=>match d with|.any j=>i.beq j|_=>false
def og(a b:St):Bool:=jG Ew a b
def PO{c d:ay}(h:Ew c d=true):c=d:=by
 induction c using ay.casesOn with
 |list xs=>induction d using ay.casesOn with
  |list ys=>exact congrArg _ (kN (fun x U=>gX x) h)
  |_=>injection h
 |rows t n=>induction d using ay.casesOn with
  |rows u m=>have h:=aA h;rw[Ed h.1,CH h.2]
  |_=>injection h
 |inst C fs=>induction d using ay.casesOn with
  |inst D gs=>
   replace h:=aA h;rw[bg h.1];refine congrArg _ (kN (fun x U y e=>?_) h.2);replace e:=aA e;exact Prod.ext (iw.mp e.1) (gX _ _ e.2)
  |_=>injection h
 |any i=>induction d using ay.casesOn with
  |any j=>rw[bg h]
  |_=>injection h
def tP(h:og a b=true):a=b:=kN (fun U U U e=>PO e) h
section
variable {Γ:aw}{n:Nat}
def bj.nil:bj Γ n (fun c=>execs [] c.env) ls σ .next ls σ:=by
 intro c A s m imm cs Q E C l R k;exact wpAny_execs_nil (k s.heap s.toks m imm cs _ R l (aD.refl ..) .next)
def bj.cons{st:Stmt}{r:List Stmt}{ls ls1 ls2:ag}{σ σ1 σ2:St}{f:Fl}(h1:bj Γ n (fun c=>exec st c.env) ls σ .next ls1 σ1)(h2:bj Γ n (fun c=>execs r c.env) ls1 σ1 f ls2 σ2):bj Γ n (fun c=>execs (st::r) c.env) ls σ f ls2 σ2:=by
 intro c A s m imm cs Q E C l Rp k;refine ZM (h1 C l Rp fun hx tx mx ix cx fl Rx lx xx fx=>?_);(obtain e:_=_:=FR.inv fx;subst e);exact h2 C lx (s:=sU s hx tx) Rx fun h2 t2 m2 i2 c2 fl R2 l2 x2 f2=>k h2 t2 m2 i2 c2 fl R2 l2 (xx.trans x2) f2
def bj.ret{st:Stmt}{r:List Stmt}{ls ls1:ag}{σ σ1:St}{v:AV}(h1:bj Γ n (fun c=>exec st c.env) ls σ (.ret v) ls1 σ1):bj Γ n (fun c=>execs (st::r) c.env) ls σ (.ret v) ls1 σ1:=by
 intro c A s m imm cs Q E C l Rp k;refine ZM (h1 C l Rp fun hx tx mx ix cx fl Rx lx xx fx=>?_);obtain⟨_,e0,hv⟩:=FR.inv fx;clear fx;subst e0;exact k hx tx mx ix cx _ Rx lx xx (.ret hv)
def bj.post{ls ls' ls1:ag}(hs:ls1.sc=ls.sc)(h:∀ x v,lk x ls1.v=some v→lk x ls'.v=some v)(H:bj Γ n t ls σ f ls' σ'):bj Γ n t ls σ f ls1 σ':=by
 intro c A s m imm cs Q E C l R k;exact H C l R fun h' tk m' imm' cs' fl R' l' x' f'=>k h' tk m' imm' cs' fl ⟨R'.F,R'.N,R'.nd,R'.C,fun x v hx=>R'.l x v (h x v hx)⟩ ⟨hs▸l.sc,fun x v hx=>l'.lo x v (h x v hx),l'.nd⟩ x' f'
def bj.le(hn:n'≤n)(H:bj Γ n' t ls σ f ls' σ'):bj Γ n t ls σ f ls' σ':=by
 intro c A s m imm cs Q E C;exact H (C.le hn)
def di.le{α:Type}{n':Nat}{t:Cx→Sem α}{ls:ag}{σ σ':St}{P:Δ→List CC→α→Prop}(hn:n'≤n)(H:di Γ n' t ls σ P σ'):di Γ n t ls σ P σ':=by
 intro c A s m imm cs Q E C;exact H (C.le hn)
def mJ(Γ:aw)(n:Nat)(t:Expr)(b:List Stmt)(ls:ag)(σ:St)(ls':ag)(σ':St):Prop :=
 ∀ {c A s m imm cs} {Rq:Result→χ→Prop},be Γ c A n→co c ls→ao Γ c.h₀ c.L s.heap m ls.v σ imm cs →
  (∀ h' tk m' imm' cs' fl,ao Γ c.h₀ c.L h' m' ls'.v σ' imm' cs'→co c ls'→aD imm cs imm' cs'→FR Γ imm' cs' fl .next→Rq (.ok fl) (sU s h' tk))→codeAny (model Γ.prog Γ.w) A (.whileLoop t b [] c.env) Rq s
def mJ.stop(h:di Γ n (fun c=>isTrue t c.env (eval t c.env)) ls σ (hH false) σ'):mJ Γ n t b ls σ ls σ':=by
 intro c A s m imm cs Rq C l R k;refine zW (h C l R fun hx tx ix cx x Rx xx qx=>?_);cases qx;exact wpAny_execs_nil (k hx tx m ix cx _ Rx l xx .next)
def mJ.go(h:di Γ n (fun c=>isTrue t c.env (eval t c.env)) ls σ (hH true) σ1)(hb:bj Γ n (fun c=>execs b c.env) ls σ1 .next ls1 σ2)(hr:mJ Γ n t b ls1 σ2 ls2 σ3):mJ Γ n t b ls σ ls2 σ3:=by
 intro c A s m imm cs Rq C l R k;refine zW (h C l R fun hx tx ix cx x Rx xx qx=>?_);cases qx;refine hb C l (s:=sU s hx tx) Rx fun hy ty my iy cy fl Ry ly xy fy=>?_;(obtain e:_=_:=FR.inv fy;subst e);exact hr C ly (s:=sU s hy ty) Ry fun h2 t2 m2 i2 c2 fl R2 l2 x2 f2=>k h2 t2 m2 i2 c2 fl R2 l2 (xx.trans (xy.trans x2)) f2
def bj.while_(h:mJ Γ n t b ls σ ls' σ'):bj Γ n (fun c=>exec (.While t b [] pos) c.env) ls σ .next ls' σ':=by
 intro c A s m imm cs Q E C l Rp k;exact wpAny_While (h C l Rp k)
def bj.if_(h:di Γ n (fun c=>isTrue t c.env (eval t c.env)) ls σ (hH q) σ1)(hb:bj Γ n (fun c=>execs (Bool.rec o b q) c.env) ls σ1 f ls' σ'):bj Γ n (fun c=>exec (.If t b o pos) c.env) ls σ f ls' σ':=by
 intro c A s m imm cs Q E C l Rp k;refine wpAny_If (h C l Rp fun hx tx ix cx x Rx xx qx=>?_);cases qx;induction q using oB with
 |true=>exact hb C l (s:=sU s hx tx) Rx fun h2 t2 m2 i2 c2 fl R2 l2 x2 f2=>k h2 t2 m2 i2 c2 fl R2 l2 (xx.trans x2) f2
 |false=>exact hb C l (s:=sU s hx tx) Rx fun h2 t2 m2 i2 c2 fl R2 l2 x2 f2=>k h2 t2 m2 i2 c2 fl R2 l2 (xx.trans x2) f2
def HW(a b:List Stmt)(env:Env):execs (a++b) env=execs a env >>= fun f=>match f with|.next=>execs b env|f=>pure f:=by
 induction a with
 |nil=>show execs b env=(pure Flow.next:Sem Flow) >>= _;rw[pure_bind]
 |cons s r ih=>
  rw[ZD,execs_cons,execs_cons,bind_assoc]
  congr 1
  funext f
  cases f<;>first|exact ih|rw[pure_bind]
def bj.append(h1:bj Γ n (fun c=>execs a c.env) ls σ .next ls1 σ1)(h2:bj Γ n (fun c=>execs b c.env) ls1 σ1 f ls2 σ2):bj Γ n (fun c=>execs (a++b) c.env) ls σ f ls2 σ2:=by
 intro c A s m imm cs Q E C l R k;show wpAny _ _ (execs (a++b) c.env) _ _ _;rw[HW];refine Y6 (h1 C l R fun hx tx mx ix cx fl Rx lx xx fx=>?_);(obtain e:_=_:=FR.inv fx;subst e);exact h2 C lx (s:=sU s hx tx) Rx fun h2 t2 m2 i2 c2 fl R2 l2 x2 f2=>k h2 t2 m2 i2 c2 fl R2 l2 (xx.trans x2) f2
structure Dz (Γ:aw) (n:Nat) (t:Cx→Sem Flow) (ls:ag) (σ:St) (f:Fl) (ls':ag) (σ':St):Prop where
 h:bj Γ n t ls σ f ls' σ'
structure Tz (Γ:aw) (n:Nat) (e:Expr) (ls:ag) (σ:St) (b:Bool) (σ':St):Prop where
 h:di Γ n (fun c=>isTrue e c.env (eval e c.env)) ls σ (hH b) σ'
structure Wz (Γ:aw) (n:Nat) (t:Expr) (b:List Stmt) (ls:ag) (σ:St) (ls':ag) (σ':St):Prop where
 h:mJ Γ n t b ls σ ls' σ'
abbrev aH (Γ:aw) (n:Nat) (ss:List Stmt) (ls:ag) (σ:St) (f:Fl) (ls':ag) (σ':St):Prop:=Dz Γ n (fun c=>execs ss c.env) ls σ f ls' σ'
abbrev gi (Γ:aw) (n:Nat) (s:Stmt) (ls:ag) (σ:St) (f:Fl) (ls':ag) (σ':St):Prop:=Dz Γ n (fun c=>exec s c.env) ls σ f ls' σ'
section
variable {ls ls1 ls2:ag}{σ σ1 σ2 σ3:St}{f:Fl}
def Dz.nil:aH Γ n [] ls σ .next ls σ:=⟨bj.nil⟩
def Dz.cons{st:Stmt}{r:List Stmt}(h1:gi Γ n st ls σ .next ls1 σ1)(h2:aH Γ n r ls1 σ1 f ls2 σ2):aH Γ n (st::r) ls σ f ls2 σ2:=⟨bj.cons h1.h h2.h⟩
def Dz.one{st:Stmt}(h1:gi Γ n st ls σ .next ls1 σ1):aH Γ n [st] ls σ .next ls1 σ1:=h1.cons .nil
def Dz.append(h1:aH Γ n a ls σ .next ls1 σ1)(h2:aH Γ n b ls1 σ1 f ls2 σ2):aH Γ n (a++b) ls σ f ls2 σ2:=⟨bj.append h1.h h2.h⟩
def Dz.le(hn:n'≤n)(h:Dz Γ n' t ls σ f ls1 σ1):Dz Γ n t ls σ f ls1 σ1:=⟨bj.le hn h.h⟩
def Tz.le(hn:n'≤n)(h:Tz Γ n' e ls σ b σ1):Tz Γ n e ls σ b σ1:=⟨di.le hn h.h⟩
def Dz.post{ls0:ag}(hs:ls0.sc=ls.sc)(h:∀ x v,lk x ls0.v=some v→lk x ls1.v=some v)(H:Dz Γ n t ls σ f ls1 σ1):Dz Γ n t ls σ f ls0 σ1:=⟨bj.post hs h H.h⟩
def Wz.stop(h:Tz Γ n t ls σ false σ1):Wz Γ n t b ls σ ls σ1:=⟨mJ.stop h.h⟩
def Wz.go(h:Tz Γ n t ls σ true σ1)(hb:aH Γ n b ls σ1 .next ls1 σ2)(hr:Wz Γ n t b ls1 σ2 ls2 σ3):Wz Γ n t b ls σ ls2 σ3:=⟨mJ.go h.h hb.h hr.h⟩
def Dz.while_(h:Wz Γ n t b ls σ ls1 σ1):gi Γ n (.While t b [] pos) ls σ .next ls1 σ1:=⟨bj.while_ h.h⟩
def Dz.if_(h:Tz Γ n t ls σ q σ1)(hb:aH Γ n (Bool.rec o b q) ls σ1 f ls1 σ2):gi Γ n (.If t b o pos) ls σ f ls1 σ2:=⟨bj.if_ h.h hb.h⟩
def Dz.ret{st:Stmt}{r:List Stmt}{v:AV}(h1:gi Γ n st ls σ (.ret v) ls1 σ1):aH Γ n (st::r) ls σ (.ret v) ls1 σ1:=⟨bj.ret h1.h⟩
end
structure Rz (Γ:aw) (n:Nat) (σ:St) (f:Addr) (vs:List AV) (r:AV) (σ':St):Prop where
 h:cg Γ n σ f vs [] r σ'
end
def I(i:Int):AV:=.int (.k i)
noncomputable def V(i:Nat):ax:=⟨0,[(i,1)]⟩
noncomputable def ff:AV:=.bool false
noncomputable def tr:AV:=.bool true
def cJ(a:Addr):nI:=match eC a hG with|some f=>f|none=>⟨[],[],[],[]⟩
def ai(β:Bd)(sp:Sp)(d:Nat):aJ:=mk (d7 β sp) 300 d
def aq(ε:Ev)(v:Nat→AV)(z:Nat→ay):eO:=⟨fun l=>.k (l.val ε),fun s=>.k (s.val ε),v,z,id⟩
def yb{Γ:aw}{ε:Ev}(hP:ε.P=Γ.ε.P)(he:ε.Ok)(hb:aV β ε)(v:Nat→AV)(z:Nat→ay):eR Γ β ε (aq ε v z):=⟨hP,he,hb,fun U=>cF _,fun U=>dY _,fun U U=>jm _⟩
def nK(fr:ξ)(β:Bd)(L:List AV)(P:St):Bool:=L.all (lG β)&&((iJ P).all (lG β)&&(mN (kP (L++iJ P)++fr)&&mN (mF P)))
def xg(h:nK fr β L P=true)(hf:(fr.all fun i=>t8 (θ i))=true):nM fr β θ L P=true:=by
 unfold nK at h;unfold nM;simp only [Y9] at h ⊢;exact⟨h.1,h.2.1,h.2.2.1,h.2.2.2,hf⟩
def pN:∀ {a:List (Str×AV)},lk x a=some v→lk x (a++b)=some v:=by
 intro L0;induction L0 with
 |nil=>
  intro h;injection h
 |cons x0 a ih=>
  obtain⟨y,w⟩:=x0;intro h;replace h:Bool.rec (motive:=fun U=>κ AV) (lk x a) (some w) (seq y x)=some v:=h;show Bool.rec (motive:=fun U=>κ AV) (lk x (a++b)) (some w) (seq y x)=some v;cases q:seq y x with
  |true=>rw[q] at h;exact h
  |false=>rw[q] at h;exact ih h
structure cu where
 β:Bd
 sp:Sp
 d:Nat
 fr:ξ
 ls:ag
 P:St
 ss:List Stmt
 f:Fl
 k:Nat
 out:List (Str×AV)
 Q:St
def Ij(f g:Fl):Bool:=match f,g with
 |.next,.next=>true
 |.ret a,.ret b=>dG a b
 |_,_=>false
def Q6(h:Ij f g=true):f=g:=by
 induction f using Fl.casesOn<;>induction g using Fl.casesOn<;>first|rfl|(injection h;done)|exact congrArg Fl.ret (gX _ _ h)
def cu.chk(j:cu):Bool:=(match (ai j.β j.sp j.d).exs j.ls j.P j.ss with
 |some (f,ls,σ)=>Ij f j.f&&(jG qY (aQ j.k ls.v) j.out&&og σ j.Q)
 |none=>false)&&(mP j.ls.v&&(nK j.fr j.β (dw j.ls.v) j.P&&stays j.fr (dw j.ls.v) j.P (Jl j.f++dw j.out) j.Q))
def SK(y:Str×AV)(h:qY x y=true):x=y:=by
 obtain⟨a,u⟩:=x;obtain⟨b,w⟩:=y;replace h:=aA h;exact Prod.ext (iw.mp h.1) (gX _ _ h.2)
def Ih{α:Type}(n:Nat)(l:List α):l=aQ n l++aO n l:=by rw[mV,ux];exact(List.take_append_drop n l).symm
def HK{w:World}{ε0 ε:Ev}(hw:ε0.P=w.params)(hP:ε.P=ε0.P)(he:ε.Ok)(j:cu)(hb:aV j.β ε)(hs:∀ ov cv,ic j.fr v ov→py (ab w mg mb (ε.wO ov cv)) b j.sp)
  (hf:(j.fr.all fun i=>t8 (v i))=true) (hc:j.chk=true) :
  aH (ab w mg mb ε0) (10*j.d+b+30) j.ss (cU (aq ε v z) j.ls) (bL (aq ε v z) j.P) (fF (aq ε v z) j.f) (cU (aq ε v z) ⟨j.out,j.ls.sc⟩) (bL (aq ε v z) j.Q):=by
 have F:eR (ab w mg mb ε0) j.β ε (aq ε v z):=yb hP he hb v z;replace hc:=aA hc;have c2:=aA hc.2;have c3:=aA c2.2;have c1:=hc.1;cases q:(ai j.β j.sp j.d).exs j.ls j.P j.ss with
 |none=>rw[q] at c1;injection c1
 |some p=>
  obtain⟨f,ls,σ⟩:=p;rw[q] at c1;replace c1:=aA c1;have c5:=aA c1.2;obtain rfl:f=j.f:=Q6 c1.1;have e1:aQ j.k ls.v=j.out:=kN (fun U U y h=>SK y h) c5.1;obtain rfl:σ=j.Q:=tP c5.2;have H:∀ ov cv,ic j.fr v ov→bj ((ab w mg mb ε0).wE (ε.wO ov cv)) (10*j.d+b+30) (fun c=>execs j.ss c.env) j.ls j.P j.f ⟨j.out,j.ls.sc⟩ j.Q:=fun ov cv fk=>by
   have P':gM ((ab w mg mb ε0).wE (ε.wO ov cv)) b (d7 j.β j.sp):=r7 (ε:=ε.wO ov cv) (hP.trans hw) he hb (hs ov cv fk);have D0:bj ((ab w mg mb ε0).wE (ε.wO ov cv)) (10*j.d+b+30) (fun c=>execs j.ss c.env) j.ls j.P j.f ls j.Q:=(cN P' 300 j.d).S.exs q;have D1:bj ((ab w mg mb ε0).wE (ε.wO ov cv)) (10*j.d+b+30) (fun c=>execs j.ss c.env) j.ls j.P j.f ⟨j.out,j.ls.sc⟩ j.Q:=bj.post (ls:=j.ls) (ls1:=⟨j.out,j.ls.sc⟩) rfl (fun x u hx=>by rw[Ih j.k ls.v,e1];exact pN hx) @D0;exact @D1
  have D:bj (ab w mg mb ε0) (10*j.d+b+30) (fun c=>execs j.ss c.env) (cU (aq ε v z) j.ls) (bL (aq ε v z) j.P) (fF (aq ε v z) j.f) (cU (aq ε v z) ⟨j.out,j.ls.sc⟩) (bL (aq ε v z) j.Q) :=
   bj.fill (fr:=j.fr) (n:=10*j.d+b+30) (t:=fun c=>execs j.ss c.env) (ls:=j.ls) (ls':=⟨j.out,j.ls.sc⟩) (P:=j.P) (P':=j.Q) (f:=j.f) F rfl c2.1 (xg c3.1 hf) c3.2 fun ov cv fk=>@H ov cv fk
  exact⟨@D⟩
def df{w:World}{ε0 ε:Ev}(hw:ε0.P=w.params)(hP:ε.P=ε0.P)(he:ε.Ok)(j:cu)(hb:aV j.β ε)(h0:j.sp=ac∧j.d≤12∧j.fr=[])(hc:j.chk=true) :
  aH (ab w mg mb ε0) 150 j.ss (cU (aq ε v z) j.ls) (bL (aq ε v z) j.P) (fF (aq ε v z) j.f) (cU (aq ε v z) ⟨j.out,j.ls.sc⟩) (bL (aq ε v z) j.Q):=by
 apply fj h0;intro h1 h2 h3;exact(HK (b:=0) hw hP he j hb (fun U U U=>by rw[h1];exact nE) (by rw[h3];rfl) hc).le (by lia)
structure mh where
 β:Bd
 ls:ag
 P:St
 e:Expr
 b:Bool
def mh.chk(j:mh):Bool:=(match (ai j.β ac 4).tst j.ls j.P j.e with
 |some (b,σ)=>uK b j.b&&og σ j.P
 |none=>false)&&(mP j.ls.v&&(nK [] j.β (dw j.ls.v) j.P&&stays [] (dw j.ls.v) j.P (dw j.ls.v) j.P))
def vJ{w:World}{ε0 ε:Ev}(hw:ε0.P=w.params)(hP:ε.P=ε0.P)(he:ε.Ok)(j:mh)(hb:aV j.β ε)(hc:j.chk=true) :
  Tz (ab w mg mb ε0) 150 j.e (cU (aq ε v z) j.ls) (bL (aq ε v z) j.P) j.b (bL (aq ε v z) j.P):=by
 have F:eR (ab w mg mb ε0) j.β ε (aq ε v z):=yb hP he hb v z;replace hc:=aA hc;have c2:=aA hc.2;have c3:=aA c2.2;have c1:=hc.1;cases q:(ai j.β ac 4).tst j.ls j.P j.e with
 |none=>rw[q] at c1;injection c1
 |some p=>
  obtain⟨b,σ⟩:=p;rw[q] at c1;replace c1:=aA c1;obtain rfl:b=j.b:=vK c1.1;obtain rfl:σ=j.P:=tP c1.2;have H:∀ ov cv,ic [] v ov→di ((ab w mg mb ε0).wE (ε.wO ov cv)) 70 (fun c=>isTrue j.e c.env (eval j.e c.env)) j.ls j.P (hH j.b) j.P:=fun ov cv U=>by
   have P':gM ((ab w mg mb ε0).wE (ε.wO ov cv)) 0 (d7 j.β ac):=r7 (ε:=ε.wO ov cv) (hP.trans hw) he hb nE;have D0:di ((ab w mg mb ε0).wE (ε.wO ov cv)) 70 (fun c=>isTrue j.e c.env (eval j.e c.env)) j.ls j.P (hH j.b) j.P:=(cN P' 300 4).E.tst q;exact @D0
  have D:di (ab w mg mb ε0) 70 (fun c=>isTrue j.e c.env (eval j.e c.env)) (cU (aq ε v z) j.ls) (bL (aq ε v z) j.P) (hH j.b) (bL (aq ε v z) j.P) :=
   di.fillB (fr:=[]) (n:=70) (t:=fun c=>isTrue j.e c.env (eval j.e c.env)) (ls:=j.ls) (P:=j.P) (P':=j.P) (b:=j.b) F rfl c2.1 (xg c3.1 rfl) c3.2 fun ov cv fk=>@H ov cv fk
  exact⟨di.le (by decide) @D⟩
def bM.fill(F:eR Γ β ε φ)(hc:φ.c=id){ls:ag}(nl:mP ls.v=true)(g:nM fr β φ.v (dw ls.v) P=true)(g':stays fr (dw ls.v) P (lv r++dw ls.v) P'=true)
  (H:∀ ov cv,ic fr φ.v ov→bM (Γ.wE (ε.wO ov cv)) n t ls P r P'):bM Γ n t (cU φ ls) (bL φ P) (flA φ r) (bL φ P'):=by
 intro c A s m imm cs Q E C l R k;apply yg (wY F hc g (X:=fun ov cv=>nZ (Γ.wE (ε.wO ov cv)) imm (aj cs) m ls.v) (CE F hc ls.v nl R.l) R.C);intro ov cv fo fk hl hcc;refine H ov cv fk C.wE l.down ⟨R.F,R.N,R.nd,hcc,hl⟩ fun h' tk imm' cs' x R' x' hx=>?_;apply bq ((fo.ext x').upL g' hc);intro u uc;exact k h' tk imm' cs' x ⟨R'.F,R'.N,R'.nd,bh.up F P' u.r uc R'.C,vj F u.l.r R'.l⟩ x' (VR.up F r _ u.l.l hx)
structure nz where
 β:Bd
 sp:Sp
 d:Nat
 fr:ξ
 ls:ag
 P:St
 e:Expr
 r:AV
 Q:St
def nz.chk(j:nz):Bool:=(match (ai j.β j.sp j.d).ev j.ls j.P j.e with
 |some (r,σ)=>dG r j.r&&og σ j.Q
 |none=>false)&&(mP j.ls.v&&(nK j.fr j.β (dw j.ls.v) j.P&&stays j.fr (dw j.ls.v) j.P (lv j.r++dw j.ls.v) j.Q))
structure Yz (Γ:aw) (n:Nat) (e:Expr) (ls:ag) (σ:St) (v:AV) (σ':St):Prop where
 h:bM Γ n (fun c=>eval e c.env) ls σ v σ'
def uQ{w:World}{ε0 ε:Ev}(hw:ε0.P=w.params)(hP:ε.P=ε0.P)(he:ε.Ok)(j:nz)(hb:aV j.β ε)(hs:∀ ov cv,ic j.fr v ov→py (ab w mg mb (ε.wO ov cv)) b j.sp)
  (hf:(j.fr.all fun i=>t8 (v i))=true) (hc:j.chk=true) :
  Yz (ab w mg mb ε0) (10*j.d+b+30) j.e (cU (aq ε v z) j.ls) (bL (aq ε v z) j.P) (flA (aq ε v z) j.r) (bL (aq ε v z) j.Q):=by
 have F:eR (ab w mg mb ε0) j.β ε (aq ε v z):=yb hP he hb v z;replace hc:=aA hc;have c2:=aA hc.2;have c3:=aA c2.2;have c1:=hc.1;cases q:(ai j.β j.sp j.d).ev j.ls j.P j.e with
 |none=>rw[q] at c1;injection c1
 |some p=>
  obtain⟨r,σ⟩:=p;rw[q] at c1;replace c1:=aA c1;obtain rfl:r=j.r:=gX _ _ c1.1;obtain rfl:σ=j.Q:=tP c1.2;have H:∀ ov cv,ic j.fr v ov→bM ((ab w mg mb ε0).wE (ε.wO ov cv)) (10*j.d+b+30) (fun c=>eval j.e c.env) j.ls j.P j.r j.Q:=fun ov cv fk=>by
   have P':gM ((ab w mg mb ε0).wE (ε.wO ov cv)) b (d7 j.β j.sp):=r7 (ε:=ε.wO ov cv) (hP.trans hw) he hb (hs ov cv fk);have D0:bM ((ab w mg mb ε0).wE (ε.wO ov cv)) (10*j.d+b+30) (fun c=>eval j.e c.env) j.ls j.P j.r j.Q:=(cN P' 300 j.d).E.ev q;exact @D0
  have D:bM (ab w mg mb ε0) (10*j.d+b+30) (fun c=>eval j.e c.env) (cU (aq ε v z) j.ls) (bL (aq ε v z) j.P) (flA (aq ε v z) j.r) (bL (aq ε v z) j.Q) :=
   bM.fill (fr:=j.fr) F rfl c2.1 (xg c3.1 hf) c3.2 fun ov cv fk=>@H ov cv fk
  exact⟨@D⟩
structure ml where
 β:Bd
 sp:Sp
 d:Nat
 fr:ξ
 P:St
 f:Addr
 vs:List AV
 r:AV
 Q:St
def ml.chk(j:ml):Bool:=(match (ai j.β j.sp j.d).cf j.P j.f j.vs [] with
 |some (r,σ)=>dG r j.r&&og σ j.Q
 |none=>false)&&(nK j.fr j.β (ii j.vs) j.P&&stays j.fr (ii j.vs) j.P (lv j.r) j.Q)
def MD{w:World}{ε0 ε:Ev}(hw:ε0.P=w.params)(hP:ε.P=ε0.P)(he:ε.Ok)(j:ml)(hb:aV j.β ε)(hs:∀ ov cv,ic j.fr v ov→py (ab w mg mb (ε.wO ov cv)) b j.sp)
  (hf:(j.fr.all fun i=>t8 (v i))=true) (hc:j.chk=true) :
  fnIn (cG w.params) j.f=true∧Rz (ab w mg mb ε0) (10*j.d+b+25) (bL (aq ε v z) j.P) j.f (bX (aq ε v z) j.vs) (flA (aq ε v z) j.r) (bL (aq ε v z) j.Q):=by
 have F:eR (ab w mg mb ε0) j.β ε (aq ε v z):=yb hP he hb v z;replace hc:=aA hc;have c3:=aA hc.2;have c1:=hc.1;cases q:(ai j.β j.sp j.d).cf j.P j.f j.vs [] with
 |none=>rw[q] at c1;injection c1
 |some p=>
  obtain⟨r,σ⟩:=p;rw[q] at c1;replace c1:=aA c1;obtain rfl:r=j.r:=gX _ _ c1.1;obtain rfl:σ=j.Q:=tP c1.2;have H:∀ ov cv,ic j.fr v ov→fnIn (cG w.params) j.f=true∧cg ((ab w mg mb ε0).wE (ε.wO ov cv)) (10*j.d+b+25) j.P j.f j.vs [] j.r j.Q:=fun ov cv fk=>by
   have P':gM ((ab w mg mb ε0).wE (ε.wO ov cv)) b (d7 j.β j.sp):=r7 (ε:=ε.wO ov cv) (hP.trans hw) he hb (hs ov cv fk);exact(cN P' 300 j.d).cf q
  refine⟨(H (fun i=>pQ (v i)) ε0.cv fun i hi=>?_).1,?_⟩
  ·have h1:=aB hf i hi
   dsimp only at h1 ⊢;cases q2:v i with
   |bool b=>exact⟨b,rfl,rfl⟩
   |_=>rw[q2] at h1;injection h1
  ·have R:cg (ab w mg mb ε0) (10*j.d+b+25) (bL (aq ε v z) j.P) j.f (bX (aq ε v z) j.vs) [] (flA (aq ε v z) j.r) (bL (aq ε v z) j.Q) :=
    cg.fill (fr:=j.fr) F rfl (xg c3.1 hf) c3.2 fun ov cv fk=>(H ov cv fk).2
   exact⟨@R⟩
def eA(P:Params)(pre post:ξ):Ev:=⟨(tn 0 [0,0,0,0,0,pre.length,0,post.length]),(tn [] [[],[],pre,post]),P,fun U=>.none,fun U=>.list 0 [] 0⟩
def lK(P:Params)(pre post:ξ):(eA P pre post).Ok:=fun i=>match i with
 |0=>rfl
 |1=>rfl
 |2=>rfl
 |3=>rfl
 |_+4=>rfl
structure Az (Γ:aw) (n:Nat) (t:Expr) (v:AV) (ls:ag) (σ:St) (ls':ag) (σ':St):Prop where
 h:jM Γ n (fun c=>assign t c.env) v ls σ ls' σ'
section
variable {Γ:aw}{n:Nat}
structure Dc (Γ:aw) (n:Nat) (t:Cx→Sem Flow) (ls:ag) (σ:St) (ls':ag) (σ':St):Prop where
 h:∀ {c A s m imm cs} {Q:Flow→χ→Prop} {E:Θ},be Γ c A n→co c ls→ao Γ c.h₀ c.L s.heap m ls.v σ imm cs →
  (∀ h' tk m' imm' cs',ao Γ c.h₀ c.L h' m' ls'.v σ' imm' cs'→co c ls'→aD imm cs imm' cs'→Q .cont (sU s h' tk))→wpAny (model Γ.prog Γ.w) A (t c) Q E s
def Dc.cont:Dc Γ n (fun c=>exec (.Continue pos) c.env) ls σ ls σ:=⟨fun U l R k=>wpAny_Continue (k _ _ _ _ _ R l (aD.refl ..))⟩
def Dc.head{st:Stmt}{r:List Stmt}{ls ls':ag}{σ σ':St}(h:Dc Γ n (fun c=>exec st c.env) ls σ ls' σ'):Dc Γ n (fun c=>execs (st::r) c.env) ls σ ls' σ':=⟨fun C l R k=>ZM (h.h C l R k)⟩
def Dc.cons{st:Stmt}{r:List Stmt}{ls ls1 ls':ag}{σ σ1 σ':St}(h1:gi Γ n st ls σ .next ls1 σ1)(h:Dc Γ n (fun c=>execs r c.env) ls1 σ1 ls' σ'):Dc Γ n (fun c=>execs (st::r) c.env) ls σ ls' σ':=⟨fun {c A s m imm cs Q E} C l R k=>ZM (h1.h C l R fun hx tx mx ix cx fl Rx lx xx fx=>by
 (obtain e:_=_:=FR.inv fx;subst e);exact h.h C lx (s:=sU s hx tx) Rx fun h2 t2 m2 i2 c2 R2 l2 x2=>k h2 t2 m2 i2 c2 R2 l2 (xx.trans x2))⟩
def Dc.if_(h:Tz Γ n t ls σ q σ1)(hb:Dc Γ n (fun c=>execs (Bool.rec o b q) c.env) ls σ1 ls' σ'):Dc Γ n (fun c=>exec (.If t b o pos) c.env) ls σ ls' σ':=⟨fun {c A s m imm cs Q E} C l R k=>by
 refine wpAny_If (h.h C l R fun hx tx ix cx x Rx xx qx=>?_);cases qx;induction q using oB with
 |true=>exact hb.h C l (s:=sU s hx tx) Rx fun h2 t2 m2 i2 c2 R2 l2 x2=>k h2 t2 m2 i2 c2 R2 l2 (xx.trans x2)
 |false=>exact hb.h C l (s:=sU s hx tx) Rx fun h2 t2 m2 i2 c2 R2 l2 x2=>k h2 t2 m2 i2 c2 R2 l2 (xx.trans x2)⟩
inductive Fz (Γ:aw) (n:Nat) (t:Expr) (b:List Stmt):It→ag→St→Fl→ag→St→Prop
 |stop {it:It} {ls:ag} {σ:St}:jw σ it=some none→Fz Γ n t b it ls σ .next ls σ
 |step {it it':It} {v:AV} {ls ls0 ls1 ls2:ag} {σ σ0 σ1 σ2:St} {f:Fl}:jw σ it=some (some (v,it'))→Az Γ n t v ls σ ls0 σ0→aH Γ n b ls0 σ0 .next ls1 σ1→Fz Γ n t b it' ls1 σ1 f ls2 σ2→Fz Γ n t b it ls σ f ls2 σ2
 |cont {it it':It} {v:AV} {ls ls0 ls1 ls2:ag} {σ σ0 σ1 σ2:St} {f:Fl}:jw σ it=some (some (v,it'))→Az Γ n t v ls σ ls0 σ0→Dc Γ n (fun c=>execs b c.env) ls0 σ0 ls1 σ1→Fz Γ n t b it' ls1 σ1 f ls2 σ2→Fz Γ n t b it ls σ f ls2 σ2
 |ret {it it':It} {v x:AV} {ls ls0 ls1:ag} {σ σ0 σ1:St}:jw σ it=some (some (v,it'))→Az Γ n t v ls σ ls0 σ0→aH Γ n b ls0 σ0 (.ret x) ls1 σ1→Fz Γ n t b it ls σ (.ret x) ls1 σ1
def Fz.ok(h:Fz Γ n t b it ls σ f ls' σ')(hn:iZ t=true):∀ {c A s m imm cs I} {Rq:Result→χ→Prop},be Γ c A n→co c ls→ao Γ c.h₀ c.L s.heap m ls.v σ imm cs→gN imm (aj cs) I it →
  (∀ h' tk m' imm' cs' fl,ao Γ c.h₀ c.L h' m' ls'.v σ' imm' cs'→co c ls'→np I imm cs imm' cs'→FR Γ imm' cs' fl f→Rq (.ok fl) (sU s h' tk))→codeAny (model Γ.prog Γ.w) A (.forLoop t (.ref I) b [] c.env) Rq s:=by
 induction h with
 |@stop it ls σ h1=>
  intro c A s m imm cs I Rq C l Rp hi k;refine mG (ot h1 C Rp hi ?_);intro h' tk imm' R' x';exact wpAny_execs_nil (k h' tk m imm' cs _ R' l ⟨x',fun U U h=>h⟩ .next)
 |@step it it' v ls ls0 ls1 ls2 σ σ0 σ1 σ2 f h1 h2 h3 _ ih=>
  intro c A s m imm cs I Rq C l Rp hi k;refine mG (ot h1 C Rp hi ?_);intro h' tk imm' val R' x' i' hv;apply ak i'.obj;intro o1 o2 o3;refine su hn (s:=sU s h' tk) (R'.N _ (bn _ o2)).1 o3 ?_;refine h2.h C l (s:=sU s h' tk) R' hv fun ha ta ma ia ca Ra la xa=>?_;refine h3.h C la (s:=sU s ha ta) Ra fun hz tz mz iz cz fl Rz lz xz fz=>?_;have xt:aD imm' cs iz cz:=xa.trans xz;have xI:np I imm cs iz cz:=⟨fun q hq hne=>xt.i q (x' q hq hne),xt.r⟩;(obtain e:_=_:=FR.inv fz;subst e);exact ih C lz (s:=sU s hz tz) Rz (i'.ext xt) fun h2 t2 m2 i2 c2 fl R2 l2 x2 f2=>k h2 t2 m2 i2 c2 fl R2 l2 ⟨fun q hq hne=>x2.i q (xI.i q hq hne) hne,fun k a h=>x2.r k a (xI.r k a h)⟩ f2
 |@cont it it' v ls ls0 ls1 ls2 σ σ0 σ1 σ2 f h1 h2 h3 _ ih=>
  intro c A s m imm cs I Rq C l Rp hi k;refine mG (ot h1 C Rp hi ?_);intro h' tk imm' val R' x' i' hv;apply ak i'.obj;intro o1 o2 o3;refine su hn (s:=sU s h' tk) (R'.N _ (bn _ o2)).1 o3 ?_;refine h2.h C l (s:=sU s h' tk) R' hv fun ha ta ma ia ca Ra la xa=>?_;refine h3.h C la (s:=sU s ha ta) Ra fun hz tz mz iz cz Rz lz xz=>?_;have xt:aD imm' cs iz cz:=xa.trans xz;have xI:np I imm cs iz cz:=⟨fun q hq hne=>xt.i q (x' q hq hne),xt.r⟩;exact ih C lz (s:=sU s hz tz) Rz (i'.ext xt) fun h2 t2 m2 i2 c2 fl R2 l2 x2 f2=>k h2 t2 m2 i2 c2 fl R2 l2 ⟨fun q hq hne=>x2.i q (xI.i q hq hne) hne,fun k a h=>x2.r k a (xI.r k a h)⟩ f2
 |@ret it it' v x ls ls0 ls1 σ σ0 σ1 h1 h2 h3=>
  intro c A s m imm cs I Rq C l Rp hi k;refine mG (ot h1 C Rp hi ?_);intro h' tk imm' val R' x' i' hv;apply ak i'.obj;intro o1 o2 o3;refine su hn (s:=sU s h' tk) (R'.N _ (bn _ o2)).1 o3 ?_;refine h2.h C l (s:=sU s h' tk) R' hv fun ha ta ma ia ca Ra la xa=>?_;refine h3.h C la (s:=sU s ha ta) Ra fun hz tz mz iz cz fl Rz lz xz fz=>?_;have xt:aD imm' cs iz cz:=xa.trans xz;have xI:np I imm cs iz cz:=⟨fun q hq hne=>xt.i q (x' q hq hne),xt.r⟩;obtain⟨_,e0,hv2⟩:=FR.inv fz;clear fz;subst e0;exact k hz tz mz iz cz _ Rz lz xI (.ret hv2)
open Classical in
def ub(t:Expr)(b:List Stmt)(it:It)(ls:ag)(σ:St)(f:Fl)(ls':ag)(σ':St):aJ:={aJ.bot with fo:=fun ls1 σ1 t1 it1 b1=>if ls1=ls∧σ1=σ∧t1=t∧it1=it∧b1=b then some (f,ls',σ') else none}
def Ua:(ub t b it ls σ f ls' σ').fo ls σ t it b=some (f,ls',σ'):=if_pos ⟨rfl,rfl,rfl,rfl,rfl⟩
def Ss(h:(ub t b it ls σ f ls' σ').fo ls1 σ1 t1 it1 b1=some p):(ls1=ls∧σ1=σ∧t1=t∧it1=it∧b1=b)∧(f,ls',σ')=p:=by
 by_cases e:ls1=ls∧σ1=σ∧t1=t∧it1=it∧b1=b
 ·have h2:(ub t b it ls σ f ls' σ').fo ls1 σ1 t1 it1 b1=some (f,ls',σ'):=if_pos e
  exact⟨e,osI (h2.symm.trans h)⟩
 ·have h2:(ub t b it ls σ f ls' σ').fo ls1 σ1 t1 it1 b1=none:=if_neg e
  rw[h2] at h;injection h
def Dz.for_(ht:iZ t=true)(hs:jE ex=true)(hy:Yz Γ n ex ls σ v σ1)(hi:rU σ1 v=some it)(h:Fz Γ n t b it ls σ1 f ls' σ') :
  gi Γ n (.For t ex b [] pos) ls σ f ls' σ':=⟨by
 have F:tD Γ n (ub t b it ls σ1 f ls' σ').fo:=by
  intro ls1 σ2 it1 t1 b1 f1 ls2 σ3 hq hn;obtain⟨⟨rfl,rfl,rfl,rfl,rfl⟩,e⟩:=Ss hq;injection e with e1 e;injection e with e2 e3;subst e1 e2 e3;exact h.ok hn
 intro c A s m imm cs Q E C l Rp k;show wpAny _ _ (exec (.For t ex b [] pos) c.env) _ _ _;rw[exec_For];refine Y6 (Zj (Y6 (hy.h C l Rp fun hx tx ix cx va Rx xx qx=>?_)));exact H9 F hi Ua C l (s:=sU s hx tx) Rx qx hs ht fun h' tk m' i2 c2 fl R2 l2 x2 f2=>k h' tk m' i2 c2 fl R2 l2 (xx.trans x2) f2⟩
def Yz.conv(h:Yz Γ n e ls σ v σ')(f:∀ imm ρ val,VR Γ imm ρ val v→VR Γ imm ρ val v'):Yz Γ n e ls σ v' σ':=⟨by
 intro c A s m imm cs Q E C l Rp k;exact h.h C l Rp fun hx tx ix cx va Rx xx qx=>k hx tx ix cx va Rx xx (f _ _ _ qx)⟩
def Yz.le(hn:n'≤n)(h:Yz Γ n' e ls σ v σ'):Yz Γ n e ls σ v σ':=⟨di.le hn h.h⟩
def Az.le(hn:n'≤n)(h:Az Γ n' t v ls σ ls' σ'):Az Γ n t v ls σ ls' σ':=⟨by
 intro c A s m imm cs x Q E C;exact h.h (C.le hn)⟩
def VR.sames{s t:SS}(e:s.val Γ.ε=t.val Γ.ε)(o:cE Γ.ε t)(h:VR Γ imm ρ v (.str s)):VR Γ imm ρ v (.str t):=by
 apply ed h.inv;intro u e0 _ k;subst e0;exact .str (by rw[e]) o (by rw[←e];exact k)
end
section
variable {w:World}{mg mb:ω}{ε0:Ev}(hw:ε0.P=w.params)(he:ε0.Ok)
include hw he
theorem dM:gM (ab w mg mb ε0) 0 (d7 [] ac):=r7 hw he (fun U U h=>by injection h) nE
theorem iS(h:(ai [] ac 0).asg ls σ v t=some (ls',σ')):Az (ab w mg mb ε0) 150 t v ls σ ls' σ':=by
 have D:jM (ab w mg mb ε0) 30 (fun c=>assign t c.env) v ls σ ls' σ':=(cN (dM hw he) 300 0).S.asg h;exact Az.le (n':=30) (by decide) ⟨@D⟩
theorem jo(hd:d≤12)(h:(ai [] ac d).exs ls σ ss=some (f,ls',σ')):aH (ab w mg mb ε0) 150 ss ls σ f ls' σ':=by
 have D:bj (ab w mg mb ε0) (10*d+0+30) (fun c=>execs ss c.env) ls σ f ls' σ':=(cN (dM hw he) 300 d).S.exs h;exact Dz.le (n':=10*d+0+30) (by lia) ⟨@D⟩
theorem eY(hd:d≤12)(h:(ai [] ac d).ev ls σ e=some (v,σ')):Yz (ab w mg mb ε0) 150 e ls σ v σ':=by
 have D:bM (ab w mg mb ε0) (10*d+0+30) (fun c=>eval e c.env) ls σ v σ':=(cN (dM hw he) 300 d).E.ev h;exact Yz.le (n':=10*d+0+30) (by lia) ⟨@D⟩
theorem g7(hd:d≤12)(h:(ai [] ac d).tst ls σ e=some (b,σ')):Tz (ab w mg mb ε0) 150 e ls σ b σ':=by
 have D:di (ab w mg mb ε0) (10*d+0+30) (fun c=>isTrue e c.env (eval e c.env)) ls σ (hH b) σ':=(cN (dM hw he) 300 d).E.tst h;exact Tz.le (n':=10*d+0+30) (by lia) ⟨@D⟩
end
def bx(ε:Ev):eO:=aq ε .any .any
def vq(β:Bd)(l:List AV):Bool:=l.all (lG β)
section
variable {Γ:aw}{β:Bd}{imm:Δ}{ρ:List Addr}
def xo(he:Γ.ε.Ok)(hb:aV β Γ.ε):eR Γ β Γ.ε (bx Γ.ε):=⟨rfl,he,hb,fun U=>cF _,fun U=>dY _,fun U U=>jm _⟩
def HE(l:List AV):eM Γ (bx Γ.ε) imm ρ ρ Γ.ε.ov l:=⟨fun i U=>.any rfl,fun k U a e=>e⟩
def Gh(h:oF Γ imm ρ (bx Γ.ε).v as):lc Γ.ε.ov as:=fun p hp=>(h p hp).inv
def Lz(h:EJ Γ imm ρ (bx Γ.ε).z as):zM Γ.ε.cv as:=fun p hp=>(h p hp).inv
variable (he:Γ.ε.Ok)(hb:aV β Γ.ε)
include he hb
theorem ar.toZ(h:ar Γ imm ρ v x):ar Γ imm ρ v (bX (bx Γ.ε) x):=ar.up (Γ:=Γ) (ε:=Γ.ε) (ov:=Γ.ε.ov) (cv:=Γ.ε.cv) (xo he hb) x v (HE _) h
theorem bh.toZ(h:bh Γ imm ρ cs σ):bh Γ imm ρ cs (bL (bx Γ.ε) σ):=bh.up (Γ:=Γ) (ε:=Γ.ε) (ov:=Γ.ε.ov) (cv:=Γ.ε.cv) (xo he hb) σ (HE _) (fun i U=>.any rfl) h
theorem VR.ofZ(g:vq β (lv x)=true)(h:VR Γ imm ρ v (flA (bx Γ.ε) x)):VR Γ imm ρ v x:=by
 apply ed (VR.dn (Γ:=Γ) (ε:=Γ.ε) (xo he hb) rfl x v h g);intro as e s t;exact t Γ.ε.ov Γ.ε.cv (Gh s)
theorem bh.ofZ(g:vq β (iJ σ)=true)(h:bh Γ imm ρ cs (bL (bx Γ.ε) σ)):bh Γ imm ρ cs σ:=by
 apply vk (bh.dn (Γ:=Γ) (ε:=Γ.ε) (xo he hb) rfl σ h g);intro as ca e1 s1 e2 s2 t;exact t Γ.ε.ov Γ.ε.cv (Gh s1) (Lz s2)
theorem cg.unz(g:vq β (lv r++iJ P')=true)(H:Rz Γ n (bL (bx Γ.ε) P) f (bX (bx Γ.ε) vs) (flA (bx Γ.ε) r) (bL (bx Γ.ε) P')):cg Γ n P f vs [] r P':=by
 apply bq (A5 g);intro g1 g2;intro c A s m ls imm cs vals kwv Rq C R hv hk hk2 k;exact H.h C ⟨R.F,R.N,R.nd,R.C.toZ he hb,R.l⟩ (hv.toZ he hb) hk hk2 fun h' tk imm' cs' val R' x' hx=>k h' tk imm' cs' val ⟨R'.F,R'.N,R'.nd,R'.C.ofZ he hb g2,R'.l⟩ x' (hx.ofZ he hb g1)
end
structure t6 where
 t:Expr
 b:List Stmt
 p:Pos
def wm(l:List Stmt)(i:Nat):t6:=match ae l i with|some (.While t b _ p)=>⟨t,b,p⟩|_=>⟨.Constant .none 0 default,[],default⟩
def dF:List Stmt:=(cJ 629).body
def ba:List (Str×NameKind):=(cJ 629).sc
def dZ:t6:=wm dF 17
def fg(x:Nat→AV):ay:=.inst 736 [(wM,x 0),(rd,x 1),(zU,x 2),(y8,x 3),(uF,x 4),(jp,x 5),(B3,x 6),(o7,x 7),(zq,x 8),
 (AF,x 9),(zr,x 10),(Ai,x 11),(A6,x 12),(AX,x 13),(yz,x 14),(xr,x 15),(wH,x 16),(A3,x 17),(vP,x 18),(yd,x 19),(yD,x 20),(yu,x 21),(zw,x 22),
 (BV,x 23),(Bw,x 24),(AT,x 25),(Ak,x 26),(qi,x 27)]
def aT(c:Nat→ay)(x:Nat→AV):St:=[c 0,c 1,c 2,c 3,c 4,fg x,c 6,c 7,c 8,c 9]
def xG(k:Nat)(a:AV):Nat→AV:=fun i=>Bool.rec (.any (30+i)) a (i.beq k)
noncomputable def zL:Nat→ay:=fun i=>.any i
def jt(sc ix:AV)(f:Nat→AV)(pw fw ps pb:AV):List (Str×AV):=[(aF,.cell 5),(i7,sc),(DT,f 0),(Da,f 1),(HU,f 2),(Gu,f 3),(sH,f 4),(Db,f 5),(Hw,f 6),(Gn,f 7),(IY,f 8),(HX,f 9),(J9,pw),(Va,fw),(Wc,ps),(LN,pb),(Ts,ix)]
noncomputable def ce:ξ:=[10,32,35,44,45,58,91,93,97,98,99,100,101,102,103,104,105,107,108,109,110,111,112,114,115,116,117,118,119,120,121,122]
def aU(c:Nat):Bool:=aK c [10,133,8232,8233]
def kL(c:Nat):Bool:=aK c [0,32,9,13,10,133,8232,8233]
def jS(first last:Bool)(c:Nat)(pw fw ps pb:Bool)(k:Nat):Bool:=match k with
 |0=>Bool.rec ((c.beq 58&&fw) ||(c.beq 35&&pw)) (aK c [35,44,91,93,123,125,38,42,33,124,62,39,34,37,64,96] ||((aK c [63,58,45])&&fw)) first
 |1=>Bool.rec (aK c [44,63,91,93,123,125,58] ||(c.beq 35&&pw)) (aK c [35,44,91,93,123,125,38,42,33,124,62,39,34,37,64,96,63,58] ||(c.beq 45&&fw)) first
 |2=>aU c
 |4=>c.beq 32&&first
 |5=>aU c&&first
 |6=>c.beq 32&&last
 |7=>aU c&&last
 |8=>c.beq 32&&pb
 |9=>aU c&&ps
 |_=>false
def bA(rel b:Bool)(i:Nat):AV:=Bool.rec (.any i) (.bool b) rel
def yV(first last:Bool)(c:Nat):SS:=Bool.rec (.var 2::.lit [c]::Bool.rec [.var 3] [] last) (.lit [c]::Bool.rec [.var 3] [] last) first
def Cq(first:Bool)(d:Int):AV:=.int (Bool.rec ⟨d,[(5,1)]⟩ (.k d) first)
def βA(first last:Bool):Bd:=[(0,0),(0,0),(0,0),(0,0),(0,0),Bool.rec (1,400) (0,0) first,(0,0),Bool.rec (1,400) (0,0) last]
def pZ(first last:Bool)(c:Nat)(pw fw ps pb:Bool):cu where
 β:=βA first last
 sp:=ac
 d:=0
 fr:=[]
 f:=.next
 ls:=⟨jt (.str (yV first last c)) (Cq first 0) (fun k=>.any k) (bA (c.beq 35) pw 10) (bA (aK c [58,45]) fw 11) (bA (aU c) ps 12) (bA (c.beq 32) pb 13),ba⟩
 P:=aT zL (xG 19 (.any 14))
 ss:=aQ 7 dZ.b
 k:=17
 out:=jt (.str (yV first last c)) (Cq first 1) (fun k=>Bool.rec (.any k) tr (jS first last c pw fw ps pb k)) (.bool (kL c)) (bA (aK c [58,45]) fw 11) (.bool (c.beq 32)) (.bool (aU c))
 Q:=aT zL (xG 19 (.any 14))
noncomputable def tf:List Bool:=[true,false]
def ri(r:Bool):List Bool:=Bool.rec [false] tf r
def VD:Bool:=ce.all fun c=>tf.all fun first=>tf.all fun last=>(ri (c.beq 35)).all fun pw=>(ri (aK c [58,45])).all fun fw=>(ri (aU c)).all fun ps=>(ri (c.beq 32)).all fun pb=>(pZ first last c pw fw ps pb).chk
def Y4:VD=true:=by kernel_rfl
noncomputable def ku(d:Int):AV:=.int ⟨d,[(5,1)]⟩
def nh(txt:SS)(ix:AV)(β:Bd)(b:Bool):cu where
 β:=β
 sp:=ac
 d:=0
 fr:=[]
 f:=.next
 ls:=⟨jt (.str txt) ix (fun k=>.any k) (.any 10) (.any 11) (.any 12) (.any 13),ba⟩
 P:=aT zL (xG 19 (.any 14))
 ss:=aO 7 dZ.b
 k:=17
 out:=jt (.str txt) ix (fun k=>.any k) (.any 10) (.bool b) (.any 12) (.any 13)
 Q:=aT zL (xG 19 (.any 14))
def Xx:(ce.all fun d=>(tf.all fun last=>(nh (.var 2::.lit [d]::Bool.rec [.var 3] [] last) (ku (-1)) (βA false last) (kL d)).chk))=true:=by kernel_rfl
def Wo:((nh [.var 2] (ku (-1)) (βA false true) true).chk&&(nh [.var 2] (ku 0) (βA false true) true).chk)=true:=by kernel_rfl
def um(txt:SS)(β:Bd)(b:Bool):mh where
 β:=β
 ls:=⟨jt (.str txt) (ku 0) (fun k=>.any k) (.any 10) (.any 11) (.any 12) (.any 13),ba⟩
 P:=aT zL (xG 19 (.any 14))
 e:=dZ.t
 b:=b
noncomputable def βT(a b:Int):Bd:=[(0,0),(0,0),(0,0),(0,0),(0,0),(0,a),(0,0),(b,400)]
def Dr:((um [.var 2,.var 3] (βT 400 1) true).chk&&(um [.var 2] (βT 400 0) false).chk)=true:=by kernel_rfl
structure Wr where
 line:Int
 col:Int
 n:Int
 T:ξ
 ws:Bool
 ind:Bool
 oe:Bool
def xw(x:Nat→AV)(W:Wr):Nat→AV:=tO (tO x 13 [some (I W.line),some (I W.col),some (.bool W.ws),some (.bool W.ind),some (.bool W.oe)]) 0 [some (.cell 3)]
def cw(c:Nat→ay)(W:Wr):Nat→ay:=(tO c 0 [none,none,none,some (.inst 771 [(cQ,.cell 4)]),some (.rows (.k W.T) (.k W.n))])
def aS(c:Nat→ay)(x:Nat→AV)(W:Wr):St:=aT (cw c W) (xw x W)
def Af(x:Nat→AV)(col ws ind oe line:AV):Nat→AV:=tO (tO x 13 [some line,some col,some ws,some ind,some oe]) 0 [some (.cell 3)]
def XT(T:SS)(n:ax):Nat→ay:=(tO (fun i=>.any i) 0 [none,none,none,some (.inst 771 [(cQ,.cell 4)]),some (.rows T n)])
def pX(x:Nat→AV)(T:SS)(n:ax)(line col ws ind oe:AV):St:=aT (XT T n) (Af x col ws ind oe line)
def lI(i:Nat):AV:=.int (V i)
def dr(P:Params)(i:Nat→Int)(t:Nat→ξ):Ev:=⟨fun k=>Bool.rec (i (k / 2)) ((t (k / 2)).length:Int) (Nat.beq (k % 2) 1),t,P,fun U=>.none,fun U=>.list 0 [] 0⟩
def cR(P:Params)(i:Nat→Int)(t:Nat→ξ):(dr P i t).Ok:=fun k=>by
 show (Bool.rec (i ((2*k+1) / 2)) ((t ((2*k+1) / 2)).length:Int) (Nat.beq ((2*k+1) % 2) 1):Int)=_;have h1:(2*k+1) / 2=k:=by lia
 have h2:(2*k+1) % 2=1:=by lia
 rw[h1,h2];rfl
noncomputable def BQ(f:Nat→Int):Nat→Bd→Prop
 |_,[]=>True
 |i,p::r=>(p.1≤f i∧f i≤p.2)∧BQ f (i+1) r
theorem IS:∀ {β:Bd} {i:Nat},BQ f i β→∀ v p,qP β v=some p→p.1≤f (i+v)∧f (i+v)≤p.2
 |[],_,_,_,_,h=>by injection h
 |q::r,i,g,0,p,h=>by (apply j1 h;clear h;rintro rfl);exact g.1
 |q::r,i,g,v+1,p,h=>by
  have:=IS g.2 v p h;rw[show i+(v+1)=i+1+v by lia];exact this
def nQ{ε:Ev}(h:BQ ε.iv 0 β):aV β ε:=fun v p hp=>by have:=IS h v p hp;rwa [Nat.zero_add] at this
def Dz.cast(h:Dz Γ n t ls σ f l1 s1)(e1:ls=ls')(e2:σ=σ')(e3:f=f')(e4:l1=l1')(e5:s1=s1'):Dz Γ n t ls' σ' f' l1' s1':=by
 subst e1;subst e2;subst e3;subst e4;subst e5;exact h
def Tz.cast(h:Tz Γ n e ls σ b s1)(e1:ls=ls')(e2:σ=σ')(e5:s1=s1'):Tz Γ n e ls' σ' b s1':=by
 subst e1;subst e2;subst e5;exact h
def Rz.cast(h:Rz Γ n σ f vs r s1)(e1:σ=σ')(e2:vs=vs')(e3:r=r')(e5:s1=s1'):Rz Γ n σ' f vs' r' s1':=by
 subst e1;subst e2;subst e3;subst e5;exact h
def fO(ε:Ev)(i:Nat):(V i).val ε=ε.iv i:=by show 0+(1*ε.iv i+0)=_;lia
def xS(l:List (Nat×AV)):Nat→AV:=fun i=>match eC i l with|some a=>a|none=>.any (30+i)
def vW(x h:Nat→AV):Nat→AV:=fun i=>Bool.rec (h i) (x (i-30)) (Nat.ble 30 i)
def BR(x h:Nat→AV)(i:Nat):vW x h (30+i)=x i:=by
 unfold vW;rw[show Nat.ble 30 (30+i)=true from Zd (by lia),show 30+i-30=i by lia]
def Q5(h:∀ i,x i=y i):fg x=fg y:=by rw[funext h]
section
variable {ε:Ev}{x h:Nat→AV}{c:Nat→ay}
def BX(hl:∀ p∈l,flA (aq ε (vW x h) c) p.2=x p.1)(i:Nat):flA (aq ε (vW x h) c) (xS l i)=x i:=by
 unfold xS;cases q:eC i l with
 |some a=>exact hl (i,a) (wt q)
 |none=>exact BR x h i
def Jd{T:SS}{n:ax}{W:Wr}(hX:∀ i,flA (aq ε (vW x h) c) (X i)=x i)(hT:T.val ε=W.T)(hn:n.val ε=W.n)
  (h1:flA (aq ε (vW x h) c) line=I W.line) (h2:flA (aq ε (vW x h) c) col=I W.col) (h3:flA (aq ε (vW x h) c) ws=.bool W.ws) (h4:flA (aq ε (vW x h) c) ind=.bool W.ind) (h5:flA (aq ε (vW x h) c) oe=.bool W.oe) :
  bL (aq ε (vW x h) c) (pX X T n line col ws ind oe)=aS c x W:=by
 have e1:bL (aq ε (vW x h) c) (pX X T n line col ws ind oe)=[c 0,c 1,c 2,.inst 771 [(cQ,.cell 4)],.rows (.k (T.val ε)) (.k (n.val ε)),fg (fun i=>flA (aq ε (vW x h) c) (Af X col ws ind oe line i)),c 6,c 7,c 8,c 9]:=rfl;rw[e1,hT,hn];have e2:fg (fun i=>flA (aq ε (vW x h) c) (Af X col ws ind oe line i))=fg (xw x W):=by
  show fg (tO (tO (fun i=>flA (aq ε (vW x h) c) (X i)) 13 [some (flA (aq ε (vW x h) c) line),some (flA (aq ε (vW x h) c) col),some (flA (aq ε (vW x h) c) ws),some (flA (aq ε (vW x h) c) ind),some (flA (aq ε (vW x h) c) oe)]) 0 [some (.cell 3)])=_;rw[h1,h2,h3,h4,h5,funext hX];rfl
 rw[e2];rfl
end
def eK(l:List Stmt)(i:Nat):Expr×List Stmt×List Stmt:=match ae l i with|some (.If t b o _)=>(t,b,o)|_=>(.Constant .none 0 default,[],[])
def ck(l:List Stmt)(i:Nat):Pos:=match ae l i with|some (.If _ _ _ p)=>p|_=>default
structure tQ where
 t:Expr
 it:Expr
 b:List Stmt
 p:Pos
def xV(l:List Stmt)(i:Nat):tQ:=match ae l i with|some (.For t it b _ p)=>⟨t,it,b,p⟩|_=>⟨.Constant .none 0 default,.Constant .none 0 default,[],default⟩
section
def lsC(v:ξ)(i:Int)(F:Nat→Bool)(pw fw ps pb:Bool):List (Str×AV):=jt (.str (.k v)) (I i) (fun k=>.bool (F k)) (.bool pw) (.bool fw) (.bool ps) (.bool pb)
def vA(F:Nat→Bool)(pw fw ps pb:Bool)(x:Nat→AV):Nat→AV:=fun i=>Bool.rec (tO (fun k=>.bool (F k)) 10 [some (.bool pw),some (.bool fw),some (.bool ps),some (.bool pb),some (x 19)] i) (x (i-30)) (Nat.ble 30 i)
def pu(ha:a=a')(hb:b=b')(hf:∀ k,k<10→f k=f' k)(hp:p=p')(hq:q=q')(hr:r=r')(hs:s=s'):jt a b f p q r s=jt a' b' f' p' q' r' s':=by
 subst ha;subst hb;subst hp;subst hq;subst hr;subst hs;unfold jt;rw[hf 0 (by decide),hf 1 (by decide),hf 2 (by decide),hf 3 (by decide),hf 4 (by decide),hf 5 (by decide),hf 6 (by decide),hf 7 (by decide),hf 8 (by decide),hf 9 (by decide)]
variable {ε:Ev}{F:Nat→Bool}{pw fw ps pb:Bool}{z:Nat→ay}{x:Nat→AV}
def tu(hk:k<10):flA (aq ε (vA F pw fw ps pb x) z) (.any k)=.bool (F k):=by
 show (Bool.rec (tO _ 10 _ k) _ (Nat.ble 30 k):AV)=_;rw[mC (Nat.lt_trans hk (by decide:10<30))];exact Uh hk
def RX(hk:k<10)(b:Bool):flA (aq ε (vA F pw fw ps pb x) z) (Bool.rec (.any k) tr b)=.bool (b ||F k):=by
 cases b with
 |false=>exact tu hk
 |true=>rfl
def LD:Bool:=ce.all fun c=>tf.all fun first=>tf.all fun last=>tf.all fun pw=>tf.all fun fw=>tf.all fun ps=>tf.all fun pb=>[0,1,2,3,4,5,6,7,8,9].all fun k=>
 uK (jS first last c (c.beq 35&&pw) (aK c [58,45]&&fw) (aU c&&ps) (c.beq 32&&pb) k) (jS first last c pw fw ps pb k)
def Mj:LD=true:=by kernel_rfl
def iV(b:Bool):b∈tf:=by cases b<;>simp [tf]
def vY(r b:Bool):(r&&b)∈ri r:=by cases r<;>cases b<;>simp [ri,tf]
def Op(hc:c∈ce)(first last:Bool)(hk:k<10):jS first last c (c.beq 35&&pw) (aK c [58,45]&&fw) (aU c&&ps) (c.beq 32&&pb) k=jS first last c pw fw ps pb k:=by
 have h:=aB Mj c hc;replace h:=aB h first (iV _)
 replace h:=aB h last (iV _);replace h:=aB h pw (iV _);replace h:=aB h fw (iV _);replace h:=aB h ps (iV _);replace h:=aB h pb (iV _);exact vK (aB h k (show k∈List.range 10 from il hk))
def Tf(hc:c∈ce)(first last:Bool):(pZ first last c (c.beq 35&&pw) (aK c [58,45]&&fw) (aU c&&ps) (c.beq 32&&pb)).chk=true:=by
 have h:=aB Y4 c hc;replace h:=aB h first (iV _)
 replace h:=aB h last (iV _);replace h:=aB h _ (vY (c.beq 35) pw);replace h:=aB h _ (vY (aK c [58,45]) fw);replace h:=aB h _ (vY (aU c) ps);exact aB h _ (vY (c.beq 32) pb)
def s6(r b:Bool)(h:flA (aq ε (vA F pw fw ps pb x) z) (.any i)=.bool b):flA (aq ε (vA F pw fw ps pb x) z) (bA r (r&&b) i)=.bool b:=by
 cases r with
 |false=>exact h
 |true=>rfl
def uw{α:Type}{a b c d x:α}:tn x [a,b,c,d] 2=c:=rfl
def uV{α:Type}{a b c d x:α}:tn x [a,b,c,d] 3=d:=rfl
def Hl(P:Params)(pre post:ξ)(c:Nat):(yV (aI pre) (aI post) c).val (eA P pre post)=pre++c::post:=by
 cases pre<;>cases post<;>first|rfl|exact congrArg (c::·) (apN _)|exact congrArg (fun l=>(_::_)++c::l) (apN _)
def AS(P:Params)(pre post:ξ)(d:Int):(⟨d,[(5,1)]⟩ : ax).val (eA P pre post)=pre.length+d:=by
 show d+(1*(pre.length:Int)+0)=_;lia
def HM(P:Params)(pre post:ξ)(d:Int):flA (aq (eA P pre post) (vA F pw fw ps pb x) z) (Cq (aI pre) d)=I (pre.length+d):=by
 cases pre with
 |nil=>show AV.int (.k ((ax.k d).val _))=_;rw[cF];show I d=I (((0:Nat):Int)+d);congr 1;lia
 |cons a r=>show AV.int (.k ((⟨d,[(5,1)]⟩ : ax).val _))=_;rw[AS];rfl
def nt(P:Params){pre post:ξ}(h:pre.length≤400∧post.length≤400):aV (βA (aI pre) (aI post)) (eA P pre post):=by
 intro i p hp;have z0:∀ {q:Int×Int},some ((0:Int),(0:Int))=some q→q.1≤0∧(0:Int)≤q.2:=fun h=>by (apply j1 h;clear h;rintro rfl);exact⟨cI _,cI _⟩
 match i with
 |0=>exact z0 hp
 |1=>exact z0 hp
 |2=>exact z0 hp
 |3=>exact z0 hp
 |4=>exact z0 hp
 |5=>cases pre with
  |nil=>exact z0 hp
  |cons a r=>(apply j1 hp;clear hp;rintro rfl);have:=h.1;rw[bJ] at this;exact⟨by show (1:Int)≤((a::r).length:Int);rw[bJ];lia,by show ((a::r).length:Int)≤400;rw[bJ];lia⟩
 |6=>exact z0 hp
 |7=>cases post with
  |nil=>exact z0 hp
  |cons a r=>(apply j1 hp;clear hp;rintro rfl);have:=h.2;rw[bJ] at this;exact⟨by show (1:Int)≤((a::r).length:Int);rw[bJ];lia,by show ((a::r).length:Int)≤400;rw[bJ];lia⟩
 |i+8=>injection hp
variable {w:World}{mg mb:ω}{ε0:Ev}
def Ka(hw:ε0.P=w.params){pre post:ξ}(hc:c∈ce)(hl:pre.length≤400∧post.length≤400) :
  aH (ab w mg mb ε0) 150 (aQ 7 dZ.b) ⟨lsC (pre++c::post) pre.length F pw fw ps pb,ba⟩ (aT z x) .next
   ⟨lsC (pre++c::post) (pre.length+1) (fun k=>jS (aI pre) (aI post) c pw fw ps pb k ||F k) (kL c) fw (c.beq 32) (aU c),ba⟩ (aT z x):=by
 have D:aH (ab w mg mb ε0) 150 (aQ 7 dZ.b) _ _ .next _ _ :=
  df (mg:=mg) (mb:=mb) (v:=vA F pw fw ps pb x) (z:=z) hw (ε:=eA ε0.P pre post) rfl (lK ε0.P pre post) (pZ (aI pre) (aI post) c (c.beq 35&&pw) (aK c [58,45]&&fw) (aU c&&ps) (c.beq 32&&pb)) (nt _ hl) ⟨rfl,ZA _,rfl⟩ (Tf hc _ _)
 have e1:cU (aq (eA ε0.P pre post) (vA F pw fw ps pb x) z) (pZ (aI pre) (aI post) c (c.beq 35&&pw) (aK c [58,45]&&fw) (aU c&&ps) (c.beq 32&&pb)).ls=⟨lsC (pre++c::post) pre.length F pw fw ps pb,ba⟩ :=
  congrArg (fun l=>(⟨l,ba⟩ : ag)) (pu (congrArg (fun t=>AV.str (.k t)) (Hl _ _ _ _)) ((HM _ _ _ _).trans (congrArg I (aZ _))) (fun k hk=>tu hk) (s6 _ _ rfl) (s6 _ _ rfl) (s6 _ _ rfl) (s6 _ _ rfl))
 have e2:cU (aq (eA ε0.P pre post) (vA F pw fw ps pb x) z) ⟨(pZ (aI pre) (aI post) c (c.beq 35&&pw) (aK c [58,45]&&fw) (aU c&&ps) (c.beq 32&&pb)).out,ba⟩=⟨lsC (pre++c::post) (pre.length+1) (fun k=>jS (aI pre) (aI post) c pw fw ps pb k ||F k) (kL c) fw (c.beq 32) (aU c),ba⟩ :=
  congrArg (fun l=>(⟨l,ba⟩ : ag)) (pu (congrArg (fun t=>AV.str (.k t)) (Hl _ _ _ _)) (HM _ _ _ _) (fun k hk=>(RX hk _).trans (by rw[Op hc _ _ hk])) rfl (s6 _ _ rfl) rfl rfl)
 rw[show (pZ (aI pre) (aI post) c (c.beq 35&&pw) (aK c [58,45]&&fw) (aU c&&ps) (c.beq 32&&pb)).ls.sc=ba from rfl,e1,e2] at D;exact D
end
section
variable {ε:Ev}{F:Nat→Bool}{pw fw ps pb:Bool}{z:Nat→ay}{x:Nat→AV}{w:World}{mg mb:ω}{ε0:Ev}
def fN(l:ξ):Bool:=match l with|_::d::_=>kL d|_=>true
def Ar(hw:ε0.P=w.params)(hb:aV β (eA ε0.P pre post))(hc:(nh txt (ku d) β b).chk=true)(hv:txt.val (eA ε0.P pre post)=v)(hi:pre.length+d=i) :
  aH (ab w mg mb ε0) 150 (aO 7 dZ.b) ⟨lsC v i F pw fw ps pb,ba⟩ (aT z x) .next ⟨lsC v i F pw b ps pb,ba⟩ (aT z x):=by
 have D:aH (ab w mg mb ε0) 150 (aO 7 dZ.b) _ _ .next _ _ :=
  df (mg:=mg) (mb:=mb) (v:=vA F pw fw ps pb x) (z:=z) hw (ε:=eA ε0.P pre post) rfl (lK ε0.P pre post) (nh txt (ku d) β b) hb ⟨rfl,ZA _,rfl⟩ hc
 have ei:flA (aq (eA ε0.P pre post) (vA F pw fw ps pb x) z) (ku d)=I i:=by show AV.int (.k ((⟨d,[(5,1)]⟩ : ax).val _))=_;rw[AS,hi];rfl
 have e1:cU (aq (eA ε0.P pre post) (vA F pw fw ps pb x) z) (nh txt (ku d) β b).ls=⟨lsC v i F pw fw ps pb,ba⟩ :=
  congrArg (fun l=>(⟨l,ba⟩ : ag)) (pu (congrArg (fun t=>AV.str (.k t)) hv) ei (fun k hk=>tu hk) rfl rfl rfl rfl)
 have e2:cU (aq (eA ε0.P pre post) (vA F pw fw ps pb x) z) ⟨(nh txt (ku d) β b).out,ba⟩=⟨lsC v i F pw b ps pb,ba⟩ :=
  congrArg (fun l=>(⟨l,ba⟩ : ag)) (pu (congrArg (fun t=>AV.str (.k t)) hv) ei (fun k hk=>tu hk) rfl rfl rfl rfl)
 rw[show (nh txt (ku d) β b).ls.sc=ba from rfl,e1,e2] at D;exact D
def Ki(hw:ε0.P=w.params){pre rest:ξ}(hr:∀ c∈rest,c∈ce)(hp:1≤pre.length)(hl:pre.length+rest.length≤400) :
  aH (ab w mg mb ε0) 150 (aO 7 dZ.b) ⟨lsC (pre++rest) pre.length F pw fw ps pb,ba⟩ (aT z x) .next ⟨lsC (pre++rest) pre.length F pw (fN rest) ps pb,ba⟩ (aT z x):=by
 have f2:=aA Wo;have nn:∀ {l:ξ},1≤l.length→aI l=false:=fun {l} h=>by cases l with|nil=>exact absurd h (by decide)|cons=>rfl
 match rest,hr,hl with
 |[],_,hl=>
  have hb:=nt ε0.P (post:=[]) ⟨by simpa using hl,by decide⟩;rw[nn hp] at hb;have D:aH (ab w mg mb ε0) 150 (aO 7 dZ.b) _ _ .next _ _:=Ar (mg:=mg) (mb:=mb) (F:=F) (pw:=pw) (fw:=fw) (ps:=ps) (pb:=pb) (z:=z) (x:=x) (v:=pre++[]) (i:=pre.length) hw (pre:=pre) (post:=[]) hb f2.2 (by simp [SS.val,Pc.val,eA,uw,uV]) (aZ _);exact D
 |[e],_,hl=>
  have hl':(pre++[e]).length≤400:=by rw[au];exact hl
  have hb:=nt ε0.P (pre:=pre++[e]) (post:=[]) ⟨hl',by decide⟩;rw[nn (by rw[au];simp)] at hb;have D:aH (ab w mg mb ε0) 150 (aO 7 dZ.b) _ _ .next _ _:=Ar (mg:=mg) (mb:=mb) (F:=F) (pw:=pw) (fw:=fw) (ps:=ps) (pb:=pb) (z:=z) (x:=x) (v:=pre++[e]) (i:=pre.length) hw (pre:=pre++[e]) (post:=[]) hb f2.1 (by simp [SS.val,Pc.val,eA,uw,uV]) (by rw[au];show ((pre.length+1:Nat):Int)+-1=_;lia);exact D
 |e::d::t,hr,hl=>
  have hl':(pre++[e]).length≤400:=by rw[au];show pre.length+1≤400;have:=hl;simp only [bJ] at this;lia
  have hb:=nt ε0.P (pre:=pre++[e]) (post:=t) ⟨hl',by have:=hl;simp only [bJ] at this;lia⟩;rw[nn (by rw[au];simp)] at hb;have h:=aB Xx d (hr d (.tail _ (.head _)));replace h:=aB h (aI t) (iV _);have D:aH (ab w mg mb ε0) 150 (aO 7 dZ.b) _ _ .next _ _:=Ar (mg:=mg) (mb:=mb) (F:=F) (pw:=pw) (fw:=fw) (ps:=ps) (pb:=pb) (z:=z) (x:=x) (v:=pre++e::d::t) (i:=pre.length) hw (pre:=pre++[e]) (post:=t) hb h (by cases t<;>simp [aI,SS.val,Pc.val,eA,uw,uV]) (by rw[au];show ((pre.length+1:Nat):Int)+-1=_;lia);exact D
def CV(P:Params){pre post:ξ}{a b:Int}(h1:(pre.length:Int)≤a)(h2:b≤post.length)(h3:post.length≤400):aV (βT a b) (eA P pre post):=by
 intro i p hp;have z0:∀ {q:Int×Int},some ((0:Int),(0:Int))=some q→q.1≤0∧(0:Int)≤q.2:=fun h=>by (apply j1 h;clear h;rintro rfl);exact⟨cI _,cI _⟩
 match i with
 |0=>exact z0 hp
 |1=>exact z0 hp
 |2=>exact z0 hp
 |3=>exact z0 hp
 |4=>exact z0 hp
 |5=>(apply j1 hp;clear hp;rintro rfl);exact⟨cW _,h1⟩
 |6=>exact z0 hp
 |7=>(apply j1 hp;clear hp;rintro rfl);exact⟨h2,by show ((post.length:Nat):Int)≤400;lia⟩
 |i+8=>injection hp
def En(hw:ε0.P=w.params){pre post v:ξ}{txt:SS}(hb:aV β (eA ε0.P pre post))(hc:(um txt β b).chk=true)(hv:txt.val (eA ε0.P pre post)=v) :
  Tz (ab w mg mb ε0) 150 dZ.t ⟨lsC v pre.length F pw fw ps pb,ba⟩ (aT z x) b (aT z x):=by
 have D:Tz (ab w mg mb ε0) 150 dZ.t _ _ b _ :=
  vJ (mg:=mg) (mb:=mb) (v:=vA F pw fw ps pb x) (z:=z) hw (ε:=eA ε0.P pre post) rfl (lK ε0.P pre post) (um txt β b) hb hc
 have ei:flA (aq (eA ε0.P pre post) (vA F pw fw ps pb x) z) (ku 0)=I pre.length:=by show AV.int (.k ((⟨0,[(5,1)]⟩ : ax).val _))=_;rw[AS,aZ];rfl
 have e1:cU (aq (eA ε0.P pre post) (vA F pw fw ps pb x) z) (um txt β b).ls=⟨lsC v pre.length F pw fw ps pb,ba⟩ :=
  congrArg (fun l=>(⟨l,ba⟩ : ag)) (pu (congrArg (fun t=>AV.str (.k t)) hv) ei (fun k hk=>tu hk) rfl rfl rfl rfl)
 rw[e1] at D;exact D
noncomputable def lu:ξ→Bool→(Nat→Bool)→Bool→Bool→Bool→(Nat→Bool)×Bool×Bool×Bool
 |[],_,F,pw,ps,pb=>(F,pw,ps,pb)
 |c::r,first,F,pw,ps,pb=>lu r false (fun k=>jS first (aI r) c pw (fN (c::r)) ps pb k ||F k) (kL c) (c.beq 32) (aU c)
def Sf(hw:ε0.P=w.params):∀ (post pre:ξ) (F:Nat→Bool) (pw ps pb:Bool),(∀ c∈post,c∈ce)→pre.length+post.length≤400 →
  Wz (ab w mg mb ε0) 150 dZ.t dZ.b ⟨lsC (pre++post) pre.length F pw (fN post) ps pb,ba⟩ (aT z x)
   ⟨lsC (pre++post) (pre++post).length (lu post (aI pre) F pw ps pb).1 (lu post (aI pre) F pw ps pb).2.1 true (lu post (aI pre) F pw ps pb).2.2.1 (lu post (aI pre) F pw ps pb).2.2.2,ba⟩ (aT z x):=by
 intro L0;induction L0 with
 |nil=>
  intro pre F pw ps pb _ hl;have f:=aA Dr;have G:Tz (ab w mg mb ε0) 150 dZ.t _ _ _ _ :=
   En (mg:=mg) (mb:=mb) (F:=F) (pw:=pw) (fw:=true) (ps:=ps) (pb:=pb) (z:=z) (x:=x) (v:=pre++[]) hw (pre:=pre) (post:=[]) (CV _ (by have:pre.length≤400:=hl;lia) (by decide) (by decide)) f.2 (by simp [SS.val,Pc.val,eA,uw,uV])
  rw[apN] at G ⊢;exact Wz.stop G
 |cons c r ih=>
  intro pre F pw ps pb hr hl;have f:=aA Dr;have hl2:pre.length+(r.length+1)≤400:=hl;have G:Tz (ab w mg mb ε0) 150 dZ.t _ _ _ _ :=
   En (mg:=mg) (mb:=mb) (F:=F) (pw:=pw) (fw:=fN (c::r)) (ps:=ps) (pb:=pb) (z:=z) (x:=x) (v:=pre++c::r) hw (pre:=pre) (post:=c::r) (CV _ (by lia) (by show (1:Int)≤((r.length+1:Nat):Int);lia) (by show r.length+1≤400;lia)) f.1 (by simp [SS.val,Pc.val,eA,uw,uV])
  have B1:aH (ab w mg mb ε0) 150 (aQ 7 dZ.b) _ _ .next _ _:=Ka (mg:=mg) (mb:=mb) (F:=F) (pw:=pw) (fw:=fN (c::r)) (ps:=ps) (pb:=pb) (z:=z) (x:=x) hw (pre:=pre) (post:=r) (hr c (.head _)) ⟨by lia,by lia⟩;have B2:aH (ab w mg mb ε0) 150 (aO 7 dZ.b) _ _ .next _ _:=Ki (mg:=mg) (mb:=mb) (F:=fun k=>jS (aI pre) (aI r) c pw (fN (c::r)) ps pb k ||F k) (pw:=kL c) (fw:=fN (c::r)) (ps:=c.beq 32) (pb:=aU c) (z:=z) (x:=x) hw (pre:=pre++[c]) (rest:=r) (fun d hd=>hr d (.tail _ hd)) (by rw[au];exact Nat.le_add_left 1 _) (by rw[au];show pre.length+1+r.length≤400;lia);have W:Wz (ab w mg mb ε0) 150 dZ.t dZ.b _ _ _ _:=ih (pre++[c]) (fun k=>jS (aI pre) (aI r) c pw (fN (c::r)) ps pb k ||F k) (kL c) (c.beq 32) (aU c) (fun d hd=>hr d (.tail _ hd)) (by rw[au];show pre.length+1+r.length≤400;lia);have en:aI (pre++[c])=false:=by cases pre<;>rfl
  have ea:(pre++[c])++r=pre++c::r:=by simp
  have el:((pre++[c]).length:Int)=pre.length+1:=by rw[au];rfl
  rw[en,ea,el] at W;rw[ea,el] at B2;have B:aH (ab w mg mb ε0) 150 (aQ 7 dZ.b++aO 7 dZ.b) _ _ .next _ _:=Dz.append B1 B2;rw[←Ih] at B;exact Wz.go G B W
end
def gS(sc:AV)(f:Nat→AV):List (Str×AV):=[(aF,.cell 5),(i7,sc),(DT,f 0),(Da,f 1),(HU,f 2),(Gu,f 3),(sH,f 4),(Db,f 5),(Hw,f 6),(Gn,f 7),(IY,f 8),(HX,f 9)]
def dD:St:=aT zL (xG 19 (.any 14))
def pf:cu where
 β:=βA false true
 sp:=ac
 d:=0
 fr:=[]
 f:=.next
 ls:=⟨[(aF,.cell 5),(i7,.str [.var 2])],ba⟩
 P:=dD
 ss:=aQ 11 dF
 k:=12
 out:=gS (.str [.var 2]) (fun U=>ff)
 Q:=dD
def RC:pf.chk=true:=by kernel_rfl
def lY(l:ξ)(more:Bool):SS:=.lit l::Bool.rec [] [.var 3] more
noncomputable def βS:Bd:=[(0,0),(0,0),(0,0),(0,0),(0,0),(0,0),(0,0),(0,400)]
def jW(l:ξ)(more b:Bool):cu where
 β:=βS
 sp:=ac
 d:=0
 fr:=[]
 f:=.next
 ls:=⟨gS (.str (lY l more)) (fun U=>ff),ba⟩
 P:=dD
 ss:=aQ 1 (aO 11 dF)
 k:=12
 out:=gS (.str (lY l more)) (fun k=>.bool (k.blt 2&&b))
 Q:=dD
def za:ξ:=ce.filter fun c=>!c.beq 45
def KW:((za.all fun c=>(jW [c] true false).chk)&&((jW [45] false false).chk&&((za.all fun c=>(jW [45,c] true false).chk)&&((jW [45,45] false false).chk&&(ce.all fun c=>(jW [45,45,c] true (c.beq 45)).chk)))))=true:=by kernel_rfl
def mw(l:ξ)(more b:Bool):cu where
 β:=βS
 sp:=ac
 d:=0
 fr:=[]
 f:=.next
 ls:=⟨gS (.str (lY l more)) (fun k=>.any k),ba⟩
 P:=dD
 ss:=aQ 5 (aO 12 dF)
 k:=17
 out:=jt (.str (lY l more)) (I 0) (fun k=>.any k) tr (.bool b) ff ff
 Q:=dD
def O8:(ce.all fun c=>(mw [c] false true).chk)=true:=by kernel_rfl
def KB:(ce.all fun c=>ce.all fun d=>(mw [c,d] true (kL d)).chk)=true:=by kernel_rfl
def mW(sc ix:AV)(f:Nat→AV)(pw fw ps pb:AV)(g:Nat→AV):List (Str×AV):=jt sc ix f pw fw ps pb++[(wb,g 0),(wG,g 1),(xF,g 2),(xd,g 3),(vu,g 4)]
def pq:cu where
 β:=βA false true
 sp:=ac
 d:=0
 fr:=[]
 f:=.next
 ls:=⟨jt (.str [.var 2]) (.any 15) (fun k=>.any k) (.any 10) (.any 11) (.any 12) (.any 13),ba⟩
 P:=dD
 ss:=aQ 5 (aO 18 dF)
 k:=22
 out:=mW (.str [.var 2]) (.any 15) (fun k=>.any k) (.any 10) (.any 11) (.any 12) (.any 13) (fun U=>tr)
 Q:=dD
def S8:pq.chk=true:=by kernel_rfl
noncomputable def fU(i:Nat):ξ:=match i with|0=>[4,5,6,7]|1=>[6]|2=>[8]|3=>[9,3]|4=>[2]|5=>[1]|_=>[0]
noncomputable def jC(i:Nat):ξ:=match i with|0=>[0,1]|1=>[4]|2=>[0,1,2]|3=>[0,1,2,4]|4=>[0,1]|5=>[0]|_=>[1]
def ij(i:Nat)(F:Nat→Bool):Bool:=(fU i).any F
def nY(i:Nat)(F:Nat→Bool):cu where
 β:=βA false true
 sp:=ac
 d:=0
 fr:=[]
 f:=.next
 ls:=⟨mW (.str [.var 2]) (.any 15) (fun k=>bA (aK k (fU i)) (F k) k) (.any 10) (.any 11) (.any 12) (.any 13) (fun k=>.any (20+k)),ba⟩
 P:=dD
 ss:=aQ 1 (aO (23+i) dF)
 k:=22
 out:=mW (.str [.var 2]) (.any 15) (fun k=>bA (aK k (fU i)) (F k) k) (.any 10) (.any 11) (.any 12) (.any 13) (fun k=>Bool.rec (.any (20+k)) ff (ij i F&&aK k (jC i)))
 Q:=dD
def sX(F:Nat→Bool)(k:Nat)(b:Bool):Nat→Bool:=fun i=>Bool.rec (F i) b (i.beq k)
def OJ(l:ξ)(p:(Nat→Bool)→Bool):Bool:=List.rec (motive:=fun U=>(Nat→Bool)→Bool) p (fun k U ih F=>tf.all fun b=>ih (sX F k b)) l (fun U=>false)
def VU:([0,1,2,3,4,5,6].all fun i=>OJ (fU i) fun F=>(nY i F).chk)=true:=by kernel_rfl
def mU(s:AV)(e m:AV)(g:Nat→AV):AV:=.obj 296 [(i7,s),(CG,e),(A0,m),(wb,g 0),(wG,g 1),(xF,g 2),(xd,g 3),(vu,g 4)]
def qK:cu where
 β:=βA false true
 sp:=ac
 d:=1
 fr:=[]
 ls:=⟨mW (.str [.var 2]) (.any 15) (fun k=>.any k) (.any 10) (.any 11) (.any 12) (.any 13) (fun k=>.any (20+k)),ba⟩
 P:=dD
 ss:=aO 30 dF
 f:=.ret (mU (.str [.var 2]) ff (.any 2) (fun k=>.any (20+k)))
 k:=0
 out:=[]
 Q:=dD
def Vp:qK.chk=true:=by kernel_rfl
def wW:cu where
 β:=[]
 sp:=ac
 d:=1
 fr:=[]
 ls:=⟨[(aF,.cell 5),(i7,.str [])],ba⟩
 P:=dD
 ss:=dF
 f:=.ret (mU (.str []) tr ff (fun k=>.bool (k.beq 1 ||(k.beq 2 ||k.beq 3))))
 k:=0
 out:=[]
 Q:=dD
def U1:wW.chk=true:=by kernel_rfl
section
variable {F:Nat→Bool}{z:Nat→ay}{x:Nat→AV}{w:World}{mg mb:ω}{ε0:Ev}
def vB(F G:Nat→Bool)(a:AV)(b:Nat→AV)(x:Nat→AV):Nat→AV:=fun i=>Bool.rec (Bool.rec (Bool.rec (.bool (F i)) (b (i-10)) (Nat.ble 10 i)) (.bool (G (i-20))) (Nat.ble 20 i)) (x (i-30)) (Nat.ble 30 i)
def kK(v:ξ):Bool:=mT [45,45,45] v
def u8(v:ξ):Nat→Bool:=fun k=>k.blt 2&&kK v
def d8(v:ξ):Nat→Bool:=(lu v true (u8 v) true false false).1
def qO(h:l≠[]):aI l=false:=by cases l with|nil=>exact absurd rfl h|cons=>rfl
def Hc(h:c∈ce)(n:c≠45):c∈za:=List.mem_filter.mpr ⟨h,by cases q:Nat.beq c 45 with|true=>exact absurd (bg q) n|false=>rfl⟩
def KR(hv:v≠[])(ha:∀ c∈v,c∈ce):∃ l more post,(jW l more (kK v)).chk=true∧v=l++Bool.rec [] post more:=by
 have h:=KW;simp only [Y9] at h;apply o6 h;intro h1 h2 h3 h4 h5
 match v,hv,ha with
 |c::r,_,ha=>
  by_cases e:c=45
  ·subst e
   match r,ha with
   |[],_=>exact⟨[45],false,[],h2,rfl⟩
   |d::r,ha=>
    by_cases e:d=45
    ·subst e
     match r,ha with
     |[],_=>exact⟨[45,45],false,[],h4,rfl⟩
     |f::r,ha=>
      refine⟨[45,45,f],true,r,?_,rfl⟩;have e:kK (45::45::f::r)=f.beq 45:=by
       show Bool.rec (motive:=fun U=>Bool) false true (Nat.beq 45 f)=_
       by_cases q:f=45
       ·subst q;rfl
       ·rw[show f.beq 45=false by cases z:Nat.beq f 45 with|true=>exact absurd (bg z) q|false=>rfl,show Nat.beq 45 f=false by cases z:Nat.beq 45 f with|true=>exact absurd (bg z).symm q|false=>rfl]
      rw[e];exact aB h5 f (ha f (.tail _ (.tail _ (.head _))))
    ·refine⟨[45,d],true,r,?_,rfl⟩
     have q:Nat.beq 45 d=false:=by cases z:Nat.beq 45 d with|true=>exact absurd (bg z).symm e|false=>rfl
     have e2:kK (45::d::r)=false:=by
      show Bool.rec (motive:=fun U=>Bool) false _ (Nat.beq 45 d)=_;rw[q]
     rw[e2];exact aB h3 d (Hc (ha d (.tail _ (.head _))) e)
  ·refine⟨[c],true,r,?_,rfl⟩
   have q:Nat.beq 45 c=false:=by cases z:Nat.beq 45 c with|true=>exact absurd (bg z).symm e|false=>rfl
   have e2:kK (c::r)=false:=by
    show Bool.rec (motive:=fun U=>Bool) false _ (Nat.beq 45 c)=_;rw[q]
   rw[e2];exact aB h1 c (Hc (ha c (.head _)) e)
def RB(hv:v≠[])(ha:∀ c∈v,c∈ce):∃ l more post,(mw l more (fN v)).chk=true∧v=l++Bool.rec [] post more:=by
 match v,hv,ha with
 |[c],_,ha=>exact⟨[c],false,[],aB O8 c (ha c (.head _)),rfl⟩
 |c::d::r,_,ha=>exact⟨[c,d],true,r,aB (aB KB c (ha c (.head _))) d (ha d (.tail _ (.head _))),rfl⟩
def Fa(P:Params)(l post:ξ)(more:Bool):(lY l more).val (eA P [] post)=l++Bool.rec [] post more:=by
 cases more
 ·exact rfl
 ·show l++(post++[])=l++post
  rw[apN]
def DC(P:Params){post:ξ}(h:post.length≤400):aV βS (eA P [] post):=by
 intro i p hp;have z0:∀ {q:Int×Int},some ((0:Int),(0:Int))=some q→q.1≤0∧(0:Int)≤q.2:=fun h=>by (apply j1 h;clear h;rintro rfl);exact⟨cI _,cI _⟩
 match i with
 |0=>exact z0 hp
 |1=>exact z0 hp
 |2=>exact z0 hp
 |3=>exact z0 hp
 |4=>exact z0 hp
 |5=>exact z0 hp
 |6=>exact z0 hp
 |7=>(apply j1 hp;clear hp;rintro rfl);exact⟨cW _,by show ((post.length:Nat):Int)≤400;lia⟩
 |i+8=>injection hp
def oM(hx:x 19=b 4):bL (aq ε (vB F G a b x) z) dD=aT z x:=by
 unfold aT fg;rw[hx];rfl
section
variable (hw:ε0.P=w.params){v:ξ}(hv:v≠[])(ha:∀ c∈v,c∈ce)(hl:v.length≤400)
include hw hv ha hl
theorem XN:aH (ab w mg mb ε0) 150 (aQ 11 dF) ⟨[(aF,.cell 5),(i7,.str (.k v))],ba⟩ (aT z x) .next ⟨gS (.str (.k v)) (fun U=>ff),ba⟩ (aT z x):=by
 have hb:=nt ε0.P (pre:=v) (post:=[]) ⟨hl,by decide⟩;rw[qO hv] at hb;have D:=df (mg:=mg) (mb:=mb) (v:=vB (fun U=>false) (fun U=>false) .none (fun U=>x 19) x) (z:=z) hw (ε:=eA ε0.P v []) rfl (lK ε0.P v []) pf hb ⟨rfl,ZA _,rfl⟩ RC;have e:(SS.val (eA ε0.P v []) [.var 2])=v:=apN v;have e1:cU (aq (eA ε0.P v []) (vB (fun U=>false) (fun U=>false) .none (fun U=>x 19) x) z) pf.ls=⟨[(aF,.cell 5),(i7,.str (.k v))],ba⟩:=by
  show (⟨[(aF,AV.cell 5),(i7,AV.str (.k (SS.val (eA ε0.P v []) [.var 2])))],ba⟩ : ag)=_;rw[e]
 have e2:cU (aq (eA ε0.P v []) (vB (fun U=>false) (fun U=>false) .none (fun U=>x 19) x) z) ⟨pf.out,pf.ls.sc⟩=⟨gS (.str (.k v)) (fun U=>ff),ba⟩:=by
  show (⟨gS (AV.str (.k (SS.val (eA ε0.P v []) [.var 2]))) (fun U=>ff),ba⟩ : ag)=_;rw[e]
 rw[e1,e2,show pf.P=dD from rfl,show pf.Q=dD from rfl,oM rfl] at D;exact D
theorem X8:aH (ab w mg mb ε0) 150 (aQ 1 (aO 11 dF)) ⟨gS (.str (.k v)) (fun U=>ff),ba⟩ (aT z x) .next ⟨gS (.str (.k v)) (fun k=>.bool (u8 v k)),ba⟩ (aT z x):=by
 apply sg (KR hv ha);intro l more post hc e;have hp:post.length≤400∨more=false:=by
  cases more
  ·exact .inr rfl
  ·left;rw[e,au] at hl;have hl:l.length+post.length≤400:=hl;lia
 obtain⟨post,hp,e⟩ : ∃ post:ξ,post.length≤400∧v=l++Bool.rec [] post more:=by
  rcases hp with q|q
  ·exact⟨post,q,e⟩
  ·subst q;exact⟨[],by decide,e⟩
 have D:=df (mg:=mg) (mb:=mb) (v:=vB (fun U=>false) (fun U=>false) .none (fun U=>x 19) x) (z:=z) hw (ε:=eA ε0.P [] post) rfl (lK ε0.P [] post) (jW l more (kK v)) (DC _ hp) ⟨rfl,ZA _,rfl⟩ hc;have e0:=(Fa ε0.P l post more).trans e.symm;have e1:cU (aq (eA ε0.P [] post) (vB (fun U=>false) (fun U=>false) .none (fun U=>x 19) x) z) (jW l more (kK v)).ls=⟨gS (.str (.k v)) (fun U=>ff),ba⟩:=by
  show (⟨gS (AV.str (.k (SS.val (eA ε0.P [] post) (lY l more)))) (fun U=>ff),ba⟩ : ag)=_;rw[e0]
 have e2:cU (aq (eA ε0.P [] post) (vB (fun U=>false) (fun U=>false) .none (fun U=>x 19) x) z) ⟨(jW l more (kK v)).out,(jW l more (kK v)).ls.sc⟩=⟨gS (.str (.k v)) (fun k=>.bool (u8 v k)),ba⟩:=by
  show (⟨gS (AV.str (.k (SS.val (eA ε0.P [] post) (lY l more)))) (fun k=>.bool (u8 v k)),ba⟩ : ag)=_;rw[e0]
 rw[e1,e2,show (jW l more (kK v)).P=dD from rfl,show (jW l more (kK v)).Q=dD from rfl,oM rfl] at D;exact D
theorem OI:aH (ab w mg mb ε0) 150 (aQ 5 (aO 12 dF)) ⟨gS (.str (.k v)) (fun k=>.bool (F k)),ba⟩ (aT z x) .next ⟨lsC v 0 F true (fN v) false false,ba⟩ (aT z x):=by
 apply sg (RB hv ha);intro l more post hc e;have hp:post.length≤400∨more=false:=by
  cases more
  ·exact .inr rfl
  ·left;rw[e,au] at hl;have hl:l.length+post.length≤400:=hl;lia
 obtain⟨post,hp,e⟩ : ∃ post:ξ,post.length≤400∧v=l++Bool.rec [] post more:=by
  rcases hp with q|q
  ·exact⟨post,q,e⟩
  ·subst q;exact⟨[],by decide,e⟩
 have D:=df (mg:=mg) (mb:=mb) (v:=vB F (fun U=>false) .none (fun U=>x 19) x) (z:=z) hw (ε:=eA ε0.P [] post) rfl (lK ε0.P [] post) (mw l more (fN v)) (DC _ hp) ⟨rfl,ZA _,rfl⟩ hc;have e0:=(Fa ε0.P l post more).trans e.symm;have e1:cU (aq (eA ε0.P [] post) (vB F (fun U=>false) .none (fun U=>x 19) x) z) (mw l more (fN v)).ls=⟨gS (.str (.k v)) (fun k=>.bool (F k)),ba⟩:=by
  show (⟨gS (AV.str (.k (SS.val (eA ε0.P [] post) (lY l more)))) (fun k=>.bool (F k)),ba⟩ : ag)=_;rw[e0]
 have e2:cU (aq (eA ε0.P [] post) (vB F (fun U=>false) .none (fun U=>x 19) x) z) ⟨(mw l more (fN v)).out,(mw l more (fN v)).ls.sc⟩=⟨lsC v 0 F true (fN v) false false,ba⟩:=by
  show (⟨jt (AV.str (.k (SS.val (eA ε0.P [] post) (lY l more)))) (.int (.k ((ax.k 0).val _))) (fun k=>.bool (F k)) tr (.bool (fN v)) ff ff,ba⟩ : ag)=_;rw[e0,cF];rfl
 rw[e1,e2,show (mw l more (fN v)).P=dD from rfl,show (mw l more (fN v)).Q=dD from rfl,oM rfl] at D;exact D
end
end
section
variable {F:Nat→Bool}{z:Nat→ay}{x:Nat→AV}{w:World}{mg mb:ω}{ε0:Ev}
def xi(ε:Ev):aV [] ε:=fun U U h=>by injection h
def Ff(h:lenA σ'=lenA σ):j7 (lenA σ) v σ'=σ':=by
 unfold j7;rw[h,show Nat.beq (lenA σ) (lenA σ)=true from Nat.beq_refl _]
def rp(hw:ε0.P=w.params)(he:ε0.Ok)(hf:eC f hG=some (cJ f))(hb:iB (cJ f).args (cJ f).dflt vs []=some ls)
  (D:aH (ab w mg mb ε0) n (cJ f).body ⟨ls,(cJ f).sc⟩ σ (.ret r) L σ') (hl:lenA σ'=lenA σ):fnIn (cG w.params) f=true∧Rz (ab w mg mb ε0) (n+5) σ f vs r σ':=by
 have P:gM (ab w mg mb ε0) 0 (xl []):=Ct hw he (xi _);apply bq (P.hf f _ hf);intro g1 g2;refine⟨g1,?_⟩;have H:cg (ab w mg mb ε0) (n+5) σ f vs [] r (j7 (lenA σ) r σ'):=tB g2 hb (Zc _) (.inl rfl) D.h;rw[Ff hl] at H;exact⟨@H⟩
def TF(hw:ε0.P=w.params)(he:ε0.Ok)(hf:eC f hG=some (cJ f))(hb:iB (cJ f).args (cJ f).dflt vs []=some ls)
  (D:aH (ab w mg mb ε0) n (cJ f).body ⟨ls,(cJ f).sc⟩ σ .next L σ') (hl:lenA σ'=lenA σ):fnIn (cG w.params) f=true∧Rz (ab w mg mb ε0) (n+5) σ f vs .none σ':=by
 have P:gM (ab w mg mb ε0) 0 (xl []):=Ct hw he (xi _);apply bq (P.hf f _ hf);intro g1 g2;refine⟨g1,?_⟩;have H:cg (ab w mg mb ε0) (n+5) σ f vs [] .none (j7 (lenA σ) .none σ'):=tB g2 hb (Zc _) (.inr ⟨rfl,rfl⟩) D.h;rw[Ff hl] at H;exact⟨@H⟩
noncomputable def gD(F0:Nat→Bool)(l:ξ)(G:Nat→Bool):Nat→Bool:=match l with|[]=>F0|k::r=>gD (sX F0 k (G k)) r G
def CU(k a:Nat)(r:ξ):aK k (a::r)=(k.beq a ||aK k r):=by
 show Bool.rec (motive:=fun U=>Bool) (aK k r) true (k.beq a)=_;cases k.beq a<;>rfl
def SA:∀ {l:ξ} {F0:Nat→Bool},aK k l=false→gD F0 l G k=F0 k:=by
 intro L0;induction L0 with
 |nil=>
  intro _ _;exact rfl
 |cons a r ih=>
  intro F0 h;rw[CU,Bool.or_eq_false_iff] at h;show gD (sX F0 a (G a)) r G k=_;rw[ih h.2];show Bool.rec (motive:=fun U=>Bool) (F0 k) (G a) (k.beq a)=_;rw[h.1]
def Gd:∀ {l:ξ} {F0:Nat→Bool},aK k l=true→gD F0 l G k=G k:=by
 intro L0;induction L0 with
 |nil=>
  intro _ h;injection h
 |cons a r ih=>
  intro F0 h;rw[CU] at h;show gD (sX F0 a (G a)) r G k=_;cases q:aK k r with
  |true=>exact ih q
  |false=>
   rw[SA q];rw[q,Bool.or_false] at h;show Bool.rec (motive:=fun U=>Bool) (F0 k) (G a) (k.beq a)=_;rw[h,bg h]
def O3:∀ {l:ξ} {F0:Nat→Bool},List.rec (motive:=fun U=>(Nat→Bool)→Bool) p (fun k U ih F=>tf.all fun b=>ih (sX F k b)) l F0=true→p (gD F0 l G)=true:=by
 intro L0;induction L0 with
 |nil=>
  intro _ h;exact h
 |cons a r ih=>
  intro F0 h;exact ih (aB h (G a) (iV _))
def U2:∀ {l:ξ},(∀ k∈l,F k=G k)→l.any F=l.any G:=by
 intro L0;induction L0 with
 |nil=>
  intro _;exact rfl
 |cons a r ih=>
  intro h;rw[List.any_cons,List.any_cons,h a (.head _),ih fun k hk=>h k (.tail _ hk)]
def Q8(i:Nat)(G:Nat→Bool):ij i (gD (fun U=>false) (fU i) G)=ij i G:=U2 fun U hk=>Gd (qM.mpr hk)
def Kv(i k:Nat)(G:Nat→Bool):bA (aK k (fU i)) (gD (fun U=>false) (fU i) G k) k=bA (aK k (fU i)) (G k) k:=by
 cases q:aK k (fU i) with
 |true=>rw[Gd q]
 |false=>rfl
def wT(ha:a=a')(hb:b=b')(hf:∀ k,k<10→f k=f' k)(hp:p=p')(hq:q=q')(hr:r=r')(hs:s=s')(hg:∀ k,k<5→g k=g' k):mW a b f p q r s g=mW a' b' f' p' q' r' s' g':=by
 unfold mW;rw[pu ha hb hf hp hq hr hs,hg 0 (by decide),hg 1 (by decide),hg 2 (by decide),hg 3 (by decide),hg 4 (by decide)]
def ny(v:ξ)(i:Int)(F:Nat→Bool)(pw fw ps pb:Bool)(G:Nat→Bool):List (Str×AV):=mW (.str (.k v)) (I i) (fun k=>.bool (F k)) (.bool pw) (.bool fw) (.bool ps) (.bool pb) (fun k=>.bool (G k))
def b6(pw fw ps pb:Bool)(y:AV)(i:Int):Nat→AV:=(tn (I i) [.bool pw,.bool fw,.bool ps,.bool pb,y])
section
variable {pw fw ps pb:Bool}{i:Int}{G:Nat→Bool}{ε:Ev}
def wI(hk:k<10)(a:AV)(b:Nat→AV):flA (aq ε (vB F G a b x) z) (.any k)=.bool (F k):=by
 show (Bool.rec (Bool.rec (Bool.rec (.bool (F k)) _ (Nat.ble 10 k)) _ (Nat.ble 20 k)) _ (Nat.ble 30 k):AV)=_;rw[mC hk,mC (Nat.lt_trans hk (by decide:10<20)),mC (Nat.lt_trans hk (by decide:10<30))]
def BY(hk:k<5)(a:AV)(b:Nat→AV):flA (aq ε (vB F G a b x) z) (.any (20+k))=.bool (G k):=by
 show (Bool.rec (Bool.rec _ (.bool (G (20+k-20))) (Nat.ble 20 (20+k))) _ (Nat.ble 30 (20+k)):AV)=_;rw[Zd (Nat.le_add_right 20 k),mC (show 20+k<30 from Nat.lt_of_lt_of_le (Nat.add_lt_add_left hk 20) (by decide)),Zt]
variable (hw:ε0.P=w.params){v:ξ}(hv:v≠[])(hl:v.length≤400)
include hw hv hl
theorem WJ:aH (ab w mg mb ε0) 150 (aQ 5 (aO 18 dF)) ⟨lsC v i F pw fw ps pb,ba⟩ (aT z x) .next ⟨ny v i F pw fw ps pb (fun U=>true),ba⟩ (aT z x):=by
 have hb:=nt ε0.P (pre:=v) (post:=[]) ⟨hl,by decide⟩;rw[qO hv] at hb;have D:=df (mg:=mg) (mb:=mb) (v:=vB F (fun U=>false) .none (b6 pw fw ps pb (x 19) i) x) (z:=z) hw (ε:=eA ε0.P v []) rfl (lK ε0.P v []) pq hb ⟨rfl,ZA _,rfl⟩ S8;have e:(SS.val (eA ε0.P v []) [.var 2])=v:=apN v;have e1:cU (aq (eA ε0.P v []) (vB F (fun U=>false) .none (b6 pw fw ps pb (x 19) i) x) z) pq.ls=⟨lsC v i F pw fw ps pb,ba⟩ :=
  congrArg (fun l=>(⟨l,ba⟩ : ag)) (pu (congrArg (fun t=>AV.str (.k t)) e) rfl (fun k hk=>wI hk _ _) rfl rfl rfl rfl)
 have e2:cU (aq (eA ε0.P v []) (vB F (fun U=>false) .none (b6 pw fw ps pb (x 19) i) x) z) ⟨pq.out,pq.ls.sc⟩=⟨ny v i F pw fw ps pb (fun U=>true),ba⟩ :=
  congrArg (fun l=>(⟨l,ba⟩ : ag)) (wT (congrArg (fun t=>AV.str (.k t)) e) rfl (fun k hk=>wI hk _ _) rfl rfl rfl rfl (g:=fun U=>tr) (g':=fun U=>.bool true) (fun k hk=>rfl))
 rw[e1,e2,show pq.P=dD from rfl,show pq.Q=dD from rfl,oM rfl] at D;exact D
theorem ol(m:Nat)(hm:m∈[0,1,2,3,4,5,6]):aH (ab w mg mb ε0) 150 (aQ 1 (aO (23+m) dF)) ⟨ny v i F pw fw ps pb G,ba⟩ (aT z x) .next ⟨ny v i F pw fw ps pb (fun k=>G k&&!(ij m F&&aK k (jC m))),ba⟩ (aT z x):=by
 have hb:=nt ε0.P (pre:=v) (post:=[]) ⟨hl,by decide⟩;rw[qO hv] at hb;have hc:(nY m (gD (fun U=>false) (fU m) F)).chk=true:=O3 (aB VU m hm);have D:=df (mg:=mg) (mb:=mb) (v:=vB F G .none (b6 pw fw ps pb (x 19) i) x) (z:=z) hw (ε:=eA ε0.P v []) rfl (lK ε0.P v []) (nY m (gD (fun U=>false) (fU m) F)) hb ⟨rfl,ZA _,rfl⟩ hc;have e:(SS.val (eA ε0.P v []) [.var 2])=v:=apN v;have ef:∀ k,k<10→flA (aq (eA ε0.P v []) (vB F G .none (b6 pw fw ps pb (x 19) i) x) z) (bA (aK k (fU m)) (gD (fun U=>false) (fU m) F k) k)=.bool (F k):=fun k hk=>by
  rw[Kv];cases aK k (fU m) with
  |true=>rfl
  |false=>exact wI hk _ _
 have e1:cU (aq (eA ε0.P v []) (vB F G .none (b6 pw fw ps pb (x 19) i) x) z) (nY m (gD (fun U=>false) (fU m) F)).ls=⟨ny v i F pw fw ps pb G,ba⟩ :=
  congrArg (fun l=>(⟨l,ba⟩ : ag)) (wT (congrArg (fun t=>AV.str (.k t)) e) rfl ef rfl rfl rfl rfl (fun k hk=>BY hk _ _))
 have e2:cU (aq (eA ε0.P v []) (vB F G .none (b6 pw fw ps pb (x 19) i) x) z) ⟨(nY m (gD (fun U=>false) (fU m) F)).out,(nY m (gD (fun U=>false) (fU m) F)).ls.sc⟩=⟨ny v i F pw fw ps pb (fun k=>G k&&!(ij m F&&aK k (jC m))),ba⟩ :=
  congrArg (fun l=>(⟨l,ba⟩ : ag)) (wT (congrArg (fun t=>AV.str (.k t)) e) rfl ef rfl rfl rfl rfl (g:=fun k=>flA (aq (eA ε0.P v []) (vB F G .none (b6 pw fw ps pb (x 19) i) x) z) (Bool.rec (motive:=fun U=>AV) (.any (20+k)) ff (ij m (gD (fun U=>false) (fU m) F)&&aK k (jC m)))) (g':=fun k=>.bool (G k&&!(ij m F&&aK k (jC m)))) (fun k hk=>by
   rw[Q8];cases q:(ij m F&&aK k (jC m)) with
   |true=>show ff=AV.bool (G k&&false);rw[Bool.and_false];rfl
   |false=>show flA _ (.any (20+k))=AV.bool (G k&&true);rw[Bool.and_true];exact BY hk _ _))
 rw[e1,e2,show (nY m (gD (fun U=>false) (fU m) F)).P=dD from rfl,show (nY m (gD (fun U=>false) (fU m) F)).Q=dD from rfl,oM rfl] at D;exact D
theorem XI:aH (ab w mg mb ε0) 150 (aO 30 dF) ⟨ny v i F pw fw ps pb G,ba⟩ (aT z x) (.ret (mU (.str (.k v)) ff (.bool (F 2)) (fun k=>.bool (G k)))) ⟨[],ba⟩ (aT z x):=by
 have hb:=nt ε0.P (pre:=v) (post:=[]) ⟨hl,by decide⟩;rw[qO hv] at hb;have D:=df (mg:=mg) (mb:=mb) (v:=vB F G .none (b6 pw fw ps pb (x 19) i) x) (z:=z) hw (ε:=eA ε0.P v []) rfl (lK ε0.P v []) qK hb ⟨rfl,by decide,rfl⟩ Vp;have e:(SS.val (eA ε0.P v []) [.var 2])=v:=apN v;have e1:cU (aq (eA ε0.P v []) (vB F G .none (b6 pw fw ps pb (x 19) i) x) z) qK.ls=⟨ny v i F pw fw ps pb G,ba⟩ :=
  congrArg (fun l=>(⟨l,ba⟩ : ag)) (wT (congrArg (fun t=>AV.str (.k t)) e) rfl (fun k hk=>wI hk _ _) rfl rfl rfl rfl (fun k hk=>BY hk _ _))
 have e2:fF (aq (eA ε0.P v []) (vB F G .none (b6 pw fw ps pb (x 19) i) x) z) qK.f=.ret (mU (.str (.k v)) ff (.bool (F 2)) (fun k=>.bool (G k))):=by
  show Fl.ret (mU (.str (.k (SS.val (eA ε0.P v []) [.var 2]))) ff (.bool (F 2)) (fun k=>.bool (G k)))=_;rw[e]
 rw[e1,e2,show qK.P=dD from rfl,show qK.Q=dD from rfl,oM rfl] at D;exact D
end
def Qx:dF=aQ 11 dF++(aQ 1 (aO 11 dF)++(aQ 5 (aO 12 dF)++(.While dZ.t dZ.b [] dZ.p::(aQ 5 (aO 18 dF)++(aQ 1 (aO (23+0) dF)++(aQ 1 (aO (23+1) dF)++(aQ 1 (aO (23+2) dF)++(aQ 1 (aO (23+3) dF)++(aQ 1 (aO (23+4) dF)++(aQ 1 (aO (23+5) dF)++(aQ 1 (aO (23+6) dF)++aO 30 dF))))))))))):=by kernel_rfl
def De:eC 629 hG=some (cJ 629):=by kernel_rfl
def uC(v:ξ):Bool:=d8 v 2
def gF(v:ξ)(k:Nat):Bool:=(((((((true&&!(ij 0 (d8 v)&&aK k (jC 0)))&&!(ij 1 (d8 v)&&aK k (jC 1)))&&!(ij 2 (d8 v)&&aK k (jC 2)))&&!(ij 3 (d8 v)&&aK k (jC 3)))&&!(ij 4 (d8 v)&&aK k (jC 4)))&&!(ij 5 (d8 v)&&aK k (jC 5)))&&!(ij 6 (d8 v)&&aK k (jC 6)))
def xh(v:ξ):AV:=mU (.str (.k v)) (.bool (aI v)) (.bool (uC v)) (fun k=>.bool (Bool.rec (gF v k) (k.beq 1 ||(k.beq 2 ||k.beq 3)) (aI v)))
def NP(hw:ε0.P=w.params)(he:ε0.Ok)(ha:∀ c∈v,c∈ce)(hl:v.length≤400):fnIn (cG w.params) 629=true∧Rz (ab w mg mb ε0) 155 (aT z x) 629 [.cell 5,.str (.k v)] (xh v) (aT z x):=by
 by_cases hv:v=[]
 ·subst hv
  have D:=df (mg:=mg) (mb:=mb) (v:=vB (fun U=>false) (fun U=>false) .none (fun U=>x 19) x) (z:=z) hw (ε:=eA ε0.P [] []) rfl (lK ε0.P [] []) wW (xi _) ⟨rfl,by decide,rfl⟩ U1;rw[show wW.P=dD from rfl,show wW.Q=dD from rfl,oM rfl] at D;exact rp hw he De (by kernel_rfl) D rfl
 ·have B:aH (ab w mg mb ε0) 150 dF ⟨[(aF,.cell 5),(i7,.str (.k v))],ba⟩ (aT z x) (.ret (mU (.str (.k v)) ff (.bool (d8 v 2)) (fun k=>.bool (gF v k)))) ⟨[],ba⟩ (aT z x):=by
   have L:=Sf (mg:=mg) (mb:=mb) (x:=x) (z:=z) hw v [] (u8 v) true false false ha (by simpa using hl);rw[Qx];exact(XN hw hv ha hl).append ((X8 hw hv ha hl).append ((OI hw hv ha hl).append (Dz.cons (Dz.while_ L) ((WJ hw hv hl).append ((ol hw hv hl 0 (by decide)).append ((ol hw hv hl 1 (by decide)).append ((ol hw hv hl 2 (by decide)).append ((ol hw hv hl 3 (by decide)).append ((ol hw hv hl 4 (by decide)).append ((ol hw hv hl 5 (by decide)).append ((ol hw hv hl 6 (by decide)).append (XI hw hv hl))))))))))))
  have R:=rp hw he De (vs:=[.cell 5,.str (.k v)]) (ls:=[(aF,.cell 5),(i7,.str (.k v))]) (by kernel_rfl) B rfl;have e:xh v=mU (.str (.k v)) ff (.bool (d8 v 2)) (fun k=>.bool (gF v k)):=by
   unfold xh uC;rw[qO hv];rfl
  rw[e];exact R
end
def k6:List Stmt:=(cJ 711).body
def fD:List (Str×NameKind):=(cJ 711).sc
def lV:Expr×List Stmt×List Stmt:=eK k6 1
def uO(b:AV):St:=aT zL (xS [(20,b)])
def fq(tx:SS)(h:SS):List (Str×AV):=[(aF,.cell 5),(dI,.str tx),(cS,.str h)]
noncomputable def βH:Bd:=[(0,0),(0,0),(0,0),(0,0),(0,0),(0,400),(0,0),(0,400),(0,0),(0,0),(0,0),(0,0),(0,0),(0,3)]
def wr(ss:List Stmt)(ls:List (Str×AV))(b:AV)(f:Fl)(k:Nat)(out:List (Str×AV)):cu:=⟨βH,ac,1,[],⟨ls,fD⟩,uO b,ss,f,k,out,uO b⟩
noncomputable def cO:ξ:=[2,3,4,9]
def du(best c:Nat):ξ:=Bool.rec [] [best+48] (aK c [32,10,133,8232,8233])
def DW:cu:=wr (aQ 1 k6) [(aF,.cell 5),(dI,.str [.var 2])] (.any 50) .next 3 (fq [.var 2] [])
def GN(best c:Nat):cu:=wr (aQ 1 lV.2.1) (fq [.lit [c],.var 3] []) (I best) .next 3 (fq [.lit [c],.var 3] (.k (du best c)))
def I5(c:Nat):mh:=⟨βH,⟨fq [.lit [c],.var 3] [],fD⟩,uO (.any 50),lV.1,true⟩
def uN(tx:SS)(e:SS):cu:=wr (aO 1 lV.2.1) (fq tx [.var 6]) (.any 50) .next 3 (fq tx (.var 6::e))
def Ht:cu:=wr (aO 2 k6) (fq [.var 2] [.var 6]) (.any 50) (.ret (.str [.var 6])) 0 []
def JK:((ce.all fun c=>(I5 c).chk&&(cO.all fun b=>(GN b c).chk))&&((ce.all fun e=>Bool.rec (uN [.var 2,.lit [e]] [.lit [45]]).chk ((uN [.lit [e]] [.lit [43]]).chk&&(ce.all fun d=>(uN [.var 2,.lit [d,e]] (Bool.rec [] [.lit [43]] (aU d))).chk)) (aU e))&&(DW.chk&&Ht.chk)))=true:=by kernel_rfl
def dE(v:ξ):ξ:=match v.reverse with
 |[]=>[]
 |e::r=>Bool.rec [45] (match r with|[]=>[43]|d::_=>Bool.rec [] [43] (aU d)) (aU e)
def bt(best:Nat)(v:ξ):ξ:=match v with|[]=>[]|c::_=>du best c++dE v
def LZ(hv:v≠[])(ha:∀ c∈v,c∈ce):∃ (tx:SS) (e:SS) (A:ξ),(uN tx e).chk=true∧A.length≤v.length∧(∀ P i t,t 2=A→tx.val (dr P i t)=v)∧(∀ ε,e.val ε=dE v):=by
 have ok:=JK;simp only [Y9] at ok;replace ok:=ok.2.1;obtain⟨m,e,rfl⟩ : ∃ m e,v=m++[e]:=⟨v.dropLast,v.getLast hv,(Zu hv).symm⟩;have he:=aB ok e (ha e (dU _ (.head _)));have hE:dE (m++[e])=Bool.rec [45] (match m.reverse with|[]=>[43]|d::_=>Bool.rec [] [43] (aU d)) (aU e):=by
  unfold dE;rw[Zn];rfl
 cases hB:aU e with
 |false=>
  rw[hB] at he hE;exact⟨_,_,m,he,by simp,fun P i t ht=>by show t 2++([e]++[])=_;rw[ht];rfl,fun ε=>by rw[hE];rfl⟩
 |true=>
  rw[hB] at he hE;replace he:=aA he
  by_cases hm:m=[]
  ·subst hm
   exact⟨_,_,[],he.1,by simp,fun P i t U=>rfl,fun ε=>by rw[hE];rfl⟩
  ·obtain⟨m',d,rfl⟩ : ∃ m' d,m=m'++[d]:=⟨m.dropLast,m.getLast hm,(Zu hm).symm⟩
   have hd:=aB he.2 d (ha d (bn _ (dU _ (.head _))));refine⟨_,_,m',hd,by simp,fun P i t ht=>by show t 2++([d,e]++[])=_;rw[ht,aC];rfl,fun ε=>?_⟩;rw[hE,Zn];show SS.val ε (Bool.rec [] [.lit [43]] (aU d))=Bool.rec [] [43] (aU d);cases aU d<;>rfl
section
variable {x:Nat→AV}{z:Nat→ay}{w:World}{mg mb:ω}{ε0:Ev}{best:Nat}
def kM(P:Params)(A post h:ξ):Ev:=dr P (fun U=>0) (tn [] [[],[],A,post,[],[],h])
def pz{A post h:ξ}(h1:A.length≤400)(h2:post.length≤400)(h3:h.length≤3):aV βH (kM P A post h):=nQ (by
 have e0:∀ a:Int,a≤a:=fun U=>cI _;exact⟨⟨e0 0,e0 0⟩,⟨e0 0,e0 0⟩,⟨e0 0,e0 0⟩,⟨e0 0,e0 0⟩,⟨e0 0,e0 0⟩,⟨cW _,by show (A.length:Int)≤400;lia⟩,⟨e0 0,e0 0⟩,⟨cW _,by show (post.length:Int)≤400;lia⟩,⟨e0 0,e0 0⟩,⟨e0 0,e0 0⟩,⟨e0 0,e0 0⟩,⟨e0 0,e0 0⟩,⟨e0 0,e0 0⟩,⟨cW _,by show (h.length:Int)≤3;lia⟩,trivial⟩)
def lw(hb:flA (aq ε (vW x h) z) b=x 20):bL (aq ε (vW x h) z) (uO b)=aT z x:=by
 have e1:bL (aq ε (vW x h) z) (uO b)=[z 0,z 1,z 2,z 3,z 4,fg (fun i=>flA (aq ε (vW x h) z) (xS [(20,b)] i)),z 6,z 7,z 8,z 9]:=rfl;rw[e1,Q5 (y:=x) (fun i=>BX (fun p hp=>by rw[bU hp];exact hb) i)];rfl
def PZ:eC 711 hG=some (cJ 711):=by kernel_rfl
def S7:k6=aQ 1 k6++(.If lV.1 (aQ 1 lV.2.1++aO 1 lV.2.1) [] (ck k6 1)::aO 2 k6):=by kernel_rfl
def zy(best c:Nat):(du best c).length≤1:=by unfold du;cases aK c [32,10,133,8232,8233]<;>simp
set_option tactic.hygienic true in
def Dm(v:ξ):(dE v).length≤1:=by
 unfold dE
 split
 ·simp
 ·rename_i e r _
  cases aU e with
  |false=>simp
  |true=>
   split
   ·simp
   ·rename_i d _ _;cases aU d<;>simp
def YO(hw:ε0.P=w.params)(he:ε0.Ok)(hb:best∈cO)(hx:x 20=I best)(hv:v≠[])(ha:∀ c∈v,c∈ce)(hl:v.length≤400) :
  fnIn (cG w.params) 711=true∧Rz (ab w mg mb ε0) 155 (aT z x) 711 [.cell 5,.str (.k v)] (.str (.k (bt best v))) (aT z x):=by
 have ok:=JK;simp only [Y9] at ok;obtain⟨c,r,rfl⟩ : ∃ c r,v=c::r:=by cases v with|nil=>exact absurd rfl hv|cons c r=>exact⟨c,r,rfl⟩
 have hc:=aA (aB ok.1 c (ha c (.head _)));have hr:r.length≤400:=by rw[bJ] at hl;lia
 have x20:∀ ε h,flA (aq ε (vW x h) z) (.any 50)=x 20:=fun ε h=>BR x h 20;have D0:aH (ab w mg mb ε0) 150 (aQ 1 k6) ⟨[(aF,.cell 5),(dI,.str (.k (c::r)))],fD⟩ (aT z x) .next ⟨fq (.k (c::r)) [],fD⟩ (aT z x):=by
  refine(df (v:=vW x fun U=>.none) hw (ε:=kM ε0.P (c::r) [] []) rfl (cR _ _ _) DW (pz hl (by decide) (by decide)) ⟨rfl,(by decide:1≤12),rfl⟩ ok.2.2.1).cast ?_ (lw (x20 _ _)) rfl ?_ (lw (x20 _ _))
  ·show (⟨[(aF,AV.cell 5),(dI,AV.str (.k ((c::r)++[])))],fD⟩ : ag)=_;rw[apN]
  ·show (⟨fq (.k ((c::r)++[])) (.k []),fD⟩ : ag)=_;rw[apN];rfl
 have T0:Tz (ab w mg mb ε0) 150 lV.1 ⟨fq (.k (c::r)) [],fD⟩ (aT z x) true (aT z x):=by
  refine(vJ (v:=vW x fun U=>.none) hw (ε:=kM ε0.P [] r []) rfl (cR _ _ _) (I5 c) (pz (by decide) hr (by decide)) hc.1).cast ?_ (lw (x20 _ _)) (lw (x20 _ _));show (⟨fq (.k ([c]++(r++[]))) (.k []),fD⟩ : ag)=_;rw[apN];rfl
 have DA:aH (ab w mg mb ε0) 150 (aQ 1 lV.2.1) ⟨fq (.k (c::r)) [],fD⟩ (aT z x) .next ⟨fq (.k (c::r)) (.k (du best c)),fD⟩ (aT z x):=by
  have hj:=aB hc.2 best hb;have b20:∀ ε h,flA (aq ε (vW x h) z) (I best)=x 20:=fun ε h=>by rw[hx];show AV.int (.k ((ax.k best).val _))=_;rw[cF];rfl
  refine(df (v:=vW x fun U=>.none) hw (ε:=kM ε0.P [] r []) rfl (cR _ _ _) (GN best c) (pz (by decide) hr (by decide)) ⟨rfl,(by decide:1≤12),rfl⟩ hj).cast ?_ (lw (b20 _ _)) rfl ?_ (lw (b20 _ _))
  ·show (⟨fq (.k ([c]++(r++[]))) (.k []),fD⟩ : ag)=_;rw[apN];rfl
  ·show (⟨fq (.k ([c]++(r++[]))) (.k (SS.val _ (.k (du best c)))),fD⟩ : ag)=_;rw[apN,dY];rfl
 apply d5 (LZ hv ha);intro tx e A hj hA etx ee;have lA:=zy best c;have lE:=Dm (c::r);have DB:aH (ab w mg mb ε0) 150 (aO 1 lV.2.1) ⟨fq (.k (c::r)) (.k (du best c)),fD⟩ (aT z x) .next ⟨fq (.k (c::r)) (.k (bt best (c::r))),fD⟩ (aT z x):=by
  refine(df (v:=vW x fun U=>.none) hw (ε:=kM ε0.P A [] (du best c)) rfl (cR _ _ _) (uN tx e) (pz (by lia) (by decide) (by lia)) ⟨rfl,(by decide:1≤12),rfl⟩ hj).cast ?_ (lw (x20 _ _)) rfl ?_ (lw (x20 _ _))
  ·show (⟨fq (.k (tx.val _)) (.k (du best c++[])),fD⟩ : ag)=_;rw[apN,show tx.val (kM ε0.P A [] (du best c))=_ from etx _ _ _ rfl]
  ·show (⟨fq (.k (tx.val _)) (.k (du best c++e.val _)),fD⟩ : ag)=_;rw[ee,show tx.val (kM ε0.P A [] (du best c))=_ from etx _ _ _ rfl];rfl
 have DZ:aH (ab w mg mb ε0) 150 (aO 2 k6) ⟨fq (.k (c::r)) (.k (bt best (c::r))),fD⟩ (aT z x) (.ret (.str (.k (bt best (c::r))))) ⟨[],fD⟩ (aT z x):=by
  refine(df (v:=vW x fun U=>.none) hw (ε:=kM ε0.P (c::r) [] (bt best (c::r))) rfl (cR _ _ _) Ht (pz hl (by decide) (by show (du best c++dE (c::r)).length≤3;rw[au];lia)) ⟨rfl,(by decide:1≤12),rfl⟩ ok.2.2.2).cast ?_ (lw (x20 _ _)) ?_ rfl (lw (x20 _ _))
  ·show (⟨fq (.k ((c::r)++[])) (.k (bt best (c::r)++[])),fD⟩ : ag)=_;rw[apN,apN]
  ·show Fl.ret (.str (.k (bt best (c::r)++[])))=_;rw[apN]
 have B:aH (ab w mg mb ε0) 150 k6 ⟨[(aF,.cell 5),(dI,.str (.k (c::r)))],fD⟩ (aT z x) (.ret (.str (.k (bt best (c::r))))) ⟨[],fD⟩ (aT z x):=by
  rw[S7];exact D0.append ((Dz.if_ T0 (DA.append DB)).cons DZ)
 exact rp hw he PZ (by kernel_rfl) B rfl
end
def pi:List Stmt:=(cJ 811).body
def lR:List (Str×NameKind):=(cJ 811).sc
def R5:eC 811 hG=some (cJ 811):=by kernel_rfl
def UW:pi=aQ 1 pi++aO 1 pi:=by kernel_rfl
def mD(tx:SS)(b:AV):List (Str×AV):=[(d6,.str tx),(gL,b)]
def Dj(best c:Nat):cu:=⟨βH,ac,3,[],⟨mD [.lit [c],.var 3] (I best),lR⟩,([]:St),aQ 1 pi,.next,3,mD [.lit [c],.var 3] (I best)++[(cS,.str (.k (du best c)))],([]:St)⟩
def Hu(tx e:SS):cu:=⟨βH,ac,3,[],⟨mD tx (.any 20)++[(cS,.str [.var 6])],lR⟩,([]:St),aO 1 pi,.ret (.str (.var 6::e)),0,[],([]:St)⟩
def FM(K:SS→SS→Bool):Bool:=ce.all fun e=>Bool.rec (K [.var 2,.lit [e]] [.lit [45]]) (K [.lit [e]] [.lit [43]]&&(ce.all fun d=>K [.var 2,.lit [d,e]] (Bool.rec [] [.lit [43]] (aU d)))) (aU e)
def PQ{K:SS→SS→Bool}(ok:FM K=true){v:ξ}(hv:v≠[])(ha:∀ c∈v,c∈ce):∃ (tx:SS) (e:SS) (A:ξ),K tx e=true∧A.length≤v.length∧(∀ P i t,t 2=A→tx.val (dr P i t)=v)∧(∀ ε,e.val ε=dE v):=by
 obtain⟨m,e,rfl⟩ : ∃ m e,v=m++[e]:=⟨v.dropLast,v.getLast hv,(Zu hv).symm⟩;have he:=aB ok e (ha e (dU _ (.head _)));have hE:dE (m++[e])=Bool.rec [45] (match m.reverse with|[]=>[43]|d::_=>Bool.rec [] [43] (aU d)) (aU e):=by
  unfold dE;rw[Zn];rfl
 cases hB:aU e with
 |false=>
  rw[hB] at he hE;exact⟨_,_,m,he,by simp,fun P i t ht=>by show t 2++([e]++[])=_;rw[ht];rfl,fun ε=>by rw[hE];rfl⟩
 |true=>
  rw[hB] at he hE;replace he:=aA he
  by_cases hm:m=[]
  ·subst hm
   exact⟨_,_,[],he.1,by simp,fun P i t U=>rfl,fun ε=>by rw[hE];rfl⟩
  ·obtain⟨m',d,rfl⟩ : ∃ m' d,m=m'++[d]:=⟨m.dropLast,m.getLast hm,(Zu hm).symm⟩
   have hd:=aB he.2 d (ha d (bn _ (dU _ (.head _))));refine⟨_,_,m',hd,by simp,fun P i t ht=>by show t 2++([d,e]++[])=_;rw[ht,aC];rfl,fun ε=>?_⟩;rw[hE,Zn];show SS.val ε (Bool.rec [] [.lit [43]] (aU d))=Bool.rec [] [43] (aU d);cases aU d<;>rfl
def Xa:((ce.all fun c=>cO.all fun b=>(Dj b c).chk)&&FM fun tx e=>(Hu tx e).chk)=true:=by kernel_rfl
section
variable {w:World}{mg mb:ω}{ε0:Ev}{best:Nat}
def QU(hw:ε0.P=w.params)(he:ε0.Ok)(hb:best∈cO)(hv:v≠[])(ha:∀ c∈v,c∈ce)(hl:v.length≤400) :
  fnIn (cG w.params) 811=true∧Rz (ab w mg mb ε0) 155 [] 811 [.str (.k v),I best] (.str (.k (bt best v))) []:=by
 have ok:=aA Xa;obtain⟨c,r,rfl⟩ : ∃ c r,v=c::r:=by cases v with|nil=>exact absurd rfl hv|cons c r=>exact⟨c,r,rfl⟩
 have hc:=aB (aB ok.1 c (ha c (.head _))) best hb;have hr:r.length≤400:=by rw[bJ] at hl;lia
 have eI:∀ ε h,flA (aq ε h .any) (I best)=I best:=fun ε h=>by show AV.int (.k ((ax.k best).val _))=_;rw[cF];rfl
 have DA:aH (ab w mg mb ε0) 150 (aQ 1 pi) ⟨mD (.k (c::r)) (I best),lR⟩ [] .next ⟨mD (.k (c::r)) (I best)++[(cS,.str (.k (du best c)))],lR⟩ []:=by
  refine(df (v:=fun U=>.none) (z:=.any) hw (ε:=kM ε0.P [] r []) rfl (cR _ _ _) (Dj best c) (pz (by decide) hr (by decide)) ⟨rfl,(by decide:3≤12),rfl⟩ hc).cast ?_ rfl rfl ?_ rfl
  ·show (⟨mD (.k ([c]++(r++[]))) (flA _ (I best)),lR⟩ : ag)=_;rw[apN,eI];rfl
  ·show (⟨mD (.k ([c]++(r++[]))) (flA _ (I best))++[(cS,.str (.k (SS.val _ (.k (du best c)))))],lR⟩ : ag)=_;rw[apN,dY,eI];rfl
 apply d5 (PQ ok.2 hv ha);intro tx e A hj hA etx ee;have lA:=zy best c;have DB:aH (ab w mg mb ε0) 150 (aO 1 pi) ⟨mD (.k (c::r)) (I best)++[(cS,.str (.k (du best c)))],lR⟩ [] (.ret (.str (.k (bt best (c::r))))) ⟨[],lR⟩ []:=by
  refine(df (v:=fun U=>I best) (z:=.any) hw (ε:=kM ε0.P A [] (du best c)) rfl (cR _ _ _) (Hu tx e) (pz (by lia) (by decide) (by lia)) ⟨rfl,(by decide:3≤12),rfl⟩ hj).cast ?_ rfl ?_ rfl rfl
  ·show (⟨mD (.k (tx.val _)) (I best)++[(cS,.str (.k (du best c++[])))],lR⟩ : ag)=_;rw[apN,show tx.val (kM ε0.P A [] (du best c))=_ from etx _ _ _ rfl]
  ·show Fl.ret (.str (.k (du best c++e.val _)))=_;rw[ee];rfl
 have B:=DA.append DB;rw[←UW] at B;exact rp hw he R5 (by kernel_rfl) B rfl
end
def zX:List Str:=[wM,rd,zU,y8,uF,jp,B3,o7,zq,AF,zr,Ai,A6,AX,yz,xr,wH,A3,vP,yd,yD,yu,zw,BV,Bw,AT,Ak,qi]
noncomputable def CK:List Str→List (Str×AV)→κ (List AV)
 |[],[]=>some []
 |n::ns,p::r=>gd (seq p.1 n) (ob (CK ns r) fun t=>some (p.2::t))
 |_,_=>none
def qU{α:Type}(d:α)(l:List α)(i:Nat):α:=Option.rec d id (ae l i)
def BA(l:List AV)(i:Nat):AV:=qU .none l i
def jl(σ:St)(i:Nat):ay:=qU (.list []) σ i
def Jn(σ:St):κ ((Nat→ay)×(Nat→AV)):=gd (Nat.beq (lenA σ) 10) (obp (nN σ 5) fun C fs=>gd (C.beq 736) (ob (CK zX fs) fun l=>some (jl σ,BA l)))
theorem Fe:∀ {ns:List Str} {fs:List (Str×AV)} {l:List AV},CK ns fs=some l→fs=ns.zip l∧l.length=ns.length
 |[],[],l,h=>by (apply j1 h;clear h;rintro rfl);exact⟨rfl,rfl⟩
 |[],_::_,_,h=>by injection h
 |_::_,[],_,h=>by injection h
 |n::ns,p::r,l,h=>by
  apply bV h;clear h;intro h1 h;apply aE h;clear h;intro t h2 h;(apply j1 h;clear h;rintro rfl);apply bq (Fe h2);intro e1 e2;exact⟨by rw[List.zip_cons_cons,←e1,←iw.mp h1],congrArg (·+1) e2⟩
def Hq{α:Type}(d:α){l:List α}(h:l.length=n):l=(List.range n).map (qU d l):=by
 apply List.ext_getElem?;intro i;rw[List.getElem?_map]
 by_cases hi:i<n
 ·rw[List.getElem?_range hi]
  show l[i]?=some (qU d l i);unfold qU;rw[dt,List.getElem?_eq_getElem (h▸hi)];rfl
 ·rw[ZG (h▸Nat.le_of_not_lt hi),ZG (by rw[List.length_range];exact Nat.le_of_not_lt hi)];rfl
def Oh{σ:St}{c:Nat→ay}{x:Nat→AV}(h:Jn σ=some (c,x)):σ=aT c x:=by
 apply bV h;clear h;intro h0 h;apply b8 h;clear h;intro C fs h1 h;apply bV h;clear h;intro h2 h;apply aE h;clear h;intro l h3 h;(apply j2 h;clear h;rintro rfl rfl);apply bq (Fe h3);intro e1 e2;obtain rfl:=bg h2;replace h0:=bg h0;rw[aR] at h0;have e3:fs=zX.zip ((List.range 28).map (BA l)):=by rw[e1];exact congrArg zX.zip (Hq (n:=28) AV.none e2)
 have e5:jl σ 5=fg (BA l):=by
  unfold jl qU;rw[rZ h1,e3];rfl
 have e:σ=[jl σ 0,jl σ 1,jl σ 2,jl σ 3,jl σ 4,jl σ 5,jl σ 6,jl σ 7,jl σ 8,jl σ 9]:=(Hq (ay.list []) h0).trans (by kernel_rfl);rw[e5] at e;exact e
abbrev sT:=(Nat→ay)→(Nat→AV)→List AV→κ (AV×(Nat→ay)×(Nat→AV))
def JU{α:Type}(l:List α):κ (α×List α):=List.rec none (fun a r U=>some (a,r)) l
def XU{α:Type}{l r:List α}{a:α}(h:JU l=some (a,r)):l=a::r:=by
 cases l with
 |nil=>injection h
 |cons b t=>(apply j2 h;clear h;rintro rfl rfl);rfl
def nF(β:Bd)(g:sT)(σ:St)(vs:List AV):κ (AV×St):=obp (JU vs) fun v as=>gd (dG v (.cell 5)) (obp (Jn σ) fun c x=>nA (g c x as) fun r c' x'=>gd (vq β (lv r++iJ (aT c' x'))) (some (r,aT c' x')))
def Nk{α β γ δ:Type}{m:κ (α×β×γ)}{f:α→β→γ→κ δ}{d:δ}(h:nA m f=some d):∃ a b c,m=some (a,b,c)∧f a b c=some d:=by
 induction m using oO with
 |none=>injection h
 |some p=>exact⟨p.1,p.2.1,p.2.2,rfl,h⟩
def Bm{Γ:aw}{β:Bd}(he:Γ.ε.Ok)(hb:aV β Γ.ε){g:sT}{f:Addr}{n:Nat} (H:∀ c x as r c' x',g c x as=some (r,c',x')→fnIn Γ.K f=true∧∃ r',(∀ imm ρ val,VR Γ imm ρ val r'→VR Γ imm ρ val (flA (bx Γ.ε) r)) ∧
   Rz Γ n (aT (fun i=>fC (bx Γ.ε) (c i)) (fun i=>flA (bx Γ.ε) (x i))) f (.cell 5::bX (bx Γ.ε) as) r' (aT (fun i=>fC (bx Γ.ε) (c' i)) (fun i=>flA (bx Γ.ε) (x' i))))
  {σ:St} {vs:List AV} {p:AV×St} (h:nF β g σ vs=some p):fnIn Γ.K f=true∧Rz Γ n σ f vs p.1 p.2:=by
 apply b8 h;intro v as h0 k0;clear h;apply bV k0;intro hv k1;clear k0;obtain rfl:=XU h0;obtain rfl:=gX _ _ hv;apply b8 k1;intro c x h1 k2;apply sg (Nk k2);intro r c' x' h2 k3;apply bV k3;intro h3 k4;(apply j1 k4;clear k4;rintro rfl);replace h1:=Oh h1;subst h1;obtain⟨h4,r',h5,h6⟩:=H c x as r c' x' h2;refine⟨h4,?_⟩;have R:Rz Γ n (bL (bx Γ.ε) (aT c x)) f (bX (bx Γ.ε) (.cell 5::as)) (flA (bx Γ.ε) r) (bL (bx Γ.ε) (aT c' x')):=⟨by
  intro c0 A s m ls imm cs vals kwv Rq C R hv hk hk2 k;exact h6.h C R hv hk hk2 fun h' tk imm' cs' val R' x' hx=>k h' tk imm' cs' val R' x' (h5 _ _ _ hx)⟩
 exact⟨cg.unz he hb h3 R⟩
noncomputable def tM(o:κ Bool):Bool:=match o with|some b=>b|none=>false
def ig(β:Bd)(v:AV)(lo hi:Int):Bool:=match v with|.int l=>tM (jX β (.k lo) l)&&tM (jX β l (.k hi))|_=>false
def JN(h:tM o=true):o=some true:=by
 cases o with
 |none=>injection h
 |some b=>exact congrArg some h
def GR{β:Bd}{ε:Ev}(hb:aV β ε){v:AV}{lo hi:Int}(h:ig β v lo hi=true):∃ l,v=.int l∧lo≤l.val ε∧l.val ε≤hi:=by
 induction v using AV.casesOn with
 |int l=>
  replace h:=aA (show (tM (jX β (.k lo) l)&&tM (jX β l (.k hi)))=true from h);have h1:=wc hb (JN h.1);have h2:=wc hb (JN h.2);rw[cF] at h1 h2;exact⟨l,rfl,ZB h1.symm,ZB h2.symm⟩
 |_=>injection h
noncomputable def gw(oc:κ Nat):SS:=match oc with|some c=>[.var 2,.var 4,.lit [c],.var 3]|none=>[.var 2,.var 4]
noncomputable def cP(oc:κ Nat):AV:=match oc with|some c=>.str [.lit [c]]|none=>.none
def gT:AV:=.int (V 5)
noncomputable def ew(d:Int):AV:=.int ⟨d,[(5,1),(9,1)]⟩
structure bp (W:Wr) (K:Int):Prop where
 l0:0≤W.line
 l1:W.line+K≤100000
 c0:0≤W.col
 c1:W.col≤100000
 n0:0≤W.n
 n1:W.n+K≤100000
 t1:(W.T.length:Int)+50*K≤100000
structure eH (ind:Int) (nl A s post:ξ):Prop where
 i:2≤ind∧ind≤40
 nl:1≤nl.length∧nl.length≤2
 v:A.length+s.length+post.length≤400
def sV(nl:ξ)(c:Nat):ξ:=Bool.rec [c] nl (c.beq 10)
def db(nl:ξ)(W:Wr)(c:Nat):Wr:={W with T:=W.T++sV nl c,line:=W.line+1,n:=W.n+1,col:=0}
def bW(nl:ξ)(W:Wr)(s:ξ):Wr:=s.foldl (db nl) W
noncomputable def gK(ind:Int)(W:Wr):Wr:={W with T:=W.T++List.replicate ind.toNat 32,n:=W.n+1,col:=ind}
section
variable {x:Nat→AV}{c:Nat→ay}{w:World}{mg mb:ω}{ε0:Ev}{W:Wr}{ind:Int}{nl A s post:ξ}
noncomputable def cV(A s:ξ)(oc:κ Nat)(post:ξ):ξ:=match oc with|some c=>A++(s++c::post)|none=>A++s
variable {hi:AV}(hw:ε0.P=w.params)(hws:W.ws=true)(hin:W.ind=true)(h7:x 7=I ind)(h22:x 22=.str (.k nl))(hb:bp W 0)(hg:eH ind nl A s post)
include hw hws hin h7 h22 hb hg
end
def qG:List Stmt:=(cJ 718).body
def aP:List (Str×NameKind):=(cJ 718).sc
def cL:t6:=wm qG 8
def gh(tx:SS)(hi le sp br st en:AV):List (Str×AV):=[(aF,.cell 5),(dI,.str tx),(cS,hi),(sH,le),(vf,sp),(xH,br),(vD,st),(wq,en)]
def lg(tx:SS)(hi le sp br st en ch:AV):List (Str×AV):=gh tx hi le sp br st en++[(H4,ch)]
noncomputable def t5:Bd:=[(0,100000),(0,100000),(0,100000),(0,0),(0,100000),(0,400),(2,40),(0,400),(0,1000),(0,400),(0,1000),(1,2)]
def NW(bw:AV):Nat→AV:=xS [(7,lI 6),(21,bw),(22,.str [.var 5])]
def dg(bw:AV)(T:SS)(d dl:Int)(col:AV):St:=pX (NW bw) T ⟨d,[(0,1)]⟩ (.int ⟨dl,[(2,1)]⟩) col tr tr (.any 24)
def jb(ss:List Stmt)(ls:List (Str×AV))(σ:St)(k:Nat)(out:List (Str×AV))(σ':St):cu:=⟨t5,ac,3,[],⟨ls,aP⟩,σ,ss,.next,k,out,σ'⟩
noncomputable def dk:AV:=.any 23
def ui(sp br:Bool)(c:Nat):cu:=jb cL.b (gh (gw (some c)) (.any 20) (.any 21) (.bool sp) (.bool br) gT (ew 0)) (dg dk [.var 0] 0 0 (lI 4)) 8 (gh (gw (some c)) (.any 20) (.any 21) (.bool sp) (.bool br) gT (ew 1)) (dg dk [.var 0] 0 0 (lI 4))
def tU(c:Nat):cu:=jb cL.b (gh (gw (some c)) (.any 20) (.any 21) ff ff gT (ew 0)) (dg dk [.var 0] 0 0 (lI 4)) 8 (gh (gw (some c)) (.any 20) (.any 21) (.bool (c.beq 32)) (.bool (c.beq 10)) (ew 0) (ew 1)) (dg dk [.var 0,.var 4] 1 0 (.int ⟨0,[(4,1),(9,1)]⟩))
def Ek:cu:=jb cL.b (gh (gw none) (.any 20) (.any 21) ff ff gT (ew 0)) (dg dk [.var 0] 0 0 (lI 4)) 8 (gh (gw none) (.any 20) (.any 21) ff ff (ew 0) (ew 1)) (dg dk [.var 0,.var 4,.var 5] 2 1 (I 0))
def BK(c:Nat):cu:=jb cL.b (gh [.var 2,.lit [32,c],.var 3] (.any 20) (.any 21) tr ff gT (.int ⟨1,[(5,1)]⟩)) (dg (.int ⟨1,[(6,1),(8,1)]⟩) [.var 0] 0 0 (.int ⟨2,[(6,1),(8,1),(10,1)]⟩)) 8
 (gh [.var 2,.lit [32,c],.var 3] (.any 20) (.any 21) ff (.bool (c.beq 10)) (.int ⟨1,[(5,1)]⟩) (.int ⟨2,[(5,1)]⟩)) (dg (.int ⟨1,[(6,1),(8,1)]⟩) [.var 0,.var 5,.rep 32 (V 6)] 2 1 (lI 6))
def Aw(c:Nat):cu:=jb cL.b (gh [.var 2,.lit [32,c],.var 3] (.any 20) (.any 21) tr ff gT (.int ⟨1,[(5,1)]⟩)) (dg (.int ⟨0,[(4,1),(10,1)]⟩) [.var 0] 0 0 (lI 4)) 8
 (gh [.var 2,.lit [32,c],.var 3] (.any 20) (.any 21) ff (.bool (c.beq 10)) (.int ⟨1,[(5,1)]⟩) (.int ⟨2,[(5,1)]⟩)) (dg (.int ⟨0,[(4,1),(10,1)]⟩) [.var 0,.lit [32]] 1 0 (.int ⟨1,[(4,1)]⟩))
def By(c:Nat):cu:=jb cL.b (gh [.var 2,.lit [32,32],.var 4,.lit [c],.var 3] (.any 20) (.any 21) tr ff gT (.int ⟨2,[(5,1),(9,1)]⟩)) (dg dk [.var 0] 0 0 (lI 4)) 8
 (gh [.var 2,.lit [32,32],.var 4,.lit [c],.var 3] (.any 20) (.any 21) ff (.bool (c.beq 10)) (.int ⟨2,[(5,1),(9,1)]⟩) (.int ⟨3,[(5,1),(9,1)]⟩)) (dg dk [.var 0,.lit [32,32],.var 4] 1 0 (.int ⟨2,[(4,1),(9,1)]⟩))
def gq:ξ:=ce.filter fun c=>!(c.beq 10 ||c.beq 32)
def Uv:(gq.all fun c=>(ui false false c).chk)=true:=by kernel_rfl
def FL:((ui false true 10).chk&&(ui true false 32).chk)=true:=by kernel_rfl
def Ji:((tU 32).chk&&(tU 10).chk)=true:=by kernel_rfl
def Pt:Ek.chk=true:=by kernel_rfl
def YU:((10::gq).all fun c=>(BK c).chk)=true:=by kernel_rfl
def RR:((10::gq).all fun c=>(Aw c).chk)=true:=by kernel_rfl
def SX:((10::gq).all fun c=>(By c).chk)=true:=by kernel_rfl
def sm:Expr×List Stmt×List Stmt:=eK cL.b 2
def iC:Expr×List Stmt×List Stmt:=eK sm.2.1 0
def mq:Expr×List Stmt×List Stmt:=eK iC.2.1 0
def fb:tQ:=xV iC.2.1 2
def CQ:cL.b=aQ 2 cL.b++(.If sm.1 [.If iC.1 (.If mq.1 mq.2.1 [] (ck iC.2.1 0)::(aQ 1 (aO 1 iC.2.1)++.For fb.t fb.it fb.b [] fb.p::aO 3 iC.2.1)) [] (ck sm.2.1 0)] sm.2.2 (ck cL.b 2)::aO 3 cL.b):=by kernel_rfl
def wu(tx:SS)(oc:κ Nat)(en:AV):cu:=jb (aQ 2 cL.b) (gh tx (.any 20) (.any 21) ff tr gT en) (dg dk [.var 0] 0 0 (lI 4)) 9 (lg tx (.any 20) (.any 21) ff tr gT en (cP oc)) (dg dk [.var 0] 0 0 (lI 4))
def xZ(e:Expr)(le:AV)(tx:SS)(oc:κ Nat)(en:AV)(b:Bool):mh:=⟨t5,⟨lg tx (.any 20) le ff tr gT en (cP oc),aP⟩,dg dk [.var 0] 0 0 (lI 4),e,b⟩
noncomputable def n5(c:Nat):SS:=[.var 2,.lit [10],.var 4,.lit [c],.var 3]
noncomputable def mI(d:Int):AV:=.int ⟨d+1,[(5,1),(9,1)]⟩
def mZ:List (κ Nat):=none::(32::gq).map some
def Ty(oc:κ Nat):cu:=wu (gw oc) oc (ew 0)
def rC(e:Expr)(le:AV)(oc:κ Nat)(b:Bool):mh:=xZ e le (gw oc) oc (ew 0) b
def vV:(mZ.all fun oc=>(Ty oc).chk&&((rC sm.1 (.any 21) oc true).chk&&((rC iC.1 (.any 21) oc true).chk&&(rC mq.1 tr oc false).chk)))=true:=by kernel_rfl
def GX:((rC mq.1 ff none false).chk&&(rC mq.1 ff (some 32) false).chk)=true:=by kernel_rfl
def WA(c:Nat):cu:=wu (n5 c) (some c) (mI 0)
def Bh(e:Expr)(le:AV)(c:Nat)(b:Bool):mh:=xZ e le (n5 c) (some c) (mI 0) b
def Vo:(gq.all fun c=>(WA c).chk&&((Bh sm.1 (.any 21) c true).chk&&((Bh iC.1 (.any 21) c true).chk&&(Bh mq.1 ff c true).chk)))=true:=by kernel_rfl
def A4(ls:List (Str×AV)):cu:=jb mq.2.1 ls (dg dk [.var 0] 0 0 (lI 4)) 9 ls (dg dk [.var 0,.var 5] 1 1 (I 0))
def mY(tx:SS)(le en:AV)(oc:κ Nat):List (Str×AV):=lg tx (.any 20) le ff tr gT en (cP oc)
def L9:(gq.all fun c=>(A4 (mY (n5 c) ff (mI 0) (some c))).chk)=true:=by kernel_rfl
def sS(tx:SS)(en:AV)(oc:κ Nat):cu:=jb (aQ 1 (aO 1 iC.2.1)) (mY tx (.any 21) en oc) (dg dk [.var 0] 0 0 (lI 4)) 9 (mY tx (.bool (dG (cP oc) (cP (some 32)))) en oc) (dg dk [.var 0] 0 0 (lI 4))
def IV:((mZ.all fun oc=>(sS (gw oc) (ew 0) oc).chk)&&(gq.all fun c=>(sS (n5 c) (mI 0) (some c)).chk))=true:=by kernel_rfl
def mc(tx:SS)(en:AV)(oc:κ Nat)(r:SS):nz:=⟨t5,ac,0,[],⟨mY tx (.any 21) en oc,aP⟩,dg dk [.var 0] 0 0 (lI 4),fb.it,.str r,dg dk [.var 0] 0 0 (lI 4)⟩
def H5:((mZ.all fun oc=>(mc (gw oc) (ew 0) oc [.var 4]).chk)&&(gq.all fun c=>(mc (n5 c) (mI 0) (some c) [.lit [10],.var 4]).chk))=true:=by kernel_rfl
def Pj(tx hi le sp br st en ch b:AV):List (Str×AV):=[(aF,.cell 5),(dI,tx),(cS,hi),(sH,le),(vf,sp),(xH,br),(vD,st),(wq,en),(H4,ch),(na,b)]
def DP:List (Str×AV):=Pj (.any 19) (.any 20) (.any 21) (.any 22) (.any 25) (.any 26) (.any 27) (.any 28) (.str [.lit [10]])
def F8:cu:=jb fb.b DP (dg dk [.var 0] 0 0 (lI 4)) 10 DP (dg dk [.var 0,.var 5] 1 1 (I 0))
def Q0:F8.chk=true:=by kernel_rfl
def rJ(tx:SS)(en:AV)(oc:κ Nat):cu:=match oc with
 |some _=>jb (aO 3 iC.2.1) (mY tx (.any 21) en oc) (dg dk [.var 0] 0 0 (I 0)) 9 (lg tx (.any 20) (.any 21) ff tr en en (cP oc)) (dg dk [.var 0,.rep 32 (V 6)] 1 0 (lI 6))
 |none=>jb (aO 3 iC.2.1) (mY tx (.any 21) en oc) (dg dk [.var 0] 0 0 (I 0)) 9 (lg tx (.any 20) (.any 21) ff tr en en (cP oc)) (dg dk [.var 0] 0 0 (I 0))
def Ii:((mZ.all fun oc=>(rJ (gw oc) (ew 0) oc).chk)&&(gq.all fun c=>(rJ (n5 c) (mI 0) (some c)).chk))=true:=by kernel_rfl
def u9(tx:SS)(en en':AV)(oc:κ Nat):cu:=jb (aO 3 cL.b) (lg tx (.any 20) (.any 21) ff tr gT en (cP oc)) (dg dk [.var 0] 0 0 (lI 4)) 8 (gh tx (.any 20) (.any 21) (.bool (dG (cP oc) (cP (some 32)))) (.bool oc.isNone) gT en') (dg dk [.var 0] 0 0 (lI 4))
def Fw:((mZ.all fun oc=>(u9 (gw oc) (ew 0) (ew 1) oc).chk)&&(gq.all fun c=>(u9 (n5 c) (mI 0) (mI 1) (some c)).chk))=true:=by kernel_rfl
def uo(oc:κ Nat)(d:Int)(b:Bool):mh:=⟨t5,⟨gh (gw oc) (.any 20) (.any 21) (.any 22) (.any 25) (.any 26) (ew d),aP⟩,dg dk [.var 0] 0 0 (lI 4),cL.t,b⟩
def IQ:((ce.all fun c=>(uo (some c) 0 true).chk)&&((uo none 0 true).chk&&(uo none 1 false).chk))=true:=by kernel_rfl
section
variable {x:Nat→AV}{c:Nat→ay}{w:World}{mg mb:ω}{ε0:Ev}{W:Wr}{ind:Int}{nl A s post:ξ}{hi:AV}
variable (hw:ε0.P=w.params)(he:ε0.Ok)(hws:W.ws=true)(hin:W.ind=true)(h7:x 7=I ind)(h22:x 22=.str (.k nl))(hb:bp W 0)(hg:eH ind nl A s post)
noncomputable def bZ(ch:Nat):AV:=.str [.lit [ch]]
theorem nH:∀ {W:Wr},(bW nl W s).ws=W.ws∧(bW nl W s).ind=W.ind∧(bW nl W s).oe=W.oe∧(bW nl W s).line=W.line+s.length∧(bW nl W s).n=W.n+s.length∧((bW nl W s).col=0∨(s=[]∧(bW nl W s).col=W.col)):=by
 induction s with
 |nil=>intro W;exact⟨rfl,rfl,rfl,(aZ _).symm,(aZ _).symm,.inr ⟨rfl,rfl⟩⟩
 |cons a r ih=>
  intro W;apply lX (ih (W:=db nl W a));intro a1 a2 a3 a4 a5 a6;have e:bW nl W (a::r)=bW nl (db nl W a) r:=rfl;rw[e];refine⟨a1,a2,a3,?_,?_,.inl ?_⟩
  ·rw[a4,bJ];show W.line+1+_=_;lia
  ·rw[a5,bJ];show W.n+1+_=_;lia
  ·rcases a6 with q|⟨rfl,q⟩
   ·exact q
   ·exact rfl
theorem GJ(nl:ξ):∀ (s:ξ) (W:Wr),(bW nl W s).T=W.T++s.flatMap (sV nl):=by
 intro L0;induction L0 with
 |nil=>
  intro W;exact(apN _).symm
 |cons a r ih=>
  intro W;show (bW nl (db nl W a) r).T=_;rw[ih,List.flatMap_cons,←aC];rfl
theorem Kl{nl:ξ}(h:1≤nl.length∧nl.length≤2)(c:Nat):(sV nl c).length≤2:=by
 unfold sV;cases c.beq 10
 ·show ([c]:ξ).length≤2;simp
 ·exact h.2
theorem Em{nl:ξ}(h:1≤nl.length∧nl.length≤2):∀ s:ξ,(s.flatMap (sV nl)).length≤2*s.length:=by
 intro L0;induction L0 with
 |nil=>
  exact Zc _
 |cons a r ih=>
  rw[List.flatMap_cons,au,bJ];have:=Kl h a;have:=ih;lia
theorem bp.mono{W:Wr}{K K':Int}(h:bp W K)(hk:K'≤K):bp W K':=⟨h.l0,by have:=h.l1;lia,h.c0,h.c1,h.n0,by have:=h.n1;lia,by have:=h.t1;lia⟩
theorem k8{W:Wr}{nl s:ξ}(hn:1≤nl.length∧nl.length≤2){K:Int}(h:bp W (K+s.length)):bp (bW nl W s) K:=by
 apply lX (nH);intro _ _ _ a4 a5 a6;have t:=Em hn s;have h1:=h.l0;have h2:=h.l1;have h3:=h.c0;have h4:=h.c1;have h5:=h.n0;have h6:=h.n1;have h7:=h.t1;refine⟨by rw[a4];lia,by rw[a4];lia,?_,?_,by rw[a5];lia,by rw[a5];lia,by rw[GJ,au];push_cast;lia⟩
 ·rcases a6 with q|⟨_,q⟩<;>rw[q]<;>first|decide|exact h3
 ·rcases a6 with q|⟨_,q⟩<;>rw[q]<;>first|decide|exact h4
end
def εG(P:Params)(W:Wr)(ind γ δ:Int)(nl A s post:ξ):Ev:=dr P (tn 0 [W.n,W.line,W.col,ind,γ,δ]) (tn [] [W.T,[],A,post,s,nl])
structure wp (γ δ:Int):Prop where
 g:0≤γ∧γ≤1000
 d:0≤δ∧δ≤1000
def gV(h:bp W 0)(g:eH ind nl A s post)(g2:wp γ δ):aV t5 (εG P W ind γ δ nl A s post):=nQ (by
 have e0:∀ a:Int,a≤a:=fun U=>cI _;have h1:=h.l1;have h2:=h.n1;have h3:=h.t1;have h4:=g.v;have h5:=g.nl.1;have h6:=g.nl.2;refine⟨⟨h.n0,by show W.n≤100000;lia⟩,⟨cW _,by show (W.T.length:Int)≤100000;lia⟩,⟨h.l0,by show W.line≤100000;lia⟩,⟨e0 0,e0 0⟩,⟨h.c0,h.c1⟩,⟨cW _,by show (A.length:Int)≤400;lia⟩,g.i,⟨cW _,by show (post.length:Int)≤400;lia⟩,g2.g,⟨cW _,by show (s.length:Int)≤400;lia⟩,g2.d,⟨by show (1:Int)≤(nl.length:Int);lia,by show (nl.length:Int)≤2;lia⟩,trivial⟩)
section
variable {x:Nat→AV}{c:Nat→ay}{w:World}{mg mb:ω}{ε0:Ev}{W:Wr}{ind γ δ:Int}{nl A s post:ξ}
def hF(hi le bw oe:AV):Nat→AV:=tO (fun U=>.none) 20 [some hi,some le,none,some bw,some oe]
def dA{P:Params}{h:Nat→AV}{bw:AV}(h24:h 24=.bool W.oe)(hws:W.ws=true)(hin:W.ind=true)(h7:x 7=I ind)(h21:flA (aq (εG P W ind γ δ nl A s post) (vW x h) c) bw=x 21)(h22:x 22=.str (.k nl)){T:SS}{d dl:Int}{col:AV}{W':Wr}(hT:T.val (εG P W ind γ δ nl A s post)=W'.T)(hn:W.n+d=W'.n)(hl:W.line+dl=W'.line)
  (hc:flA (aq (εG P W ind γ δ nl A s post) (vW x h) c) col=I W'.col) (e1:W'.ws=W.ws) (e2:W'.ind=W.ind) (e3:W'.oe=W.oe):bL (aq (εG P W ind γ δ nl A s post) (vW x h) c) (dg bw T d dl col)=aS c x W':=by
 refine Jd (BX fun p hp=>?_) hT ?_ ?_ hc (by rw[e1,hws];rfl) (by rw[e2,hin];rfl) (by rw[e3];exact h24)
 ·rcases bk hp with rfl|hp
  ·show AV.int (.k ((V 6).val _))=_;rw[fO,h7];rfl
  ·rcases bk hp with rfl|hp
   ·exact h21
   ·rw[bU hp]
    show AV.str (.k (nl++[]))=x 22;rw[h22,apN]
 ·show d+(1*W.n+0)=W'.n;lia
 ·show AV.int (.k (dl+(1*W.line+0)))=I W'.line;rw[←hl,show dl+(1*W.line+0)=W.line+dl by lia];rfl
def gc:flA (aq (εG P W ind γ δ nl A s post) (vW x h) c) gT=I A.length:=by
 show AV.int (.k ((V 5).val _))=_;rw[fO];rfl
def iH(d:Int):flA (aq (εG P W ind γ δ nl A s post) (vW x h) c) (ew d)=I (A.length+s.length+d):=by
 show AV.int (.k (d+(1*(A.length:Int)+(1*(s.length:Int)+0))))=_;rw[show d+(1*(A.length:Int)+(1*(s.length:Int)+0))=A.length+s.length+d by lia];rfl
def qT(d:Int):flA (aq (εG P W ind γ δ nl A s post) (vW x h) c) (.int ⟨d,[(5,1)]⟩)=I (A.length+d):=by
 show AV.int (.k (d+(1*(A.length:Int)+0)))=_;rw[show d+(1*(A.length:Int)+0)=A.length+d by lia];rfl
def gG:flA (aq (εG P W ind γ δ nl A s post) (vW x h) c) (lI 4)=I W.col:=by
 show AV.int (.k ((V 4).val _))=_;rw[fO];rfl
def lC(oc:κ Nat):(gw oc).val (εG P W ind γ δ nl A s post)=cV A s oc post:=by
 cases oc with
 |none=>show A++(s++[])=A++s;rw[apN]
 |some c=>show A++(s++([c]++(post++[])))=A++(s++c::post);rw[apN];rfl
def de(v:ξ)(hi le sp br:AV)(st en:Int):List (Str×AV):=gh (.k v) hi le sp br (I st) (I en)
def hO{P:Params}{h:Nat→AV}{tx:SS}{v:ξ}{hi le sp br st en:AV}{hi' le' sp' br':AV}{i j:Int}(h0:tx.val (εG P W ind γ δ nl A s post)=v)(h1:flA (aq (εG P W ind γ δ nl A s post) (vW x h) c) hi=hi')(h2:flA (aq (εG P W ind γ δ nl A s post) (vW x h) c) le=le')
  (h3:flA (aq (εG P W ind γ δ nl A s post) (vW x h) c) sp=sp') (h4:flA (aq (εG P W ind γ δ nl A s post) (vW x h) c) br=br') (h5:flA (aq (εG P W ind γ δ nl A s post) (vW x h) c) st=I i) (h6:flA (aq (εG P W ind γ δ nl A s post) (vW x h) c) en=I j) :
  cU (aq (εG P W ind γ δ nl A s post) (vW x h) c) ⟨gh tx hi le sp br st en,aP⟩=⟨de v hi' le' sp' br' i j,aP⟩:=by
 show (⟨gh (.k (tx.val _)) (flA _ hi) (flA _ le) (flA _ sp) (flA _ br) (flA _ st) (flA _ en),aP⟩ : ag)=_;rw[h0,h1,h2,h3,h4,h5,h6];rfl
variable {hi le:AV}(hw:ε0.P=w.params)(hws:W.ws=true)(hin:W.ind=true)(h7:x 7=I ind)(h22:x 22=.str (.k nl))(hb:bp W 0)(hg:eH ind nl A s post)
theorem iN:wp 0 0:=⟨by decide,by decide⟩
include hw hws hin h7 h22 hb hg
theorem Bt(hj:(ui sp br ch).chk=true) :
  aH (ab w mg mb ε0) 150 cL.b ⟨de (cV A s (some ch) post) hi le (.bool sp) (.bool br) A.length (A.length+s.length),aP⟩ (aS c x W) .next ⟨de (cV A s (some ch) post) hi le (.bool sp) (.bool br) A.length (A.length+s.length+1),aP⟩ (aS c x W):=by
 refine(df (v:=vW x (hF hi le (x 21) (.bool W.oe))) (z:=c) hw (ε:=εG ε0.P W ind 0 0 nl A s post) rfl (cR _ _ _) (ui sp br ch) (gV hb hg iN) ⟨rfl,(by decide:3≤12),rfl⟩ hj).cast ?_ ?_ rfl ?_ ?_
 ·exact hO (lC (some ch)) rfl rfl rfl rfl gc ((iH 0).trans (by rw[aZ]))
 ·exact dA rfl hws hin h7 rfl h22 (apN _) (aZ _) (aZ _) gG rfl rfl rfl
 ·exact hO (lC (some ch)) rfl rfl rfl rfl gc (iH 1)
 ·exact dA rfl hws hin h7 rfl h22 (apN _) (aZ _) (aZ _) gG rfl rfl rfl
theorem Ww{ch:Nat}(hj:(tU ch).chk=true) :
  aH (ab w mg mb ε0) 150 cL.b ⟨de (cV A s (some ch) post) hi le ff ff A.length (A.length+s.length),aP⟩ (aS c x W) .next ⟨de (cV A s (some ch) post) hi le (.bool (ch.beq 32)) (.bool (ch.beq 10)) (A.length+s.length) (A.length+s.length+1),aP⟩ (aS c x {W with T:=W.T++s,n:=W.n+1,col:=W.col+s.length}):=by
 refine(df (v:=vW x (hF hi le (x 21) (.bool W.oe))) (z:=c) hw (ε:=εG ε0.P W ind 0 0 nl A s post) rfl (cR _ _ _) (tU ch) (gV hb hg iN) ⟨rfl,(by decide:3≤12),rfl⟩ hj).cast ?_ ?_ rfl ?_ ?_
 ·exact hO (lC (some ch)) rfl rfl rfl rfl gc ((iH 0).trans (by rw[aZ]))
 ·exact dA rfl hws hin h7 rfl h22 (apN _) (aZ _) (aZ _) gG rfl rfl rfl
 ·exact hO (lC (some ch)) rfl rfl rfl rfl ((iH 0).trans (by rw[aZ])) (iH 1)
 ·refine dA rfl hws hin h7 rfl h22 (by show W.T++(s++[])=W.T++s;rw[apN]) rfl (aZ _) ?_ rfl rfl rfl
  show AV.int (.k (0+(1*W.col+(1*(s.length:Int)+0))))=I (W.col+s.length);rw[show 0+(1*W.col+(1*(s.length:Int)+0))=W.col+s.length by lia];rfl
theorem Qy:aH (ab w mg mb ε0) 150 cL.b ⟨de (cV A s none post) hi le ff ff A.length (A.length+s.length),aP⟩ (aS c x W) .next ⟨de (cV A s none post) hi le ff ff (A.length+s.length) (A.length+s.length+1),aP⟩ (aS c x {W with T:=W.T++(s++nl),line:=W.line+1,n:=W.n+2,col:=0}):=by
 refine(df (v:=vW x (hF hi le (x 21) (.bool W.oe))) (z:=c) hw (ε:=εG ε0.P W ind 0 0 nl A s post) rfl (cR _ _ _) Ek (gV hb hg iN) ⟨rfl,(by decide:3≤12),rfl⟩ Pt).cast ?_ ?_ rfl ?_ ?_
 ·exact hO (lC none) rfl rfl rfl rfl gc ((iH 0).trans (by rw[aZ]))
 ·exact dA rfl hws hin h7 rfl h22 (apN _) (aZ _) (aZ _) gG rfl rfl rfl
 ·exact hO (lC none) rfl rfl rfl rfl ((iH 0).trans (by rw[aZ])) (iH 1)
 ·exact dA rfl hws hin h7 rfl h22 (by show W.T++(s++(nl++[]))=W.T++(s++nl);rw[apN]) rfl rfl (by show AV.int (.k ((ax.k 0).val _))=_;rw[cF];rfl) rfl rfl rfl
end
section
variable {x:Nat→AV}{c:Nat→ay}{w:World}{mg mb:ω}{ε0:Ev}{W:Wr}{ind bw:Int}{nl A s post:ξ}{hi le:AV}
variable (hw:ε0.P=w.params)(hws:W.ws=true)(hin:W.ind=true)(h7:x 7=I ind)(h22:x 22=.str (.k nl))(hb:bp W 0)
include hw hws hin h7 h22 hb
theorem On(hg:eH ind nl A [] post)(h21:x 21=I bw)(q1:ind<bw)(q2:bw<W.col)(q3:bw≤900)(q4:W.col≤900)(hj:(BK ch).chk=true) :
  aH (ab w mg mb ε0) 150 cL.b ⟨de (cV A [32] (some ch) post) hi le tr ff A.length (A.length+1),aP⟩ (aS c x W) .next ⟨de (cV A [32] (some ch) post) hi le ff (.bool (ch.beq 10)) (A.length+1) (A.length+2),aP⟩ (aS c x {W with T:=W.T++(nl++List.replicate ind.toNat 32),line:=W.line+1,n:=W.n+2,col:=ind}):=by
 have i2:=hg.i;have B:wp (bw-ind-1) (W.col-bw-1):=⟨⟨by lia,by lia⟩,⟨by lia,by lia⟩⟩;have eb:∀ h,flA (aq (εG ε0.P W ind (bw-ind-1) (W.col-bw-1) nl A [] post) (vW x h) c) (.int ⟨1,[(6,1),(8,1)]⟩)=x 21:=fun h=>by
  show AV.int (.k (1+(1*ind+(1*(bw-ind-1)+0))))=_;rw[h21,show 1+(1*ind+(1*(bw-ind-1)+0))=bw by lia];rfl
 have ec:∀ h,flA (aq (εG ε0.P W ind (bw-ind-1) (W.col-bw-1) nl A [] post) (vW x h) c) (.int ⟨2,[(6,1),(8,1),(10,1)]⟩)=I W.col:=fun h=>by
  show AV.int (.k (2+(1*ind+(1*(bw-ind-1)+(1*(W.col-bw-1)+0)))))=_;rw[show 2+(1*ind+(1*(bw-ind-1)+(1*(W.col-bw-1)+0)))=W.col by lia];rfl
 have et:SS.val (εG ε0.P W ind (bw-ind-1) (W.col-bw-1) nl A [] post) [.var 2,.lit [32,ch],.var 3]=cV A [32] (some ch) post:=by
  show A++([32,ch]++(post++[]))=A++([32]++ch::post);rw[apN];rfl
 refine(df (v:=vW x (hF hi le (x 21) (.bool W.oe))) (z:=c) hw (ε:=εG ε0.P W ind (bw-ind-1) (W.col-bw-1) nl A [] post) rfl (cR _ _ _) (BK ch) (gV hb hg B) ⟨rfl,(by decide:3≤12),rfl⟩ hj).cast ?_ ?_ rfl ?_ ?_
 ·exact hO et rfl rfl rfl rfl gc (qT 1)
 ·exact dA rfl hws hin h7 (eb _) h22 (apN _) (aZ _) (aZ _) (ec _) rfl rfl rfl
 ·exact hO et rfl rfl rfl rfl (qT 1) (qT 2)
 ·refine dA rfl hws hin h7 (eb _) h22 ?_ rfl rfl (by show AV.int (.k ((V 6).val _))=_;rw[fO];rfl) rfl rfl rfl
  show W.T++(nl++(List.replicate ((V 6).val _).toNat 32++[]))=W.T++(nl++List.replicate ind.toNat 32);rw[fO,apN];rfl
theorem WC(hg:eH ind nl A [] post)(h21:x 21=I bw)(q2:W.col≤bw)(q3:bw≤900)(hj:(Aw ch).chk=true) :
  aH (ab w mg mb ε0) 150 cL.b ⟨de (cV A [32] (some ch) post) hi le tr ff A.length (A.length+1),aP⟩ (aS c x W) .next ⟨de (cV A [32] (some ch) post) hi le ff (.bool (ch.beq 10)) (A.length+1) (A.length+2),aP⟩ (aS c x {W with T:=W.T++[32],n:=W.n+1,col:=W.col+1}):=by
 have c0:=hb.c0;have B:wp 0 (bw-W.col):=⟨by decide,⟨by lia,by lia⟩⟩;have eb:∀ h,flA (aq (εG ε0.P W ind 0 (bw-W.col) nl A [] post) (vW x h) c) (.int ⟨0,[(4,1),(10,1)]⟩)=x 21:=fun h=>by
  show AV.int (.k (0+(1*W.col+(1*(bw-W.col)+0))))=_;rw[h21,show 0+(1*W.col+(1*(bw-W.col)+0))=bw by lia];rfl
 have et:SS.val (εG ε0.P W ind 0 (bw-W.col) nl A [] post) [.var 2,.lit [32,ch],.var 3]=cV A [32] (some ch) post:=by
  show A++([32,ch]++(post++[]))=A++([32]++ch::post);rw[apN];rfl
 refine(df (v:=vW x (hF hi le (x 21) (.bool W.oe))) (z:=c) hw (ε:=εG ε0.P W ind 0 (bw-W.col) nl A [] post) rfl (cR _ _ _) (Aw ch) (gV hb hg B) ⟨rfl,(by decide:3≤12),rfl⟩ hj).cast ?_ ?_ rfl ?_ ?_
 ·exact hO et rfl rfl rfl rfl gc (qT 1)
 ·exact dA rfl hws hin h7 (eb _) h22 (apN _) (aZ _) (aZ _) gG rfl rfl rfl
 ·exact hO et rfl rfl rfl rfl (qT 1) (qT 2)
 ·refine dA rfl hws hin h7 (eb _) h22 rfl rfl (aZ _) ?_ rfl rfl rfl
  show AV.int (.k (1+(1*W.col+0)))=I (W.col+1);rw[show 1+(1*W.col+0)=W.col+1 by lia];rfl
theorem Vq(hg:eH ind nl A s post)(hj:(By ch).chk=true) :
  aH (ab w mg mb ε0) 150 cL.b ⟨de (cV A (32::32::s) (some ch) post) hi le tr ff A.length (A.length+s.length+2),aP⟩ (aS c x W) .next ⟨de (cV A (32::32::s) (some ch) post) hi le ff (.bool (ch.beq 10)) (A.length+s.length+2) (A.length+s.length+3),aP⟩ (aS c x {W with T:=W.T++(32::32::s),n:=W.n+1,col:=W.col+s.length+2}):=by
 have et:SS.val (εG ε0.P W ind 0 0 nl A s post) [.var 2,.lit [32,32],.var 4,.lit [ch],.var 3]=cV A (32::32::s) (some ch) post:=by
  show A++([32,32]++(s++([ch]++(post++[]))))=A++((32::32::s)++ch::post);rw[apN];rfl
 refine(df (v:=vW x (hF hi le (x 21) (.bool W.oe))) (z:=c) hw (ε:=εG ε0.P W ind 0 0 nl A s post) rfl (cR _ _ _) (By ch) (gV hb hg iN) ⟨rfl,(by decide:3≤12),rfl⟩ hj).cast ?_ ?_ rfl ?_ ?_
 ·exact hO et rfl rfl rfl rfl gc (iH 2)
 ·exact dA rfl hws hin h7 rfl h22 (apN _) (aZ _) (aZ _) gG rfl rfl rfl
 ·exact hO et rfl rfl rfl rfl (iH 2) (iH 3)
 ·refine dA rfl hws hin h7 rfl h22 (by show W.T++([32,32]++(s++[]))=W.T++(32::32::s);rw[apN];rfl) rfl (aZ _) ?_ rfl rfl rfl
  show AV.int (.k (2+(1*W.col+(1*(s.length:Int)+0))))=I (W.col+s.length+2);rw[show 2+(1*W.col+(1*(s.length:Int)+0))=W.col+s.length+2 by lia];rfl
end
def dO(v:ξ)(hi le sp br:AV)(st en:Int)(ch:AV):List (Str×AV):=lg (.k v) hi le sp br (I st) (I en) ch
def jV(oc:κ Nat):Bool:=dG (cP oc) (cP (some 32))
section
variable {x:Nat→AV}{c:Nat→ay}{w:World}{mg mb:ω}{ε0:Ev}{W:Wr}{ind:Int}{nl A s post v:ξ}{hi le:AV}{tx:SS}{en:AV}{j:Int}{oc:κ Nat}
def j0{P:Params}{γ δ:Int}{h:Nat→AV}{hi le sp br st en ch:AV}{hi' le' sp' br' ch':AV}{i j:Int}(h0:tx.val (εG P W ind γ δ nl A s post)=v)(h1:flA (aq (εG P W ind γ δ nl A s post) (vW x h) c) hi=hi')(h2:flA (aq (εG P W ind γ δ nl A s post) (vW x h) c) le=le')
  (h3:flA (aq (εG P W ind γ δ nl A s post) (vW x h) c) sp=sp') (h4:flA (aq (εG P W ind γ δ nl A s post) (vW x h) c) br=br') (h5:flA (aq (εG P W ind γ δ nl A s post) (vW x h) c) st=I i) (h6:flA (aq (εG P W ind γ δ nl A s post) (vW x h) c) en=I j) (h7:flA (aq (εG P W ind γ δ nl A s post) (vW x h) c) ch=ch') :
  cU (aq (εG P W ind γ δ nl A s post) (vW x h) c) ⟨lg tx hi le sp br st en ch,aP⟩=⟨dO v hi' le' sp' br' i j ch',aP⟩:=by
 show (⟨lg (.k (tx.val _)) (flA _ hi) (flA _ le) (flA _ sp) (flA _ br) (flA _ st) (flA _ en) (flA _ ch),aP⟩ : ag)=_;rw[h0,h1,h2,h3,h4,h5,h6,h7];rfl
def jY(oc:κ Nat):flA (aq (εG P W ind γ δ nl A s post) (vW x h) c) (cP oc)=cP oc:=by cases oc<;>rfl
structure rf (P:Params) (x:Nat→AV) (c:Nat→ay) (ind:Int) (nl A s post:ξ) (tx:SS) (en:AV) (v:ξ) (j:Int):Prop where
 t:∀ W,tx.val (εG P W ind 0 0 nl A s post)=v
 e:∀ W h,flA (aq (εG P W ind 0 0 nl A s post) (vW x h) c) en=I j
variable (hw:ε0.P=w.params)(he:ε0.Ok)(hws:W.ws=true)(hin:W.ind=true)(h7:x 7=I ind)(h22:x 22=.str (.k nl))(hg:eH ind nl A s post)(hT:rf ε0.P x c ind nl A s post tx en v j)
include hw hws hin h7 h22 hg hT
theorem GL(hj:(wu tx oc en).chk=true)(hb:bp W 0):aH (ab w mg mb ε0) 150 (aQ 2 cL.b) ⟨de v hi le ff tr A.length j,aP⟩ (aS c x W) .next ⟨dO v hi le ff tr A.length j (cP oc),aP⟩ (aS c x W):=by
 refine(df (v:=vW x (hF hi le (x 21) (.bool W.oe))) (z:=c) hw (ε:=εG ε0.P W ind 0 0 nl A s post) rfl (cR _ _ _) (wu tx oc en) (gV hb hg iN) ⟨rfl,(by decide:3≤12),rfl⟩ hj).cast ?_ ?_ rfl ?_ ?_
 ·exact hO (hT.t W) rfl rfl rfl rfl gc (hT.e W _)
 ·exact dA rfl hws hin h7 rfl h22 (apN _) (aZ _) (aZ _) gG rfl rfl rfl
 ·exact j0 (hT.t W) rfl rfl rfl rfl gc (hT.e W _) (jY oc)
 ·exact dA rfl hws hin h7 rfl h22 (apN _) (aZ _) (aZ _) gG rfl rfl rfl
theorem rt(hl:∀ W,flA (aq (εG ε0.P W ind 0 0 nl A s post) (vW x (hF hi le (x 21) (.bool W.oe))) c) le0=le)(hj:(xZ e le0 tx oc en b).chk=true)(hb:bp W 0) :
  Tz (ab w mg mb ε0) 150 e ⟨dO v hi le ff tr A.length j (cP oc),aP⟩ (aS c x W) b (aS c x W):=by
 have e2:=dA (x:=x) (c:=c) (W:=W) (ind:=ind) (γ:=0) (δ:=0) (nl:=nl) (A:=A) (s:=s) (post:=post) (P:=ε0.P) (h:=hF hi le (x 21) (.bool W.oe)) (bw:=dk) (T:=[.var 0]) (d:=0) (dl:=0) (col:=lI 4) (W':=W) rfl hws hin h7 rfl h22 (apN _) (aZ _) (aZ _) gG rfl rfl rfl;exact(vJ (mg:=mg) (mb:=mb) (v:=vW x (hF hi le (x 21) (.bool W.oe))) (z:=c) hw (ε:=εG ε0.P W ind 0 0 nl A s post) rfl (cR _ _ _) (xZ e le0 tx oc en b) (gV hb hg iN) hj).cast (j0 (hT.t W) rfl (hl W) rfl rfl gc (hT.e W _) (jY oc)) e2 e2
theorem Y3(hj:(A4 (mY tx ff en oc)).chk=true)(hb:bp W 0):aH (ab w mg mb ε0) 150 mq.2.1 ⟨dO v hi ff ff tr A.length j (cP oc),aP⟩ (aS c x W) .next ⟨dO v hi ff ff tr A.length j (cP oc),aP⟩ (aS c x (db nl W 10)):=by
 refine(df (v:=vW x (hF hi ff (x 21) (.bool W.oe))) (z:=c) hw (ε:=εG ε0.P W ind 0 0 nl A s post) rfl (cR _ _ _) (A4 (mY tx ff en oc)) (gV hb hg iN) ⟨rfl,(by decide:3≤12),rfl⟩ hj).cast ?_ ?_ rfl ?_ ?_
 ·exact j0 (hT.t W) rfl rfl rfl rfl gc (hT.e W _) (jY oc)
 ·exact dA rfl hws hin h7 rfl h22 (apN _) (aZ _) (aZ _) gG rfl rfl rfl
 ·exact j0 (hT.t W) rfl rfl rfl rfl gc (hT.e W _) (jY oc)
 ·exact dA (W':=db nl W 10) rfl hws hin h7 rfl h22 (by show W.T++(nl++[])=W.T++nl;rw[apN]) rfl rfl (by show AV.int (.k ((ax.k 0).val _))=_;rw[cF];rfl) rfl rfl rfl
theorem Yl(hj:(sS tx en oc).chk=true)(hb:bp W 0):aH (ab w mg mb ε0) 150 (aQ 1 (aO 1 iC.2.1)) ⟨dO v hi le ff tr A.length j (cP oc),aP⟩ (aS c x W) .next ⟨dO v hi (.bool (jV oc)) ff tr A.length j (cP oc),aP⟩ (aS c x W):=by
 refine(df (v:=vW x (hF hi le (x 21) (.bool W.oe))) (z:=c) hw (ε:=εG ε0.P W ind 0 0 nl A s post) rfl (cR _ _ _) (sS tx en oc) (gV hb hg iN) ⟨rfl,(by decide:3≤12),rfl⟩ hj).cast ?_ ?_ rfl ?_ ?_
 ·exact j0 (hT.t W) rfl rfl rfl rfl gc (hT.e W _) (jY oc)
 ·exact dA rfl hws hin h7 rfl h22 (apN _) (aZ _) (aZ _) gG rfl rfl rfl
 ·exact j0 (hT.t W) rfl rfl rfl rfl gc (hT.e W _) (jY oc)
 ·exact dA rfl hws hin h7 rfl h22 (apN _) (aZ _) (aZ _) gG rfl rfl rfl
theorem ME{r:SS}{row:ξ}(hr:∀ W,r.val (εG ε0.P W ind 0 0 nl A s post)=row)(hj:(mc tx en oc r).chk=true)(hb:bp W 0):Yz (ab w mg mb ε0) 150 fb.it ⟨dO v hi le ff tr A.length j (cP oc),aP⟩ (aS c x W) (.str [.lit row]) (aS c x W):=by
 have Y:=uQ (mg:=mg) (mb:=mb) (b:=0) (v:=vW x (hF hi le (x 21) (.bool W.oe))) (z:=c) hw (ε:=εG ε0.P W ind 0 0 nl A s post) rfl (cR _ _ _) (mc tx en oc r) (gV hb hg iN) (fun U U U=>nE) rfl hj;have e1:=j0 (x:=x) (c:=c) (W:=W) (ind:=ind) (γ:=0) (δ:=0) (nl:=nl) (A:=A) (s:=s) (post:=post) (P:=ε0.P) (h:=hF hi le (x 21) (.bool W.oe)) (hi:=.any 20) (le:=.any 21) (sp:=ff) (br:=tr) (st:=gT) (en:=en) (ch:=cP oc) (hi':=hi) (le':=le) (sp':=ff) (br':=tr) (hT.t W) rfl rfl rfl rfl gc (hT.e W _) (jY oc);have e2:=dA (x:=x) (c:=c) (W:=W) (ind:=ind) (γ:=0) (δ:=0) (nl:=nl) (A:=A) (s:=s) (post:=post) (P:=ε0.P) (h:=hF hi le (x 21) (.bool W.oe)) (bw:=dk) (T:=[.var 0]) (d:=0) (dl:=0) (col:=lI 4) (W':=W) rfl hws hin h7 rfl h22 (apN _) (aZ _) (aZ _) gG rfl rfl rfl;rw[show (mc tx en oc r).ls=⟨lg tx (.any 20) (.any 21) ff tr gT en (cP oc),aP⟩ from rfl,show (mc tx en oc r).P=dg dk [.var 0] 0 0 (lI 4) from rfl,show (mc tx en oc r).Q=dg dk [.var 0] 0 0 (lI 4) from rfl,e1,e2] at Y;refine Yz.conv (Y.le (by show 10*0+0+30≤150;decide)) fun imm ρ val hv=>?_;replace hv:VR (ab w mg mb ε0) imm ρ val (.str (.k (r.val _))):=hv;rw[hr] at hv;exact hv.sames (by rw[dY];exact(apN row).symm) (fun p hp=>by rw[bU hp];trivial)
end
section
variable {x:Nat→AV}{c:Nat→ay}{w:World}{mg mb:ω}{ε0:Ev}{W:Wr}{ind:Int}{nl A s post:ξ}{hi:AV}
def p8(ind:Int)(oc:κ Nat)(W:Wr):Wr:=match oc with|some _=>gK ind W|none=>W
variable (hw:ε0.P=w.params)(he:ε0.Ok)(hws:W.ws=true)(hin:W.ind=true)(h7:x 7=I ind)(h22:x 22=.str (.k nl))(hg:eH ind nl A s post)
include hw hws hin h7 h22 hg
end
section
variable {x:Nat→AV}{c:Nat→ay}{w:World}{mg mb:ω}{ε0:Ev}{W:Wr}{ind:Int}{nl A s post v:ξ}{hi le:AV}{tx:SS}{en:AV}{j:Int}{oc:κ Nat}
def Pm(a0 a1 a2 a3 bw oe a5 a6 a7 a8:AV):Nat→AV:=fun i=>tn .none [a0,a1,a2,a3,bw,oe,a5,a6,a7,a8] (i-19)
variable (hw:ε0.P=w.params)(he:ε0.Ok)(hws:W.ws=true)(hin:W.ind=true)(h7:x 7=I ind)(h22:x 22=.str (.k nl))(hg:eH ind nl A s post)
include hw hws hin h7 h22 hg in
theorem FJ(hb:bp W 0) :
  aH (ab w mg mb ε0) 150 fb.b ⟨dO v hi le sp br i j ch++[(na,bZ 10)],aP⟩ (aS c x W) .next ⟨dO v hi le sp br i j ch++[(na,bZ 10)],aP⟩ (aS c x (db nl W 10)):=by
 refine(df (v:=vW x (Pm (.str (.k v)) hi le sp (x 21) (.bool W.oe) br (I i) (I j) ch)) (z:=c) hw (ε:=εG ε0.P W ind 0 0 nl A s post) rfl (cR _ _ _) F8 (gV hb hg iN) ⟨rfl,(by decide:3≤12),rfl⟩ Q0).cast rfl ?_ rfl rfl ?_
 ·exact dA rfl hws hin h7 rfl h22 (apN _) (aZ _) (aZ _) gG rfl rfl rfl
 ·exact dA (W':=db nl W 10) rfl hws hin h7 rfl h22 (by show W.T++(nl++[])=W.T++nl;rw[apN]) rfl rfl (by show AV.int (.k ((ax.k 0).val _))=_;rw[cF];rfl) rfl rfl rfl
include hw he h7 h22 hg in
theorem O6(hr:∀ d∈r,d=10):∀ {W:Wr} {b:AV},W.ws=true→W.ind=true→bp W r.length →
  ∃ b',Fz (ab w mg mb ε0) 150 fb.t fb.b (.vals (r.map bZ)) ⟨dO v hi le sp br i j ch++[(na,b)],aP⟩ (aS c x W) .next ⟨dO v hi le sp br i j ch++[(na,b')],aP⟩ (aS c x (bW nl W r)):=by
 induction r with
 |nil=>exact fun {W b} _ _ _=>⟨b,.stop rfl⟩
 |cons d r ih=>
  intro W b h1 h2 h3;rw[bJ] at h3;push_cast at h3;obtain rfl:=hr d (.head _);have hb1:bp (db nl W 10) r.length:=k8 (s:=[10]) hg.nl (h3.mono (cI _));apply bC (ih (fun e he=>hr e (.tail _ he)) (W:=db nl W 10) (b:=bZ 10) h1 h2 hb1);intro b' F;exact⟨b',.step (it':=.vals (r.map bZ)) rfl (iS hw he (show (ai [] ac 0).asg ⟨dO v hi le sp br i j ch++[(na,b)],aP⟩ (aS c x W) (bZ 10) fb.t=some (⟨dO v hi le sp br i j ch++[(na,bZ 10)],aP⟩,aS c x W) by kernel_rfl)) (FJ hw h1 h2 h7 h22 hg (h3.mono (by lia))) F⟩
include hw he hws hin h7 h22 hg in
theorem Yj{r:SS}(hT:rf ε0.P x c ind nl A s post tx en v j)(hr:∀ W,r.val (εG ε0.P W ind 0 0 nl A s post)=row)(hj:(mc tx en oc r).chk=true)(hs:∀ d∈row,d=10)(hb:bp W row.length) :
  gi (ab w mg mb ε0) 150 (.For fb.t fb.it fb.b [] fb.p) ⟨dO v hi le ff tr A.length j (cP oc),aP⟩ (aS c x W) .next ⟨dO v hi le ff tr A.length j (cP oc),aP⟩ (aS c x (bW nl W row)):=by
 have Y:=ME (mg:=mg) (mb:=mb) (c:=c) (hi:=hi) (le:=le) hw hws hin h7 h22 hg hT hr hj (hb.mono (cW _));have hi0:rU (aS c x W) (.str [.lit row])=some (.vals (row.map bZ)):=rfl;have F:∃ L,(∀ y u,lk y (dO v hi le ff tr A.length j (cP oc))=some u→lk y L.v=some u)∧L.sc=aP∧Fz (ab w mg mb ε0) 150 fb.t fb.b (.vals (row.map bZ)) ⟨dO v hi le ff tr A.length j (cP oc),aP⟩ (aS c x W) .next L (aS c x (bW nl W row)):=by
  cases row with
  |nil=>exact⟨_,fun U U h=>h,rfl,.stop rfl⟩
  |cons d r=>
   rw[bJ] at hb;push_cast at hb;obtain rfl:=hs d (.head _);have hb1:bp (db nl W 10) r.length:=k8 (W:=W) (s:=[10]) hg.nl (hb.mono (cI _));apply bC (O6 (mg:=mg) (mb:=mb) (c:=c) (hi:=hi) (le:=le) (v:=v) (sp:=ff) (br:=tr) (ch:=cP oc) (i:=A.length) (j:=j) hw he h7 h22 hg (r:=r) (fun e he=>hs e (.tail _ he)) (W:=db nl W 10) (b:=bZ 10) hws hin hb1);intro b' F;refine⟨_,fun y u h=>?_,?_,.step (it':=.vals (r.map bZ)) rfl (iS hw he (show (ai [] ac 0).asg ⟨dO v hi le ff tr A.length j (cP oc),aP⟩ (aS c x W) (bZ 10) fb.t=some (⟨dO v hi le ff tr A.length j (cP oc)++[(na,bZ 10)],aP⟩,aS c x W) by cases oc<;>kernel_rfl)) (FJ hw hws hin h7 h22 hg (hb.mono (by lia))) F⟩
   ·exact pN h
   ·rfl
 apply ed F;intro L f1 f2 F;exact Dz.post (ls1:=L) (ls0:=⟨dO v hi le ff tr A.length j (cP oc),aP⟩) rfl f1 (Dz.for_ (by kernel_rfl) (by kernel_rfl) Y hi0 F)
include hw hws hin h7 h22 hg in
theorem QD(hT:rf ε0.P x c ind nl A s post tx en v j)(hj:(rJ tx en oc).chk=true)(hb:bp W 0)(h0:W.col=0) :
  aH (ab w mg mb ε0) 150 (aO 3 iC.2.1) ⟨dO v hi le ff tr A.length j (cP oc),aP⟩ (aS c x W) .next ⟨dO v hi le ff tr j j (cP oc),aP⟩ (aS c x (p8 ind oc W)):=by
 have c0:∀ h,flA (aq (εG ε0.P W ind 0 0 nl A s post) (vW x h) c) (I 0)=I W.col:=fun h=>by rw[h0];show AV.int (.k ((ax.k 0).val _))=_;rw[cF];rfl
 cases oc with
 |none=>
  refine(df (v:=vW x (hF hi le (x 21) (.bool W.oe))) (z:=c) hw (ε:=εG ε0.P W ind 0 0 nl A s post) rfl (cR _ _ _) (rJ tx en none) (gV hb hg iN) ⟨rfl,(by decide:3≤12),rfl⟩ hj).cast ?_ ?_ rfl ?_ ?_
  ·exact j0 (hT.t W) rfl rfl rfl rfl gc (hT.e W _) (jY none)
  ·exact dA rfl hws hin h7 rfl h22 (apN _) (aZ _) (aZ _) (c0 _) rfl rfl rfl
  ·exact j0 (hT.t W) rfl rfl rfl rfl (hT.e W _) (hT.e W _) (jY none)
  ·exact dA (W':=W) rfl hws hin h7 rfl h22 (apN _) (aZ _) (aZ _) (c0 _) rfl rfl rfl
 |some d=>
  refine(df (v:=vW x (hF hi le (x 21) (.bool W.oe))) (z:=c) hw (ε:=εG ε0.P W ind 0 0 nl A s post) rfl (cR _ _ _) (rJ tx en (some d)) (gV hb hg iN) ⟨rfl,(by decide:3≤12),rfl⟩ hj).cast ?_ ?_ rfl ?_ ?_
  ·exact j0 (hT.t W) rfl rfl rfl rfl gc (hT.e W _) (jY (some d))
  ·exact dA rfl hws hin h7 rfl h22 (apN _) (aZ _) (aZ _) (c0 _) rfl rfl rfl
  ·exact j0 (hT.t W) rfl rfl rfl rfl (hT.e W _) (hT.e W _) (jY (some d))
  ·refine dA (W':=gK ind W) rfl hws hin h7 rfl h22 ?_ rfl (aZ _) (by show AV.int (.k ((V 6).val _))=_;rw[fO];rfl) rfl rfl rfl
   show W.T++(List.replicate ((V 6).val _).toNat 32++[])=W.T++List.replicate ind.toNat 32;rw[fO,apN];rfl
end
section
variable {x:Nat→AV}{c:Nat→ay}{w:World}{mg mb:ω}{ε0:Ev}{W:Wr}{ind:Int}{nl A post:ξ}{hi le:AV}{oc:κ Nat}
def LO(hw:ε0.P=w.params)(hws:W.ws=true)(hin:W.ind=true)(h7:x 7=I ind)(h22:x 22=.str (.k nl))(hg:eH ind nl A [] post)(hj:(u9 (gw oc) (ew 0) (ew 1) oc).chk=true)(hb:bp W 0) :
  aH (ab w mg mb ε0) 150 (aO 3 cL.b) ⟨dO (cV A [] oc post) hi le ff tr A.length A.length (cP oc),aP⟩ (aS c x W) .next ⟨de (cV A [] oc post) hi le (.bool (jV oc)) (.bool oc.isNone) A.length (A.length+1),aP⟩ (aS c x W):=by
 have e0:(A.length:Int)+(([]:ξ).length:Int)=A.length:=aZ _;refine(df (v:=vW x (hF hi le (x 21) (.bool W.oe))) (z:=c) hw (ε:=εG ε0.P W ind 0 0 nl A [] post) rfl (cR _ _ _) (u9 (gw oc) (ew 0) (ew 1) oc) (gV hb hg iN) ⟨rfl,(by decide:3≤12),rfl⟩ hj).cast ?_ ?_ rfl ?_ ?_
 ·exact j0 (lC oc) rfl rfl rfl rfl gc ((iH 0).trans (by rw[aZ,e0])) (jY oc)
 ·exact dA rfl hws hin h7 rfl h22 (apN _) (aZ _) (aZ _) gG rfl rfl rfl
 ·exact hO (lC oc) rfl rfl rfl rfl gc ((iH 1).trans (by rw[e0]))
 ·exact dA rfl hws hin h7 rfl h22 (apN _) (aZ _) (aZ _) gG rfl rfl rfl
end
section
variable {x:Nat→AV}{c:Nat→ay}{w:World}{mg mb:ω}{ε0:Ev}{ind:Int}{nl:ξ}{hi:AV}
noncomputable def Wr.adv(W:Wr)(p:List Nat×Int×Int):Wr:={W with T:=W.T++p.1,line:=W.line+p.2.1,n:=W.n+p.2.2,col:=0}
def Wz.post{ls ls1 ls0:ag}(hs:ls0.sc=ls.sc)(h:∀ x v,lk x ls0.v=some v→lk x ls1.v=some v)(H:Wz Γ n t b ls σ ls1 σ1):Wz Γ n t b ls σ ls0 σ1:=⟨by
 intro c A s m imm cs Rq C l R k;exact H.h C l R fun h' tk m' imm' cs' fl R' l' x' f'=>k h' tk m' imm' cs' fl ⟨R'.F,R'.N,R'.nd,R'.C,fun x v hx=>R'.l x v (h x v hx)⟩ ⟨hs▸l.sc,fun x v hx=>l'.lo x v (h x v hx),l'.nd⟩ x' f'⟩
def zh{Z:Wr}{K:Int}(hi2:2≤ind∧ind≤40)(h:bp Z (K+1)):bp (gK ind Z) K:=by
 have q1:=h.l0;have q2:=h.l1;have q3:=h.n0;have q4:=h.n1;have q5:=h.t1;obtain⟨z1,z2,z3,z4,z5,z6,z7⟩:=Z;dsimp only at q1 q2 q3 q4 q5;refine⟨q1,?_,?_,?_,?_,?_,?_⟩
 ·show z1+K≤100000;lia
 ·show 0≤ind;lia
 ·show ind≤100000;lia
 ·show 0≤z3+1;lia
 ·show z3+1+K≤100000;lia
 ·show ((z4++List.replicate ind.toNat 32).length:Int)+50*K≤100000
  rw[au,Za];push_cast;lia
variable (hw:ε0.P=w.params)(he:ε0.Ok)(h7:x 7=I ind)(h22:x 22=.str (.k nl))(hn:1≤nl.length∧nl.length≤2)(hi2:2≤ind∧ind≤40)
include hw he h7 h22 hn hi2
end
def frT:List Stmt:=aQ 1 (aO 1 iC.2.1)++.For fb.t fb.it fb.b [] fb.p::aO 3 iC.2.1
section
variable {x:Nat→AV}{c:Nat→ay}{w:World}{mg mb:ω}{ε0:Ev}{W:Wr}{ind:Int}{nl A s post v:ξ}{hi le:AV}{tx:SS}{en:AV}{j:Int}{oc:κ Nat}{r:SS}{row:ξ}
variable (hw:ε0.P=w.params)(he:ε0.Ok)(hws:W.ws=true)(hin:W.ind=true)(h7:x 7=I ind)(h22:x 22=.str (.k nl))
include hw he hws hin h7 h22
theorem Ef(hg:eH ind nl A s post)(hT:rf ε0.P x c ind nl A s post tx en v j)(hr:∀ W,r.val (εG ε0.P W ind 0 0 nl A s post)=row)(j1:(sS tx en oc).chk=true)(j2:(mc tx en oc r).chk=true)(j3:(rJ tx en oc).chk=true)(hs:∀ d∈row,d=10)(hb:bp W (row.length+1))(h0:row=[]→W.col=0) :
  aH (ab w mg mb ε0) 150 frT ⟨dO v hi le ff tr A.length j (cP oc),aP⟩ (aS c x W) .next ⟨dO v hi (.bool (jV oc)) ff tr j j (cP oc),aP⟩ (aS c x (p8 ind oc (bW nl W row))):=by
 apply lX (nH (nl:=nl) (s:=row) (W:=W));intro a1 a2 a3 a4 a5 a6;have hb1:bp (bW nl W row) 1:=k8 hg.nl (hb.mono (by lia));have c0:(bW nl W row).col=0:=by rcases a6 with q|⟨q,q2⟩;exact q;rw[q2];exact h0 q
 have b0:bp W 0:=hb.mono (by lia);exact(Yl (mg:=mg) (mb:=mb) (c:=c) (hi:=hi) (le:=le) hw hws hin h7 h22 hg hT j1 b0).append ((Yj (mg:=mg) (mb:=mb) (c:=c) (hi:=hi) (le:=.bool (jV oc)) hw he hws hin h7 h22 hg hT hr j2 hs (hb.mono (by lia))).cons
  (QD (mg:=mg) (mb:=mb) (c:=c) (hi:=hi) (le:=.bool (jV oc)) (W:=bW nl W row) hw (a1.trans hws) (a2.trans hin) h7 h22 hg hT j3 (hb1.mono (by decide)) c0))
theorem Uw{W:Wr}(hi2:2≤ind∧ind≤40)(h:bp W 1):bp (p8 ind oc W) 0:=by
 cases oc with
 |none=>exact h.mono (by decide)
 |some d=>exact zh hi2 h
theorem HF{K:ξ}{i0:Int}(hg:eH ind nl A s post)(hj:(u9 (gw oc) (ew 0) (ew 1) oc).chk=true)(hb:bp W 0)(e:K=cV A s oc post)(ei:i0=A.length+s.length) :
  aH (ab w mg mb ε0) 150 (aO 3 cL.b) ⟨dO K hi le ff tr i0 i0 (cP oc),aP⟩ (aS c x W) .next ⟨de K hi le (.bool (jV oc)) (.bool oc.isNone) i0 (i0+1),aP⟩ (aS c x W):=by
 subst e;subst ei;have g2:eH ind nl (A++s) [] post:=⟨hg.i,hg.nl,by rw[au];have:=hg.v;show A.length+s.length+0+post.length≤400;lia⟩;have D4:=LO (mg:=mg) (mb:=mb) (c:=c) (hi:=hi) (le:=le) hw hws hin h7 h22 g2 hj hb;have ev:cV (A++s) [] oc post=cV A s oc post:=by
  cases oc with
  |none=>exact apN _
  |some d=>show (A++s)++([]++d::post)=A++(s++d::post);rw[ZL,aC]
 have el:((A++s).length:Int)=A.length+s.length:=by rw[au];push_cast;rfl
 rw[ev,el] at D4;exact D4
theorem tL{l0:AV}(hg:eH ind nl A s post)(ho:oc∈mZ)(hl:∀ W,flA (aq (εG ε0.P W ind 0 0 nl A s post) (vW x (hF hi le (x 21) (.bool W.oe))) c) l0=le)(hj:(rC mq.1 l0 oc false).chk=true)(hs:∀ d∈s,d=10)(hb:bp W (s.length+1))(h0:s=[]→W.col=0) :
  aH (ab w mg mb ε0) 150 cL.b ⟨de (cV A s oc post) hi le ff tr A.length (A.length+s.length),aP⟩ (aS c x W) .next ⟨de (cV A s oc post) hi (.bool (jV oc)) (.bool (jV oc)) (.bool oc.isNone) (A.length+s.length) (A.length+s.length+1),aP⟩ (aS c x (p8 ind oc (bW nl W s))):=by
 apply lX (nH (nl:=nl) (s:=s) (W:=W));intro a1 a2 _ _ _ _;have b0:bp W 0:=hb.mono (by lia);have hT:rf ε0.P x c ind nl A s post (gw oc) (ew 0) (cV A s oc post) (A.length+s.length):=⟨fun _=>lC oc,fun _ _=>(iH 0).trans (by rw[aZ])⟩;have ok:=aB vV oc ho;rw[Y9,Y9,Y9] at ok;have le_ok:=aB (aA IV).1 oc ho;have ex_ok:=aB (aA H5).1 oc ho;have fl_ok:=aB (aA Ii).1 oc ho;have po_ok:=aB (aA Fw).1 oc ho;have hb1:bp (bW nl W s) 1:=k8 hg.nl (hb.mono (by lia));have e1:(p8 ind oc (bW nl W s)).ws=true:=by cases oc<;>exact a1.trans hws
 have e2:(p8 ind oc (bW nl W s)).ind=true:=by cases oc<;>exact a2.trans hin
 have t1:=rt (mg:=mg) (mb:=mb) (c:=c) (hi:=hi) (le:=le) hw hws hin h7 h22 hg hT (fun _=>rfl) ok.2.1 b0;have t2:=rt (mg:=mg) (mb:=mb) (c:=c) (hi:=hi) (le:=le) hw hws hin h7 h22 hg hT (fun _=>rfl) ok.2.2.1 b0;have t3:=rt (mg:=mg) (mb:=mb) (c:=c) (hi:=hi) (le:=le) hw hws hin h7 h22 hg hT hl hj b0;have M:=Ef (mg:=mg) (mb:=mb) (c:=c) (hi:=hi) (le:=le) hw he hws hin h7 h22 hg hT (r:=[.var 4]) (fun W=>(apN s:s++[]=s)) le_ok ex_ok fl_ok hs hb h0;rw[CQ];exact(GL (mg:=mg) (mb:=mb) (c:=c) (hi:=hi) (le:=le) hw hws hin h7 h22 hg hT ok.1 b0).append ((Dz.if_ t1 (Dz.one (Dz.if_ t2 (Dz.cons (Dz.if_ t3 .nil) M)))).cons
  (HF (mg:=mg) (mb:=mb) (c:=c) (hi:=hi) hw he e1 e2 h7 h22 hg po_ok (Uw hw he hws hin h7 h22 hg.i hb1) rfl rfl))
theorem KH{d:Nat}(g2:eH ind nl A (10::s) post)(ho:d∈gq)(hs:∀ d∈s,d=10)(hb:bp W (s.length+3)) :
  aH (ab w mg mb ε0) 150 cL.b ⟨de (cV A (10::s) (some d) post) hi ff ff tr A.length (A.length+s.length+1),aP⟩ (aS c x W) .next ⟨de (cV A (10::s) (some d) post) hi (.bool (jV (some d))) (.bool (jV (some d))) ff (A.length+s.length+1) (A.length+s.length+1+1),aP⟩ (aS c x (gK ind (bW nl (db nl W 10) (10::s)))):=by
 have hg:eH ind nl A s post:=⟨g2.i,g2.nl,by have:=g2.v;rw[bJ] at this;lia⟩;have b0:bp W 0:=hb.mono (by lia);have hb0:bp (db nl W 10) ((10::s).length+1):=k8 (W:=W) (s:=[10]) hg.nl (hb.mono (by rw[bJ];push_cast;show _+1+1+(1:Int)≤_;lia));apply lX (nH (nl:=nl) (s:=10::s) (W:=db nl W 10));intro a1 a2 _ _ _ _;have hT:rf ε0.P x c ind nl A s post (n5 d) (mI 0) (cV A (10::s) (some d) post) (A.length+s.length+1):=⟨fun _=>by
  show A++([10]++(s++([d]++(post++[]))))=A++((10::s)++d::post);rw[apN];rfl,fun _ _=>by
  show AV.int (.k (0+1+(1*(A.length:Int)+(1*(s.length:Int)+0))))=_;rw[show (0+1+(1*(A.length:Int)+(1*(s.length:Int)+0)):Int)=A.length+s.length+1 by lia];rfl⟩
 have ok:=aB Vo d ho;rw[Y9,Y9,Y9] at ok;have mo_ok:=aB L9 d ho;have le_ok:=aB (aA IV).2 d ho;have ex_ok:=aB (aA H5).2 d ho;have fl_ok:=aB (aA Ii).2 d ho;have po_ok:=aB (aA Fw).1 (some d) (.tail _ (Zi (.tail _ ho)));have hb1:bp (bW nl (db nl W 10) (10::s)) 1:=k8 hg.nl (hb0.mono (by lia));have t1:=rt (mg:=mg) (mb:=mb) (c:=c) (hi:=hi) (le:=ff) hw hws hin h7 h22 hg hT (fun _=>rfl) ok.2.1 b0;have t2:=rt (mg:=mg) (mb:=mb) (c:=c) (hi:=hi) (le:=ff) hw hws hin h7 h22 hg hT (fun _=>rfl) ok.2.2.1 b0;have t3:=rt (mg:=mg) (mb:=mb) (c:=c) (hi:=hi) (le:=ff) hw hws hin h7 h22 hg hT (fun _=>rfl) ok.2.2.2 b0;have m:=Y3 (mg:=mg) (mb:=mb) (c:=c) (hi:=hi) hw hws hin h7 h22 hg hT mo_ok b0;have M:=Ef (mg:=mg) (mb:=mb) (c:=c) (hi:=hi) (le:=ff) (W:=db nl W 10) hw he hws hin h7 h22 hg hT (r:=[.lit [10],.var 4]) (row:=10::s) (fun W=>by show [10]++(s++[])=10::s;rw[apN];rfl) le_ok ex_ok fl_ok (fun e he=>(bk he).elim id (hs e)) hb0 nofun;rw[CQ];exact(GL (mg:=mg) (mb:=mb) (c:=c) (hi:=hi) (le:=ff) hw hws hin h7 h22 hg hT ok.1 b0).append ((Dz.if_ t1 (Dz.one (Dz.if_ t2 (Dz.cons (Dz.if_ t3 m) M)))).cons
  (HF (mg:=mg) (mb:=mb) (c:=c) (hi:=hi) (W:=gK ind (bW nl (db nl W 10) (10::s))) hw he (a1.trans hws) (a2.trans hin) h7 h22 g2 po_ok (zh hg.i hb1) rfl (by rw[bJ];push_cast;lia)))
end
structure FS where
 le:Bool
 sp:Bool
 br:Bool
 s:ξ
 W:Wr
noncomputable def fh(s:ξ)(W:Wr):Wr:={W with T:=W.T++s,n:=W.n+1,col:=W.col+s.length}
noncomputable def jP(nl:ξ)(ind:Int)(W:Wr):Wr:={W with T:=W.T++(nl++List.replicate ind.toNat 32),line:=W.line+1,n:=W.n+2,col:=ind}
def bN(nl:ξ)(ind bw:Int)(S:FS)(d:Nat):FS :=
 Bool.rec
  (Bool.rec
   (Bool.rec {S with s:=S.s++[d]} ⟨S.le,d.beq 32,d.beq 10,[d],fh S.s S.W⟩ (d.beq 10 ||d.beq 32))
   (Bool.rec ⟨S.le,false,d.beq 10,[d],Bool.rec (fh S.s S.W) (jP nl ind S.W) (S.s.length.beq 1&&decide (bw<S.W.col))⟩ {S with s:=S.s++[d]} (d.beq 32))
   S.sp)
  (Bool.rec ⟨d.beq 32,d.beq 32,false,[d],gK ind (bW nl (Bool.rec (db nl S.W 10) S.W (S.le ||d.beq 32)) S.s)⟩ {S with s:=S.s++[d]} (d.beq 10))
  S.br
def g6(nl:ξ)(S:FS):Wr:=Bool.rec (Bool.rec {S.W with T:=S.W.T++(S.s++nl),line:=S.W.line+1,n:=S.W.n+2,col:=0} (fh S.s S.W) S.sp) (bW nl S.W S.s) S.br
structure mf (S:FS) (k:Nat):Prop where
 br:S.br=true→S.sp=false∧∀ d∈S.s,d=10
 sp:S.sp=true→∀ d∈S.s,d=32
 e:S.s=[]→S.br=true∧S.le=true∧S.W.col=0
 col:S.W.col≤40+k
 ws:S.W.ws=true
 ind:S.W.ind=true
def B4{d:Nat}(h:d∈ce):d=10∨d=32∨d∈gq:=by
 cases q1:Nat.beq d 10 with
 |true=>exact .inl (bg q1)
 |false=>
  cases q2:Nat.beq d 32 with
  |true=>exact .inr (.inl (bg q2))
  |false=>exact .inr (.inr (List.mem_filter.mpr ⟨h,by rw[q1,q2];rfl⟩))
def tm{d:Nat}(h:d∈gq):Nat.beq d 10=false∧d.beq 32=false:=by
 have g:=(List.mem_filter.mp h).2;cases q1:Nat.beq d 10 with
 |true=>rw[q1] at g;exact nomatch g
 |false=>
  cases q2:Nat.beq d 32 with
  |true=>rw[q1,q2] at g;exact nomatch g
  |false=>exact⟨rfl,rfl⟩
def P2:(gq.all fun d=>!(jV (some d)))=true:=by kernel_rfl
def tv(h:(!b)=true):b=false:=by cases b with|true=>exact nomatch h|false=>rfl
def sd{d:Nat}:((([d]:ξ).length:Nat):Int)=1:=rfl
def s9{a b:ξ}:((a++b).length:Int)=a.length+b.length:=by rw[au];push_cast;rfl
def DN{a:Int}:a+1+1=a+2:=ZJ ..
section
variable {x:Nat→AV}{c:Nat→ay}{w:World}{mg mb:ω}{ε0:Ev}{ind bw:Int}{nl:ξ}{hi:AV}
def Bv{W:Wr}{s:ξ}{K:Int}(h:bp W (K+s.length+1))(hc:W.col+s.length≤900):bp (fh s W) K:=by
 have q0:=h.c0;have q1:=h.l0;have q2:=h.l1;have q3:=h.n0;have q4:=h.n1;have q5:=h.t1;exact⟨q1,by show W.line+K≤_;lia,by show 0≤W.col+(s.length:Int);lia,by show W.col+(s.length:Int)≤_;lia,by show 0≤W.n+1;lia,by show W.n+1+K≤_;lia,by show ((W.T++s).length:Int)+50*K≤_;rw[au];push_cast;lia⟩
def L5{W:Wr}{K:Int}(hn:1≤nl.length∧nl.length≤2)(hi2:2≤ind∧ind≤40)(h:bp W (K+2)):bp (jP nl ind W) K:=by
 have q0:=h.c0;have q1:=h.l0;have q2:=h.l1;have q3:=h.n0;have q4:=h.n1;have q5:=h.t1;exact⟨by show 0≤W.line+1;lia,by show W.line+1+K≤_;lia,by show 0≤ind;lia,by show ind≤_;lia,by show 0≤W.n+2;lia,by show W.n+2+K≤_;lia,by show ((W.T++(nl++List.replicate ind.toNat 32)).length:Int)+50*K≤_;rw[au,au,Za];push_cast;lia⟩
variable (hw:ε0.P=w.params)(he:ε0.Ok)(h7:x 7=I ind)(h21:x 21=I bw)(h22:x 22=.str (.k nl))(hn:1≤nl.length∧nl.length≤2)(hi2:2≤ind∧ind≤40)(hbw:ind<bw∧bw≤900)
def fT(hi le sp br:AV)(i:Int)(x:Nat→AV)(W:Wr):Nat→AV:=tO (fun U=>.none) 20 [some hi,some le,some sp,some (x 21),some (.bool W.oe),some br,some (I i)]
include hw h7 h22 in
theorem vm{W:Wr}(hws:W.ws=true)(hin:W.ind=true)(hg:eH ind nl A s post)(hj:(uo oc d b).chk=true)(hb:bp W 0) :
  Tz (ab w mg mb ε0) 150 cL.t ⟨de (cV A s oc post) hi le sp br i (A.length+s.length+d),aP⟩ (aS c x W) b (aS c x W):=by
 have E:=dA (x:=x) (c:=c) (W:=W) (ind:=ind) (γ:=0) (δ:=0) (nl:=nl) (A:=A) (s:=s) (post:=post) (P:=ε0.P) (h:=fT hi le sp br i x W) (bw:=dk) (T:=[.var 0]) (d:=0) (dl:=0) (col:=lI 4) (W':=W) rfl hws hin h7 rfl h22 (apN _) (aZ _) (aZ _) gG rfl rfl rfl;exact(vJ (mg:=mg) (mb:=mb) (v:=vW x (fT hi le sp br i x W)) (z:=c) hw (ε:=εG ε0.P W ind 0 0 nl A s post) rfl (cR _ _ _) (uo oc d b) (gV hb hg iN) hj).cast (hO (lC oc) rfl rfl rfl rfl rfl (iH d)) E E
include hw he h7 h21 h22 hn hi2 hbw
omit hw he h7 h21 h22 hi2 hbw in
theorem Mx{W:Wr}{s:ξ}{b:Bool}{K:Int}(h:bp W (K+s.length+1)):bp (bW nl (Bool.rec (db nl W 10) W b) s) K:=by
 cases b with
 |true=>exact k8 hn (h.mono (by lia))
 |false=>exact k8 hn (k8 (W:=W) (s:=[10]) hn h)
omit hw he h7 h21 h22 hn hi2 hbw in
theorem IP:(bW nl (Bool.rec (db nl W 10) W b) s).ws=W.ws∧(bW nl (Bool.rec (db nl W 10) W b) s).ind=W.ind:=by
 cases b<;>exact⟨nH.1,nH.2.1⟩
omit h21 hn hi2 hbw in
theorem Qc{W:Wr}(hws:W.ws=true)(hin:W.ind=true)(g:eH ind nl A s r)(hd:d∈ce)(h10:Nat.beq d 10=false)(p2:∀ e∈s,e=10)(p3:s=[]→le=true∧W.col=0)(hb:bp W (s.length+2)) :
  aH (ab w mg mb ε0) 150 cL.b ⟨de (cV A s (some d) r) hi (.bool le) ff tr A.length (A.length+s.length),aP⟩ (aS c x W) .next ⟨de (cV A s (some d) r) hi (.bool (d.beq 32)) (.bool (d.beq 32)) ff (A.length+s.length) (A.length+s.length+1),aP⟩ (aS c x (gK ind (bW nl (Bool.rec (db nl W 10) W (le ||d.beq 32)) s))):=by
 rcases B4 hd with e|e|e
 ·subst e;exact nomatch h10
 ·subst e
  have m:some 32∈mZ:=.tail _ (.head _);cases le with
  |true=>exact tL (oc:=some 32) (l0:=tr) hw he hws hin h7 h22 g m (fun _=>rfl) (aA (aA (aA (aB vV _ m)).2).2).2 p2 (hb.mono (by lia)) fun q=>(p3 q).2
  |false=>exact tL (oc:=some 32) (l0:=ff) hw he hws hin h7 h22 g m (fun _=>rfl) (aA GX).2 p2 (hb.mono (by lia)) fun q=>(p3 q).2
 ·have m:some d∈mZ:=.tail _ (Zi (.tail _ e))
  have q:jV (some d)=d.beq 32:=(tv (aB P2 d e)).trans (tm e).2.symm;rw[←q];cases le with
  |true=>exact tL (oc:=some d) (l0:=tr) hw he hws hin h7 h22 g m (fun _=>rfl) (aA (aA (aA (aB vV _ m)).2).2).2 p2 (hb.mono (by lia)) fun q=>(p3 q).2
  |false=>
   cases s with
   |nil=>exact nomatch (p3 rfl).1
   |cons a s=>
    have:=p2 a (.head _);subst this;have D:=KH (mg:=mg) (mb:=mb) (c:=c) (hi:=hi) hw he hws hin h7 h22 g e (fun e he=>p2 e (.tail _ he)) (hb.mono (by rw[bJ];push_cast;lia));have e3:(A.length:Int)+((10::s).length:Int)=A.length+s.length+1:=by rw[bJ];push_cast;lia
    rw[e3,q,(tm e).2];rw[q,(tm e).2] at D;exact D
def oS(Γ:aw)(x:Nat→AV)(c:Nat→ay)(hi:AV)(A r:ξ)(d:Nat)(S S':FS):Prop:=∃ A',A'++S'.s=A++(S.s++[d])∧mf S' A'.length∧bp S'.W (3*r.length+S'.s.length+6)∧∃ i:Int,i=A'.length ∧
 aH Γ 150 cL.b ⟨de (cV A S.s (some d) r) hi (.bool S.le) (.bool S.sp) (.bool S.br) A.length (A.length+S.s.length),aP⟩ (aS c x S.W) .next ⟨de (cV A S.s (some d) r) hi (.bool S'.le) (.bool S'.sp) (.bool S'.br) i (A.length+S.s.length+1),aP⟩ (aS c x S'.W)
section
variable {le sp br:Bool}{s A r:ξ}{W:Wr}{d:Nat}
omit hw he h7 h21 h22 hn hi2 hbw
theorem QR(h:Nat.beq d 10=true):bN nl ind bw ⟨le,sp,true,s,W⟩ d=⟨le,sp,true,s++[d],W⟩:=by show Bool.rec (motive:=fun _=>FS) _ _ (d.beq 10)=_;rw[h]
theorem Vc(h:Nat.beq d 10=false):bN nl ind bw ⟨le,sp,true,s,W⟩ d=⟨d.beq 32,d.beq 32,false,[d],gK ind (bW nl (Bool.rec (db nl W 10) W (le ||d.beq 32)) s)⟩:=by show Bool.rec (motive:=fun _=>FS) _ _ (d.beq 10)=_;rw[h]
theorem RJ(h:Nat.beq d 32=true):bN nl ind bw ⟨le,true,false,s,W⟩ d=⟨le,true,false,s++[d],W⟩:=by show Bool.rec (motive:=fun _=>FS) _ _ (d.beq 32)=_;rw[h]
theorem GO(h:Nat.beq d 32=false):bN nl ind bw ⟨le,true,false,s,W⟩ d=⟨le,false,d.beq 10,[d],Bool.rec (fh s W) (jP nl ind W) (s.length.beq 1&&decide (bw<W.col))⟩:=by show Bool.rec (motive:=fun _=>FS) _ _ (d.beq 32)=_;rw[h]
theorem P7(h:(d.beq 10 ||d.beq 32)=false):bN nl ind bw ⟨le,false,false,s,W⟩ d=⟨le,false,false,s++[d],W⟩:=by show Bool.rec (motive:=fun _=>FS) _ _ (d.beq 10 ||d.beq 32)=_;rw[h]
theorem VC(h:(d.beq 10 ||d.beq 32)=true):bN nl ind bw ⟨le,false,false,s,W⟩ d=⟨le,d.beq 32,d.beq 10,[d],fh s W⟩:=by show Bool.rec (motive:=fun _=>FS) _ _ (d.beq 10 ||d.beq 32)=_;rw[h]
variable (F:mf ⟨le,sp,br,s,W⟩ A.length)(hd:d∈ce)(hl:A.length+s.length+(r.length+1)≤400)(hb:bp W (3*(r.length+1)+s.length+6))
include F hl hb in
theorem zS(h1:br=true→d=10)(h2:sp=true→d=32)(D:aH (ab w mg mb ε0) 150 cL.b ⟨de (cV A s (some d) r) hi (.bool le) (.bool sp) (.bool br) A.length (A.length+s.length),aP⟩ (aS c x W) .next ⟨de (cV A s (some d) r) hi (.bool le) (.bool sp) (.bool br) A.length (A.length+s.length+1),aP⟩ (aS c x W)) :
  oS (ab w mg mb ε0) x c hi A r d ⟨le,sp,br,s,W⟩ ⟨le,sp,br,s++[d],W⟩ :=
 ⟨A,rfl,⟨fun q=>⟨(F.br q).1,fun e he=>(dy he).elim ((F.br q).2 e) fun m=>(bU m).trans (h1 q)⟩,fun q e he=>(dy he).elim (F.sp q e) fun m=>(bU m).trans (h2 q),fun q=>(nomatch (List.append_eq_nil_iff.mp q).2),F.col,F.ws,F.ind⟩,hb.mono (by show _+((s++[d]).length:Int)+6≤_;rw[s9,sd];lia),A.length,rfl,D⟩
theorem uT{le' sp' br':Bool}{W':Wr}(h0:br'=true→sp'=false)(h1:br'=true→d=10)(h2:sp'=true→d=32)(hc:W'.col≤40+(A.length+s.length:Int))(h3:W'.ws=true)(h4:W'.ind=true)(hB:bp W' (3*r.length+7))(D:aH (ab w mg mb ε0) 150 cL.b ⟨de (cV A s (some d) r) hi (.bool le) (.bool sp) (.bool br) A.length (A.length+s.length),aP⟩ (aS c x W) .next ⟨de (cV A s (some d) r) hi (.bool le') (.bool sp') (.bool br') (A.length+s.length) (A.length+s.length+1),aP⟩ (aS c x W')) :
  oS (ab w mg mb ε0) x c hi A r d ⟨le,sp,br,s,W⟩ ⟨le',sp',br',[d],W'⟩ :=
 ⟨A++s,aC ..,⟨fun q=>⟨h0 q,fun e he=>(bU he).trans (h1 q)⟩,fun q e he=>(bU he).trans (h2 q),nofun,by rw[s9];exact hc,h3,h4⟩,hB.mono (by show _+1+6≤_;lia),_,s9.symm,D⟩
include hl hi2 hn in
theorem wX:eH ind nl A s r:=⟨hi2,hn,by lia⟩
end
section
variable {le sp br:Bool}{s A r:ξ}{W:Wr}{d:Nat}(hd:d∈ce)(hl:A.length+s.length+(r.length+1)≤400)(hb:bp W (3*(r.length+1)+s.length+6))
include hd hl hb
omit h21 hbw in
theorem Pu(F:mf ⟨le,false,true,s,W⟩ A.length):oS (ab w mg mb ε0) x c hi A r d ⟨le,false,true,s,W⟩ (bN nl ind bw ⟨le,false,true,s,W⟩ d):=by
 have g:=wX (s:=s) (A:=A) (r:=r) hn hi2 hl;cases h10:Nat.beq d 10 with
 |true=>
  rw[QR h10];exact zS F hl hb (fun _=>bg h10) nofun (Bt hw F.ws F.ind h7 h22 (hb.mono (by lia)) g (by rw[bg h10];exact(aA FL).1))
 |false=>
  rw[Vc h10];exact uT nofun nofun bg (by show ind≤_;lia) (IP.1.trans F.ws) (IP.2.trans F.ind) (zh hi2 (Mx hn (hb.mono (by lia)))) (Qc hw he h7 h22 F.ws F.ind g hd h10 (F.br rfl).2 (fun q=>(F.e q).2) (hb.mono (by lia)))
omit h21 hbw he in
theorem WX(F:mf ⟨le,false,false,s,W⟩ A.length):oS (ab w mg mb ε0) x c hi A r d ⟨le,false,false,s,W⟩ (bN nl ind bw ⟨le,false,false,s,W⟩ d):=by
 have g:=wX (s:=s) (A:=A) (r:=r) hn hi2 hl;cases h:(d.beq 10 ||d.beq 32) with
 |false=>
  rw[P7 h];exact zS F hl hb nofun nofun (Bt hw F.ws F.ind h7 h22 (hb.mono (by lia)) g (aB Uv d (List.mem_filter.mpr ⟨hd,by rw[h];rfl⟩)))
 |true=>
  rw[VC h];have f4:=F.col;have m:(tU d).chk=true:=by
   rcases B4 hd with e|e|e
   ·rw[e];exact(aA Ji).2
   ·rw[e];exact(aA Ji).1
   ·rw[(tm e).1,(tm e).2] at h;exact nomatch h
  exact uT (fun q=>by rw[bg q];rfl) bg bg (by show W.col+(s.length:Int)≤_;lia) F.ws F.ind (Bv (hb.mono (by lia)) (by lia)) (Ww hw F.ws F.ind h7 h22 (hb.mono (by lia)) g m)
end
omit he h21 h22 h7 hw hn hi2 hbw in
theorem Xi(hd:d∈ce)(h:Nat.beq d 32=false):d∈10::gq:=by
 rcases B4 hd with e|e|e
 ·rw[e];exact .head _
 ·rw[e] at h;exact nomatch h
 ·exact .tail _ e
omit he in
theorem LB{le:Bool}{A r:ξ}{W:Wr}{d:Nat}(hd:d∈10::gq)(h0:Nat.beq d 32=false)(hl:A.length+1+(r.length+1)≤400)(hb:bp W (3*(r.length+1)+1+6))(F:mf ⟨le,true,false,[32],W⟩ A.length):oS (ab w mg mb ε0) x c hi A r d ⟨le,true,false,[32],W⟩ (bN nl ind bw ⟨le,true,false,[32],W⟩ d):=by
 rw[GO h0];have g0:eH ind nl A [] r:=⟨hi2,hn,by show A.length+0+r.length≤400;lia⟩;have b0:bp W 0:=hb.mono (by lia);have f4:=F.col;cases hc:decide (bw<W.col) with
 |true=>exact uT (fun _=>rfl) bg nofun (by show ind≤_;lia) F.ws F.ind (L5 hn hi2 (hb.mono (by lia))) (by rw[sd,DN];exact On hw F.ws F.ind h7 h22 b0 g0 h21 hbw.1 (ZB hc) hbw.2 (by lia) (aB YU d hd))
 |false=>exact uT (fun _=>rfl) bg nofun (by show W.col+1≤_;rw[sd];lia) F.ws F.ind (Bv (hb.mono (by rw[sd];lia)) (by rw[sd];lia)) (by rw[sd,DN];exact WC hw F.ws F.ind h7 h22 b0 g0 h21 (Int.not_lt.mp (of_decide_eq_false hc)) hbw.2 (aB RR d hd))
omit he h21 hi2 hbw in
theorem NK{le:Bool}{A r t:ξ}{W:Wr}{d:Nat}(hd:d∈10::gq)(h0:Nat.beq d 32=false)(hl:A.length+(32::32::t).length+(r.length+1)≤400)(hi2:2≤ind∧ind≤40)(hb:bp W (3*(r.length+1)+(32::32::t).length+6))(F:mf ⟨le,true,false,32::32::t,W⟩ A.length):oS (ab w mg mb ε0) x c hi A r d ⟨le,true,false,32::32::t,W⟩ (bN nl ind bw ⟨le,true,false,32::32::t,W⟩ d):=by
 rw[GO h0];have z2:(((32::32::t:ξ).length:Nat):Int)=t.length+2:=rfl;have f4:=F.col;refine uT (fun _=>rfl) bg nofun (by show W.col+((32::32::t).length:Int)≤_;lia) F.ws F.ind (Bv (hb.mono (by lia)) (by lia)) ?_;have D:=Vq (mg:=mg) (mb:=mb) (c:=c) (hi:=hi) (le:=.bool le) hw F.ws F.ind h7 h22 (hb.mono (by lia)) (⟨hi2,hn,by rw[bJ,bJ] at hl;lia⟩ : eH ind nl A t r) (aB SX d hd);rw[ZJ,ZJ W.col] at D;exact D
omit he h21 in
theorem Na{A s:ξ}(he:ε0.Ok)(F:mf ⟨le,sp,br,s,W⟩ A.length)(hL:∀ P,A++s≠P++[32])(hl:A.length+s.length≤400)(hb:bp W (s.length+6)) :
  Wz (ab w mg mb ε0) 150 cL.t cL.b ⟨de (A++s) hi (.bool le) (.bool sp) (.bool br) A.length (A.length+s.length),aP⟩ (aS c x W) ⟨[],aP⟩ (aS c x (g6 nl ⟨le,sp,br,s,W⟩))∧((g6 nl ⟨le,sp,br,s,W⟩).col=0∧(g6 nl ⟨le,sp,br,s,W⟩).ws=true∧(g6 nl ⟨le,sp,br,s,W⟩).ind=true):=by
 have tt:=aA (aA IQ).2;have g:eH ind nl A s []:=⟨hi2,hn,hl⟩;have b0:bp W 0:=hb.mono (by lia);have T1:=vm (mg:=mg) (mb:=mb) (c:=c) (hi:=hi) (le:=.bool le) (sp:=.bool sp) (br:=.bool br) (i:=A.length) hw h7 h22 F.ws F.ind g tt.1 b0;rw[aZ] at T1;cases br with
 |true=>
  cases sp with
  |true=>exact nomatch (F.br rfl).1
  |false=>
   have h0:s=[]→W.col=0:=fun q=>(F.e q).2.2;have p2:=(F.br rfl).2;apply lX (nH (nl:=nl) (s:=s) (W:=W));intro a1 a2 _ _ _ a6;refine⟨Wz.post (ls1:=⟨de (A++s) hi ff ff tr (A.length+s.length) (A.length+s.length+1),aP⟩) rfl (fun U U h=>by injection h) ?_,a6.elim id fun q=>q.2.trans (h0 q.1),a1.trans F.ws,a2.trans F.ind⟩;refine Wz.go T1 ?_ (Wz.stop (vm (oc:=none) hw h7 h22 (a1.trans F.ws) (a2.trans F.ind) g tt.2 (k8 hn (hb.mono (by lia)))));cases le with
   |true=>exact tL (oc:=none) (l0:=tr) hw he F.ws F.ind h7 h22 g (.head _) (fun _=>rfl) (aA (aA (aA (aB vV none (.head _))).2).2).2 p2 (hb.mono (by lia)) h0
   |false=>exact tL (oc:=none) (l0:=ff) hw he F.ws F.ind h7 h22 g (.head _) (fun _=>rfl) (aA GX).1 p2 (hb.mono (by lia)) h0
 |false=>
  cases sp with
  |true=>
   rcases List.eq_nil_or_concat s with q|⟨P,a,q⟩
   ·exact nomatch (F.e q).1
   ·rw[List.concat_eq_append] at q
    exact absurd (by rw[q,←aC,F.sp rfl a (by rw[q];exact dU _ (.head _))]) (hL (A++P))
  |false=>
   refine⟨Wz.post (ls1:=⟨de (A++s) hi (.bool le) ff ff (A.length+s.length) (A.length+s.length+1),aP⟩) rfl (fun U U h=>by injection h) ?_,rfl,F.ws,F.ind⟩;have q1:=hb.l0;have q2:=hb.l1;have q3:=hb.n0;have q4:=hb.n1;have q5:=hb.t1;have hb1:bp {W with T:=W.T++(s++nl),line:=W.line+1,n:=W.n+2,col:=0} 0:=⟨by show 0≤W.line+1;lia,by show W.line+1+0≤_;lia,cI _,(by decide:(0:Int)≤100000),by show 0≤W.n+2;lia,by show W.n+2+0≤_;lia,by show ((W.T++(s++nl)).length:Int)+_≤_;rw[s9,s9];lia⟩;exact Wz.go T1 (Qy (mg:=mg) (mb:=mb) (c:=c) (hi:=hi) (le:=.bool le) hw F.ws F.ind h7 h22 b0 g) (Wz.stop (vm (W:={W with T:=W.T++(s++nl),line:=W.line+1,n:=W.n+2,col:=0}) (oc:=none) hw h7 h22 F.ws F.ind g tt.2 hb1))
theorem QZ:∀ {S:FS} {A r:ξ} {d:Nat},mf S A.length→d∈ce→A.length+S.s.length+(r.length+1)≤400→bp S.W (3*(r.length+1)+S.s.length+6)→oS (ab w mg mb ε0) x c hi A r d S (bN nl ind bw S d)
 |⟨_,true,true,_,_⟩,_,_,_,F,_,_,_=>nomatch (F.br rfl).1
 |⟨_,false,true,_,_⟩,_,_,_,F,hd,hl,hb=>Pu hw he h7 h22 hn hi2 hd hl hb F
 |⟨_,false,false,_,_⟩,_,_,_,F,hd,hl,hb=>WX hw h7 h22 hn hi2 hd hl hb F
 |⟨_,true,false,s,_⟩,A,r,d,F,hd,hl,hb=>by
  cases h:Nat.beq d 32 with
  |true=>
   rw[RJ h];exact zS F hl hb nofun (fun _=>bg h) (Bt hw F.ws F.ind h7 h22 (hb.mono (by lia)) (wX hn hi2 hl) (by rw[bg h];exact(aA FL).2))
  |false=>
   have m:=Xi hd h;have f2:=F.sp rfl;cases s with
   |nil=>exact nomatch (F.e rfl).1
   |cons a t=>
    cases f2 a (.head _);cases t with
    |nil=>exact LB hw h7 h21 h22 hn hi2 hbw m h hl hb F
    |cons b t=>cases f2 b (.tail _ (.head _));exact NK hw h7 h22 hn m h hl hi2 hb F
theorem N1:∀ (post A:ξ) (S:FS),mf S A.length→(∀ d∈post,d∈ce)→(∀ P,A++(S.s++post)≠P++[32])→A.length+S.s.length+post.length≤400→bp S.W (3*post.length+S.s.length+6) →
  Wz (ab w mg mb ε0) 150 cL.t cL.b ⟨de (A++(S.s++post)) hi (.bool S.le) (.bool S.sp) (.bool S.br) A.length (A.length+S.s.length),aP⟩ (aS c x S.W) ⟨[],aP⟩ (aS c x (g6 nl (post.foldl (bN nl ind bw) S)))∧((g6 nl (post.foldl (bN nl ind bw) S)).col=0∧(g6 nl (post.foldl (bN nl ind bw) S)).ws=true∧(g6 nl (post.foldl (bN nl ind bw) S)).ind=true):=by
 intro L0;induction L0 with
 |nil=>
  intro A S F _ hL hl hb;rw[apN] at hL ⊢;exact Na hw h7 h22 hn hi2 hbw he F hL hl (hb.mono (by show _≤3*(0:Int)+_+6;lia))
 |cons d r ih=>
  intro A S F ha hL hl hb;apply ak (QZ (mg:=mg) (mb:=mb) (c:=c) (hi:=hi) hw he h7 h21 h22 hn hi2 hbw (r:=r) F (ha d (.head _)) hl hb);intro A' e H;apply fj H;intro F' b' H;apply ak H;intro i ei D;have ev:A'++((bN nl ind bw S d).s++r)=A++(S.s++d::r):=by rw[←aC,e,aC,aC];rfl
  have el:=congrArg List.length e;rw[au,au,au] at el;replace el:A'.length+(bN nl ind bw S d).s.length=A.length+(S.s.length+1):=el;have R:=ih A' (bN nl ind bw S d) F' (fun e he=>ha e (.tail _ he)) (by rw[ev];exact hL) (by rw[bJ] at hl;lia) b';rw[ev,←ei,show i+((bN nl ind bw S d).s.length:Int)=A.length+S.s.length+1 by lia] at R;exact⟨Wz.go (by have:=vm (mg:=mg) (mb:=mb) (c:=c) (hi:=hi) (le:=.bool S.le) (sp:=.bool S.sp) (br:=.bool S.br) (i:=A.length) (d:=0) hw h7 h22 F.ws F.ind (wX hn hi2 hl) (aB (aA IQ).1 d (ha d (.head _))) (hb.mono (by lia));rw[aZ] at this;exact this) D R.1,R.2⟩
end
noncomputable def dB(T:ξ)(l n:Int)(o:Bool)(Z:Wr):Wr:={Z with T:=T++Z.T,line:=l+Z.line,n:=n+Z.n,oe:=o}
def FU:db nl (dB T l n o Z) c=dB T l n o (db nl Z c):=by
 unfold db dB;simp only [aC,ZJ]
def Bu:∀ {s:ξ} {Z:Wr},bW nl (dB T l n o Z) s=dB T l n o (bW nl Z s):=by
 intro s;induction s with
 |nil=>exact rfl
 |cons a r ih=>exact fun {Z}=>(congrArg (fun e=>bW nl e r) FU).trans ih
def Aa:fh s (dB T l n o Z)=dB T l n o (fh s Z):=by
 unfold fh dB;simp only [aC,ZJ]
def M9:jP nl ind (dB T l n o Z)=dB T l n o (jP nl ind Z):=by
 unfold jP dB;simp only [aC,ZJ]
def DX:gK ind (dB T l n o Z)=dB T l n o (gK ind Z):=by
 unfold gK dB;simp only [aC,ZJ]
def FS.sh(T:ξ)(l n:Int)(o:Bool)(S:FS):FS:={S with W:=dB T l n o S.W}
def Ta{S:FS}:bN nl ind bw (S.sh T l n o) d=(bN nl ind bw S d).sh T l n o:=by
 obtain⟨le,sp,br,s,W⟩:=S;cases br with
 |true=>
  show Bool.rec (motive:=fun _=>FS) ⟨d.beq 32,d.beq 32,false,[d],gK ind (bW nl (Bool.rec (db nl (dB T l n o W) 10) (dB T l n o W) (le ||d.beq 32)) s)⟩ _ (d.beq 10)=FS.sh T l n o (Bool.rec (motive:=fun _=>FS) ⟨d.beq 32,d.beq 32,false,[d],gK ind (bW nl (Bool.rec (db nl W 10) W (le ||d.beq 32)) s)⟩ _ (d.beq 10));cases d.beq 10 with
  |true=>rfl
  |false=>
   cases le ||d.beq 32 with
   |true=>show FS.mk _ _ _ _ (gK ind (bW nl (dB T l n o W) s))=_;rw[Bu,DX];rfl
   |false=>show FS.mk _ _ _ _ (gK ind (bW nl (db nl (dB T l n o W) 10) s))=_;rw[FU,Bu,DX];rfl
 |false=>
  cases sp with
  |true=>
   show Bool.rec (motive:=fun _=>FS) ⟨le,false,d.beq 10,[d],Bool.rec (fh s (dB T l n o W)) (jP nl ind (dB T l n o W)) (s.length.beq 1&&decide (bw<W.col))⟩ _ (d.beq 32)=FS.sh T l n o (Bool.rec (motive:=fun _=>FS) ⟨le,false,d.beq 10,[d],Bool.rec (fh s W) (jP nl ind W) (s.length.beq 1&&decide (bw<W.col))⟩ _ (d.beq 32));rw[Aa,M9];cases d.beq 32 with
   |true=>rfl
   |false=>cases s.length.beq 1&&decide (bw<W.col)<;>rfl
  |false=>
   show Bool.rec (motive:=fun _=>FS) _ ⟨le,d.beq 32,d.beq 10,[d],fh s (dB T l n o W)⟩ (d.beq 10 ||d.beq 32)=FS.sh T l n o (Bool.rec (motive:=fun _=>FS) _ ⟨le,d.beq 32,d.beq 10,[d],fh s W⟩ (d.beq 10 ||d.beq 32));rw[Aa];cases d.beq 10 ||d.beq 32<;>rfl
def R9:∀ {v:ξ} {S:FS},v.foldl (bN nl ind bw) (S.sh T l n o)=(v.foldl (bN nl ind bw) S).sh T l n o:=by
 intro v;induction v with
 |nil=>exact rfl
 |cons d r ih=>exact fun {S}=>(congrArg (fun e=>r.foldl (bN nl ind bw) e) Ta).trans ih
def Td{S:FS}:g6 nl (S.sh T l n o)=dB T l n o (g6 nl S):=by
 obtain⟨le,sp,br,s,W⟩:=S;cases br with
 |true=>exact Bu
 |false=>
  cases sp with
  |true=>exact Aa
  |false=>show Wr.mk _ _ _ _ _ _ _=dB T l n o (Wr.mk _ _ _ _ _ _ _);unfold dB;simp only [FS.sh,dB,aC,ZJ]
noncomputable def th:List ξ:=[[],[50],[51],[52],[57]].flatMap fun a=>[[],[45],[43]].map fun b=>a++b
noncomputable def gA(h:ξ):Bool:=match h.reverse with|c::_=>c.beq 43|[]=>false
def wl(h:ξ):sT:=fun c x as=>gd (jG dG as [.str [.var 2]]) (gd (dG (x 20) (lI 8)) (some (.str (.k h),c,x)))
def Xu(β:Bd)(h:ξ):td:=fun σ f vs=>Bool.rec none (nF β (wl h) σ vs) (f.beq 711)
def wD(β:Bd)(h:ξ):Sp:=Xu β h
noncomputable def βF:Bd:=[(0,100000),(0,100000),(0,100000),(0,0),(0,100000),(0,400),(2,40),(0,0),(2,9),(0,0),(0,0),(1,2)]
def zb(b:Nat)(v:ξ):(bt b v).length≤2:=by
 cases v with
 |nil=>exact ZA _
 |cons a r=>
  show (du b a++dE (a::r)).length≤2;rw[au];exact Nat.add_le_add (zy b a) (Dm (a::r))
set_option tactic.hygienic true in
def Hj(hb:best∈cO)(v:ξ):bt best v∈th:=by
 have hE:dE v=[]∨dE v=[45]∨dE v=[43]:=by
  unfold dE
  split
  ·exact .inl rfl
  ·rename_i e r _
   cases aU e with
   |false=>exact .inr (.inl rfl)
   |true=>
    split
    ·exact .inr (.inr rfl)
    ·rename_i d _ _;cases aU d
     ·exact .inl rfl
     ·exact .inr (.inr rfl)
 cases v with
 |nil=>exact(by decide:([]:ξ)∈th)
 |cons c r=>
  show du best c++dE (c::r)∈th;have hA:du best c=[]∨du best c=[best+48]:=by unfold du;cases aK c [32,10,133,8232,8233]<;>simp
  unfold cO at hb;simp only [List.mem_cons,Zp,or_false] at hb;rcases hA with q|q<;>rw[q]<;>rcases hE with p|p|p<;>rw[p]<;>rcases hb with rfl|rfl|rfl|rfl<;>decide
section
variable {w:World}{mg mb:ω}{ε:Ev}{β:Bd}
def Uu(hw:ε.P=w.params)(he:ε.Ok)(hb:aV β ε){best:Nat}{v:ξ}(h8:ε.iv 8=best)(hbe:best∈cO)(h2:ε.sv 2=v)(hv:v≠[])(ha:∀ c∈v,c∈ce)(hl:v.length≤400):py (ab w mg mb ε) 130 (wD β (bt best v)) :=
 fun σ f vs p h=>by
  cases q:Nat.beq f 711 with
  |false=>rw[show wD β (bt best v) σ f vs=Bool.rec (motive:=fun U=>κ (AV×St)) none (nF β (wl (bt best v)) σ vs) (f.beq 711) from rfl,q] at h;injection h
  |true=>
   rw[show wD β (bt best v) σ f vs=Bool.rec (motive:=fun U=>κ (AV×St)) none (nF β (wl (bt best v)) σ vs) (f.beq 711) from rfl,q] at h;replace q:=bg q;subst q;have R:=Bm (Γ:=ab w mg mb ε) (f:=711) (n:=155) he hb (g:=wl (bt best v)) (fun c x as r c' x' hg=>by
    apply bV hg;clear hg;intro g0 hg;have ea:as=[.str [.var 2]]:=kN (f:=dG) (fun x U y e=>gX x y e) g0
    ·apply bV hg;clear hg;intro g1 hg
     (apply j3 hg;rintro rfl rfl rfl);subst ea;have e20:flA (bx ε) (x' 20)=I best:=by rw[gX _ _ g1];show AV.int (.k ((V 8).val ε))=_;rw[fO,h8];rfl
     have H:=YO (mg:=mg) (mb:=mb) (z:=fun i=>fC (bx ε) (c' i)) (x:=fun i=>flA (bx ε) (x' i)) hw he hbe e20 hv ha hl;refine⟨H.1,.str (.k (bt best v)),fun U U U h=>h.sames (by show _=SS.val ε (.k (SS.val ε (.k _)));rw[dY,dY,dY]) (jm _),?_⟩;have e2:bX (bx ε) [.str [.var 2]]=[.str (.k v)]:=by show [AV.str (.k (ε.sv 2++[]))]=_;rw[apN,h2]
     rw[show (ab w mg mb ε).ε=ε from rfl,e2];exact H.2) h
   exact⟨R.1,cg.le (by decide) R.2.h⟩
def εF(P:Params)(W:Wr)(ind best:Int)(nl v:ξ):Ev:=dr P (tn 0 [W.n,W.line,W.col,ind,best]) (tn [] [W.T,[],v,[],[],nl])
def We{nl v:ξ}(h:bp W 0)(hi:2≤ind∧ind≤40)(hb:2≤best∧best≤9)(hn:1≤nl.length∧nl.length≤2)(hl:v.length≤400):aV βF (εF P W ind best nl v):=nQ (by
 have e0:∀ a:Int,a≤a:=fun U=>cI _;have h1:=h.l1;have h2:=h.n1;have h3:=h.t1;have h5:=hn.1;have h6:=hn.2;exact⟨⟨h.n0,by show W.n≤100000;lia⟩,⟨cW _,by show (W.T.length:Int)≤100000;lia⟩,⟨h.l0,by show W.line≤100000;lia⟩,⟨e0 0,e0 0⟩,⟨h.c0,h.c1⟩,⟨cW _,by show (v.length:Int)≤400;lia⟩,hi,⟨e0 0,e0 0⟩,hb,⟨e0 0,e0 0⟩,⟨e0 0,e0 0⟩,⟨by show (1:Int)≤(nl.length:Int);lia,by show (nl.length:Int)≤2;lia⟩,trivial⟩)
def cY(best:Nat)(v:ξ):Bool:=gA (bt best v)
def AC:Nat→AV:=xS [(7,lI 6),(20,lI 8),(22,.str [.var 5])]
def CZ(h:ξ)(ind:Bool):cu where
 β:=βF
 sp:=wD βF h
 d:=3
 fr:=[]
 ls:=⟨[(aF,.cell 5),(dI,.str [.var 2])],aP⟩
 P:=pX AC [.var 0] (V 0) (lI 2) (lI 4) ff (.bool ind) (.any 24)
 ss:=aQ 8 qG
 f:=.next
 k:=8
 out:=[(aF,.cell 5),(dI,.str [.var 2]),(cS,.str (.k h)),(sH,tr),(vf,ff),(xH,tr),(vD,I 0),(wq,I 0)]
 Q:=pX AC [.var 0,.lit (32::62::h),.var 5] ⟨2,[(0,1)]⟩ (.int ⟨1,[(2,1)]⟩) (I 0) tr tr (.bool (gA h))
def OG:(th.all fun h=>tf.all fun i=>(CZ h i).chk)=true:=by kernel_rfl
def XG:qG=aQ 8 qG++[.While cL.t cL.b [] cL.p]:=by kernel_rfl
def XH:eC 718 hG=some (cJ 718):=by kernel_rfl
noncomputable def kh:FS:=⟨true,false,true,[],⟨0,0,0,[],true,true,false⟩⟩
def fG(nl:ξ)(ind bw:Int)(v:ξ):Wr:=g6 nl (v.foldl (bN nl ind bw) kh)
def ie(best:Nat)(nl:ξ)(ind bw:Int)(v:ξ):List Nat×Int×Int:=(32::62::(bt best v++(nl++(fG nl ind bw v).T)),1+(fG nl ind bw v).line,2+(fG nl ind bw v).n)
def Vg{x:Nat→AV}{c:Nat→ay}{ε0:Ev}{W:Wr}{best:Nat}{ind bw:Int}{nl v:ξ}(hw:ε0.P=w.params)(he:ε0.Ok)(hb:best∈cO)(h7:x 7=I ind)(h20:x 20=I best)(h21:x 21=I bw)(h22:x 22=.str (.k nl))(hn:1≤nl.length∧nl.length≤2)(hi2:2≤ind∧ind≤40)(hbw:ind<bw∧bw≤900)
  (hws:W.ws=false) (hv:v≠[]) (ha:∀ d∈v,d∈ce) (hL:∀ P,v≠P++[32]) (hl:v.length≤200) (hB:bp W 1000) :
  fnIn (cG w.params) 718=true∧Rz (ab w mg mb ε0) 205 (aS c x W) 718 [.cell 5,.str (.k v)] .none (aS c x {W.adv (ie best nl ind bw v) with ws:=true,ind:=true,oe:=cY best v}):=by
 have hb2:2≤(best:Int)∧(best:Int)≤9:=by
  unfold cO at hb;simp only [List.mem_cons,Zp,or_false] at hb;rcases hb with rfl|rfl|rfl|rfl<;>decide
 have hj:=aB (aB OG (bt best v) (Hj hb v)) W.ind (iV _);have lh:=zb best v;have st:∀ {T:SS} {d dl:Int} {col ws ind' oe:AV} {W':Wr},T.val (εF ε0.P W ind best nl v)=W'.T→W.n+d=W'.n→W.line+dl=W'.line→flA (aq (εF ε0.P W ind best nl v) (vW x (fun _=>.bool W.oe)) c) col=I W'.col→flA (aq (εF ε0.P W ind best nl v) (vW x (fun _=>.bool W.oe)) c) ws=.bool W'.ws→flA (aq (εF ε0.P W ind best nl v) (vW x (fun _=>.bool W.oe)) c) ind'=.bool W'.ind→flA (aq (εF ε0.P W ind best nl v) (vW x (fun _=>.bool W.oe)) c) oe=.bool W'.oe →
   bL (aq (εF ε0.P W ind best nl v) (vW x (fun _=>.bool W.oe)) c) (pX AC T ⟨d,[(0,1)]⟩ (.int ⟨dl,[(2,1)]⟩) col ws ind' oe)=aS c x W':=by
  intro T d dl col ws ind' oe W' a1 a2 a3 a4 a5 a6 a7;refine Jd (BX fun p hp=>?_) a1 (by show d+(1*W.n+0)=W'.n;lia) (by show AV.int (.k (dl+(1*W.line+0)))=I W'.line;rw[←a3,show dl+(1*W.line+0)=W.line+dl by lia];rfl) a4 a5 a6 a7;rcases bk hp with rfl|hp
  ·show AV.int (.k ((V 6).val _))=_;rw[fO,h7];rfl
  ·rcases bk hp with rfl|hp
   ·show AV.int (.k ((V 8).val _))=_;rw[fO,h20];rfl
   ·rw[bU hp]
    show AV.str (.k (nl++[]))=x 22;rw[h22,apN]
 have hok:(εF ε0.P W ind best nl v).Ok:=cR _ _ _;have hbd:aV βF (εF ε0.P W ind best nl v):=We (hB.mono (by decide)) hi2 hb2 hn (by lia);have D0:aH (ab w mg mb ε0) 200 (aQ 8 qG) ⟨[(aF,.cell 5),(dI,.str (.k v))],aP⟩ (aS c x W) .next ⟨de ([]++([]++v)) (.str (.k (bt best v))) tr ff tr 0 0,aP⟩ (aS c x {W with T:=W.T++(32::62::(bt best v++nl)),line:=W.line+1,n:=W.n+2,col:=0,ws:=true,ind:=true,oe:=cY best v}):=by
  refine((HK (mg:=mg) (mb:=mb) (b:=130) (v:=vW x (fun _=>.bool W.oe)) (z:=c) hw (ε:=εF ε0.P W ind best nl v) rfl (cR _ _ _) (CZ (bt best v) W.ind) hbd (fun ov cv _=>Uu (ε:=(εF ε0.P W ind best nl v).wO ov cv) hw (fun i=>hok i) (fun i p h=>hbd i p h) rfl hb rfl hv ha (by lia)) rfl hj).le (by show 10*3+130+30≤200;decide)).cast ?_ ?_ rfl ?_ ?_
  ·show (⟨[(aF,AV.cell 5),(dI,AV.str (.k (v++[])))],aP⟩ : ag)=_;rw[apN]
  ·exact st (T:=[.var 0]) (d:=0) (dl:=0) (apN _) (aZ _) (aZ _) (by show AV.int (.k ((V 4).val _))=_;rw[fO];rfl) (by rw[hws];rfl) rfl rfl
  ·show (⟨[(aF,AV.cell 5),(dI,AV.str (.k (v++[]))),(cS,AV.str (.k (SS.val _ (.k (bt best v))))),(sH,tr),(vf,ff),(xH,tr),(vD,AV.int (.k ((ax.k 0).val _))),(wq,AV.int (.k ((ax.k 0).val _)))],aP⟩ : ag)=_
   rw[apN,dY,cF];rfl
  ·refine st ?_ rfl rfl (by show AV.int (.k ((ax.k 0).val _))=_;rw[cF];rfl) rfl rfl rfl
   show W.T++((32::62::bt best v)++(nl++[]))=W.T++(32::62::(bt best v++nl));rw[apN];rfl
 have q1:=hB.l0;have q2:=hB.l1;have q3:=hB.n0;have q4:=hB.n1;have q5:=hB.t1;have hB1:bp {W with T:=W.T++(32::62::(bt best v++nl)),line:=W.line+1,n:=W.n+2,col:=0,ws:=true,ind:=true,oe:=cY best v} 900 :=
  ⟨by show 0≤W.line+1;lia,by show W.line+1+900≤100000;lia,cI _,(by decide:(0:Int)≤100000),by show 0≤W.n+2;lia,by show W.n+2+900≤100000;lia,by show ((W.T++(32::62::(bt best v++nl))).length:Int)+50*900≤100000;rw[au,bJ,bJ,au];push_cast;lia⟩
 have L:=N1 (mg:=mg) (mb:=mb) (c:=c) (hi:=.str (.k (bt best v))) hw he h7 h21 h22 hn hi2 hbw v [] ⟨true,false,true,[],{W with T:=W.T++(32::62::(bt best v++nl)),line:=W.line+1,n:=W.n+2,col:=0,ws:=true,ind:=true,oe:=cY best v}⟩ ⟨fun _=>⟨rfl,nofun⟩,nofun,fun _=>⟨rfl,rfl,rfl⟩,by show (0:Int)≤40+0;decide,rfl,rfl⟩ ha hL (by show 0+0+v.length≤400;lia) (hB1.mono (by show 3*(v.length:Int)+0+6≤900;lia));have e:g6 nl (v.foldl (bN nl ind bw) ⟨true,false,true,[],{W with T:=W.T++(32::62::(bt best v++nl)),line:=W.line+1,n:=W.n+2,col:=0,ws:=true,ind:=true,oe:=cY best v}⟩)=dB (W.T++(32::62::(bt best v++nl))) (W.line+1) (W.n+2) (cY best v) (fG nl ind bw v):=by
  have q:=Td (nl:=nl) (T:=W.T++(32::62::(bt best v++nl))) (l:=W.line+1) (n:=W.n+2) (o:=cY best v) (S:=v.foldl (bN nl ind bw) kh);rw[←R9] at q;refine Eq.trans (congrArg (fun e=>g6 nl (v.foldl (bN nl ind bw) ⟨true,false,true,[],e⟩)) ?_) q;show Wr.mk _ _ _ _ _ _ _=Wr.mk _ _ _ _ _ _ _;rw[show kh.W.T=[] from rfl,show kh.W.line=0 from rfl,show kh.W.n=0 from rfl,apN,aZ,aZ];rfl
 have L2:=(Dz.while_ (pos:=cL.p) L.1).le (n:=200) (by decide);have B:aH (ab w mg mb ε0) 200 qG ⟨[(aF,.cell 5),(dI,.str (.k v))],aP⟩ (aS c x W) .next ⟨[],aP⟩ (aS c x {W.adv (ie best nl ind bw v) with ws:=true,ind:=true,oe:=cY best v}):=by
  have R:=D0.append L2.one;rw[←XG,e] at R;rw[e] at L;have e2:dB (W.T++(32::62::(bt best v++nl))) (W.line+1) (W.n+2) (cY best v) (fG nl ind bw v)={W.adv (ie best nl ind bw v) with ws:=true,ind:=true,oe:=cY best v}:=by
   have k:=L.2;unfold Wr.adv ie;generalize fG nl ind bw v=Z at *
   obtain⟨z1,z2,z3,z4,z5,z6,z7⟩:=Z;unfold dB at k ⊢;dsimp only at k ⊢;rw[k.1,k.2.1,k.2.2];simp only [aC,ZD,ZJ]
  rw[e2] at R;exact R
 exact TF hw he XH (by kernel_rfl) B rfl
end
noncomputable def qV(x:AV):Bool:=match x with|.none=>true|.bool _=>true|.int _=>true|.str _=>true|_=>false
section
variable {Γ:aw}{imm imm':Δ}{ρ ρ':List Addr}
def VR.pl(hx:qV x=true)(h:VR Γ imm ρ v x):VR Γ imm' ρ' v x:=by
 induction x using AV.casesOn with
 |none=>exact h.inv▸.none
 |bool b=>exact h.inv▸.bool b
 |int l=>obtain⟨t,rfl⟩:=h.inv;exact .int rfl
 |str s=>obtain⟨t,rfl,a,b⟩:=h.inv;exact .str rfl a b
 |_=>injection hx
def ar.pl{xs:List AV}(hx:xs.all qV=true):∀ {vs:List π},ar Γ imm ρ vs xs→ar Γ imm' ρ' vs xs:=by
 induction xs with
 |nil=>exact fun h=>by obtain rfl:=h.inv;exact .nil
 |cons x r ih=>
  intro vs h;replace hx:=aA (show (qV x&&r.all qV)=true from hx);apply lD h.inv;intro _ _ e0 a b;subst e0;exact .cons (a.pl hx.1) (ih hx.2 b)
def Rz.frame{vs:List AV}(h1:vs.all qV=true)(h2:qV r=true)(H:Rz Γ n [] f vs r [])(σ:St):Rz Γ n σ f vs r σ:=⟨by
 intro c A s m ls imm cs vals kwv Rq C R hv hk hk2 k;obtain rfl:kwv=[]:=by cases kwv with|nil=>rfl|cons=>injection hk
 have nd:=R.nd;rw[Zb] at nd;apply fj (List.nodup_append.mp nd);intro n1 n2 n3;have dis:∀ q∈imm,(((aG cs).map Prod.fst).contains q.1)=false:=fun q hq=>by
  cases e:((aG cs).map Prod.fst).contains q.1 with
  |false=>rfl
  |true=>exact absurd rfl (n3 q.1 (Zi hq) q.1 (List.contains_iff_mem.mp e))
 have R0:ao Γ c.h₀ c.L s.heap m [] [] (imm++aG cs) []:=⟨R.F,fun q hq=>R.N q ((apN (imm++aG cs))▸hq),(apN (imm++aG cs)).symm▸R.nd,.nil,fun U U hx=>by injection hx⟩;refine H.h (ls:=[]) C R0 (hv.pl h1) rfl .nil fun h' tk imm' cs' val R' x' hx=>?_;obtain rfl:cs'=[]:=Zz R'.C.len;have N':∀ q∈imm',h'.get? q.1=some q.2∧q.1≠c.L∧c.h₀.get? q.1=none:=fun q hq=>R'.N q (bn _ hq);have nd':(imm'.map Prod.fst).Nodup:=by have:=R'.nd;rw[show imm'++aG []=imm' from apN _] at this;exact this
 have up:∀ p∈imm,p∈imm'.filter fun q=>!((aG cs).map Prod.fst).contains q.1:=fun p hp=>List.mem_filter.mpr ⟨x'.i p (bn _ hp),by rw[dis p hp];rfl⟩;refine k h' tk (imm'.filter fun q=>!((aG cs).map Prod.fst).contains q.1) cs val ⟨R'.F,fun q hq=>?_,?_,R.C.mono up fun U U h=>h,fun x v hx=>?_⟩ ⟨up,fun U U h=>h⟩ (hx.pl h2)
 ·rcases dy hq with a|a
  ·exact N' q (List.mem_filter.mp a).1
  ·exact N' q (x'.i q (dU _ a))
 ·rw[Zb]
  refine List.nodup_append.mpr ⟨nd'.sublist (List.filter_sublist.map _),n2,fun a ha b hb e=>?_⟩;apply ak (eo ha);intro q h3 e0;subst e0;have:=(List.mem_filter.mp h3).2;rw[e,List.contains_iff_mem.mpr hb] at this;injection this
 ·apply ak (R.l x v hx);intro val a b
  exact⟨val,a,b.mono up fun U U h=>h⟩⟩
end
noncomputable def rb(it:Addr)(i:Int)(old:π):Obj:={cls:=.type "enumerate",dict:=none,data:=.fields #[.none,.bool false,.ref it,rawInt i,.none,old],slots:=#[]}
inductive Sq where
 |str (l:ξ)
 |lst (k:Nat)
def Sq.is(q:Sq)(ρ:List Addr)(T:String)(v:π):Prop:=match q with
 |.str l=>(T="str_iterator"∨T="str_ascii_iterator")∧∃ t,v=.str (aL l) t
 |.lst k=>T="list_iterator"∧∃ a,ae ρ k=some a∧v=.ref a
def Sq.n(q:Sq)(σ:St):κ Nat:=match q with
 |.str l=>some l.length
 |.lst k=>ob (dC σ k) fun xs=>some xs.length
def Sq.at(q:Sq)(σ:St)(i:Nat):κ AV:=match q with
 |.str l=>ob (ae l i) fun c=>some (.str [.lit [c]])
 |.lst k=>ob (dC σ k) fun xs=>ae xs i
def Sq.of(q:Sq)(ε:Ev)(σ:St)(a:AV):Prop:=match q with
 |.str l=>∃ s,a=.str s∧s.val ε=l
 |.lst k=>a=.cell k∧∃ xs,ae σ k=some (.list xs)
def Sq.It(q:Sq)(ρ:List Addr)(i:Nat)(o:Obj):Prop:=∃ T v,q.is ρ T v∧o.cls=.type T∧o.data=.fields #[v,.int i 0]
structure lH (imm:Δ) (ρ:List Addr) (e it:Addr) (q:Sq) (i:Nat):Prop where
 e:∃ old,(e,rb it i old)∈imm
 s:∃ o,(it,o)∈imm∧q.It ρ i o
section
variable {Γ:aw}{imm imm':Δ}{e it:Addr}{q:Sq}{i:Nat}{cs cs':List CC}{ρ:List Addr}
def Sq.It.iter(h:q.It ρ i o):cT o=true:=by
 obtain⟨T,v,h,c,_⟩:=h;cases q with
 |str l=>exact Ca h.1 c
 |lst k=>unfold cT;rw[c,h.1];decide
def lH.mono(h:lH imm (aj cs) e it q i)(u:aD imm cs imm' cs'):lH imm' (aj cs') e it q i:=⟨h.e.elim fun o q=>⟨o,u.i _ q⟩,by
 obtain⟨o,a,T,v,b,c⟩:=h.s;refine⟨o,u.i _ a,T,v,?_,c⟩;cases q with
 |str l=>exact b
 |lst k=>exact⟨b.1,b.2.elim fun a q=>⟨a,u.r _ _ q.1,q.2⟩⟩⟩
def lH.mov(h:lH imm ρ e it q i):te [e,it] imm:=fun I hI=>by
 apply bC h.e;intro o1 h1;apply ak h.s;intro o2 h2 h3;rcases bk hI with rfl|hI
 ·exact⟨_,h1,by dsimp only [cT,rb];decide⟩
 ·rw[bU hI];exact⟨_,h2,h3.iter⟩
def ao.fresh(R:ao Γ h₀ L h m ls σ imm cs)(ha:h.objs.size≤a):a≠L∧h₀.get? a=none∧a ∉ (imm++aG cs).map Prod.fst:=by
 apply sg R.F.ns;intro oL _ _ hL _;refine⟨Nat.ne_of_gt (Nat.lt_of_lt_of_le (Zy hL) ha),?_,fun q=>Nat.not_le_of_gt (R.lt q) ha⟩;cases hq:h₀.get? a with
 |none=>rfl
 |some o=>exact absurd (Zy (R.F.keep _ _ hq)) (Nat.not_lt_of_ge ha)
def BO(hn:a ∉ (imm++aG cs).map Prod.fst):a ∉ (kF S imm++aG cs).map Prod.fst:=fun hq=>by
 refine hn ?_;rw[Zb] at hq ⊢;refine List.mem_append.mpr ((dy hq).imp (fun q=>?_) id);apply ak (eo q);intro p p1 p2;exact p2▸Zi (hK.mp p1).1
def IX(C:be Γ c0 A n)(R:ao Γ c0.h₀ c0.L h m ls σ imm cs)(en:lH imm (aj cs) e it q i)(hq:∃ j,q.n σ=some j) :
  e≠it∧∃ own N P S,Draws Γ.prog Γ.w A.in1 it own N P S∧e ∉ own∧S i h∧(∀ j,q.n σ=some j→N=j)∧(∀ v,q.at σ i=some v→i<N∧∀ xv,P i xv→VR Γ (kF [e,it] imm) (aj cs) xv v)∧∀ h',S (i+1) h'→∃ o,h'.get? it=some o∧q.It (aj cs) (i+1) o:=by
 apply bC en.e;intro old he;obtain⟨o,ho,T,v,b,h1,h2⟩:=en.s;have Ne:=R.N _ (bn _ he);have No:=R.N _ (bn _ ho);have hne:e≠it:=fun w=>by
  subst w;have z:rb e i old=o:=osI (Ne.1.symm.trans No.1);have y:Value.type T=.type "enumerate":=h1.symm.trans (by rw[←z];rfl);injection y with y;cases q with
  |str l=>rcases b.1 with w|w<;>exact absurd (y.symm.trans w) (by decide)
  |lst k=>exact absurd (y.symm.trans b.1) (by decide)
 refine⟨hne,?_⟩;cases q with
 |str l=>
  obtain⟨hT,t,e0⟩:=b;subst e0;have D:Draws Γ.prog Γ.w A.in1 it [it] (aL l).cps.size (fun i v=>∃ c u,(aL l).cps[i]?=some c∧v=.str ⟨#[c]⟩ u) (fun i h=>h.IsStrIter it T (aL l) t i):=by
   rcases hT with w|w<;>rw[w]
   ·exact Draws.strWide (A:=A.in1) C.hd it _ t
   ·exact Draws.strAscii (A:=A.in1) C.hd it _ t
  refine⟨_,_,_,_,D,fun q=>hne (bU q),⟨o,No.1,h1,h2⟩,fun j hj=>(eQ l).trans (osI hj),fun v hv=>?_,fun h' hs=>?_⟩
  ·apply aE hv;intro c hc hv
   rw[dt] at hc;refine⟨by show i<(aL l).length;rw[eQ];exact(Zo.mp hc).1,fun xv hp=>?_⟩;obtain⟨c',u,hc',e1⟩:=hp;have z:(aL l).cps[i]?=l[i]?:=by show l.toArray[i]?=_;rw[Zm]
   rw[z,hc] at hc';rw[e1,←osI hc',←osI hv];exact .str rfl (jm [c]) (show 1≤16777216 by decide)
  ·obtain⟨o2,g1,g2,g3⟩:=hs
   exact⟨o2,g1,T,_,⟨hT,t,rfl⟩,g2,g3⟩
 |lst k=>
  obtain⟨hT,a,ha,e0⟩:=b;subst e0;subst hT;apply bC hq;intro j hj;apply aE hj;intro xs hx _;apply jc (R.lst (va:=.ref a) (.cell ha) (gE hx));intro l' vs nn pre post e0 ec _ gl v1 _;injection e0 with e0;subst e0;have hle:a≠e:=fun q=>by
   subst q;have z:rb it i old=W.listOf vs.toArray nn:=osI (Ne.1.symm.trans gl);exact absurd (congrArg Obj.cls z) (by simp [rb,W.listOf])
  have hli:a≠it:=fun q=>by
   subst q;have z:o=W.listOf vs.toArray nn:=osI (No.1.symm.trans gl);rw[z] at h1;exact absurd h1 (by simp [W.listOf])
  refine⟨_,_,_,_,Draws.list (prog:=Γ.prog) (w:=Γ.w) (A:=A.in1) C.hd it a hli vs.toArray,fun q=>(bk q).elim hne fun q=>hle (bU q).symm,⟨⟨o,No.1,h1,h2⟩,⟨_,gl,rfl,_,rfl⟩⟩,fun j hj=>?_,fun v hv=>?_,fun h' hs=>?_⟩
  ·replace hj:ob (dC σ k) (fun xs=>some xs.length)=some j:=hj
   rw[hx] at hj;rw[Zl,v1.len];exact osI hj
  ·replace hv:ob (dC σ k) (fun xs=>ae xs i)=some v:=hv
   rw[hx] at hv;have hit:=v1.item i;rw[show ae xs i=some v from hv] at hit;apply ak hit;intro val0 hc v0;refine⟨by rw[Zl];exact(Zo.mp hc).1,fun xv hp=>?_⟩;replace hp:vs.toArray[i]?=some xv:=hp;rw[Zm,hc] at hp;rw[←osI hp];exact v0.drop (R.keepsIters en.mov)
  ·obtain⟨⟨o2,g1,g2,g3⟩,_⟩:=hs
   exact⟨o2,g1,_,_,⟨rfl,a,ha,rfl⟩,g2,g3⟩
end
section
variable {Γ:aw}{n:Nat}
inductive Fn (Γ:aw) (n:Nat) (t:Expr) (b:List Stmt) (q:Sq):Nat→ag→St→ag→St→Prop
 |stop {i:Nat} {ls:ag} {σ:St}:q.n σ=some i→Fn Γ n t b q i ls σ ls σ
 |step {i j:Nat} {v:AV} {ls ls0 ls1 ls2:ag} {σ σ0 σ1 σ2:St}:q.n σ=some j→q.at σ i=some v→Az Γ n t (.tup [.int (.k (.ofNat i)),v]) ls σ ls0 σ0→aH Γ n b ls0 σ0 .next ls1 σ1∨Dc Γ n (fun c=>execs b c.env) ls0 σ0 ls1 σ1→Fn Γ n t b q (i+1) ls1 σ1 ls2 σ2→Fn Γ n t b q i ls σ ls2 σ2
variable {c0:Cx}{A:Around}{s:χ}{m:ω}{ls:List (Str×AV)}{σ:St}{imm:Δ}{cs:List CC}{e it:Addr}{q:Sq}{i:Nat}
def KV{Q:Θ}{Nn:χ→Prop}{E E2:Θ}(C:be Γ c0 A n)(R:ao Γ c0.h₀ c0.L s.heap m ls σ imm cs)(en:lH imm (aj cs) e it q i)(hj:q.n σ=some j)(hv:q.at σ i=some v)
  (k:∀ h' tk imm' val,ao Γ c0.h₀ c0.L h' m ls σ imm' cs→(∀ q∈imm,q.1 ∉ [e,it]→q∈imm')→lH imm' (aj cs) e it q (i+1)→VR Γ imm' (aj cs) val (.tup [.int (.k (.ofNat i)),v])→Q val (sU s h' tk)) :
  wpAny (model Γ.prog Γ.w) A (pyNext (.ref e)) (fun r s1=>match r with|none=>Nn s1|some val=>wpAny (model Γ.prog Γ.w) A (letOwnedTupleGo (.Tuple es q1 q2) (.ref e) val) (fun U s2=>Q val s2) E2 s1) E s:=by
 apply bC en.e;intro old he;apply ak en.s;intro o ho _;have Ne:=R.N _ (bn _ he);have No:=R.N _ (bn _ ho);obtain⟨hne,own,N,P,S,D,heo,hS,_,hP,hN⟩:=IX C R en ⟨_,hj⟩;apply bq (hP _ hv);intro hlt hP;have lte:=Zy Ne.1;have lti:=Zy No.1;refine wpAny_pyNext_enum_itemD D Ne.1 hS hlt hne heo fun xv h' tk hp hout hst htup hsz hkeep=>?_;refine wpAny_letOwnedTupleGo_enum (s:=sU s h' (tk+1)) hout fun h3 he3 hs3=>?_;replace hs3:Heap.SameBut e h' h3:=hs3;have ne_of:∀ {b},b≠e→h3.get? b=h'.get? b:=fun hb=>hs3.2 _ hb;have frT:=R.fresh (Zc s.heap.objs.size);have R1:ao Γ c0.h₀ c0.L h3 m ls σ (kF [e,it] imm) cs:=R.dropIters en.mov fun b y hb hy=>(ne_of fun q=>hb (q▸.head _)).trans (hkeep b y (fun q=>hb (q▸.head _)) (fun q=>hb (q▸.tail _ (.head _))) hy);apply ak (hN _ hst);intro o2 g1 g2;have R2:=R1.addI ((ne_of hne.symm).trans g1) No.2.1 No.2.2 (R.gone ho (.tail _ (.head _)));have R3:=R2.addI he3 Ne.2.1 Ne.2.2 fun q=>(bk q).elim hne fun q=>R.gone he (.head _) q;have R4:=R3.addI ((ne_of (Nat.ne_of_gt lte)).trans htup) frT.1 frT.2.1 fun q=>(bk q).elim (Nat.ne_of_gt lte) fun q=>(bk q).elim (Nat.ne_of_gt lti) (BO frT.2.2);refine k h3 _ _ _ R4 (fun q hq hn=>.tail _ (.tail _ (.tail _ (hK.mpr ⟨hq,hn⟩)))) ⟨⟨_,.tail _ (.head _)⟩,⟨o2,.tail _ (.tail _ (.head _)),g2⟩⟩ ?_;exact .tup (vs:=[.int i tk,xv]) (.inl (.head _)) (.cons (.int (cF _).symm) (.cons ((hP _ hp).mono (fun U h=>.tail _ (.tail _ (.tail _ h))) fun U U h=>h) .nil))
def MS{Q:κ π→χ→Prop}{E:Θ}(C:be Γ c0 A n)(R:ao Γ c0.h₀ c0.L s.heap m ls σ imm cs)(en:lH imm (aj cs) e it q i)(hi:q.n σ=some i)
  (k:∀ h' imm',ao Γ c0.h₀ c0.L h' m ls σ imm' cs→(∀ q∈imm,q.1 ∉ [e,it]→q∈imm')→Q none {s with heap:=h'}):wpAny (model Γ.prog Γ.w) A (pyNext (.ref e)) Q E s:=by
 apply bC en.e;intro old he;apply ak en.s;intro o ho h1;obtain⟨hne,own,N,P,S,D,heo,hS,hN,_⟩:=IX C R en ⟨_,hi⟩;refine wpAny_pyNext_enum_endD D (R.N _ (bn _ he)).1 (by rw[hN _ hi];exact hS) fun h' hx=>?_;exact k h' _ (R.dropIter ho h1.iter hx) fun q hq hn=>hK.mpr ⟨hq,fun z=>hn (.tail _ z)⟩
def Fn.ok{ls ls':ag}(h:Fn Γ n (.Tuple es q1 q2) b q i ls σ ls' σ'):∀ {c A s m imm cs e it} {Rq:Result→χ→Prop},be Γ c A n→co c ls→ao Γ c.h₀ c.L s.heap m ls.v σ imm cs→lH imm (aj cs) e it q i →
  (∀ h' tk m' imm' cs' fl,ao Γ c.h₀ c.L h' m' ls'.v σ' imm' cs'→co c ls'→(∀ q∈imm,q.1 ∉ [e,it]→q∈imm')→(∀ k a,ae (aj cs) k=some a→ae (aj cs') k=some a)→FR Γ imm' cs' fl .next→Rq (.ok fl) (sU s h' tk)) →
  codeAny (model Γ.prog Γ.w) A (.forLoop (.Tuple es q1 q2) (.ref e) b [] c.env) Rq s:=by
 induction h with
 |stop h1=>
  intro c A s m imm cs e it Rq C l R en k;exact mG (MS C R en h1 fun h' imm' R' x'=>wpAny_execs_nil (k h' _ m imm' cs _ R' l x' (fun U U h=>h) .next))
 |step g1 g2 h1 h2 _ ih=>
  intro c A s m imm cs e it Rq C l R en k;refine mG (KV C R en g1 g2 fun h' tk imm' val R' x' en' hv=>?_);refine h1.h C l (s:=sU s h' tk) R' hv fun ha ta ma ia ca Ra la xa=>?_;have go:∀ {hz tz mz iz cz},ao Γ c.h₀ c.L hz mz _ _ iz cz→co c _→aD ia ca iz cz→_:=fun {hz tz mz iz cz} Rz lz xz=>ih C lz (Rq:=Rq) (s:=sU s hz tz) Rz (en'.mono (xa.trans xz)) fun h2 t2 m2 i2 c2 fl R2 l2 x2 y2 f2=>k h2 t2 m2 i2 c2 fl R2 l2 (fun q hq hn=>x2 q ((xa.trans xz).i q (x' q hq hn)) hn) (fun k a h=>y2 k a ((xa.trans xz).r k a h)) f2;rcases h2 with h2|h2
  ·refine h2.h C la (s:=sU s ha ta) Ra fun hz tz mz iz cz fl Rz lz xz fz=>?_
   (obtain e:_=_:=FR.inv fz;subst e);exact go Rz lz xz
  ·exact h2.h C la (s:=sU s ha ta) Ra fun hz tz mz iz cz Rz lz xz=>go Rz lz xz
def YH{Q E:Θ}(R:ao Γ c0.h₀ c0.L s.heap m ls σ imm cs)(hv:VR Γ imm (aj cs) val a0)(h0:q.of Γ.ε σ a0)
  (k:∀ h' o,h'.get? (s.heap.objs.size+1)=some (rb s.heap.objs.size 0 .none)→h'.get? s.heap.objs.size=some o→q.It (aj cs) 0 o→(∀ b o,s.heap.get? b=some o→h'.get? b=some o)→Q (.ref (s.heap.objs.size+1)) {s with heap:=h'}):wpAny (model Γ.prog Γ.w) A (call (.type "enumerate") [val]) Q E s:=by
 cases q with
 |str l=>
  obtain⟨s0,e,e1⟩:=h0;subst e;apply ed hv.inv;intro tt e0 _ _;rw[e0];refine call_enumerate_str fun h4 he hit _ hk=>?_;apply ed hit;intro o2 g1 g2 g3;refine k h4 o2 he g1 ⟨_,_,⟨?_,tt,rfl⟩,g2,by rw[←e1];exact g3⟩ hk;unfold strIterType;cases (aL (s0.val Γ.ε)).cps.all (·<128)
  ·exact .inl rfl
  ·exact .inr rfl
 |lst kk=>
  obtain⟨e,xs,hx⟩:=h0;subst e;apply ak hv.cell_inv;intro al e0 hk;subst e0;apply jc (R.lst hv hx);intro l' vs nn pre post e0 ec _ gl vx _;injection e0 with e0;subst e0;refine call_enumerate_list (items:=vs.toArray) ⟨_,gl,rfl,_,rfl⟩ fun h4 he hit _ hkp=>?_;apply ed hit;intro o2 g1 g2 g3;exact k h4 o2 he g1 ⟨_,_,⟨rfl,al,hk,rfl⟩,g2,g3⟩ hkp
def Dz.forN{R:aJ}(I:bu Γ n R){es:List Expr}{q1:Nat}{q2:Pos}{x:Str}{xq cp pos:Pos}{as:List Expr}{b:List Stmt}{ls ls':ag}{σ σ':St}{a0:AV}(h1:R.ev ls σ (.Name x xq)=some (.bi .enum,σ))(h2:R.evs ls σ as=some ([a0],σ))(h3:R.evk ls σ []=some ([],σ))(h4:q.of Γ.ε σ a0)
  (h:Fn Γ n (.Tuple es q1 q2) b q 0 ls σ ls' σ'):gi Γ n (.For (.Tuple es q1 q2) (.Call (.Name x xq) as [] cp) b [] pos) ls σ .next ls' σ':=⟨by
 intro c A s m imm cs Q E C l Rp k;show wpAny _ _ (exec (.For (.Tuple es q1 q2) (.Call (.Name x xq) as [] cp) b [] pos) c.env) _ _ _;rw[exec_For];refine Y6 (Zj (Y6 ?_));refine wpAny_Call_Name_kw (I.ev h1 C l Rp fun hx tx ix cx fval Rx xx qx=>?_);refine wQ I h2 h3 (s:=sU s hx tx) C l Rx (fun h X hi=>?_) ?_
 ·(obtain e:_=_:=VR.inv qx;subst e);exact⟨.machine,.inr (.inl rfl),.of_pure rfl⟩
 intro h' tk imm' cs' vals kwv R' x' v1 v2 v3;obtain rfl:=pr v2 rfl;(obtain e:_=_:=VR.inv qx;subst e);apply ak v1.one;intro val e0 hv1;subst e0;refine YH (s:=sU s h' tk) R' hv1 h4 fun h4 o2 he g1 g2 hkeep=>?_;have f1:=R'.fresh (Zc h'.objs.size);have f2:=R'.fresh (Nat.le_succ h'.objs.size);have R1:=((R'.dropIters (S:=[]) nofun fun b y U hy=>hkeep b y hy).addI g1 f1.1 f1.2.1 (BO f1.2.2)).addI he f2.1 f2.2.1 fun q=>(bk q).elim (Nat.succ_ne_self _) (BO f2.2.2);show wpAny _ _ (foldedSetIterable (.Call (.Name x xq) as [] cp) c.env _ >>= _) _ _ _;refine Y6 (Y8 (Y6 (Zj (Y6 (Ze ?_)))));refine wpAny_pyIter_enum he ?_;have xa:aD imm cs imm' cs':=xx.trans x';refine wpAny_runOwn (h.ok C l (s:=sU s h4 tk) R1 ⟨⟨_,.head _⟩,⟨o2,.tail _ (.head _),g2⟩⟩ fun h2 t2 m2 i2 c2 fl R2 l2 x2 y2 f3=>?_);refine k h2 t2 m2 i2 c2 fl R2 l2 ⟨fun q hq=>x2 q (.tail _ (.tail _ (hK.mpr ⟨xa.i q hq,nofun⟩))) fun z=>?_,fun k a h=>y2 k a (xa.r k a h)⟩ f3;have:=R'.lt (Zi (bn _ (xa.i q hq)));rcases bk z with z|z
 ·rw[z] at this;exact Nat.lt_irrefl _ (Nat.lt_of_succ_lt this)
 ·rw[bU z] at this;exact Nat.lt_irrefl _ this⟩
end
open Classical in
def orF(σ0:St)(f:Addr)(vs:List AV)(r:AV)(σ1:St):St→Addr→List AV→List (Str×AV)→κ (AV×St):=fun σ g us kw=>if σ=σ0∧g=f∧us=vs∧kw=[] then some (r,σ1) else none
def Cg:orF σ0 f vs r σ1 σ0 f vs []=some (r,σ1):=by
 unfold orF;rw[if_pos ⟨rfl,rfl,rfl,rfl⟩]
def jF(Y:Pi)(R:aJ)(cf:St→Addr→List AV→List (Str×AV)→κ (AV×St)):aJ:={R with cl:=ky Y {R with cf:=cf},cf:=cf}
section
variable {Γ:aw}{Y:Pi}{b:Nat}
set_option tactic.hygienic true in
def zp(P:gM Γ b Y)(hf:fnIn Γ.K f=true)(H:Rz Γ (10*d+b+25) σ1 f vs r σ2)
  (h1:(mk Y N d).ev ls σ (.Name x q)=some (.fn f,σ)) (h2:(mk Y N d).evs ls σ as=some (vs,σ1)) (h3:(mk Y N d).evk ls σ1 []=some ([],σ1)):Yz Γ (10*d+b+30) (.Call (.Name x q) as [] cp) ls σ r σ2:=by
 have A:=cN P N d;have hcf:∀ {σ g us kw r' σ'},orF σ1 f vs r σ2 σ g us kw=some (r',σ')→fnIn Γ.K g=true∧cg Γ (10*d+b+25) σ g us kw r' σ':=by
  intro s2 g us kw r' s3 hq;unfold orF at hq
  split at hq
  ·rename_i e
   apply nJ e;intro e1 e2 e3 e4;(apply j2 hq;clear hq;rintro rfl rfl);rw[e1,e2,e3,e4];have D:cg Γ (10*d+b+25) σ1 f vs [] _ s3:=H.h;exact⟨hf,@D⟩
  ·injection hq
 have I2:bu Γ (10*d+b+30) (jF Y (mk Y N d) (orF σ1 f vs r σ2)):=⟨A.E.ev,A.E.evo,A.E.evs,A.E.evk,A.E.bl,A.E.cc,A.E.tst,A.E.tb⟩;have J2:mt Γ (10*d+b+30) (jF Y (mk Y N d) (orF σ1 f vs r σ2)):=⟨fun h=>⟨(hcf h).1,cg.le (by lia) (hcf h).2⟩,by
  intro σ fv us kw r' σ' h;apply fj (wg (n:=10*d+b+25) P.hy hcf (fun h=>xM P.hw P.he P.hb P.hy h) h);intro a b' c;exact⟨a,i6.le (by lia) b',fun g self e=>⟨(c g self e).1,cg.le (by lia) (c g self e).2⟩⟩⟩
 have D:bM Γ (10*d+b+30) (fun c=>eval (.Call (.Name x q) as [] cp) c.env) ls σ r σ2:=yJ I2 J2 (show yn (jF Y (mk Y N d) (orF σ1 f vs r σ2)) ls σ x q as []=some (r,σ2) by
  show obp ((mk Y N d).ev ls σ (.Name x q)) (fun fv σ=>obp ((mk Y N d).evs ls σ as) fun vs' σ=>obp ((mk Y N d).evk ls σ []) fun kw σ=>ky Y {mk Y N d with cf:=orF σ1 f vs r σ2} σ fv vs' kw)=_;rw[h1];show obp ((mk Y N d).evs ls σ as) (fun vs' σ=>obp ((mk Y N d).evk ls σ []) fun kw σ=>ky Y {mk Y N d with cf:=orF σ1 f vs r σ2} σ (.fn f) vs' kw)=_;rw[h2];show obp ((mk Y N d).evk ls σ1 []) (fun kw σ=>ky Y {mk Y N d with cf:=orF σ1 f vs r σ2} σ (.fn f) vs kw)=_;rw[h3];exact Cg)
 exact⟨@D⟩
end
open Classical in
def gv(R:aJ)(ls0:ag)(σ0:St)(e0:Expr)(v:AV)(σ1:St):aJ:={R with ev:=fun ls σ e=>if ls=ls0∧σ=σ0∧e=e0 then some (v,σ1) else R.ev ls σ e}
section
variable {Γ:aw}{n:Nat}{R:aJ}{ls ls1:ag}{σ σ1 σ2:St}{e:Expr}{v:AV}
def oq:(gv R ls σ e v σ1).ev ls σ e=some (v,σ1):=if_pos ⟨rfl,rfl,rfl⟩
def ou(I:bu Γ n R)(H:Yz Γ n e ls σ v σ1):bu Γ n (gv R ls σ e v σ1):=⟨by
 intro l2 s2 e2 v2 s3 h
 by_cases q:l2=ls∧s2=σ∧e2=e
 ·have h2:(gv R ls σ e v σ1).ev l2 s2 e2=some (v,σ1):=if_pos q
  obtain⟨rfl,rfl,rfl⟩:=q;rw[h2] at h;(apply j2 h;clear h;rintro rfl rfl);have D:bM Γ n (fun c=>eval e2 c.env) l2 s2 v2 s3:=H.h;exact D
 ·have h2:(gv R ls σ e v σ1).ev l2 s2 e2=R.ev l2 s2 e2:=if_neg q
  rw[h2] at h;have D:bM Γ n (fun c=>eval e2 c.env) l2 s2 v2 s3:=I.ev h;exact D,I.evo,I.evs,I.evk,I.bl,I.cc,I.tst,I.tb⟩
def Dz.asg(I:bu Γ n R)(S:gW Γ n R)(h0:zu ts e=true)(H:Yz Γ n e ls σ v σ1)(h2:R.asgm ls σ1 v ts=some (ls1,σ2)):gi Γ n (.Assign ts e pos) ls σ .next ls1 σ2:=by
 have D:bj Γ n (fun c=>exec (.Assign ts e pos) c.env) ls σ .next ls1 σ2:=GE (ou I H) ⟨S.exs,S.ex,S.asg,S.asgs,S.asgm,S.wh⟩ _ (show B7 (gv R ls σ e v σ1) ls σ ts e=some (.next,ls1,σ2) by
  show gd (zu ts e) (obp ((gv R ls σ e v σ1).ev ls σ e) fun v σ=>obp (R.asgm ls σ v ts) fun ls σ=>some (Fl.next,ls,σ))=_;rw[h0,oq];show obp (R.asgm ls σ1 v ts) (fun ls σ=>some (Fl.next,ls,σ))=_;rw[h2];rfl)
 exact⟨@D⟩
def Yz.slice(he:Γ.ε.Ok)(I:bu Γ n R)(H:Yz Γ n e ls σ (.cell k) σ1)(h1:R.evo ls σ1 none=some (none,σ1))(h2:R.evo ls σ1 (some hi)=some (some (.int (.k j)),σ1))(hx:dC σ1 k=some xs) :
  Yz Γ n (.Subscript e (.Slice none (some hi) none p2) pos) ls σ (.cell (lenA σ1)) (σ1++[.list (cut xs none (some j))]):=by
 have D:bM Γ n (fun c=>eval (.Subscript e (.Slice none (some hi) none p2) pos) c.env) ls σ (.cell (lenA σ1)) (σ1++[.list (cut xs none (some j))]):=y0 he (ou I H) (show wV (gv R ls σ e (.cell k) σ1) ls σ e none (some hi) none=_ by
  show obp ((gv R ls σ e (.cell k) σ1).ev ls σ e) (fun v σ=>gd true (obp (R.evo ls σ none) fun a σ=>obp (R.evo ls σ (some hi)) fun b σ=>Option.rec (ms v a b σ) (fun k=>kH k a b σ) (eG v)))=_;rw[oq];show obp (R.evo ls σ1 none) (fun a σ=>obp (R.evo ls σ (some hi)) fun b σ=>kH k a b σ)=_;rw[h1];show obp (R.evo ls σ1 (some hi)) (fun b σ=>kH k none b σ)=_;rw[h2];show ob (dC σ1 k) (fun xs=>some (new σ1 (.list (cut xs none (some j)))))=_;rw[hx];rfl)
 exact⟨@D⟩
end
section
variable {Γ:aw}{Y:Pi}{b:Nat}
set_option tactic.hygienic true in
def LJ(P:gM Γ b Y)(hf:fnIn Γ.K f=true)(H:Rz Γ (10*d+b+25) σ1 f (ov::vs) r σ2){ap cp:Pos}
  (hg:(mA o&&ap.endLine.beq cp.line&&Nat.blt (lenA as+lenA ([]:List Keyword)+1) 30)=true) (h1:(mk Y N d).ev ls σ o=some (ov,σ)) (h0:ka Y σ ov x=some (.meth f ov)) (h2:(mk Y N d).evs ls σ as=some (vs,σ1)) (h3:(mk Y N d).evk ls σ1 []=some ([],σ1)) :
  Yz Γ (10*d+b+30) (.Call (.Attribute o x ap) as [] cp) ls σ r σ2:=by
 have A:=cN P N d;have hcf:∀ {σ g us kw r' σ'},orF σ1 f (ov::vs) r σ2 σ g us kw=some (r',σ')→fnIn Γ.K g=true∧cg Γ (10*d+b+25) σ g us kw r' σ':=by
  intro s2 g us kw r' s3 hq;unfold orF at hq
  split at hq
  ·rename_i e
   apply nJ e;intro e1 e2 e3 e4;(apply j2 hq;clear hq;rintro rfl rfl);rw[e1,e2,e3,e4];have D:cg Γ (10*d+b+25) σ1 f (ov::vs) [] _ s3:=H.h;exact⟨hf,@D⟩
  ·injection hq
 have I2:bu Γ (10*d+b+30) (jF Y (mk Y N d) (orF σ1 f (ov::vs) r σ2)):=⟨A.E.ev,A.E.evo,A.E.evs,A.E.evk,A.E.bl,A.E.cc,A.E.tst,A.E.tb⟩;have J2:mt Γ (10*d+b+30) (jF Y (mk Y N d) (orF σ1 f (ov::vs) r σ2)):=⟨fun h=>⟨(hcf h).1,cg.le (by lia) (hcf h).2⟩,by
  intro σ fv us kw r' σ' h;apply fj (wg (n:=10*d+b+25) P.hy hcf (fun h=>xM P.hw P.he P.hb P.hy h) h);intro a b' c;exact⟨a,i6.le (by lia) b',fun g self e=>⟨(c g self e).1,cg.le (by lia) (c g self e).2⟩⟩⟩
 have D:bM Γ (10*d+b+30) (fun c=>eval (.Call (.Attribute o x ap) as [] cp) c.env) ls σ r σ2:=Av P.hy (CD P.hw P.he P.hb P.nm) I2 J2 (show vH Y (jF Y (mk Y N d) (orF σ1 f (ov::vs) r σ2)) ls σ o x ap as [] cp=some (r,σ2) by
  show gd (mA o&&ap.endLine.beq cp.line&&Nat.blt (lenA as+lenA ([]:List Keyword)+1) 30) (obp ((mk Y N d).ev ls σ o) fun ov σ=>match ka Y σ ov x with
   |some fv=>rM (jF Y (mk Y N d) (orF σ1 f (_::vs) r σ2)) ls σ fv as []
   |none=>pV Y (jF Y (mk Y N d) (orF σ1 f (_::vs) r σ2)) ls σ ov x as [])=_
  rw[hg,h1];show (match ka Y σ ov x with
   |some fv=>rM (jF Y (mk Y N d) (orF σ1 f (ov::vs) r σ2)) ls σ fv as []
   |none=>pV Y (jF Y (mk Y N d) (orF σ1 f (ov::vs) r σ2)) ls σ ov x as [])=_
  rw[h0];show obp ((mk Y N d).evs ls σ as) (fun vs' σ=>obp ((mk Y N d).evk ls σ []) fun kw σ=>ky Y {mk Y N d with cf:=orF σ1 f (ov::vs) r σ2} σ (.meth f ov) vs' kw)=_;rw[h2];show obp ((mk Y N d).evk ls σ1 []) (fun kw σ=>ky Y {mk Y N d with cf:=orF σ1 f (ov::vs) r σ2} σ (.meth f ov) vs kw)=_;rw[h3];exact Cg)
 exact⟨@D⟩
def Dz.expr(I:bu Γ n R)(h0:rF e=true)(H:Yz Γ n e ls σ v σ1):gi Γ n (.Expr e pos) ls σ .next ls σ1:=by
 have D:bj Γ n (fun c=>exec (.Expr e pos) c.env) ls σ .next ls σ1:=DK (ou I H) _ (show CL (gv R ls σ e v σ1) ls σ e=some (.next,ls,σ1) by
  show gd (rF e) (obp ((gv R ls σ e v σ1).ev ls σ e) fun U σ=>some (Fl.next,ls,σ))=_;rw[h0,oq];rfl)
 exact⟨@D⟩
end
structure Bz (Γ:aw) (n:Nat) (op:BoolOp) (es:List Expr) (ls:ag) (σ:St) (b:Bool) (σ':St):Prop where
 h:di Γ n (fun c=>allTrue op es c.env) ls σ (hH b) σ'
section
variable {Γ:aw}{n:Nat}{ls:ag}{σ σ1 σ2:St}{e:Expr}{r:List Expr}{b:Bool}
def Bz.andF(h:Tz Γ n e ls σ false σ1):Bz Γ n .And (e::r) ls σ false σ1:=⟨by
 intro c A s m imm cs Q E C l Rp k;refine wpAny_allTrue_And_cons (h.h C l Rp fun hx tx ix cx x Rx xx qx=>?_);cases qx;exact k hx tx ix cx _ Rx xx rfl⟩
def Bz.andT(h:Tz Γ n e ls σ true σ1)(g:Bz Γ n .And r ls σ1 b σ2):Bz Γ n .And (e::r) ls σ b σ2:=⟨by
 intro c A s m imm cs Q E C l Rp k;refine wpAny_allTrue_And_cons (h.h C l Rp fun hx tx ix cx x Rx xx qx=>?_);cases qx;exact g.h C l (s:=sU s hx tx) Rx fun h2 t2 i2 c2 vb R2 x2 q2=>k h2 t2 i2 c2 vb R2 (xx.trans x2) q2⟩
def Bz.nilA:Bz Γ n .And [] ls σ true σ:=⟨by
 intro c A s m imm cs Q E C l Rp k;exact wpAny_allTrue_And_nil (k _ _ _ _ _ Rp (aD.refl ..) rfl)⟩
def Bz.orT(h:Tz Γ n e ls σ true σ1):Bz Γ n .Or (e::r) ls σ true σ1:=⟨by
 intro c A s m imm cs Q E C l Rp k;refine wpAny_allTrue_Or_cons (h.h C l Rp fun hx tx ix cx x Rx xx qx=>?_);cases qx;exact k hx tx ix cx _ Rx xx rfl⟩
def Bz.orF(h:Tz Γ n e ls σ false σ1)(g:Bz Γ n .Or r ls σ1 b σ2):Bz Γ n .Or (e::r) ls σ b σ2:=⟨by
 intro c A s m imm cs Q E C l Rp k;refine wpAny_allTrue_Or_cons (h.h C l Rp fun hx tx ix cx x Rx xx qx=>?_);cases qx;exact g.h C l (s:=sU s hx tx) Rx fun h2 t2 i2 c2 vb R2 x2 q2=>k h2 t2 i2 c2 vb R2 (xx.trans x2) q2⟩
def Bz.nilO:Bz Γ n .Or [] ls σ false σ:=⟨by
 intro c A s m imm cs Q E C l Rp k;exact wpAny_allTrue_Or_nil (k _ _ _ _ _ Rp (aD.refl ..) rfl)⟩
def Tz.bool(h:Bz Γ n op r ls σ b σ1):Tz Γ n (.BoolOp op r pos) ls σ b σ1:=⟨by
 intro c A s m imm cs Q E C l Rp k;exact wpAny_isTrue_BoolOp (h.h C l Rp k)⟩
def Tz.not(h:Tz Γ n e ls σ b σ1):Tz Γ n (.UnaryOp .Not e pos) ls σ (!b) σ1:=⟨by
 intro c A s m imm cs Q E C l Rp k;refine wpAny_isTrue_Not (h.h C l Rp fun hx tx ix cx vb Rx xx qx=>?_);cases qx;exact k hx tx ix cx _ Rx xx rfl⟩
def Tz.val(he:Γ.ε.Ok)(hv:sM [] σ1 v=some b)(e2:∀ env,isTrue e env (eval e env)=do let v ←eval e env;standAt e.pos;holding [v] (truthy v))(h:Yz Γ n e ls σ v σ1):Tz Γ n e ls σ b σ1:=⟨by
 intro c A s m imm cs Q E C l Rp k;refine wpAny_isTrue_value (h.h C l Rp fun hx tx ix cx vb Rx xx qx=>?_) (e2 _);exact v8 (Γ:=Γ) (β:=[]) he (fun U U h=>by injection h) hv qx C Rx fun tk=>k hx tk ix cx _ Rx xx rfl⟩
def Tz.cmp1(I:bu Γ n R)(hw:Γ.ε.P=Γ.w.params)(he:Γ.ε.Ok){Y:Pi}(hY:Y.β=[])(h1:Yz Γ n e ls σ a σ1)(h2:Yz Γ n e2 ls σ1 x σ2)(hs:jE e2=true)(h3:cmp [] σ2 op a x=some t):Tz Γ n (.Compare e [op] [e2] pos) ls σ t σ2:=⟨by
 have K:sY Γ n pos ls σ1 a [op] [e2] t σ2:=B9 (Y:=Y) (ops:=[op]) (rs:=[e2]) (b:=t) hw he (by rw[hY];exact fun U U h=>by injection h) (ou I h2) (show tF Y (gv R ls σ1 e2 x σ2) ls σ1 a [op] [e2]=some (t,σ2) by
  show gd (jE e2) (obp ((gv R ls σ1 e2 x σ2).ev ls σ1 e2) fun b σ=>ob (cmp Y.β σ op a b) fun t=>some (t,σ))=_;rw[hs,oq];show ob (cmp Y.β σ2 op a x) (fun t=>some (t,σ2))=_;rw[hY,h3];rfl) pos
 intro c A s m imm cs Q E C l Rp k;show wpAny _ _ (do testChain pos (←eval e c.env) [op] (markedEach [op] [e2] (evalEach [e2] c.env))) _ _ _;refine Y6 (h1.h C l Rp fun hx tx ix cx vb Rx xx qx=>?_);exact(K (s:=sU s hx tx) C l Rx qx).1 fun h2 t2 i2 c2 R2 x2=>k h2 t2 i2 c2 _ R2 (xx.trans x2) rfl⟩
def Yz.bin(he:Γ.ε.Ok)(h1:Yz Γ n e ls σ a σ1)(h2:Yz Γ n e2 ls σ1 x σ2)(h3:nu [] op a x=some v):Yz Γ n (.BinOp e op e2 pos) ls σ v σ2:=⟨by
 have D:bM Γ n (fun c=>eval (.BinOp e op e2 pos) c.env) ls σ v σ2:=CS (fun {c A s m imm cs Q E}=>h1.h) (fun {c A s m imm cs Q E}=>h2.h) (He he (fun U U h=>by injection h) h3);exact @D⟩
end
section
variable {α:Type}{l m:List α}
def sN(h:k<n):dh n (k:Int)=some k:=yq h (.inl ⟨cW _,rfl⟩)
def BI:dh (n+1) (-1)=some n:=yq (Nat.lt_succ_self n) (.inr ⟨by decide,by lia,by lia⟩)
def vz(n k:Nat):clip n (k:Int)=min k n:=by
 unfold clip;rw[if_neg (Int.not_lt.mpr (cW k))];lia
def v6(k:Nat):cut l (some (k:Int)) none=l.drop k:=by
 rw[j8];show (l.drop (clip l.length k)).take (l.length-clip l.length k)=_;rw[vz,ZE (by rw[List.length_drop];exact Zc _)];rcases Nat.le_total k l.length with h|h
 ·rw[Nat.min_eq_left h]
 ·rw[Nat.min_eq_right h,List.drop_of_length_le h,List.drop_of_length_le (Zc _)]
def vM(k:Nat):cut l none (some (k:Int))=l.take k:=by
 rw[j8];show (l.drop 0).take (clip l.length k-0)=_;rw[vz,List.drop_zero,Nat.sub_zero];rcases Nat.le_total k l.length with h|h
 ·rw[Nat.min_eq_left h]
 ·rw[Nat.min_eq_right h,ZE h,ZE (Zc _)]
def zk(i j:Nat):cut l (some (i:Int)) (some (j:Int))=(l.drop i).take (j-i):=by
 rw[j8];show (l.drop (clip l.length i)).take (clip l.length j-clip l.length i)=_;rw[vz,vz];rcases Nat.le_total i l.length with h|h
 ·rw[Nat.min_eq_left h]
  rcases Nat.le_total j l.length with h2|h2
  ·rw[Nat.min_eq_left h2]
  ·rw[Nat.min_eq_right h2,ZE (by rw[List.length_drop];exact Zc _),ZE (by rw[List.length_drop];lia)]
 ·rw[Nat.min_eq_right h,List.drop_of_length_le h,List.drop_of_length_le (Zc _),List.take_nil,List.take_nil]
def WO(x:α):cut (l++[x]) none (some (-1))=l:=by
 have e:clip (l++[x]).length (-1)=l.length:=by
  unfold clip;rw[au,show ([x]:List α).length=1 from rfl,if_pos (by decide)];lia
 rw[j8];show ((l++[x]).drop 0).take (clip (l++[x]).length (-1)-0)=_;rw[e,List.drop_zero,Nat.sub_zero,List.take_left' rfl]
def pM(x:α):ae (l++x::m) l.length=some x:=by rw[dt,List.getElem?_append_right (Zc _),Nat.sub_self];rfl
def MI(x y:α):cC (l++[x]) l.length y=l++[y]:=by rw[n8,List.set_append_right _ _ (Zc _),Nat.sub_self];rfl
end
def oI(l:ξ):(SS.k l).conc=some l:=by cases l<;>rfl
def uR(a b:ξ):kQ [] (.k a) (.k b)=some (bQ a b):=by unfold kQ;rw[oI,oI]
def yS(a b:ξ):(SS.k a).app (.k b)=.k (a++b):=by
 cases a with
 |nil=>cases b<;>rfl
 |cons c r=>cases b with
  |nil=>rw[apN];rfl
  |cons=>rfl
def T7(a:ξ):(SS.k a).len=⟨(a.length:Int),[]⟩:=by
 cases a with
 |nil=>rfl
 |cons c r=>show (ax.mk ((lenA (c::r):Nat)+0:Int) [])=_;rw[aR,Int.add_zero]
def AJ{l:ξ}(h:l.length≤1000000):fu [] (.k l)=some (.str (.k l)):=by
 have e:ld [] (.k 1000000) (SS.k l).len=some false:=by
  rw[T7];show some (Nat.blt 1000000 l.length)=some false;rw[show Nat.blt 1000000 l.length=false from mC (Nat.lt_succ_of_le h)]
 unfold fu jX;rw[e];rfl
def kZ(h:(a++b).length≤1000000):nu [] .Add (.str (.k a)) (.str (.k b))=some (.str (.k (a++b))):=by
 show fu [] ((SS.k a).app (.k b))=_;rw[yS,AJ h]
def J7(n c:Nat):i9 n [c]=List.replicate n c:=by
 induction n with
 |zero=>rfl
 |succ n ih=>rw[Zr,←ih];rfl
def rc{n c:Nat}(h:n≤1000000):nu [] .Mult (.str [.lit [c]]) (I (n:Int))=some (.str (.k (List.replicate n c))):=by
 show gd (jO (Int.ofNat n)) (fu [] (.k (i9 n [c])))=_;rw[show jO (Int.ofNat n)=true from Zd h,J7];exact AJ (by rw[Za];exact h)
def iI(l:List Stmt)(i:Nat):List Expr×Expr×Pos:=match ae l i with|some (.Assign ts e p)=>(ts,e,p)|_=>([],.Constant .none 0 default,default)
noncomputable def bb(e:Expr):Expr×Operator×Expr×Pos:=match e with|.BinOp l op r p=>(l,op,r,p)|_=>(e,.Add,e,default)
def sK:List Stmt:=(cJ 804).body
def fM:List (Str×NameKind):=(cJ 804).sc
def k7:t6:=wm sK 2
def jN:Expr×List Stmt×List Stmt:=eK k7.b 0
def qd:List Expr×Expr×Pos:=iI jN.2.2 0
def pG:Expr×Operator×Expr×Pos:=bb qd.2.1
def YI:eC 804 hG=some (cJ 804):=by kernel_rfl
def YJ:sK=aQ 2 sK++(.While k7.t k7.b [] k7.p::aO 3 sK):=by kernel_rfl
def Ja:k7.b=[.If jN.1 jN.2.1 jN.2.2 (ck k7.b 0)]:=by kernel_rfl
def zj(l:List Stmt)(i:Nat):Expr×Pos:=match ae l i with|some (.Expr e p)=>(e,p)|_=>(.Constant .none 0 default,default)
def xL:Expr×Pos:=zj jN.2.1 0
def Og:jN.2.1=.Expr xL.1 xL.2::aO 1 jN.2.1:=by kernel_rfl
def Oi:jN.2.2=.Assign qd.1 (.BinOp pG.1 .Add pG.2.2.1 pG.2.2.2) qd.2.2::aO 1 jN.2.2:=by kernel_rfl
noncomputable def yp(c:Nat→ay):St:=[c 0,c 1,c 2,c 3,c 4,c 5,c 6,c 7,c 8,c 9]
def gj(v nl:ξ)(k:Nat):List (Str×AV):=[(dI,.str [.lit v]),(nk,.str [.lit nl]),(cQ,.cell 10),(JD,I k)]
def σr(c:Nat→ay)(xs:List AV):St:=yp c++[.list xs]
section
variable {v nl:ξ}{k:Nat}{xs:List AV}{c:Nat→ay}
def XJ:(ai [] ac 3).exs ⟨[(dI,.str [.lit v]),(nk,.str [.lit nl])],fM⟩ (yp c) (aQ 2 sK)=some (.next,⟨gj v nl 0,fM⟩,σr c [.str (.k [])]):=by kernel_rfl
def BG:(ai [] ac 3).tst ⟨gj v nl k,fM⟩ (σr c xs) k7.t=some (k.blt (lenA v),σr c xs):=by kernel_rfl
def Gb:(ai [] ac 3).tst ⟨gj v nl k,fM⟩ (σr c xs) jN.1=ob (kQ [] (.k (cut v (some (k:Int)) (some ((k:Int)+(lenA nl:Int))))) [.lit nl]) fun t=>some (t,σr c xs):=by kernel_rfl
def Qi:(ai [] ac 3).ev ⟨gj v nl k,fM⟩ (σr c xs) xL.1=gd (Nat.ble (lenA xs) 100000) (some (.none,σr c (xs++[.str (.k [])]))):=by kernel_rfl
def Qu:(ai [] ac 3).exs ⟨gj v nl k,fM⟩ (σr c xs) (aO 1 jN.2.1)=some (.next,⟨gj v nl (k+lenA nl),fM⟩,σr c xs):=by kernel_rfl
def P0:(ai [] ac 3).ev ⟨gj v nl k,fM⟩ (σr c xs) pG.1=ob (ob (dh (lenA xs) (-1)) fun p=>ae xs p) fun r=>some (r,σr c xs):=by kernel_rfl
def Xp:(ai [] ac 3).ev ⟨gj v nl k,fM⟩ (σr c xs) pG.2.2.1=ob (ob (dh (lenA v) (k:Int)) fun p=>ob (ae v p) fun c=>some (.str [.lit [c]])) fun r=>some (r,σr c xs):=by kernel_rfl
def Ve:(ai [] ac 12).asgm ⟨gj v nl k,fM⟩ (σr c xs) y qd.1=ob (dh (lenA xs) (-1)) fun p=>some (⟨gj v nl k,fM⟩,σr c (cC xs p y)):=by kernel_rfl
def OD:(ai [] ac 3).exs ⟨gj v nl k,fM⟩ (σr c xs) (aO 1 jN.2.2)=some (.next,⟨gj v nl (k+1),fM⟩,σr c xs):=by kernel_rfl
def YM:(ai [] ac 3).exs ⟨gj v nl k,fM⟩ (σr c xs) (aO 3 sK)=some (.ret (.cell 10),⟨gj v nl k,fM⟩,σr c xs):=by kernel_rfl
end
section
structure dQ (W Z:Wr) (K:Int):Prop where
 t:(Z.T.length:Int)≤W.T.length+50*K
 l:W.line≤Z.line∧Z.line≤W.line+K
 n:W.n≤Z.n∧Z.n≤W.n+K
variable {W Z Y:Wr}{K J:Int}{nl s v:ξ}{ind bw:Int}{S:FS}{d:Nat}
def dQ.trans(h:dQ W Z K)(g:dQ Z Y J):dQ W Y (K+J):=by
 have h1:=h.t;have h2:=h.l;have h3:=h.n;have g1:=g.t;have g2:=g.l;have g3:=g.n;exact⟨by lia,⟨by lia,by lia⟩,by lia,by lia⟩
def dQ.mono(h:dQ W Z K)(g:K≤J):dQ W Z J:=by
 have h1:=h.t;have h2:=h.l;have h3:=h.n;exact⟨by lia,⟨h2.1,by lia⟩,h3.1,by lia⟩
def dQ.rfl0:dQ W W 0:=⟨by lia,⟨cI _,by lia⟩,cI _,by lia⟩
variable (hn:1≤nl.length∧nl.length≤2)(hi:2≤ind∧ind≤40)
include hn in
theorem Vr:dQ W (db nl W 10) 1:=⟨by show ((W.T++nl).length:Int)≤_;rw[au];push_cast;lia,⟨by show W.line≤W.line+1;lia,cI _⟩,by show W.n≤W.n+1;lia,cI _⟩
include hn in
theorem DU:∀ {W:Wr},dQ W (bW nl W s) s.length:=by
 intro W;apply lX (nH (nl:=nl) (s:=s) (W:=W));intro _ _ _ a4 a5 _;have t:=Em hn s;exact⟨by rw[GJ,au];push_cast;lia,⟨by rw[a4];lia,by rw[a4];lia⟩,by rw[a5];lia,by rw[a5];lia⟩
theorem yr:dQ W (fh s W) (s.length+1):=⟨by show ((W.T++s).length:Int)≤_;rw[au];push_cast;lia,⟨cI _,by show W.line≤_;lia⟩,by show W.n≤W.n+1;lia,by show W.n+1≤_;lia⟩
include hi in
theorem Xh:dQ W (gK ind W) 1:=⟨by show ((W.T++List.replicate ind.toNat 32).length:Int)≤_;rw[au,Za];push_cast;lia,⟨cI _,by show W.line≤_;lia⟩,by show W.n≤W.n+1;lia,cI _⟩
include hn hi in
theorem PS:dQ W (jP nl ind W) 2:=⟨by show ((W.T++(nl++List.replicate ind.toNat 32)).length:Int)≤_;rw[au,au,Za];push_cast;lia,⟨by show W.line≤W.line+1;lia,by show W.line+1≤_;lia⟩,by show W.n≤W.n+2;lia,cI _⟩
include hn hi in
theorem Sz:∃ K,dQ S.W (bN nl ind bw S d).W K∧K+(bN nl ind bw S d).s.length≤S.s.length+3:=by
 obtain⟨le,sp,br,s,W⟩:=S;have more:∀ {F:FS},F=⟨le,sp,br,s++[d],W⟩→∃ K,dQ W F.W K∧K+(F.s.length:Int)≤s.length+3:=fun {F} e=>⟨0,by rw[e];exact .rfl0,by rw[e];show 0+((s++[d]).length:Int)≤_;rw[au];show 0+((s.length+1:Nat):Int)≤_;lia⟩;have turn:∀ {F:FS} {Z:Wr} {K:Int},dQ W Z K→K≤s.length+2→F.W=Z→F.s=[d]→∃ K,dQ W F.W K∧K+(F.s.length:Int)≤s.length+3:=fun {F Z K} h k e1 e2=>⟨K,by rw[e1];exact h,by rw[e2];show K+1≤_;lia⟩;cases br with
 |true=>
  show ∃ K,dQ W (Bool.rec (motive:=fun _=>FS) _ _ (d.beq 10):FS).W K∧K+((Bool.rec (motive:=fun _=>FS) _ _ (d.beq 10):FS).s.length:Int)≤s.length+3;cases d.beq 10 with
  |true=>exact more rfl
  |false=>
   have b:dQ W (Bool.rec (db nl W 10) W (le ||d.beq 32)) 1:=by
    cases le ||d.beq 32 with
    |true=>exact dQ.rfl0.mono (by decide)
    |false=>exact Vr hn
   exact turn ((b.trans (DU hn (s:=s))).trans (Xh hi)) (by lia) rfl rfl
 |false=>
  cases sp with
  |true=>
   show ∃ K,dQ W (Bool.rec (motive:=fun _=>FS) _ _ (d.beq 32):FS).W K∧K+((Bool.rec (motive:=fun _=>FS) _ _ (d.beq 32):FS).s.length:Int)≤s.length+3;cases d.beq 32 with
   |true=>exact more rfl
   |false=>
    have b:dQ W (Bool.rec (fh s W) (jP nl ind W) (s.length.beq 1&&decide (bw<W.col))) (s.length+2):=by
     cases s.length.beq 1&&decide (bw<W.col) with
     |true=>exact(PS hn hi).mono (by lia)
     |false=>exact yr.mono (by lia)
    exact turn b (cI _) rfl rfl
  |false=>
   show ∃ K,dQ W (Bool.rec (motive:=fun _=>FS) _ _ (d.beq 10 ||d.beq 32):FS).W K∧K+((Bool.rec (motive:=fun _=>FS) _ _ (d.beq 10 ||d.beq 32):FS).s.length:Int)≤s.length+3;cases d.beq 10 ||d.beq 32 with
   |false=>exact more rfl
   |true=>exact turn yr (by lia) rfl rfl
include hn in
theorem O0:dQ S.W (g6 nl S) (S.s.length+2):=by
 obtain⟨le,sp,br,s,W⟩:=S;cases br with
 |true=>exact(DU hn).mono (by lia)
 |false=>
  cases sp with
  |true=>exact yr.mono (by lia)
  |false=>exact⟨by show ((W.T++(s++nl)).length:Int)≤W.T.length+50*(s.length+2);rw[au,au];push_cast;lia,⟨by show W.line≤W.line+1;lia,by show W.line+1≤W.line+(s.length+2);lia⟩,by show W.n≤W.n+2;lia,by show W.n+2≤W.n+(s.length+2);lia⟩
include hn hi in
theorem X9:∀ {v:ξ} {S:FS},dQ S.W (g6 nl (v.foldl (bN nl ind bw) S)) (3*v.length+S.s.length+2):=by
 intro v;induction v with
 |nil=>exact fun {S}=>(O0 hn).mono (by show _≤3*((0:Nat):Int)+_+2;lia)
 |cons d r ih=>
  intro S;apply ak (Sz (S:=S) (d:=d) (bw:=bw) hn hi);intro K h k;exact(h.trans ih).mono (by rw[bJ];push_cast;lia)
end
noncomputable def bi(ind:Int):ξ:=List.replicate ind.toNat 32
noncomputable def bz(k:Nat):ξ:=List.replicate k 10
def dj(l:ξ):Bool:=List.rec false (fun c U U=>c.beq 32) l
def padI(ind:Int)(l:ξ):ξ:=List.rec [] (fun c r U=>bi ind++c::r) l
noncomputable def cA(nl:ξ)(L:List ξ):ξ:=L.flatMap fun l=>l++nl
structure US where
 v:ξ
 b:ξ
 g:Nat
noncomputable def u0:US:=⟨[],[],0⟩
def uG(u:US)(c:Nat):ξ:=List.rec (bz u.g) (fun U U U=>Bool.rec (Bool.rec (u.v++[32]) (u.v++bz u.g) (Nat.blt 0 u.g)) (u.v++bz (u.g+1)) (dj u.b ||c.beq 32)) u.b
def uS(u:US)(r:ξ):US:=List.rec ⟨u.v,u.b,u.g+1⟩ (fun c t U=>⟨uG u c++c::t,c::t,0⟩) r
def mE(u:US)(h:ξ):ξ:=Bool.rec u.v (u.v++[10]) (!aI u.b&&!aK 45 h)
def uE(u:US)(h:ξ):κ ξ:=Bool.rec (Bool.rec none (some (mE u h)) (u.g.beq 0)) (some (mE u h++bz u.g)) (aK 43 h)
def eV(p:ξ):Bool:=dj p.reverse
def fc(ind bw:Int)(p r:ξ):Bool:=List.rec (fun U=>true) (fun c t ih p=>!(c.beq 32&&(!eV p&&(!dj t&&decide (bw<ind+p.length))))&&ih (p++[c])) r p
def lO(t:List ξ):Bool:=List.rec false (fun r U U=>List.rec false (fun c U U=>!c.beq 32) r) t
def lM(ind bw:Int)(r:ξ)(t:List ξ):Bool:=List.rec true (fun c l U=>Bool.rec (fc ind bw [] (c::l)&&!(lO t&&decide (ind+(c::l).length≤bw))) true (c.beq 32)) r
def iR(ind bw:Int)(L:List ξ):Bool:=List.rec true (fun r t ih=>lM ind bw r t&&ih) L
section
variable {ind bw:Int}{nl:ξ}
def iX:fc ind bw p (c::t)=(!(c.beq 32&&(!eV p&&(!dj t&&decide (bw<ind+p.length))))&&fc ind bw (p++[c]) t):=rfl
def sR(p:ξ)(c:Nat):eV (p++[c])=c.beq 32:=by unfold eV;rw[Zn];rfl
def sI(h:a≠[]):dj (a++b)=dj a:=by cases a with|nil=>exact absurd rfl h|cons=>rfl
def wn(h:a≠[]):eV (p++a)=eV a:=by
 unfold eV;rw[Zn];exact sI fun e=>h (List.reverse_eq_nil_iff.mp e)
def Vv:∀ {a p b:ξ},a≠[]→eV a=false→fc ind bw p (a++b)=(fc ind bw p a&&fc ind bw (p++a) b):=by
 intro a;induction a with
 |nil=>exact fun h=>absurd rfl h
 |cons c t ih=>
  intro p b _ hl;cases t with
  |nil=>
   rw[show [c]++b=c::b from rfl,iX,iX];rw[show eV [c]=c.beq 32 from rfl] at hl;rw[hl];show (true&&_)=((true&&true)&&_);rfl
  |cons d t=>
   rw[ZD,iX,iX,ih (p:=p++[c]) (b:=b) (Zk _ _) (by rw[←hl,show c::d::t=[c]++(d::t) from rfl,wn (Zk _ _)]),aC,Bool.and_assoc];rfl
def Qa(hd:Nat.beq d 32=false):∀ {j:Nat} {p:ξ},eV p=true→fc ind bw p (List.replicate j 32++[d])=true:=by
 intro j;induction j with
 |zero=>intro p _;show (!(d.beq 32&&_)&&true)=true;rw[hd];rfl
 |succ j ih=>
  intro p hp;rw[Zr,ZD,iX,hp,ih (sR p 32)];rfl
def VA(hd:Nat.beq d 32=false){p:ξ}(h:j=1→ind+p.length≤bw):fc ind bw p (List.replicate j 32++[d])=true:=by
 match j,h with
 |0,_=>show (!(d.beq 32&&_)&&true)=true;rw[hd];rfl
 |1,h=>
  rw[show List.replicate 1 32++[d]=32::[d] from rfl,iX,iX,hd,show decide (bw<ind+p.length)=false from Zw (by have:=h rfl;lia)];simp [fc]
 |j+2,_=>
  rw[Zr,ZD,iX,Qa hd (sR p 32)];show (!(true&&(!eV p&&(!true&&_)))&&true)=true;simp
def xX(h1:cur≠[])(h2:cur'≠[])(h3:dj cur=dj cur')(ho:lM ind bw cur' X=true)(hX:iR ind bw X=true):∀ {B:List ξ},iR ind bw (B++[cur])=true→iR ind bw (B++cur'::X)=true:=by
 intro B;induction B with
 |nil=>intro _;exact Zf.mpr ⟨ho,hX⟩
 |cons r B ih=>
  intro h;replace h:(lM ind bw r (B++[cur])&&iR ind bw (B++[cur]))=true:=h;replace h:=aA h;have e:lO (B++[cur])=lO (B++cur'::X):=by
   cases B with
   |cons=>rfl
   |nil=>
    cases cur with
    |nil=>exact absurd rfl h1
    |cons a l=>cases cur' with
     |nil=>exact absurd rfl h2
     |cons b m=>exact congrArg not h3
  have e2:lM ind bw r (B++[cur])=lM ind bw r (B++cur'::X):=by
   unfold lM;rw[e]
  exact Zf.mpr ⟨e2▸h.1,ih h.2⟩
def W9{q c t x}(h:uS u (c::t)=⟨q,c::t,0⟩):uS u (c::(t++x))=⟨q++x,c::(t++x),0⟩:=by
 have e:uG u c++c::t=q:=congrArg US.v h;show US.mk (uG u c++c::(t++x)) (c::(t++x)) 0=_;rw[←e,aC];rfl
def w2:(List.replicate k ([]:ξ)).foldl uS u=⟨u.v,u.b,u.g+k⟩:=by
 induction k generalizing u with
 |zero=>rfl
 |succ k ih=>
  rw[Zr,List.foldl_cons,ih];show US.mk u.v u.b (u.g+1+k)=_;rw[Nat.add_assoc,Nat.add_comm 1 k]
def oK(a b:List ξ):cA nl (a++b)=cA nl a++cA nl b:=List.flatMap_append ..
def lB(k:Nat):bz k++[10]=bz (k+1):=(List.replicate_succ' ..).symm
def xU(k:Nat):(List.replicate k ([]:ξ)).map (padI ind)=List.replicate k []:=by rw[List.map_replicate];rfl
def uB:∀ {k:Nat} {W:Wr},(bW nl W (bz k)).T=W.T++cA nl (List.replicate k []):=by
 intro k;induction k with
 |zero=>intro W;exact(apN _).symm
 |succ k ih=>
  intro W;show (bW nl (db nl W 10) (bz k)).T=_;rw[ih,Zr];show (W.T++nl)++_=W.T++(([]++nl)++cA nl _);rw[aC];rfl
def vp:∀ {k:Nat},iR ind bw (List.replicate k []++X)=iR ind bw X:=by
 intro k;induction k with
 |zero=>rfl
 |succ k ih=>rw[Zr];exact ih
end
def jg(c:Nat):Prop:=aU c=false∧c≠13
structure Ln (ind bw:Int) (B:List ξ) (cur q:ξ):Prop where
 ne:cur≠[]
 u:(B++[cur]).foldl uS u0=⟨q,cur,0⟩
 w:iR ind bw (B++[cur])=true
 z:∀ l∈B++[cur],∀ c∈l,jg c
 o:dj cur=false→fc ind bw [] cur=true∧eV cur=false
def TL(nl:ξ)(ind:Int)(B:List ξ)(cur:ξ):ξ:=cA nl (B.map (padI ind))++(bi ind++cur)
structure oW (nl:ξ) (ind bw:Int) (S:FS) (p:ξ) (B:List ξ) (cur:ξ):Prop where
 br:S.br=false
 sp:S.sp=false
 l:Ln ind bw B cur p
 T:S.W.T++S.s=TL nl ind B cur
 le:S.le=dj cur
 col:S.W.col+S.s.length=ind+cur.length
structure t9 (nl:ξ) (ind bw:Int) (S:FS) (p:ξ) (B:List ξ) (cur q:ξ) (j:Nat):Prop where
 br:S.br=false
 sp:S.sp=true
 l:Ln ind bw B cur q
 s:S.s=List.replicate (j+1) 32
 p:p=q++List.replicate (j+1) 32
 T:S.W.T=TL nl ind B cur
 le:S.le=dj cur
 col:S.W.col=ind+cur.length
def vU(h:l≠[]):padI ind l=bi ind++l:=by cases l with|nil=>exact absurd rfl h|cons=>rfl
def zH(h:jg c):Nat.beq c 10=false:=by
 cases q:Nat.beq c 10 with
 |false=>rfl
 |true=>have:=h.1;rw[bg q] at this;exact nomatch this
def zi:jg 32:=⟨rfl,by decide⟩
section
variable {ind bw:Int}{nl:ξ}{S:FS}{p q cur:ξ}{B:List ξ}{d:Nat}
def Ln.ext(h:Ln ind bw B cur q)(h0:dj cur=false)(hx:∀ c∈x,jg c)(hl:eV x=false)(hn:x≠[])(hw:fc ind bw cur x=true):Ln ind bw B (cur++x) (q++x):=by
 have o:=h.o h0;have e:dj (cur++x)=false:=(sI h.ne).trans h0;have w':fc ind bw [] (cur++x)=true:=by rw[Vv h.ne o.2,o.1];exact hw
 have l':eV (cur++x)=false:=by rw[wn hn];exact hl
 refine⟨fun q=>h.ne (List.append_eq_nil_iff.mp q).1,?_,xX h.ne (fun q=>h.ne (List.append_eq_nil_iff.mp q).1) (h0.trans e.symm) ?_ rfl h.w,?_,fun _=>⟨w',l'⟩⟩
 ·have u:=h.u
  rw[ZC] at u ⊢;cases cur with
  |nil=>exact absurd rfl h.ne
  |cons c t=>exact W9 u
 ·cases cur with
  |nil=>exact absurd rfl h.ne
  |cons c t=>
   replace h0:Nat.beq c 32=false:=h0;show (Bool.rec (fc ind bw [] (c::(t++x))&&!(false&&_)) true (c.beq 32):Bool)=true;rw[h0];exact Zf.mpr ⟨w',rfl⟩
 ·intro l hl c hc
  rcases dy hl with hl|hl
  ·exact h.z l (bn _ hl) c hc
  ·rw[bU hl] at hc
   rcases dy hc with hc|hc
   ·exact h.z cur (dU _ (.head _)) c hc
   ·exact hx c hc
def DG(x:ξ):TL nl ind B (cur++x)=TL nl ind B cur++x:=by unfold TL;rw[aC,aC]
def Wf(h:oW nl ind bw S p B cur)(h0:dj cur=false)(hd:jg d)(h32:Nat.beq d 32=false):oW nl ind bw (bN nl ind bw S d) (p++[d]) B (cur++[d]):=by
 obtain⟨le,sp,br,s,W⟩:=S;obtain⟨rfl,rfl,l,T,e,col⟩:=h;have h10:=zH hd;have es:bN nl ind bw ⟨le,false,false,s,W⟩ d=⟨le,false,false,s++[d],W⟩:=by
  unfold bN;dsimp only;rw[h10,h32];rfl
 rw[es];refine⟨rfl,rfl,l.ext h0 (fun c hc=>bU hc▸hd) h32 (Zk _ _) ?_,?_,e.trans (sI l.ne).symm,?_⟩
 ·show (!(d.beq 32&&_)&&true)=true;rw[h32];rfl
 ·rw[DG,←T];exact(aC ..).symm
 ·show W.col+((s++[d]).length:Int)=ind+((cur++[d]).length:Int)
  rw[au,au];push_cast;have:W.col+(s.length:Int)=ind+cur.length:=col;lia
def Ov(h:oW nl ind bw S p B cur):t9 nl ind bw (bN nl ind bw S 32) (p++[32]) B cur p 0:=by
 obtain⟨le,sp,br,s,W⟩:=S;obtain⟨rfl,rfl,l,T,e,col⟩:=h;exact⟨rfl,rfl,l,rfl,rfl,T,e,col⟩
def Qw(h:t9 nl ind bw S p B cur q j):t9 nl ind bw (bN nl ind bw S 32) (p++[32]) B cur q (j+1):=by
 obtain⟨le,sp,br,s,W⟩:=S;obtain⟨rfl,rfl,l,rfl,e1,T,e,col⟩:=h;refine⟨rfl,rfl,l,(List.replicate_succ' (n:=j+1) (a:=32)).symm,?_,T,e,col⟩;rw[e1,aC];exact congrArg (q++·) (List.replicate_succ' (n:=j+1) (a:=32)).symm
def VX(h:t9 nl ind bw S p B cur q j)(h0:dj cur=false)(hd:jg d)(h32:Nat.beq d 32=false):∃ B' cur',dj cur'=false∧oW nl ind bw (bN nl ind bw S d) (p++[d]) B' cur':=by
 obtain⟨le,sp,br,s,W⟩:=S;obtain⟨rfl,rfl,l,rfl,e1,T,e,col⟩:=h;have h10:=zH hd;replace T:W.T=TL nl ind B cur:=T;replace col:W.col=ind+cur.length:=col;have es:bN nl ind bw ⟨le,true,false,List.replicate (j+1) 32,W⟩ d=⟨le,false,false,[d],Bool.rec (fh (List.replicate (j+1) 32) W) (jP nl ind W) (Nat.beq (List.replicate (j+1) 32).length 1&&decide (bw<W.col))⟩:=by
  unfold bN;dsimp only;rw[h10,h32]
 rw[es,Za];cases c:(Nat.beq (j+1) 1&&decide (bw<W.col)) with
 |true=>
  replace c:=aA c;have hj:j=0:=by have:=bg c.1;lia
  have hc:=ZB c.2;subst hj;refine⟨B++[cur],[d],h32,rfl,rfl,⟨Zk _ _,?_,?_,?_,fun _=>⟨?_,h32⟩⟩,?_,e.trans (h0.trans h32.symm),rfl⟩
  ·rw[ZC,l.u]
   cases cur with
   |nil=>exact absurd rfl l.ne
   |cons a t=>
    replace h0:Nat.beq a 32=false:=h0;show US.mk (Bool.rec _ _ (a.beq 32 ||d.beq 32)++[d]) [d] 0=_;rw[h0,h32,e1];rfl
  ·rw[aC]
   refine xX l.ne l.ne rfl ?_ ?_ l.w
   ·have w:=l.o h0
    cases cur with
    |nil=>exact absurd rfl l.ne
    |cons a t=>
     replace h0:Nat.beq a 32=false:=h0;show (Bool.rec (fc ind bw [] (a::t)&&!(!Nat.beq d 32&&decide (ind+((a::t).length:Int)≤bw))) true (a.beq 32):Bool)=true;rw[h0,h32,w.1,Zw (by lia)];rfl
   ·show (Bool.rec (fc ind bw [] [d]&&!(false&&_)) true (d.beq 32)&&true:Bool)=true
    rw[h32,iX,h32];rfl
  ·intro m hm c hc
   rcases dy hm with hm|hm
   ·exact l.z m hm c hc
   ·rw[bU hm] at hc;rw[bU hc];exact hd
  ·rw[iX,h32];rfl
  ·show (W.T++(nl++bi ind))++[d]=TL nl ind (B++[cur]) [d]
   unfold TL;rw[T,Zb,oK,show [cur].map (padI ind)=[padI ind cur] from rfl,vU l.ne];unfold TL;show _=(_++((bi ind++cur++nl)++[]))++_;rw[apN];simp only [aC]
 |false=>
  refine⟨B,cur++(List.replicate (j+1) 32++[d]),(sI l.ne).trans h0,rfl,rfl,?_,?_,e.trans (sI l.ne).symm,?_⟩
  ·rw[e1,aC]
   refine l.ext h0 (fun c hc=>?_) (by rw[sR];exact h32) (by simp) (VA h32 fun q=>?_)
   ·rcases dy hc with hc|hc
    ·rw[Zv hc];exact zi
    ·rw[bU hc];exact hd
   ·rw[q] at c
    replace c:decide (bw<W.col)=false:=c;have:=of_decide_eq_false c;lia
  ·show (W.T++List.replicate (j+1) 32)++[d]=_
   rw[DG,←T,aC]
  ·show W.col+((List.replicate (j+1) 32).length:Int)+1=_
   rw[Za,au,au,Za];show W.col+((j+1:Nat):Int)+1=ind+((cur.length+(j+1+1):Nat):Int);push_cast;lia
def vC(nl:ξ)(ind bw:Int)(S:FS)(p:ξ):Prop:=∃ B cur,dj cur=false∧(oW nl ind bw S p B cur∨∃ q j,t9 nl ind bw S p B cur q j)
def Vw:∀ {r:ξ} {S:FS} {p:ξ},vC nl ind bw S p→(∀ c∈r,jg c)→vC nl ind bw (r.foldl (bN nl ind bw) S) (p++r):=by
 intro r;induction r with
 |nil=>intro S p h _;rw[apN];exact h
 |cons d r ih=>
  intro S p h hr;rw[List.foldl_cons,show p++d::r=(p++[d])++r by rw[aC];rfl];refine ih ?_ fun c hc=>hr c (.tail _ hc);have hd:=hr d (.head _);obtain⟨B,cur,h0,h|⟨q,j,h⟩⟩:=h
  ·cases e:Nat.beq d 32 with
   |false=>exact⟨B,cur++[d],(sI h.l.ne).trans h0,.inl (Wf h h0 hd e)⟩
   |true=>rw[bg e];exact⟨B,cur,h0,.inr ⟨_,_,Ov h⟩⟩
  ·cases e:Nat.beq d 32 with
   |false=>obtain⟨B',cur',g0,g⟩:=VX h h0 hd e;exact⟨B',cur',g0,.inl g⟩
   |true=>rw[bg e];exact⟨B,cur,h0,.inr ⟨_,_,Qw h⟩⟩
def OS(h:vC nl ind bw S p)(hp:∀ P,p≠P++[32]):∃ B cur,oW nl ind bw S p B cur:=by
 obtain⟨B,cur,h0,h|⟨q,j,h⟩⟩:=h
 ·exact⟨B,cur,h⟩
 ·refine absurd ?_ (hp (q++List.replicate j 32))
  rw[h.p,aC];exact congrArg (q++·) (List.replicate_succ' (n:=j) (a:=32))
end
structure LC (nl:ξ) (ind bw:Int) (S:FS) (p:ξ) (B:List ξ) (cur q:ξ) (k:Nat):Prop where
 br:S.br=true
 l:Ln ind bw B cur q
 s:S.s=bz (k+1)
 p:p=q++bz (k+1)
 T:S.W.T=TL nl ind B cur
 le:S.le=dj cur
structure U8 (S:FS) (p:ξ) (k:Nat):Prop where
 br:S.br=true
 s:S.s=bz k
 p:p=bz k
 T:S.W.T=[]
 le:S.le=true
def Bk(nl:ξ)(ind bw:Int)(S:FS)(p:ξ):Prop:=(∃ k,U8 S p k)∨∃ B cur q k,LC nl ind bw S p B cur q k
def Tw(nl:ξ)(ind bw:Int)(S:FS)(p:ξ):Prop:=∃ B cur,oW nl ind bw S p B cur
structure vX (ind bw:Int) (B:List ξ) (p:ξ) (d:Nat):Prop where
 u:∀ t,(B++[d::t]).foldl uS u0=⟨p++d::t,d::t,0⟩
 w:∀ t,lM ind bw (d::t) []=true→iR ind bw (B++[d::t])=true
 z:∀ l∈B,∀ c∈l,jg c
section
variable {ind bw:Int}{nl:ξ}{S:FS}{p q cur:ξ}{B:List ξ}{d:Nat}
def Fk(h:Bk nl ind bw S p∨Tw nl ind bw S p):Bk nl ind bw (bN nl ind bw S 10) (p++[10]):=by
 obtain⟨le,sp,br,s,W⟩:=S;rcases h with (⟨k,rfl,rfl,rfl,T,rfl⟩|⟨B,cur,q,k,rfl,l,rfl,rfl,T,e⟩)|⟨B,cur,rfl,rfl,l,T,e,col⟩
 ·exact .inl ⟨k+1,rfl,lB k,lB k,T,rfl⟩
 ·exact .inr ⟨B,cur,q,k+1,rfl,l,lB (k+1),by rw[aC];exact congrArg (q++·) (lB (k+1)),T,e⟩
 ·exact .inr ⟨B,cur,p,0,rfl,l,rfl,rfl,T,e⟩
def LT:vX ind bw (List.replicate k []) (bz k) d where
 u t:=by rw[ZC,w2];show US.mk (bz (0+k)++d::t) _ 0=_;rw[Nat.zero_add]
 w t h:=by rw[vp];exact Zf.mpr ⟨h,rfl⟩
 z l hl c hc:=by rw[Zv hl] at hc;exact nomatch hc
def Tl(l:Ln ind bw B cur q)(he:e=Bool.rec (k+1) k (dj cur ||d.beq 32)):vX ind bw (B++cur::List.replicate e []) (q++bz (k+1)) d where
 u t:=by
  rw[aC,ZD,show B++cur::(List.replicate e []++[d::t])=(B++[cur])++(List.replicate e []++[d::t]) by rw[aC];rfl,ZC,l.u,ZC,w2];cases cur with
  |nil=>exact absurd rfl l.ne
  |cons a m=>
   show US.mk (Bool.rec (Bool.rec (q++[32]) (q++bz (0+e)) (Nat.blt 0 (0+e))) (q++bz (0+e+1)) (dj (a::m) ||d.beq 32)++d::t) _ 0=_;rw[Nat.zero_add];cases c:(dj (a::m) ||d.beq 32) with
   |true=>rw[c] at he;subst he;rfl
   |false=>rw[c] at he;subst he;rfl
 w t h:=by
  rw[aC];refine xX l.ne l.ne rfl ?_ ?_ l.w
  ·have o:=l.o
   cases cur with
   |nil=>exact absurd rfl l.ne
   |cons a m=>
    show (Bool.rec (fc ind bw [] (a::m)&&!(lO (List.replicate e []++[d::t])&&_)) true (a.beq 32):Bool)=true;cases c:Nat.beq a 32 with
    |true=>rfl
    |false=>
     have w:=(o c).1;have:lO (List.replicate e []++[d::t])=false:=by
      rw[show dj (a::m)=a.beq 32 from rfl,c] at he;cases c2:Nat.beq d 32 with
      |true=>
       rw[c2] at he;cases e with
       |zero=>show (!Nat.beq d 32)=false;rw[c2];rfl
       |succ e=>rfl
      |false=>rw[c2] at he;subst he;rfl
     rw[w,this];rfl
  ·show iR ind bw (List.replicate e []++[d::t])=true
   rw[vp];exact Zf.mpr ⟨h,rfl⟩
 z m hm c hc:=by
  rcases dy hm with hm|hm
  ·exact l.z m (bn _ hm) c hc
  ·rcases bk hm with rfl|hm
   ·exact l.z _ (dU _ (.head _)) c hc
   ·rw[Zv hm] at hc;exact nomatch hc
def AK(h:Bk nl ind bw S p)(hd:jg d)(hn:0≤ind):∃ B W,bN nl ind bw S d=⟨d.beq 32,d.beq 32,false,[d],W⟩∧W.T=cA nl (B.map (padI ind))++bi ind∧W.col=ind∧vX ind bw B p d:=by
 have h10:=zH hd;obtain⟨le,sp,br,s,W⟩:=S;have es:∀ {le s W},bN nl ind bw ⟨le,sp,true,s,W⟩ d=⟨d.beq 32,d.beq 32,false,[d],gK ind (bW nl (Bool.rec (db nl W 10) W (le ||d.beq 32)) s)⟩:=fun {le s W}=>by
  unfold bN;dsimp only;rw[h10]
 rcases h with ⟨k,rfl,rfl,rfl,T,rfl⟩|⟨B,cur,q,k,rfl,l,rfl,rfl,T,e⟩
 ·refine⟨List.replicate k [],_,es,?_,rfl,LT⟩
  show (bW nl W (bz k)).T++bi ind=_;rw[uB,show W.T=[] from T,xU];rfl
 ·replace e:le=dj cur:=e
  replace T:W.T=TL nl ind B cur:=T;have key:∀ {e:Nat},W.T++cA nl (List.replicate (e+1) [])=cA nl ((B++cur::List.replicate e []).map (padI ind)):=fun {e}=>by
   rw[T,Zb,ZI,xU,vU l.ne,oK,Zr];unfold TL;show (_++(bi ind++cur))++(([]++nl)++cA nl (List.replicate e []))=cA nl (B.map (padI ind))++(((bi ind++cur)++nl)++cA nl (List.replicate e []));simp only [aC,ZL]
  refine⟨B++cur::List.replicate (Bool.rec (k+1) k (dj cur ||d.beq 32)) [],_,es,?_,rfl,Tl l rfl⟩;rw[e];cases c:(dj cur ||d.beq 32) with
  |true=>
   show (bW nl W (bz (k+1))).T++bi ind=_;rw[uB,key]
  |false=>
   show (bW nl (db nl W 10) (bz (k+1))).T++bi ind=_;rw[uB,←key];show ((W.T++nl)++_)++bi ind=(W.T++cA nl (List.replicate (k+1+1) []))++bi ind;rw[Zr (n:=k+1)];show ((W.T++nl)++_)++bi ind=(W.T++(([]++nl)++cA nl (List.replicate (k+1) [])))++bi ind;simp only [aC,ZL]
def GU{W:Wr}(f:vX ind bw B p 32)(hz:∀ c∈32::r,jg c)(hT:W.T++s=cA nl (B.map (padI ind))++(bi ind++32::r))(hc:W.col+s.length=ind+((32::r).length:Int)):Tw nl ind bw ⟨true,false,false,s,W⟩ (p++32::r) :=
 ⟨B,32::r,rfl,rfl,⟨Zk _ _,f.u r,f.w r rfl,fun l hl c hc=>by
  rcases dy hl with hl|hl
  ·exact f.z l hl c hc
  ·rw[bU hl] at hc;exact hz c hc,fun h=>nomatch h⟩,hT,rfl,hc⟩
def Jk:List ξ:=fW.filter fun r=>!aI r&&!dj r
def Ql:(Jk.all fun r=>(r.all fun c=>!aU c&&!c.beq 13)&&!eV r&&!aI r&&!dj r)=true:=by kernel_rfl
def SZ:(fW.all fun r=>aI r ||bQ r [32,100,101,101,112] ||bQ r [32,32,100,101,101,112,32,32,101,114] ||Jk.any (bQ r))=true:=by kernel_rfl
def Cd(h:(!aU c&&!c.beq 13)=true):jg c:=by
 replace h:=aA h;exact⟨tv h.1,fun q=>by rw[q] at h;exact nomatch h.2⟩
def KL(h:eV p=false):∀ P,p≠P++[32]:=fun P q=>by rw[q,sR] at h;exact nomatch h
def Xr(hr:r∈fW)(hi:0≤ind)(hb:ind<bw)(h:Bk nl ind bw S p):Bk nl ind bw (r.foldl (bN nl ind bw) S) (p++r)∨Tw nl ind bw (r.foldl (bN nl ind bw) S) (p++r):=by
 have k:=aB SZ r hr;cases e1:aI r with
 |true=>rw[v5 e1,apN];exact .inl h
 |false=>
 have hbw:∀ {W:Wr},W.col=ind→decide (bw<W.col)=false:=fun {W} e=>Zw (by rw[e];lia);cases e2:bQ r [32,100,101,101,112] with
 |true=>
  right;rw[fH.mp e2];obtain⟨B,W,e,T,c,f⟩:=AK h zi hi;rw[List.foldl_cons,e];show Tw nl ind bw (List.foldl (bN nl ind bw) ⟨true,false,false,[100],Bool.rec (fh [32] W) (jP nl ind W) (true&&decide (bw<W.col))⟩ [101,101,112]) _;rw[hbw c];refine GU (s:=[100,101,101,112]) (W:=fh [32] W) f (fun c hc=>Cd (aB (show ([32,100,101,101,112].all fun c=>!aU c&&!c.beq 13)=true by decide) c hc)) ?_ ?_
  ·show (W.T++[32])++_=_;rw[T];simp only [aC];rfl
  ·show W.col+((1:Nat):Int)+((4:Nat):Int)=ind+((5:Nat):Int);lia
 |false=>
 cases e3:bQ r [32,32,100,101,101,112,32,32,101,114] with
 |true=>
  right;rw[fH.mp e3];obtain⟨B,W,e,T,c,f⟩:=AK h zi hi;rw[List.foldl_cons,e];refine GU (s:=[101,114]) (W:=fh [32,32] (fh [100,101,101,112] (fh [32,32] W))) f (fun c hc=>Cd (aB (show ([32,32,100,101,101,112,32,32,101,114].all fun c=>!aU c&&!c.beq 13)=true by decide) c hc)) ?_ ?_
  ·show (((W.T++[32,32])++[100,101,101,112])++[32,32])++[101,114]=_;rw[T];simp only [aC];rfl
  ·show W.col+((2:Nat):Int)+((4:Nat):Int)+((2:Nat):Int)+((2:Nat):Int)=ind+((10:Nat):Int);lia
 |false=>
  rw[e1,e2,e3] at k;obtain⟨x,hx,e⟩:=List.any_eq_true.mp k;have g:=aB Ql x hx;rw[←fH.mp e] at g;have g1:=aA g;have g2:=aA g1.1;have g3:=aA g2.1;cases r with
  |nil=>exact nomatch e1
  |cons d t=>
   have ok:∀ c∈d::t,jg c:=fun c hc=>Cd (aB g3.1 c hc);have h32:Nat.beq d 32=false:=tv g1.2;have hl:eV (d::t)=false:=tv g3.2;right;obtain⟨B,W,e,T,c,f⟩:=AK h (ok d (.head _)) hi;rw[List.foldl_cons,e,h32];have hm:vC nl ind bw ⟨false,false,false,[d],W⟩ (p++[d]):=by
    refine⟨B,[d],h32,.inl ⟨rfl,rfl,⟨Zk _ _,f.u [],f.w [] ?_,fun l hl c hc=>?_,fun _=>⟨?_,h32⟩⟩,?_,h32.symm,?_⟩⟩
    ·show (Bool.rec (fc ind bw [] [d]&&!(false&&_)) true (d.beq 32):Bool)=true
     rw[h32,iX,h32];rfl
    ·rcases dy hl with hl|hl
     ·exact f.z l hl c hc
     ·rw[bU hl] at hc;rw[bU hc];exact ok d (.head _)
    ·rw[iX,h32];rfl
    ·show W.T++[d]=_;rw[T,aC];rfl
    ·show W.col+((1:Nat):Int)=ind+((1:Nat):Int);lia
   have M:=Vw hm (r:=t) fun c hc=>ok c (.tail _ hc);rw[show p++d::t=(p++[d])++t by rw[aC];rfl];refine OS M (KL ?_);rw[aC,show [d]++t=d::t from rfl,wn (Zk _ _)];exact hl
end
def jn(l:List ξ):ξ:=List.rec [] (fun r t ih=>List.rec r (fun U U U=>r++10::ih) t) l
structure tV (ind bw:Int) (v h:ξ) (L:List ξ):Prop where
 u:uE (L.foldl uS u0) h=some v
 w:iR ind bw L=true
 z:∀ l∈L,∀ c∈l,jg c
section
variable {ind bw:Int}{nl:ξ}{S:FS}{p v:ξ}{best:Nat}
def Ms(hi:0≤ind)(hb:ind<bw):∀ {rs:List ξ} {S:FS} {p:ξ},(∀ r∈rs,r∈fW)→Bk nl ind bw S p→Bk nl ind bw ((jn rs).foldl (bN nl ind bw) S) (p++jn rs)∨Tw nl ind bw ((jn rs).foldl (bN nl ind bw) S) (p++jn rs):=by
 intro rs;induction rs with
 |nil=>intro S p _ h;exact .inl (by rw[show jn []=[] from rfl,apN];exact h)
 |cons r t ih=>
  intro S p hr h;have R:=Xr (nl:=nl) (hr r (.head _)) hi hb h;cases t with
  |nil=>exact R
  |cons r2 t=>
   have N:=ih (fun x hx=>hr x (.tail _ hx)) (Fk R);rw[show jn (r::r2::t)=(r++[10])++jn (r2::t) by rw[aC];rfl,ZC,ZC,←aC,←aC];exact N
def K3:∀ {k:Nat} {S:FS} {p:ξ},Bk nl ind bw S p∨Tw nl ind bw S p→Bk nl ind bw ((bz k).foldl (bN nl ind bw) S) (p++bz k)∨Tw nl ind bw ((bz k).foldl (bN nl ind bw) S) (p++bz k):=by
 intro k;induction k with
 |zero=>intro S p h;rw[show bz 0=[] from rfl,apN];exact h
 |succ k ih=>
  intro S p h;have N:=ih (.inl (Fk h));rw[aC] at N;exact N
def FO(hb:best∈cO)(hv:v≠[])(hx:x=45∨x=43):aK x (bt best v)=aK x (dE v):=by
 cases v with
 |nil=>exact absurd rfl hv
 |cons c r=>
  show aK x (du best c++dE (c::r))=_;unfold du;cases aK c [32,10,133,8232,8233] with
  |false=>rfl
  |true=>
   unfold cO at hb;simp only [List.mem_cons,Zp,or_false] at hb;rcases hb with rfl|rfl|rfl|rfl<;>rcases hx with rfl|rfl<;>rfl
def Xq(h:aU e=false):dE (m++[e])=[45]:=by
 unfold dE;rw[Zn];show (Bool.rec [45] _ (aU e):ξ)=_;rw[h]
def UL(h:aU e=false):dE ((m++[e])++[10])=[]:=by
 unfold dE;rw[Zn,Zn];show (Bool.rec [] [43] (aU e):ξ)=_;rw[h]
def EA:dE (m++[10,10])=[43]:=by
 unfold dE;rw[Zn];rfl
def I3(l:Ln ind bw B cur q):∃ m e,q=m++[e]∧aU e=false:=by
 obtain⟨n,e,he⟩ : ∃ n e,cur=n++[e]:=⟨cur.dropLast,cur.getLast l.ne,(Zu l.ne).symm⟩;have u:=l.u;have o:=(l.z cur (dU _ (.head _)) e (he▸dU _ (.head _))).1;rw[ZC] at u;generalize B.foldl uS u0=x at u;cases cur with
 |nil=>exact absurd rfl l.ne
 |cons c t=>
  have e1:uG x c++c::t=q:=congrArg US.v u;exact⟨uG x c++n,e,by rw[←e1,he,aC],o⟩
def Vs(l:Ln ind bw B cur q)(k:Nat):iR ind bw (B++cur::List.replicate k [])=true:=by
 refine xX l.ne l.ne rfl ?_ ?_ l.w
 ·have o:=l.o
  cases cur with
  |nil=>exact absurd rfl l.ne
  |cons a m=>
   show (Bool.rec (fc ind bw [] (a::m)&&!(lO (List.replicate k [])&&_)) true (a.beq 32):Bool)=true;cases c:Nat.beq a 32 with
   |true=>rfl
   |false=>
    have:lO (List.replicate k [])=false:=by cases k<;>rfl
    rw[(o c).1,this];rfl
 ·have:=vp (ind:=ind) (bw:=bw) (X:=[]) (k:=k)
  rw[apN] at this;exact this
def Sx(hb:best∈cO)(hv:v≠[])(h:Bk nl ind bw S v∨Tw nl ind bw S v):∃ L,(g6 nl S).T=cA nl (L.map (padI ind))∧tV ind bw v (bt best v) L:=by
 have h45:=FO hb hv (.inl rfl);have h43:=FO hb hv (.inr rfl);obtain⟨le,sp,br,s,W⟩:=S;rcases h with (⟨k,rfl,rfl,rfl,T,rfl⟩|⟨B,cur,q,k,rfl,l,rfl,rfl,T,e⟩)|⟨B,cur,rfl,rfl,l,T,e,col⟩
 ·refine⟨List.replicate k [],?_,?_,?_,fun l hl c hc=>by rw[Zv hl] at hc;exact nomatch hc⟩
  ·show (bW nl W (bz k)).T=_
   rw[uB,show W.T=[] from T,xU];rfl
  ·rw[w2]
   have:dE (bz k)=[43]:=by
    match k,hv with
    |0,hv=>exact absurd rfl hv
    |1,_=>rfl
    |k+2,_=>rw[show bz (k+2)=bz k++[10,10] by rw[←lB,←lB,aC];rfl,EA]
   unfold uE;rw[h43,this];show some (bz (0+k))=some (bz k);rw[Nat.zero_add]
  ·have:=vp (ind:=ind) (bw:=bw) (X:=[]) (k:=k)
   rw[apN] at this;exact this
 ·obtain⟨m,e2,hq,he2⟩:=I3 l
  refine⟨B++cur::List.replicate k [],?_,?_,Vs l k,fun x hx c hc=>?_⟩
  ·show (bW nl W (bz (k+1))).T=_
   rw[uB,show W.T=TL nl ind B cur from T,Zb,ZI,xU,vU l.ne,oK,Zr];unfold TL;show (_++(bi ind++cur))++(([]++nl)++cA nl (List.replicate k []))=cA nl (B.map (padI ind))++(((bi ind++cur)++nl)++cA nl (List.replicate k []));simp only [aC,ZL]
  ·rw[show B++cur::List.replicate k []=(B++[cur])++List.replicate k [] by rw[aC];rfl,ZC,l.u,w2]
   have nn:aI cur=false:=by cases cur with|nil=>exact absurd rfl l.ne|cons=>rfl
   unfold uE mE;rw[h43,h45,hq];cases k with
   |zero=>
    rw[show (m++[e2])++bz (0+1)=(m++[e2])++[10] from rfl,UL he2];show some (Bool.rec _ _ (!aI cur&&true):ξ)=_;rw[nn];rfl
   |succ k=>
    rw[show (m++[e2])++bz (k+1+1)=((m++[e2])++bz k)++[10,10] by rw[←lB,←lB];simp only [aC];rfl,EA];show some ((Bool.rec _ _ (!aI cur&&true):ξ)++bz (0+(k+1)))=_;rw[nn,Nat.zero_add,←lB];show some (((m++[e2])++[10])++(bz k++[10]))=_;rw[←aC _ (bz k) [10],aC (m++[e2]) [10] (bz k),show [10]++bz k=bz k++[10] from (lB k).symm];simp only [aC];rfl
  ·rcases dy hx with hx|hx
   ·exact l.z x (bn _ hx) c hc
   ·rcases bk hx with rfl|hx
    ·exact l.z _ (dU _ (.head _)) c hc
    ·rw[Zv hx] at hc;exact nomatch hc
 ·obtain⟨m,e2,hq,he2⟩:=I3 l
  refine⟨B++[cur],?_,?_,l.w,l.z⟩
  ·show W.T++(s++nl)=_
   rw[←aC,show W.T++s=TL nl ind B cur from T,Zb,oK];show _=cA nl (B.map (padI ind))++((padI ind cur++nl)++[]);unfold TL;rw[apN,vU l.ne,aC]
  ·rw[l.u]
   unfold uE mE;rw[h43,h45,hq,Xq he2];show some (Bool.rec _ _ (!aI cur&&!true):ξ)=_;rw[show (!aI cur&&!true)=false from Bool.and_false _]
def Li(hi:0≤ind)(hbw:ind<bw)(hb:best∈cO)(hr:∀ r∈rs,r∈fW)(e:v=jn rs++bz t)(hv:v≠[]):∃ L,(fG nl ind bw v).T=cA nl (L.map (padI ind))∧tV ind bw v (bt best v) L:=by
 have s:Bk nl ind bw kh []:=.inl ⟨0,rfl,rfl,rfl,rfl,rfl⟩;have R:=K3 (k:=t) (Ms hi hbw hr s);rw[←ZC,←e,show ([]++jn rs)++bz t=v from e.symm] at R;exact Sx hb hv R
end
def am(L:List ξ):List AV:=L.map fun l=>.str (.k l)
inductive kW (nl:ξ):ξ→ξ→List ξ→Prop
 |done {cur:ξ}:kW nl cur [] [cur]
 |brk {cur t:ξ} {X:List ξ}:kW nl [] t X→kW nl cur (nl++t) (cur::X)
 |sign {cur t:ξ} {d:Nat} {X:List ξ}:d≠10→d≠13→kW nl (cur++[d]) t X→kW nl cur (d::t) X
def KO:∀ {l cur:ξ},(∀ d∈l,d≠10∧d≠13)→kW nl (cur++l) t X→kW nl cur (l++t) X:=by
 intro l;induction l with
 |nil=>intro cur _ h;rw[apN] at h;exact h
 |cons d l ih=>
  intro cur hd h;have q:=hd d (.head _);exact .sign q.1 q.2 (ih (fun x hx=>hd x (.tail _ hx)) (by rw[aC];exact h))
def XY:∀ {L:List ξ},(∀ l∈L,∀ d∈l,d≠10∧d≠13)→kW nl [] (cA nl L) (L++[[]]):=by
 intro L;induction L with
 |nil=>intro _;exact .done
 |cons l L ih=>
  intro h;show kW nl [] ((l++nl)++cA nl L) (l::(L++[[]]));rw[aC];exact KO (h l (.head _)) (.brk (ih fun x hx=>h x (.tail _ hx)))
def rS(a b:List ξ):am (a++b)=am a++am b:=Zb
def kl(a:List ξ):(am a).length=a.length:=Zh ..
def wF(l:ξ):bQ l l=true:=fH.mpr rfl
section
variable {w:World}{mg mb:ω}{ε0:Ev}{v nl:ξ}{c:Nat→ay}(hw:ε0.P=w.params)(he:ε0.Ok)(hn:nl=[10]∨nl=[13,10]∨nl=[13])(hv:v.length≤90000)
include hw he hn hv
theorem UH(h:kW nl cur t X):∀ {pre:ξ} {D:List ξ},v=pre++t→(D++[cur]).length≤pre.length+1→cur.length≤pre.length →
  ∃ k,Wz (ab w mg mb ε0) 150 k7.t k7.b ⟨gj v nl pre.length,fM⟩ (σr c (am (D++[cur]))) ⟨gj v nl k,fM⟩ (σr c (am (D++X))):=by
 induction h with
 |@done cur=>
  intro pre D e _ _;refine⟨_,.stop ?_⟩;have q:=BG (v:=v) (nl:=nl) (k:=pre.length) (xs:=am (D++[cur])) (c:=c);rw[aR,e,apN,show pre.length.blt pre.length=false from mC (Nat.lt_succ_self _)] at q;have T:=g7 (mg:=mg) (mb:=mb) hw he (d:=3) (by decide) q;rw[e,apN];exact T
 |@brk cur t X _ ih=>
  intro pre D e l1 l2;have ln:1≤nl.length:=by rcases hn with rfl|rfl|rfl<;>decide
  have lv:pre.length+(nl.length+t.length)=v.length:=by rw[e,au,au]
  obtain⟨k,W⟩:=ih (pre:=pre++nl) (D:=D++[cur]) (by rw[e,aC]) (by rw[au,au] at *;show _+1≤_;simp only [au,List.length_singleton] at *;lia) (ZA _);refine⟨k,.go (σ1:=σr c (am (D++[cur]))) (σ2:=σr c (am ((D++[cur])++[[]]))) (ls1:=⟨gj v nl (pre++nl).length,fM⟩) ?_ ?_ (by rw[aC D [cur] X] at W;exact W)⟩
  ·have q:=BG (v:=v) (nl:=nl) (k:=pre.length) (xs:=am (D++[cur])) (c:=c)
   rw[aR,show pre.length.blt v.length=true from Zd (by lia)] at q;exact g7 hw he (d:=3) (by decide) q
  ·have q2:=Gb (v:=v) (nl:=nl) (k:=pre.length) (xs:=am (D++[cur])) (c:=c)
   have e2:cut v (some (pre.length:Int)) (some ((pre.length:Int)+(lenA nl:Int)))=nl:=by
    rw[aR,show (pre.length:Int)+(nl.length:Int)=((pre.length+nl.length:Nat):Int) by push_cast;rfl,zk,e,List.drop_left' rfl,Zt,List.take_left' rfl]
   have e3:kQ [] (.k nl) [.lit nl]=some true:=by
    have:=uR nl nl;rw[wF] at this;rcases hn with rfl|rfl|rfl<;>exact this
   rw[e2,e3] at q2;have T2:=g7 (mg:=mg) (mb:=mb) hw he (d:=3) (by decide) (show (ai [] ac 3).tst _ _ _=some (true,_) from q2);have b1:=Qi (v:=v) (nl:=nl) (k:=pre.length) (xs:=am (D++[cur])) (c:=c);rw[aR,kl,show Nat.ble (D++[cur]).length 100000=true from Zd (by lia)] at b1;have Y1:=eY (mg:=mg) (mb:=mb) hw he (d:=3) (by decide) (show (ai [] ac 3).ev _ _ _=some (_,_) from b1);have I:bu (ab w mg mb ε0) 150 (ai [] ac 12):=(cN (dM hw he) 300 12).E;have S1:=Dz.expr (pos:=xL.2) I (by kernel_rfl) Y1;have S2:=jo (mg:=mg) (mb:=mb) hw he (d:=3) (by decide) (Qu (v:=v) (nl:=nl) (k:=pre.length) (xs:=am (D++[cur])++[.str (.k [])]) (c:=c));have B:=S1.cons S2;rw[←Og,aR,←au,show am (D++[cur])++[.str (.k [])]=am ((D++[cur])++[[]]) from (rS _ [[]]).symm] at B;rw[Ja];exact Dz.one (Dz.if_ T2 B)
 |@sign cur t d X h10 h13 _ ih=>
  intro pre D e l1 l2;have lv:pre.length+(t.length+1)=v.length:=by rw[e,au];rfl
  obtain⟨k,W⟩:=ih (pre:=pre++[d]) (D:=D) (by rw[e,aC];rfl) (by simp only [au,List.length_singleton] at *;lia) (by simp only [au,List.length_singleton] at *;lia);refine⟨k,.go (σ1:=σr c (am (D++[cur]))) (σ2:=σr c (am (D++[cur++[d]]))) (ls1:=⟨gj v nl (pre++[d]).length,fM⟩) ?_ ?_ W⟩
  ·have q:=BG (v:=v) (nl:=nl) (k:=pre.length) (xs:=am (D++[cur])) (c:=c)
   rw[aR,show pre.length.blt v.length=true from Zd (by lia)] at q;exact g7 hw he (d:=3) (by decide) q
  ·have q2:=Gb (v:=v) (nl:=nl) (k:=pre.length) (xs:=am (D++[cur])) (c:=c)
   have e3:kQ [] (.k (cut v (some (pre.length:Int)) (some ((pre.length:Int)+(lenA nl:Int))))) [.lit nl]=some false:=by
    have h:bQ (cut v (some (pre.length:Int)) (some ((pre.length:Int)+(lenA nl:Int)))) nl=false:=by
     cases q:bQ (cut v (some (pre.length:Int)) (some ((pre.length:Int)+(lenA nl:Int)))) nl with
     |false=>rfl
     |true=>
      have q:=fH.mp q;rw[aR,show (pre.length:Int)+(nl.length:Int)=((pre.length+nl.length:Nat):Int) by push_cast;rfl,zk,e,List.drop_left' rfl,Zt] at q;rcases hn with rfl|rfl|rfl<;>(injection q with q _;first|exact absurd q h10|exact absurd q h13)
    have:=uR (cut v (some (pre.length:Int)) (some ((pre.length:Int)+(lenA nl:Int)))) nl;rw[h] at this;rcases hn with rfl|rfl|rfl<;>exact this
   rw[e3] at q2;have T2:=g7 (mg:=mg) (mb:=mb) hw he (d:=3) (by decide) (show (ai [] ac 3).tst _ _ _=some (false,_) from q2);have ex:am (D++[cur])=am D++[.str (.k cur)]:=rS _ _;have q3:=P0 (v:=v) (nl:=nl) (k:=pre.length) (xs:=am (D++[cur])) (c:=c);rw[aR,kl,au,show ([cur]:List ξ).length=1 from rfl,BI] at q3;have a3:ae (am (D++[cur])) D.length=some (.str (.k cur)):=by
    have:=pM (l:=am D) (m:=[]) (AV.str (.k cur));rw[kl] at this;rw[ex];exact this
   have Y1:=eY (mg:=mg) (mb:=mb) (v:=.str (.k cur)) (σ':=σr c (am (D++[cur]))) hw he (d:=3) (by decide) (q3.trans (by show ob (ae (am (D++[cur])) D.length) _=_;rw[a3];rfl));have q4:=Xp (v:=v) (nl:=nl) (k:=pre.length) (xs:=am (D++[cur])) (c:=c);have a4:ae v pre.length=some d:=by rw[e];exact pM d
   rw[aR,sN (show pre.length<v.length by lia)] at q4;have Y2:=eY (mg:=mg) (mb:=mb) (v:=.str (.k [d])) (σ':=σr c (am (D++[cur]))) hw he (d:=3) (by decide) (q4.trans (by show ob (ob (ae v pre.length) _) _=_;rw[a4];rfl));have Y:=Yz.bin (pos:=pG.2.2.2) he Y1 Y2 (kZ (by rw[au];show _+1≤_;lia));have e5:cC (am (D++[cur])) D.length (.str (.k (cur++[d])))=am (D++[cur++[d]]):=by
    have:=MI (l:=am D) (AV.str (.k cur)) (.str (.k (cur++[d])));rw[kl] at this;rw[ex,this];exact(rS D [cur++[d]]).symm
   have A:=cN (dM (mg:=mg) (mb:=mb) hw he) 300 12;have S1:=(Dz.asg (pos:=qd.2.2) (ts:=qd.1) (ls1:=⟨gj v nl pre.length,fM⟩) (σ2:=σr c (am (D++[cur++[d]]))) A.E A.S (by kernel_rfl) Y (by
    have q6:=Ve (v:=v) (nl:=nl) (k:=pre.length) (xs:=am (D++[cur])) (c:=c) (y:=.str (.k (cur++[d])));rw[aR,kl,au,show ([cur]:List ξ).length=1 from rfl,BI] at q6;exact q6.trans (by show some _=_;rw[e5])))
   have S2:=jo (mg:=mg) (mb:=mb) hw he (d:=3) (by decide) (OD (v:=v) (nl:=nl) (k:=pre.length) (xs:=am (D++[cur++[d]])) (c:=c));have B:=S1.cons S2;rw[←Oi] at B;rw[Ja,au];exact Dz.one (Dz.if_ T2 B)
end
section
variable {w:World}{mg mb:ω}{ε0:Ev}
def Ku(hw:ε0.P=w.params)(he:ε0.Ok)(hf:eC f hG=some (cJ f))(hb:iB (cJ f).args (cJ f).dflt vs []=some ls)
  (D:aH (ab w mg mb ε0) n (cJ f).body ⟨ls,(cJ f).sc⟩ σ (.ret r) L σ') (hl:j7 (lenA σ) r σ'=σ2):fnIn (cG w.params) f=true∧Rz (ab w mg mb ε0) (n+5) σ f vs r σ2:=by
 have P:gM (ab w mg mb ε0) 0 (xl []):=Ct hw he (xi _);apply bq (P.hf f _ hf);intro g1 g2;refine⟨g1,?_⟩;have H:cg (ab w mg mb ε0) (n+5) σ f vs [] r (j7 (lenA σ) r σ'):=tB g2 hb (Zc _) (.inl rfl) D.h;rw[hl] at H;exact⟨@H⟩
def P1(hw:ε0.P=w.params)(he:ε0.Ok)(hn:nl=[10]∨nl=[13,10]∨nl=[13])(hv:(cA nl L).length≤90000)(h0:cA nl L≠[])(hL:∀ l∈L,∀ d∈l,d≠10∧d≠13) :
  fnIn (cG w.params) 804=true∧Rz (ab w mg mb ε0) 155 (yp c) 804 [.str (.k (cA nl L)),.str (.k nl)] (.cell 10) (σr c (am (L++[[]]))):=by
 obtain⟨k,W⟩:=UH (mg:=mg) (mb:=mb) (c:=c) hw he hn hv (XY (nl:=nl) hL) (pre:=[]) (D:=[]) rfl (Zc _) (Zc _);generalize cA nl L=v at *
 obtain⟨a,t,rfl⟩ : ∃ a t,v=a::t:=by cases v with|nil=>exact absurd rfl h0|cons a t=>exact⟨a,t,rfl⟩
 obtain⟨b,u,rfl⟩ : ∃ b u,nl=b::u:=by rcases hn with rfl|rfl|rfl<;>exact⟨_,_,rfl⟩
 have A:=jo (mg:=mg) (mb:=mb) hw he (d:=3) (by decide) (XJ (v:=a::t) (nl:=b::u) (c:=c));have Z:=jo (mg:=mg) (mb:=mb) hw he (d:=3) (by decide) (YM (v:=a::t) (nl:=b::u) (c:=c) (k:=k) (xs:=am (L++[[]])));have B:=A.append ((Dz.while_ (pos:=k7.p) W).cons Z);rw[←YJ] at B;exact Ku hw he YI (by kernel_rfl) B rfl
end
def iK:List Stmt:=(cJ 818).body
def aM:List (Str×NameKind):=(cJ 818).sc
def em:tQ:=xV iK 3
def nx:Expr×List Stmt×List Stmt:=eK em.b 0
def nf:Expr×List Stmt×List Stmt:=eK em.b 1
def uz:Expr×List Stmt×List Stmt:=eK nf.2.2 0
def uX:Expr×List Stmt×List Stmt:=eK uz.2.2 0
noncomputable def l6(e:Expr):List Expr×Pos:=match e with|.BoolOp _ es p=>(es,p)|_=>([],default)
noncomputable def kG(e:Expr):Expr×CmpOp×Expr×Pos:=match e with|.Compare a (o::_) (b::_) p=>(a,o,b,p)|_=>(e,.Is,e,default)
def b5(l:List Expr)(i:Nat):Expr:=(ae l i).getD (.Constant .none 0 default)
def zV(l:List Stmt)(i:Nat):Pos:=match ae l i with|some (.Continue p)=>p|_=>default
def xQ(l:List Stmt):Stmt:=(ae l 0).getD (.Pass default)
def tK:List Expr×Pos:=l6 uz.1
def jq:Expr×CmpOp×Expr×Pos:=kG (b5 tK.1 0)
def jJ:Expr×CmpOp×Expr×Pos:=kG (b5 tK.1 1)
def jI:List Expr×Expr×Pos:=iI nf.2.1 0
def gu:List Expr×Expr×Pos:=iI uz.2.1 0
def gp:List Expr×Expr×Pos:=iI uX.2.1 0
def jy:List Expr×Expr×Pos:=iI uX.2.2 0
def ko:List Expr×Expr×Pos:=iI em.b 2
def bG(a:List Expr×Expr×Pos):Expr×Operator×Expr×Pos:=bb a.2.1
def TS:eC 818 hG=some (cJ 818):=by kernel_rfl
def WH:iK=aQ 3 iK++(.For em.t em.it em.b [] em.p::aO 4 iK):=by kernel_rfl
def Hb:em.b=.If nx.1 [xQ nx.2.1,.Continue (zV nx.2.1 1)] [] (ck em.b 0)::.If nf.1 [.Assign jI.1 (.BinOp (bG jI).1 .Mult (bG jI).2.2.1 (bG jI).2.2.2) jI.2.2]
 [.If (.BoolOp .Or [.Compare jq.1 [.Eq] [jq.2.2.1] jq.2.2.2,.Compare jJ.1 [.Eq] [jJ.2.2.1] jJ.2.2.2] tK.2) [.Assign gu.1 (.BinOp (bG gu).1 .Add (.BinOp (bb (bG gu).2.2.1).1 .Mult (bb (bG gu).2.2.1).2.2.1 (bb (bG gu).2.2.1).2.2.2) (bG gu).2.2.2) gu.2.2]
  [.If uX.1 [.Assign gp.1 (.BinOp (bG gp).1 .Add (.BinOp (bb (bG gp).2.2.1).1 .Mult (bb (bG gp).2.2.1).2.2.1 (bb (bG gp).2.2.1).2.2.2) (bG gp).2.2.2) gp.2.2] [.Assign jy.1 (.BinOp (bG jy).1 .Add (bG jy).2.2.1 (bG jy).2.2.2) jy.2.2] (ck uz.2.2 0)] (ck nf.2.2 0)] (ck em.b 1) ::
 .Assign ko.1 (.BinOp (bG ko).1 .Add (bG ko).2.2.1 (bG ko).2.2.2) ko.2.2::aO 3 em.b:=by kernel_rfl
def FY(l:List Stmt):Stmt:=(ae l 1).getD (.Pass default)
def G0:FY em.b=.If nf.1 [.Assign jI.1 (.BinOp (bG jI).1 .Mult (bG jI).2.2.1 (bG jI).2.2.2) jI.2.2]
 [.If (.BoolOp .Or [.Compare jq.1 [.Eq] [jq.2.2.1] jq.2.2.2,.Compare jJ.1 [.Eq] [jJ.2.2.1] jJ.2.2.2] tK.2) [.Assign gu.1 (.BinOp (bG gu).1 .Add (.BinOp (bb (bG gu).2.2.1).1 .Mult (bb (bG gu).2.2.1).2.2.1 (bb (bG gu).2.2.1).2.2.2) (bG gu).2.2.2) gu.2.2]
  [.If uX.1 [.Assign gp.1 (.BinOp (bG gp).1 .Add (.BinOp (bb (bG gp).2.2.1).1 .Mult (bb (bG gp).2.2.1).2.2.1 (bb (bG gp).2.2.1).2.2.2) (bG gp).2.2.2) gp.2.2] [.Assign jy.1 (.BinOp (bG jy).1 .Add (bG jy).2.2.1 (bG jy).2.2.2) jy.2.2] (ck uz.2.2 0)] (ck nf.2.2 0)] (ck em.b 1):=by kernel_rfl
def aN(b:Nat)(h u m:ξ)(g:Nat)(o:List (Str×AV)):List (Str×AV):=[(cQ,.cell b),(cS,.str (.k h)),(d6,.str (.k u)),(LM,.str (.k m)),(LH,I g)]++o
def bB(r:ξ):List (Str×AV):=[(GD,.str (.k r))]
section
variable {b g:Nat}{h u m t r x:ξ}{d e:Nat}{σ:St}{o:List (Str×AV)}
def Sm:(ai [] ac 3).exs ⟨[(cQ,.cell b),(cS,.str (.k h))],aM⟩ σ (aQ 3 iK)=some (.next,⟨aN b h [] [] 0 [],aM⟩,σ):=by kernel_rfl
def Of:(ai [] ac 3).ev ⟨aN b h u m g o,aM⟩ σ em.it=some (.cell b,σ):=by kernel_rfl
def XC:(ai [] ac 0).asg ⟨aN b h u m g [],aM⟩ σ (.str (.k x)) em.t=some (⟨aN b h u m g (bB x),aM⟩,σ):=by kernel_rfl
def X0:(ai [] ac 0).asg ⟨aN b h u m g (bB r),aM⟩ σ (.str (.k x)) em.t=some (⟨aN b h u m g (bB x),aM⟩,σ):=by kernel_rfl
def K5:(ai [] ac 3).tst ⟨aN b h u m g (bB []),aM⟩ σ nx.1=some (true,σ):=by kernel_rfl
def Tk:(ai [] ac 3).tst ⟨aN b h u m g (bB (d::t)),aM⟩ σ nx.1=some (false,σ):=by kernel_rfl
def KU:(ai [] ac 12).ex ⟨aN b h u m g (bB r),aM⟩ σ (xQ nx.2.1)=some (.next,⟨aN b h u m (g+1) (bB r),aM⟩,σ):=by kernel_rfl
def Te:(ai [] ac 3).tst ⟨aN b h u [] g (bB r),aM⟩ σ nf.1=some (true,σ):=by kernel_rfl
def YX:(ai [] ac 3).tst ⟨aN b h u (e::m) g (bB r),aM⟩ σ nf.1=some (false,σ):=by kernel_rfl
def PT:(ai [] ac 3).ev ⟨aN b h u (e::m) g (bB r),aM⟩ σ jq.1=ob (ob (dh (lenA (e::m)) 0) fun p=>ob (ae (e::m) p) fun c=>some (.str [.lit [c]])) fun r=>some (r,σ):=by kernel_rfl
def Sy:(ai [] ac 3).ev ⟨aN b h u m g (bB (d::t)),aM⟩ σ jJ.1=ob (ob (dh (lenA (d::t)) 0) fun p=>ob (ae (d::t) p) fun c=>some (.str [.lit [c]])) fun r=>some (r,σ):=by kernel_rfl
def Kg:(ai [] ac 3).ev ⟨aN b h u m g (bB r),aM⟩ σ jq.2.2.1=some (.str [.lit [32]],σ):=by kernel_rfl
def LV:(ai [] ac 3).ev ⟨aN b h u m g (bB r),aM⟩ σ jJ.2.2.1=some (.str [.lit [32]],σ):=by kernel_rfl
def V9:(ai [] ac 3).tst ⟨aN b h u m g (bB r),aM⟩ σ uX.1=some (Nat.blt 0 g,σ):=by kernel_rfl
def OU:(ai [] ac 3).ev ⟨aN b h u m g (bB r),aM⟩ σ (bG jI).1=some (.str [.lit [10]],σ):=by kernel_rfl
def KS:(ai [] ac 3).ev ⟨aN b h u m g (bB r),aM⟩ σ (bG jI).2.2.1=some (I g,σ):=by kernel_rfl
def Ym:(ai [] ac 3).ev ⟨aN b h u m g (bB r),aM⟩ σ (bG gu).1=some (.str (.k u),σ):=by kernel_rfl
def X3:(ai [] ac 3).ev ⟨aN b h u m g (bB r),aM⟩ σ (bb (bG gu).2.2.1).1=some (.str [.lit [10]],σ):=by kernel_rfl
def Ro:(ai [] ac 3).ev ⟨aN b h u m g (bB r),aM⟩ σ (bb (bG gu).2.2.1).2.2.1=some (I (g+1:Nat),σ):=by kernel_rfl
def MN:(ai [] ac 3).ev ⟨aN b h u m g (bB r),aM⟩ σ (bG gp).1=some (.str (.k u),σ):=by kernel_rfl
def QM:(ai [] ac 3).ev ⟨aN b h u m g (bB r),aM⟩ σ (bb (bG gp).2.2.1).1=some (.str [.lit [10]],σ):=by kernel_rfl
def PE:(ai [] ac 3).ev ⟨aN b h u m g (bB r),aM⟩ σ (bb (bG gp).2.2.1).2.2.1=some (I g,σ):=by kernel_rfl
def LF:(ai [] ac 3).ev ⟨aN b h u m g (bB r),aM⟩ σ (bG jy).1=some (.str (.k u),σ):=by kernel_rfl
def Q7:(ai [] ac 3).ev ⟨aN b h u m g (bB r),aM⟩ σ (bG jy).2.2.1=some (.str (.k [32]),σ):=by kernel_rfl
def W1:(ai [] ac 3).ev ⟨aN b h u m g (bB r),aM⟩ σ (bG ko).1=some (.str (.k u),σ):=by kernel_rfl
def Xv:(ai [] ac 3).ev ⟨aN b h u m g (bB r),aM⟩ σ (bG ko).2.2.1=some (.str (.k r),σ):=by kernel_rfl
def YV:(ai [] ac 12).asgm ⟨aN b h u m g (bB r),aM⟩ σ (.str (.k x)) jI.1=some (⟨aN b h x m g (bB r),aM⟩,σ):=by kernel_rfl
def Xs:(ai [] ac 12).asgm ⟨aN b h u m g (bB r),aM⟩ σ (.str (.k x)) gu.1=some (⟨aN b h x m g (bB r),aM⟩,σ):=by kernel_rfl
def KJ:(ai [] ac 12).asgm ⟨aN b h u m g (bB r),aM⟩ σ (.str (.k x)) gp.1=some (⟨aN b h x m g (bB r),aM⟩,σ):=by kernel_rfl
def ML:(ai [] ac 12).asgm ⟨aN b h u m g (bB r),aM⟩ σ (.str (.k x)) jy.1=some (⟨aN b h x m g (bB r),aM⟩,σ):=by kernel_rfl
def Ow:(ai [] ac 12).asgm ⟨aN b h u m g (bB r),aM⟩ σ (.str (.k x)) ko.1=some (⟨aN b h x m g (bB r),aM⟩,σ):=by kernel_rfl
def NL:(ai [] ac 3).exs ⟨aN b h u m g (bB r),aM⟩ σ (aO 3 em.b)=some (.next,⟨aN b h u r 0 (bB r),aM⟩,σ):=by kernel_rfl
end
noncomputable def uM(u:US):Nat:=u.v.length+u.g
def fR(L:List ξ):Nat:=List.rec 0 (fun l U ih=>l.length+1+ih) L
def yQ(u:US)(r:ξ):uM (uS u r)≤uM u+(r.length+1):=by
 obtain⟨v,b,g⟩:=u;cases r with
 |nil=>exact Zc _
 |cons c t=>
  show (uG ⟨v,b,g⟩ c++c::t).length+0≤v.length+g+((c::t).length+1);have key:(uG ⟨v,b,g⟩ c).length≤v.length+g+1:=by
   unfold uG;cases b with
   |nil=>show (bz g).length≤_;unfold bz;rw[Za];lia
   |cons e m=>
    show (Bool.rec (Bool.rec (v++[32]) (v++bz g) (Nat.blt 0 g)) (v++bz (g+1)) (dj (e::m) ||c.beq 32):ξ).length≤_;have h0:∀ k,(v++bz k).length=v.length+k:=fun k=>by unfold bz;rw[au,Za]
    cases (dj (e::m) ||c.beq 32) with
    |true=>show (v++bz (g+1)).length≤_;rw[h0];lia
    |false=>
     cases Nat.blt 0 g with
     |true=>show (v++bz g).length≤_;rw[h0];lia
     |false=>show (v++[32]).length≤_;rw[au];show v.length+1≤_;lia
  rw[au];lia
def tA(a:Nat)(l:ξ):(ob (dh (lenA (a::l)) 0) fun p=>ob (ae (a::l) p) fun c=>some (AV.str [.lit [c]]))=some (.str [.lit [a]]):=by
 rw[aR];show ob (dh (a::l).length ((0:Nat):Int)) _=_;rw[sN (n:=(a::l).length) (k:=0) (Nat.succ_pos _)];rfl
def Dz.retE(I:bu Γ n R)(H:Yz Γ n e ls σ v σ1):gi Γ n (.Return (some e) pos) ls σ (.ret v) ls σ1:=by
 have D:bj Γ n (fun c=>exec (.Return (some e) pos) c.env) ls σ (.ret v) ls σ1:=DR (ou I H) _ (show AQ (gv R ls σ e v σ1) ls σ (some e)=some (.ret v,ls,σ1) by
  show obp ((gv R ls σ e v σ1).ev ls σ e) (fun v σ=>some (Fl.ret v,ls,σ))=_;rw[oq];rfl)
 exact⟨@D⟩
section
variable {w:World}{mg mb:ω}{ε0:Ev}(hw:ε0.P=w.params)(he:ε0.Ok){b g:Nat}{h u m t r x:ξ}{d e:Nat}{σ:St}{o:List (Str×AV)}
include hw he
theorem Po:Dc (ab w mg mb ε0) 150 (fun c=>execs em.b c.env) ⟨aN b h u m g (bB []),aM⟩ σ ⟨aN b h u m (g+1) (bB []),aM⟩ σ:=by
 have A:=cN (dM (mg:=mg) (mb:=mb) hw he) 300 12;have G:gi (ab w mg mb ε0) 150 (xQ nx.2.1) ⟨aN b h u m g (bB []),aM⟩ σ .next ⟨aN b h u m (g+1) (bB []),aM⟩ σ:=by
  have D:bj (ab w mg mb ε0) 150 (fun c=>exec (xQ nx.2.1) c.env) ⟨aN b h u m g (bB []),aM⟩ σ .next ⟨aN b h u m (g+1) (bB []),aM⟩ σ:=A.S.ex KU;exact⟨@D⟩
 rw[Hb];exact Dc.head (Dc.if_ (g7 (mg:=mg) (mb:=mb) hw he (d:=3) (by decide) K5) (Dc.cons G (Dc.head Dc.cont)))
theorem PY(u':ξ):aH (ab w mg mb ε0) 150 (aO 3 em.b) ⟨aN b h u' m g (bB (d::t)),aM⟩ σ .next ⟨aN b h u' (d::t) 0 (bB (d::t)),aM⟩ σ:=jo hw he (d:=3) (by decide) NL
theorem SF(hb:u.length+g+t.length≤900000):aH (ab w mg mb ε0) 150 em.b ⟨aN b h u m g (bB (d::t)),aM⟩ σ .next ⟨aN b h (uG ⟨u,m,g⟩ d++d::t) (d::t) 0 (bB (d::t)),aM⟩ σ:=by
 have A:=cN (dM (mg:=mg) (mb:=mb) hw he) 300 12;have y:∀ {ls:ag} {e:Expr} {v:AV},(ai [] ac 3).ev ls σ e=some (v,σ)→Yz (ab w mg mb ε0) 150 e ls σ v σ:=fun q=>eY hw he (d:=3) (by decide) q;have tt:∀ {ls:ag} {e:Expr} {v:Bool},(ai [] ac 3).tst ls σ e=some (v,σ)→Tz (ab w mg mb ε0) 150 e ls σ v σ:=fun q=>g7 hw he (d:=3) (by decide) q;have nl_len:∀ k,(bz k).length=k:=fun k=>Za;have M:gi (ab w mg mb ε0) 150 (FY em.b) ⟨aN b h u m g (bB (d::t)),aM⟩ σ .next ⟨aN b h (uG ⟨u,m,g⟩ d) m g (bB (d::t)),aM⟩ σ:=by
  rw[G0];cases m with
  |nil=>
   refine Dz.if_ (tt Te) (Dz.one ?_);exact Dz.asg A.E A.S (by kernel_rfl) (Yz.bin he (y OU) (y KS) (rc (by lia))) YV
  |cons e m=>
   have c1:(ai [] ac 3).ev ⟨aN b h u (e::m) g (bB (d::t)),aM⟩ σ jq.1=some (.str [.lit [e]],σ):=PT.trans (by rw[tA];rfl);have c2:(ai [] ac 3).ev ⟨aN b h u (e::m) g (bB (d::t)),aM⟩ σ jJ.1=some (.str [.lit [d]],σ):=Sy.trans (by rw[tA];rfl);have k32:∀ a:Nat,cmp [] σ .Eq (.str [.lit [a]]) (.str [.lit [32]])=some (a.beq 32):=fun a=>by
    show some (Bool.rec (motive:=fun U=>Bool) false true (a.beq 32))=_;cases a.beq 32<;>rfl
   have T1:=Tz.cmp1 (pos:=jq.2.2.2) A.E hw he (Y:=d7 [] ac) rfl (y c1) (y Kg) (by kernel_rfl) (k32 e);have T2:=Tz.cmp1 (pos:=jJ.2.2.2) A.E hw he (Y:=d7 [] ac) rfl (y c2) (y LV) (by kernel_rfl) (k32 d);have T:Tz (ab w mg mb ε0) 150 (.BoolOp .Or [.Compare jq.1 [.Eq] [jq.2.2.1] jq.2.2.2,.Compare jJ.1 [.Eq] [jJ.2.2.1] jJ.2.2.2] tK.2) ⟨aN b h u (e::m) g (bB (d::t)),aM⟩ σ (e.beq 32 ||d.beq 32) σ:=by
    refine Tz.bool ?_;cases q1:Nat.beq e 32 with
    |true=>rw[q1] at T1;exact .orT T1
    |false=>
     rw[q1] at T1;refine .orF T1 ?_;cases q2:Nat.beq d 32 with
     |true=>rw[q2] at T2;exact .orT T2
     |false=>rw[q2] at T2;exact .orF T2 .nilO
   refine Dz.if_ (tt YX) (Dz.one (Dz.if_ T ?_));show aH _ _ _ _ _ _ ⟨aN b h (Bool.rec (Bool.rec (u++[32]) (u++bz g) (Nat.blt 0 g)) (u++bz (g+1)) (e.beq 32 ||d.beq 32)) (e::m) g (bB (d::t)),aM⟩ σ;cases (e.beq 32 ||d.beq 32) with
   |true=>
    refine Dz.one (Dz.asg A.E A.S (by kernel_rfl) (Yz.bin he (y Ym) (Yz.bin he (y X3) (y Ro) (rc (by lia))) (kZ ?_)) Xs);rw[au,Za];lia
   |false=>
    refine Dz.one (Dz.if_ (tt V9) ?_);cases Nat.blt 0 g with
    |true=>
     refine Dz.one (Dz.asg A.E A.S (by kernel_rfl) (Yz.bin he (y MN) (Yz.bin he (y QM) (y PE) (rc (by lia))) (kZ ?_)) KJ);rw[au,Za];lia
    |false=>
     refine Dz.one (Dz.asg A.E A.S (by kernel_rfl) (Yz.bin he (y LF) (y Q7) (kZ ?_)) ML);rw[au];show _+1≤_;lia
 have key:(uG ⟨u,m,g⟩ d).length+(d::t).length≤1000000:=by
  have:=yQ ⟨u,m,g⟩ (d::t);have e:uM (uS ⟨u,m,g⟩ (d::t))=(uG ⟨u,m,g⟩ d++d::t).length+0:=rfl;have e2:uM ⟨u,m,g⟩=u.length+g:=rfl;rw[e,e2,au,bJ] at this;rw[bJ];lia
 have Z:=PY (mg:=mg) (mb:=mb) (b:=b) (h:=h) (m:=m) (g:=g) (t:=t) (d:=d) (σ:=σ) hw he (uG ⟨u,m,g⟩ d++d::t);have S5:=Dz.asg (pos:=ko.2.2) (ts:=ko.1) A.E A.S (by kernel_rfl) (Yz.bin (pos:=(bG ko).2.2.2) he (y (W1 (b:=b) (h:=h) (u:=uG ⟨u,m,g⟩ d) (m:=m) (g:=g) (r:=d::t))) (y Xv) (kZ (by rw[au];exact key))) Ow;have B:=M.cons (S5.cons Z);rw[G0] at B;rw[Hb];exact(Dz.if_ (tt Tk) Dz.nil).cons B
end
def Jv:Expr×List Stmt×List Stmt:=eK iK 4
def wd:Expr×List Stmt×List Stmt:=eK iK 5
def jz:List Expr×Pos:=l6 Jv.1
def ju:List Expr×Expr×Pos:=iI Jv.2.1 0
def Hv(l:List Stmt)(i:Nat):Expr×Pos:=match ae l i with|some (.Return (some e) p)=>(e,p)|_=>(.Constant .none 0 default,default)
def lQ:Expr×Pos:=Hv wd.2.1 0
def La:aO 4 iK=.If (.BoolOp .And [b5 jz.1 0,b5 jz.1 1] jz.2) [.Assign ju.1 (.BinOp (bG ju).1 .Add (bG ju).2.2.1 (bG ju).2.2.2) ju.2.2] [] (ck iK 4) ::
 .If wd.1 [.Return (some (.BinOp (bb lQ.1).1 .Add (.BinOp (bb (bb lQ.1).2.2.1).1 .Mult (bb (bb lQ.1).2.2.1).2.2.1 (bb (bb lQ.1).2.2.1).2.2.2) (bb lQ.1).2.2.2)) lQ.2] [] (ck iK 5)::aO 6 iK:=by kernel_rfl
section
variable {b g:Nat}{h u m t r x:ξ}{d e:Nat}{σ:St}{o:List (Str×AV)}
def UX:(ai [] ac 3).tst ⟨aN b h u [] g o,aM⟩ σ (b5 jz.1 0)=some (false,σ):=by kernel_rfl
def Lg:(ai [] ac 3).tst ⟨aN b h u (e::m) g o,aM⟩ σ (b5 jz.1 0)=some (true,σ):=by kernel_rfl
def Wp:(ai [] ac 3).tst ⟨aN b h u m g o,aM⟩ σ (b5 jz.1 1)=ob (kJ (ob (SS.k h).conc fun l=>some (aK 45 l))) fun t=>some (t,σ):=by kernel_rfl
def PL:(ai [] ac 3).ev ⟨aN b h u m g o,aM⟩ σ (bG ju).1=some (.str (.k u),σ):=by kernel_rfl
def QX:(ai [] ac 3).ev ⟨aN b h u m g o,aM⟩ σ (bG ju).2.2.1=some (.str (.k [10]),σ):=by kernel_rfl
def LG:(ai [] ac 12).asgm ⟨aN b h u m g o,aM⟩ σ (.str (.k x)) ju.1=some (⟨aN b h x m g o,aM⟩,σ):=by kernel_rfl
def Kz:(ai [] ac 3).tst ⟨aN b h u m g o,aM⟩ σ wd.1=ob (ob (SS.k h).conc fun l=>some (aK 43 l)) fun t=>some (t,σ):=by kernel_rfl
def WU:(ai [] ac 3).ev ⟨aN b h u m g o,aM⟩ σ (bb lQ.1).1=some (.str (.k u),σ):=by kernel_rfl
def VM:(ai [] ac 3).ev ⟨aN b h u m g o,aM⟩ σ (bb (bb lQ.1).2.2.1).1=some (.str [.lit [10]],σ):=by kernel_rfl
def Ux:(ai [] ac 3).ev ⟨aN b h u m g o,aM⟩ σ (bb (bb lQ.1).2.2.1).2.2.1=some (I g,σ):=by kernel_rfl
def N0:(ai [] ac 3).exs ⟨aN b h u m 0 o,aM⟩ σ (aO 6 iK)=some (.ret (.str (.k u)),⟨aN b h u m 0 o,aM⟩,σ):=by kernel_rfl
end
def xN(r:ξ):ae (am (P++r::Q)) P.length=some (.str (.k r)):=by
 rw[rS];have:=pM (l:=am P) (m:=am Q) (AV.str (.k r));rw[kl] at this;exact this
section
variable {w:World}{mg mb:ω}{ε0:Ev}(hw:ε0.P=w.params)(he:ε0.Ok){b:Nat}{h:ξ}{σ:St}{L:List ξ}(hb:ae σ b=some (.list (am L)))
include hw he hb
theorem WQ:∀ (Q P:List ξ) (u:US) (o:List (Str×AV)),L=P++Q→(o=[]∨∃ r,o=bB r)→uM u+fR Q≤900000 →
  ∃ o',Fz (ab w mg mb ε0) 150 em.t em.b (.lst b P.length) ⟨aN b h u.v u.b u.g o,aM⟩ σ .next ⟨aN b h (Q.foldl uS u).v (Q.foldl uS u).b (Q.foldl uS u).g o',aM⟩ σ:=by
 intro Q;induction Q with
 |nil=>
  intro P u o e _ _;refine⟨o,.stop ?_⟩;show ob (ob (ae σ b) fJ) (fun xs=>some (mH b P.length xs))=_;rw[hb];show some (ob (ae (am L) P.length) fun v=>some (v,It.lst b (P.length+1)))=_;rw[e,apN,dt,ZG (by rw[kl];exact Zc _)];rfl
 |cons r Q ih=>
  intro P u o e ho hm;replace hm:uM u+(r.length+1+fR Q)≤900000:=hm;have hs:=yQ u r;obtain⟨o',F⟩:=ih (P++[r]) (uS u r) (bB r) (by rw[e,aC];rfl) (.inr ⟨r,rfl⟩) (by lia);rw[au] at F;have hn:jw σ (.lst b P.length)=some (some (.str (.k r),.lst b (P.length+1))):=by
   show ob (ob (ae σ b) fJ) (fun xs=>some (mH b P.length xs))=_;rw[hb];show some (ob (ae (am L) P.length) fun v=>some (v,It.lst b (P.length+1)))=_;rw[e,xN];rfl
  have S:Az (ab w mg mb ε0) 150 em.t (.str (.k r)) ⟨aN b h u.v u.b u.g o,aM⟩ σ ⟨aN b h u.v u.b u.g (bB r),aM⟩ σ:=by
   rcases ho with rfl|⟨x,rfl⟩
   ·exact iS hw he XC
   ·exact iS hw he X0
  refine⟨o',?_⟩;cases r with
  |nil=>exact .cont hn S (Po hw he) F
  |cons d t=>
   rw[bJ] at hm;have:uM u=u.v.length+u.g:=rfl;exact .step hn S (SF hw he (by lia)) F
omit hb in
theorem Qs{u m:ξ}(hu:u.length+g≤900000)(hv:uE ⟨u,m,g⟩ h=some v) :
  ∃ ls,aH (ab w mg mb ε0) 150 (aO 4 iK) ⟨aN b h u m g o,aM⟩ σ (.ret (.str (.k v))) ls σ:=by
 have A:=cN (dM (mg:=mg) (mb:=mb) hw he) 300 12;have y:∀ {ls:ag} {e:Expr} {v:AV},(ai [] ac 3).ev ls σ e=some (v,σ)→Yz (ab w mg mb ε0) 150 e ls σ v σ:=fun q=>eY hw he (d:=3) (by decide) q;have tt:∀ {ls:ag} {e:Expr} {v:Bool},(ai [] ac 3).tst ls σ e=some (v,σ)→Tz (ab w mg mb ε0) 150 e ls σ v σ:=fun q=>g7 hw he (d:=3) (by decide) q;have p2:(ai [] ac 3).tst ⟨aN b h u m g o,aM⟩ σ (b5 jz.1 1)=some (!aK 45 h,σ):=Wp.trans (by rw[oI];show some (Bool.rec (motive:=fun U=>Bool) true false (aK 45 h),σ)=_;cases aK 45 h<;>rfl);have T4:Tz (ab w mg mb ε0) 150 (.BoolOp .And [b5 jz.1 0,b5 jz.1 1] jz.2) ⟨aN b h u m g o,aM⟩ σ (!aI m&&!aK 45 h) σ:=by
  refine Tz.bool ?_;cases m with
  |nil=>exact .andF (tt UX)
  |cons e m=>
   refine .andT (tt Lg) ?_;have T2:=tt p2;show Bz _ _ _ _ _ _ (!aK 45 h) _;generalize (!aK 45 h)=z at T2 ⊢;cases z with
   |true=>exact .andT T2 .nilA
   |false=>exact .andF T2
 have S4:gi (ab w mg mb ε0) 150 (.If (.BoolOp .And [b5 jz.1 0,b5 jz.1 1] jz.2) [.Assign ju.1 (.BinOp (bG ju).1 .Add (bG ju).2.2.1 (bG ju).2.2.2) ju.2.2] [] (ck iK 4)) ⟨aN b h u m g o,aM⟩ σ .next ⟨aN b h (mE ⟨u,m,g⟩ h) m g o,aM⟩ σ:=by
  refine Dz.if_ T4 ?_;unfold mE;dsimp only;cases (!aI m&&!aK 45 h) with
  |true=>exact Dz.one (Dz.asg A.E A.S (by kernel_rfl) (Yz.bin he (y PL) (y QX) (kZ (by rw[au];show _+1≤_;lia))) LG)
  |false=>exact Dz.nil
 have l1:(mE ⟨u,m,g⟩ h).length≤u.length+1:=by
  unfold mE;dsimp only;cases (!aI m&&!aK 45 h) with
  |true=>show (u++[10]).length≤_;rw[au];exact Zc _
  |false=>exact Nat.le_succ _
 have p5:∀ {u:ξ},(ai [] ac 3).tst ⟨aN b h u m g o,aM⟩ σ wd.1=some (aK 43 h,σ):=fun {u}=>Kz.trans (by rw[oI];rfl);rw[La];unfold uE at hv;generalize mE ⟨u,m,g⟩ h=u1 at *
 dsimp only at hv;have T5:=tt (p5 (u:=u1));cases q:aK 43 h with
 |true=>
  rw[q] at hv T5;rw[←osI hv];refine⟨_,S4.cons (Dz.ret (Dz.if_ T5 (Dz.ret (Dz.retE A.E (Yz.bin he (y WU) (Yz.bin he (y VM) (y Ux) (rc (by lia))) (kZ ?_))))))⟩;rw[au,Za];lia
 |false=>
  rw[q] at hv T5;cases q0:Nat.beq g 0 with
  |false=>rw[q0] at hv;exact nomatch hv
  |true=>
   rw[q0] at hv;rw[←osI hv];obtain rfl:=bg q0;exact⟨_,S4.cons ((Dz.if_ T5 Dz.nil).cons (jo hw he (d:=3) (by decide) N0))⟩
theorem P3(hl:fR L≤800000)(hv:uE (L.foldl uS u0) h=some v):fnIn (cG w.params) 818=true∧Rz (ab w mg mb ε0) 155 σ 818 [.cell b,.str (.k h)] (.str (.k v)) σ:=by
 obtain⟨o',F⟩:=WQ (mg:=mg) (mb:=mb) (h:=h) hw he hb L [] u0 [] rfl (.inl rfl) (by show 0+fR L≤_;lia);have hM:∀ (L:List ξ) (u:US),uM (L.foldl uS u)≤uM u+fR L:=fun L=>by
  induction L with
  |nil=>exact fun u=>Zc _
  |cons r L ih=>
   intro u;have a:=ih (uS u r);have b:=yQ u r;show uM (L.foldl uS (uS u r))≤uM u+(r.length+1+fR L);lia
 have hU:=hM L u0;generalize L.foldl uS u0=u at *
 replace hU:u.v.length+u.g≤0+fR L:=hU;have I0:=jo (mg:=mg) (mb:=mb) hw he (d:=3) (by decide) (Sm (b:=b) (h:=h) (σ:=σ));have Y:=eY (mg:=mg) (mb:=mb) hw he (d:=3) (by decide) (Of (b:=b) (h:=h) (u:=[]) (m:=[]) (g:=0) (o:=[]) (σ:=σ));have D:=Dz.for_ (pos:=em.p) (by kernel_rfl) (by kernel_rfl) Y (show rU σ (.cell b)=some (.lst b 0) by
  show ob (ob (ae σ b) fJ) (fun U=>some (It.lst b 0))=_;rw[hb];rfl) F
 obtain⟨ls,Z⟩:=Qs (mg:=mg) (mb:=mb) (b:=b) (h:=h) (u:=u.v) (m:=u.b) (g:=u.g) (o:=o') (σ:=σ) (v:=v) hw he (by lia) hv;have B:=I0.append (D.cons Z);rw[←WH] at B;exact rp hw he TS (by kernel_rfl) B rfl
end
structure Bb where
 es:List Expr
 q1:Nat
 q2:Pos
 x:Str
 xq:Pos
 as:List Expr
 cp:Pos
 b:List Stmt
 p:Pos
def Ga(l:List Stmt)(i:Nat):Bb:=match ae l i with|some (.For (.Tuple es q1 q2) (.Call (.Name x xq) as _ cp) b _ p)=>⟨es,q1,q2,x,xq,as,cp,b,p⟩|_=>⟨[],0,default,n0,default,[],default,[],default⟩
noncomputable def dH(e:Expr):Expr×Expr×Pos:=match e with|.Subscript a b p=>(a,b,p)|_=>(e,e,default)
def wK:List Stmt:=(cJ 825).body
def bK:List (Str×NameKind):=(cJ 825).sc
def dN:Bb:=Ga wK 0
def tX:Expr:=.Tuple dN.es dN.q1 dN.q2
def dm:Bb:=Ga dN.b 1
def Bg:Expr:=.Tuple dm.es dm.q1 dm.q2
def AP:Expr×List Stmt×List Stmt:=eK dN.b 0
def I8:Expr×List Stmt×List Stmt:=eK dm.b 0
def Eg:Expr×List Stmt×List Stmt:=eK dN.b 2
def iA:List Expr×Pos:=l6 AP.1
def ik:List Expr×Pos:=l6 I8.1
def eW:List Expr×Pos:=l6 Eg.1
def c7(q:List Expr×Pos)(i:Nat):Expr×CmpOp×Expr×Pos:=kG (b5 q.1 i)
def oR:Expr×Expr×Pos:=dH (c7 eW 2).1
def Lv:eC 825 hG=some (cJ 825):=by kernel_rfl
def Sn:wK=[.For (.Tuple dN.es dN.q1 dN.q2) (.Call (.Name dN.x dN.xq) dN.as [] dN.cp) dN.b [] dN.p]++aO 1 wK:=by kernel_rfl
def F6:dN.b=[.If (.BoolOp .Or [b5 iA.1 0,.Compare (c7 iA 1).1 [.Eq] [(c7 iA 1).2.2.1] (c7 iA 1).2.2.2] iA.2) [.Continue (zV AP.2.1 0)] [] (ck dN.b 0),
 .For (.Tuple dm.es dm.q1 dm.q2) (.Call (.Name dm.x dm.xq) dm.as [] dm.cp) dm.b [] dm.p,
 .If (.BoolOp .And [.Compare (c7 eW 0).1 [.Lt] [(c7 eW 0).2.2.1] (c7 eW 0).2.2.2,.Compare (c7 eW 1).1 [.NotEq] [(c7 eW 1).2.2.1] (c7 eW 1).2.2.2,.Compare (.Subscript oR.1 oR.2.1 oR.2.2) [.NotEq] [(c7 eW 2).2.2.1] (c7 eW 2).2.2.2,b5 eW.1 3] eW.2) Eg.2.1 [] (ck dN.b 2)]:=by kernel_rfl
def Qf:dm.b=[.If (.BoolOp .And [b5 ik.1 0,.Compare (c7 ik 1).1 [.NotEq] [(c7 ik 1).2.2.1] (c7 ik 1).2.2.2,b5 ik.1 2,b5 ik.1 3] ik.2) I8.2.1 [] (ck dm.b 0)]:=by kernel_rfl
def bH(b ind bw:Nat)(o:List (Str×AV)):List (Str×AV):=[(cQ,.cell b),(o7,I ind),(jD,I bw)]++o
def bY(k:Nat)(r:ξ)(p:List (Str×AV)):List (Str×AV):=[(JD,I k),(GD,.str (.k r))]++p
def dS(i c:Nat):List (Str×AV):=[(Mv,.int (.k (.ofNat i))),(X2,.str [.lit [c]])]
section
variable {b ind bw k k2 i i2:Nat}{r r2 t:ξ}{c c2 d:Nat}{σ:St}{p:List (Str×AV)}
def L3:iB (cJ 825).args (cJ 825).dflt [.cell b,I ind,I bw] []=some (bH b ind bw []):=by kernel_rfl
def Qb:(ai [] ac 0).asg ⟨bH b ind bw [],bK⟩ σ (.tup [.int (.k (.ofNat k)),.str (.k r)]) tX=some (⟨bH b ind bw (bY k r []),bK⟩,σ):=by kernel_rfl
def LS:(ai [] ac 0).asg ⟨bH b ind bw (bY k2 r2 p),bK⟩ σ (.tup [.int (.k (.ofNat k)),.str (.k r)]) tX=some (⟨bH b ind bw (bY k r p),bK⟩,σ):=by kernel_rfl
def Xg:(ai [] ac 0).asg ⟨bH b ind bw (bY k r []),bK⟩ σ (.tup [.int (.k (.ofNat i)),.str [.lit [c]]]) Bg=some (⟨bH b ind bw (bY k r (dS i c)),bK⟩,σ):=by kernel_rfl
def I4:(ai [] ac 0).asg ⟨bH b ind bw (bY k r (dS i2 c2)),bK⟩ σ (.tup [.int (.k (.ofNat i)),.str [.lit [c]]]) Bg=some (⟨bH b ind bw (bY k r (dS i c)),bK⟩,σ):=by kernel_rfl
def OP:(ai [] ac 12).ev ⟨bH b ind bw [],bK⟩ σ (.Name dN.x dN.xq)=some (.bi .enum,σ):=by kernel_rfl
def WY:(ai [] ac 12).evs ⟨bH b ind bw [],bK⟩ σ dN.as=some ([.cell b],σ):=by kernel_rfl
def Uk:(ai [] ac 12).ev ⟨bH b ind bw (bY k r []),bK⟩ σ (.Name dm.x dm.xq)=some (.bi .enum,σ):=by kernel_rfl
def NU:(ai [] ac 12).ev ⟨bH b ind bw (bY k r (dS i c)),bK⟩ σ (.Name dm.x dm.xq)=some (.bi .enum,σ):=by kernel_rfl
def EK:(ai [] ac 12).evs ⟨bH b ind bw (bY k r p),bK⟩ σ dm.as=some ([.str (.k r)],σ):=by kernel_rfl
def Ab:(ai [] ac 12).evk ls σ []=some ([],σ):=by kernel_rfl
def UQ:(ai [] ac 3).tst ⟨bH b ind bw (bY k [] p),bK⟩ σ (b5 iA.1 0)=some (true,σ):=by kernel_rfl
def F7:(ai [] ac 3).tst ⟨bH b ind bw (bY k (d::t) p),bK⟩ σ (b5 iA.1 0)=some (false,σ):=by kernel_rfl
def C2:(ai [] ac 3).ev ⟨bH b ind bw (bY k (d::t) p),bK⟩ σ (c7 iA 1).1=ob (ob (dh (lenA (d::t)) 0) fun p=>ob (ae (d::t) p) fun c=>some (.str [.lit [c]])) fun r=>some (r,σ):=by kernel_rfl
def Hy:(ai [] ac 3).ev ⟨bH b ind bw (bY k r p),bK⟩ σ (c7 iA 1).2.2.1=some (.str [.lit [32]],σ):=by kernel_rfl
def LA:(ai [] ac 3).tst ⟨bH b ind bw (bY k r (dS i c)),bK⟩ σ (b5 ik.1 0)=some (bQ [c] [32],σ):=by kernel_rfl
def Pv:(ai [] ac 3).ev ⟨bH b ind bw (bY k (d::t) (dS i c)),bK⟩ σ (c7 ik 1).1=ob (ob (dh (lenA (d::t)) ((i:Int)+(-1))) fun p=>ob (ae (d::t) p) fun c=>some (.str [.lit [c]])) fun r=>some (r,σ):=by kernel_rfl
def Ue:(ai [] ac 3).ev ⟨bH b ind bw (bY k r p),bK⟩ σ (c7 ik 1).2.2.1=some (.str [.lit [32]],σ):=by kernel_rfl
def K7:(ai [] ac 3).tst ⟨bH b ind bw (bY k (d::t) (dS i c)),bK⟩ σ (b5 ik.1 2)=ob (kJ (kQ [] (.k (cut (d::t) (some ((i:Int)+1)) (some ((i:Int)+2)))) [.lit [32]])) fun t=>some (t,σ):=by kernel_rfl
def Mg:(ai [] ac 3).tst ⟨bH b ind bw (bY k r (dS i c)),bK⟩ σ (b5 ik.1 3)=some (bw.blt (ind+i),σ):=by kernel_rfl
def Xc:(ai [] ac 3).ev ⟨bH b ind bw (bY k r p),bK⟩ σ (c7 eW 0).1=some (I (k+1:Nat),σ):=by kernel_rfl
def QH:(ai [] ac 3).ev ⟨bH b ind bw (bY k r (dS i c)),bK⟩ σ (c7 eW 0).2.2.1=ob (ob (ob (ae σ b) fJ) fun xs=>some (.k (.ofNat (lenA xs)))) fun l=>some (.int l,σ):=by kernel_rfl
def RT:(ai [] ac 3).ev ⟨bH b ind bw (bY k r p),bK⟩ σ (c7 eW 1).1=ob (ob (ob (ae σ b) fJ) fun xs=>ob (dh (lenA xs) (k+1:Nat)) fun p=>ae xs p) fun r=>some (r,σ):=by kernel_rfl
def Nf:(ai [] ac 3).ev ⟨bH b ind bw (bY k r p),bK⟩ σ (c7 eW 1).2.2.1=some (.str (.k []),σ):=by kernel_rfl
def SN:(ai [] ac 3).ev ⟨bH b ind bw (bY k r p),bK⟩ σ oR.1=ob (ob (ob (ae σ b) fJ) fun xs=>ob (dh (lenA xs) (k+1:Nat)) fun p=>ae xs p) fun r=>some (r,σ):=by kernel_rfl
def Vy:(ai [] ac 3).ev ⟨bH b ind bw (bY k r p),bK⟩ σ oR.2.1=some (I 0,σ):=by kernel_rfl
def L4:(ai [] ac 3).ev ⟨bH b ind bw (bY k r p),bK⟩ σ (c7 eW 2).2.2.1=some (.str [.lit [32]],σ):=by kernel_rfl
def VW:(ai [] ac 3).tst ⟨bH b ind bw (bY k (d::t) (dS i c)),bK⟩ σ (b5 eW.1 3)=some (Bool.rec true false (bw.blt (ind+lenA (d::t))),σ):=by kernel_rfl
def MV:(ai [] ac 3).exs ls σ (aO 1 wK)=some (.ret tr,ls,σ):=by kernel_rfl
end
def IN{a b:Nat}:decide ((a:Int)<(b:Int))=a.blt b:=by
 cases q:Nat.blt a b with
 |true=>exact decide_eq_true (Int.ofNat_lt.mpr (dX q))
 |false=>exact Zw fun h=>by rw[show a.blt b=true from Zd (Int.ofNat_lt.mp h)] at q;exact nomatch q
def yo(a:Nat):bQ [a] [32]=a.beq 32:=by
 show Bool.rec (motive:=fun U=>Bool) false true (a.beq 32)=_;cases a.beq 32<;>rfl
def yc(σ:St)(a:Nat):cmp [] σ .Eq (.str [.lit [a]]) (.str [.lit [32]])=some (a.beq 32)∧cmp [] σ .NotEq (.str [.lit [a]]) (.str [.lit [32]])=some (!Nat.beq a 32):=by
 refine⟨congrArg some (yo a),?_⟩;show some (Bool.rec (motive:=fun U=>Bool) true false (bQ [a] [32]))=_;rw[yo];cases a.beq 32<;>rfl
section
variable {w:World}{mg mb:ω}{ε0:Ev}(hw:ε0.P=w.params)(he:ε0.Ok){b ind bw k:Nat}{σ:St}
include hw he
theorem F1(hr:r=pre++c::q)(h:(!(c.beq 32&&(!eV pre&&(!dj q&&decide ((bw:Int)<(ind:Int)+(pre.length:Int))))))=true)(h0:pre=[]→c.beq 32=false) :
  aH (ab w mg mb ε0) 150 dm.b ⟨bH b ind bw (bY k r (dS pre.length c)),bK⟩ σ .next ⟨bH b ind bw (bY k r (dS pre.length c)),bK⟩ σ:=by
 have A:=cN (dM (mg:=mg) (mb:=mb) hw he) 300 12;have y:∀ {ls:ag} {e:Expr} {v:AV},(ai [] ac 3).ev ls σ e=some (v,σ)→Yz (ab w mg mb ε0) 150 e ls σ v σ:=fun q=>eY hw he (d:=3) (by decide) q;have tt:∀ {ls:ag} {e:Expr} {v:Bool},(ai [] ac 3).tst ls σ e=some (v,σ)→Tz (ab w mg mb ε0) 150 e ls σ v σ:=fun q=>g7 hw he (d:=3) (by decide) q;obtain⟨d,t,hd⟩ : ∃ d t,r=d::t:=by cases pre with|nil=>exact⟨_,_,hr⟩|cons a m=>exact⟨_,_,hr⟩
 have T1:=tt (LA (b:=b) (ind:=ind) (bw:=bw) (k:=k) (i:=pre.length) (r:=r) (c:=c) (σ:=σ));rw[yo] at T1;rw[Qf];refine Dz.one (Dz.if_ (q:=false) (Tz.bool ?_) Dz.nil);cases e:Nat.beq c 32 with
 |false=>rw[e] at T1;exact .andF T1
 |true=>
  rw[e] at T1 h h0;obtain rfl:=bg e;obtain⟨m,x,hp⟩ : ∃ m x,pre=m++[x]:=by
   have hn:pre≠[]:=fun q=>by have:=h0 q;exact nomatch this
   exact⟨pre.dropLast,pre.getLast hn,(Zu hn).symm⟩
  have e1:(ai [] ac 3).ev ⟨bH b ind bw (bY k (d::t) (dS pre.length 32)),bK⟩ σ (c7 ik 1).1=some (.str [.lit [x]],σ):=Pv.trans (by
   have hx:ae (d::t) m.length=some x:=by rw[←hd,hr,hp,aC];exact pM x
   have hl:m.length<(d::t).length:=by rw[←hd,hr,hp];simp only [au,bJ,List.length_nil];lia
   rw[aR,show (pre.length:Int)+(-1)=(m.length:Int) by rw[hp,au];show ((m.length+1:Nat):Int)+(-1)=_;lia,sN hl];show ob (ob (ae (d::t) m.length) _) _=_;rw[hx];rfl)
  have T2:=Tz.cmp1 (pos:=(c7 ik 1).2.2.2) A.E hw he (Y:=d7 [] ac) rfl (y e1) (y Ue) (by kernel_rfl) (yc σ x).2;have hs:eV pre=x.beq 32:=by rw[hp,sR]
  have e2:(ai [] ac 3).tst ⟨bH b ind bw (bY k (d::t) (dS pre.length 32)),bK⟩ σ (b5 ik.1 2)=some (!dj q,σ):=K7.trans (by
   have hc:cut (d::t) (some ((pre.length:Int)+1)) (some ((pre.length:Int)+2))=q.take 1:=by
    rw[show (pre.length:Int)+1=((pre.length+1:Nat):Int) by push_cast;rfl,show (pre.length:Int)+2=((pre.length+2:Nat):Int) by push_cast;rfl,zk,←hd,hr,show pre++32::q=(pre++[32])++q by rw[aC];rfl,List.drop_left' (by rw[au];rfl)]
    congr 1;lia
   rw[hc,show ([.lit [32]]:SS)=SS.k [32] from rfl,uR];show some (Bool.rec (motive:=fun U=>Bool) true false (bQ (q.take 1) [32]),σ)=_;cases q with
   |nil=>rfl
   |cons z q=>
    show some (Bool.rec (motive:=fun U=>Bool) true false (bQ [z] [32]),σ)=some (!Nat.beq z 32,σ);rw[yo];cases z.beq 32<;>rfl)
  have T3:=tt e2;have T4:=tt (Mg (b:=b) (ind:=ind) (bw:=bw) (k:=k) (i:=pre.length) (r:=r) (c:=32) (σ:=σ));rw[←IN,show ((ind+pre.length:Nat):Int)=(ind:Int)+(pre.length:Int) by push_cast;rfl] at T4;rw[hs] at h;rw[hd] at T1 T4 ⊢;refine .andT T1 ?_;generalize x.beq 32=b2 at *
  generalize dj q=b3 at *
  generalize decide ((bw:Int)<(ind:Int)+(pre.length:Int))=b4 at *
  cases b2 with
  |true=>exact .andF T2
  |false=>
   refine .andT T2 ?_;cases b3 with
   |true=>exact .andF T3
   |false=>
    refine .andT T3 ?_;cases b4 with
    |false=>exact .andF T4
    |true=>exact nomatch h
theorem S6:∀ (q pre:ξ) (i c:Nat),r=pre++q→pre≠[]→fc ind bw pre q=true→∃ i' c',Fn (ab w mg mb ε0) 150 Bg dm.b (.str r) pre.length ⟨bH b ind bw (bY k r (dS i c)),bK⟩ σ ⟨bH b ind bw (bY k r (dS i' c')),bK⟩ σ:=by
 intro q;induction q with
 |nil=>intro pre i c hr _ _;exact⟨i,c,.stop (by rw[hr,apN];rfl)⟩
 |cons d q ih=>
  intro pre i c hr hn h;rw[iX] at h;replace h:=aA h;obtain⟨i',c',F⟩:=ih (pre++[d]) pre.length d (by rw[hr,aC];rfl) (by simp) h.2;rw[au] at F;exact⟨i',c',.step rfl (by show ob (ae r _) _=_;rw[hr,pM];rfl) (iS hw he I4) (.inl (F1 hw he hr h.1 fun q=>absurd q hn)) F⟩
theorem WG(hp:p=[]∨∃ i c,p=dS i c)(hd:Nat.beq d 32=false)(h:fc ind bw [] (d::t)=true):∃ i' c',gi (ab w mg mb ε0) 150 (.For (.Tuple dm.es dm.q1 dm.q2) (.Call (.Name dm.x dm.xq) dm.as [] dm.cp) dm.b [] dm.p) ⟨bH b ind bw (bY k (d::t) p),bK⟩ σ .next ⟨bH b ind bw (bY k (d::t) (dS i' c')),bK⟩ σ:=by
 rw[iX] at h;replace h:=aA h;obtain⟨i',c',F⟩:=S6 (mg:=mg) (mb:=mb) (b:=b) (k:=k) (σ:=σ) (r:=d::t) hw he t [d] 0 d rfl (Zk _ _) h.2;have D:=F1 (mg:=mg) (mb:=mb) (b:=b) (k:=k) (σ:=σ) (pre:=[]) (q:=t) (r:=d::t) (c:=d) hw he rfl h.1 fun _=>hd;have A:=cN (dM (mg:=mg) (mb:=mb) hw he) 300 12;refine⟨i',c',?_⟩;rcases hp with rfl|⟨i,c,rfl⟩
 ·exact Dz.forN (q:=.str (d::t)) A.E Uk EK Ab ⟨_,rfl,dY _⟩ (.step rfl rfl (iS hw he Xg) (.inl D) F)
 ·exact Dz.forN (q:=.str (d::t)) A.E NU EK Ab ⟨_,rfl,dY _⟩ (.step rfl rfl (iS hw he I4) (.inl D) F)
end
def Yz.sub{Γ:aw}(hw:Γ.ε.P=Γ.w.params)(he:Γ.ε.Ok)(h1:Yz Γ n o ls σ v σ1)(h2:Yz Γ n i ls σ1 iv σ2)(h3:wk [] σ2 v iv=some r):Yz Γ n (.Subscript o i pos) ls σ r σ2:=⟨by
 intro c A s m imm cs Q E C l Rp k;refine An (h1.h C l Rp fun hx tx ix cx va Rx xx qx=>h2.h C l (s:=sU s hx tx) Rx fun hy ty iy cy vi Ry xy qy=>?_);exact Fx (β:=[]) he hw h3 C (s:=sU s hy ty) Ry (qx.ext xy) qy fun tk val q=>k hy tk iy cy val Ry (xx.trans xy) q⟩
def rl(σ:St)(x y:ξ):cmp [] σ .Eq (.str (.k x)) (.str (.k y))=some (bQ x y)∧cmp [] σ .NotEq (.str (.k x)) (.str (.k y))=some (!bQ x y):=by
 refine⟨uR x y,?_⟩;show kJ (kQ [] (.k x) (.k y))=_;rw[uR];show some (Bool.rec (motive:=fun U=>Bool) true false (bQ x y))=_;cases bQ x y<;>rfl
section
variable {w:World}{mg mb:ω}{ε0:Ev}(hw:ε0.P=w.params)(he:ε0.Ok){b ind bw:Nat}{σ:St}{L:List ξ}(hb:ae σ b=some (.list (am L)))
include hw he
theorem Dd(hr:r=[]∨∃ t,r=32::t):Dc (ab w mg mb ε0) 150 (fun c=>execs dN.b c.env) ⟨bH b ind bw (bY k r p),bK⟩ σ ⟨bH b ind bw (bY k r p),bK⟩ σ:=by
 have A:=cN (dM (mg:=mg) (mb:=mb) hw he) 300 12;have tt:∀ {ls:ag} {e:Expr} {v:Bool},(ai [] ac 3).tst ls σ e=some (v,σ)→Tz (ab w mg mb ε0) 150 e ls σ v σ:=fun q=>g7 hw he (d:=3) (by decide) q;have y:∀ {ls:ag} {e:Expr} {v:AV},(ai [] ac 3).ev ls σ e=some (v,σ)→Yz (ab w mg mb ε0) 150 e ls σ v σ:=fun q=>eY hw he (d:=3) (by decide) q;rw[F6];refine Dc.head (Dc.if_ (q:=true) (Tz.bool ?_) (Dc.head Dc.cont));rcases hr with rfl|⟨t,rfl⟩
 ·exact .orT (tt UQ)
 ·refine .orF (tt F7) (.orT ?_)
  exact Tz.cmp1 A.E hw he (Y:=d7 [] ac) rfl (y (C2.trans (by rw[tA];rfl))) (y Hy) (by kernel_rfl) (yc σ 32).1
include hb
theorem Xd(e:L=P++(d::t)::Q)(hp:p=[]∨∃ i c,p=dS i c)(hd:Nat.beq d 32=false)(h:lM ind bw (d::t) Q=true) :
  ∃ i' c',aH (ab w mg mb ε0) 150 dN.b ⟨bH b ind bw (bY P.length (d::t) p),bK⟩ σ .next ⟨bH b ind bw (bY P.length (d::t) (dS i' c')),bK⟩ σ:=by
 have A:=cN (dM (mg:=mg) (mb:=mb) hw he) 300 12;have tt:∀ {ls:ag} {e:Expr} {v:Bool},(ai [] ac 3).tst ls σ e=some (v,σ)→Tz (ab w mg mb ε0) 150 e ls σ v σ:=fun q=>g7 hw he (d:=3) (by decide) q;have y:∀ {ls:ag} {e:Expr} {v:AV},(ai [] ac 3).ev ls σ e=some (v,σ)→Yz (ab w mg mb ε0) 150 e ls σ v σ:=fun q=>eY hw he (d:=3) (by decide) q;replace h:(Bool.rec (fc ind bw [] (d::t)&&!(lO Q&&decide ((ind:Int)+((d::t).length:Int)≤(bw:Int)))) true (d.beq 32):Bool)=true:=h;rw[hd] at h;replace h:=aA h;obtain⟨i',c',S⟩:=WG (mg:=mg) (mb:=mb) (b:=b) (k:=P.length) (σ:=σ) hw he hp hd h.1;refine⟨i',c',?_⟩;have C0:=Tz.cmp1 (pos:=(c7 iA 1).2.2.2) A.E hw he (Y:=d7 [] ac) rfl (y ((C2 (b:=b) (ind:=ind) (bw:=bw) (k:=P.length) (d:=d) (t:=t) (p:=p)).trans (by rw[tA];rfl))) (y Hy) (by kernel_rfl) (yc σ d).1;rw[hd] at C0;have I0:gi (ab w mg mb ε0) 150 (.If (.BoolOp .Or [b5 iA.1 0,.Compare (c7 iA 1).1 [.Eq] [(c7 iA 1).2.2.1] (c7 iA 1).2.2.2] iA.2) [.Continue (zV AP.2.1 0)] [] (ck dN.b 0)) ⟨bH b ind bw (bY P.length (d::t) p),bK⟩ σ .next ⟨bH b ind bw (bY P.length (d::t) p),bK⟩ σ :=
  Dz.if_ (q:=false) (Tz.bool (.orF (tt F7) (.orF C0 .nilO))) Dz.nil
 rw[F6];refine I0.cons (S.cons (Dz.one (Dz.if_ (q:=false) (Tz.bool ?_) Dz.nil)));have hL:(am L).length=P.length+(Q.length+1):=by rw[kl,e,au,bJ]
 have l4:(ai [] ac 3).ev ⟨bH b ind bw (bY P.length (d::t) (dS i' c')),bK⟩ σ (c7 eW 0).2.2.1=some (I (P.length+(Q.length+1):Nat),σ):=QH.trans (by
  rw[hb];show some (AV.int (.k (.ofNat (lenA (am L)))),σ)=_;rw[aR,hL];rfl)
 have T1:=Tz.cmp1 (pos:=(c7 eW 0).2.2.2) A.E hw he (Y:=d7 [] ac) rfl (y Xc) (y l4) (by kernel_rfl) (show cmp [] σ .Lt (I (P.length+1:Nat)) (I (P.length+(Q.length+1):Nat))=some (Nat.blt (P.length+1) (P.length+(Q.length+1))) from rfl);have T4:=tt (VW (b:=b) (ind:=ind) (bw:=bw) (k:=P.length) (d:=d) (t:=t) (i:=i') (c:=c') (σ:=σ));have h2:=h.2;cases Q with
 |nil=>
  rw[show Nat.blt (P.length+1) (P.length+(([]:List ξ).length+1))=false from mC (Nat.lt_succ_self _)] at T1;exact .andF T1
 |cons x Q=>
  rw[show Nat.blt (P.length+1) (P.length+((x::Q).length+1))=true from Zd (by rw[bJ];lia)] at T1;refine .andT T1 ?_;have hx:ae (am L) (P.length+1)=some (.str (.k x)):=by
   have:=xN (P:=P++[d::t]) (Q:=Q) x;rw[au] at this;rw[e];rw[aC] at this;exact this
  have hpl:dh (lenA (am L)) ((P.length+1:Nat):Int)=some (P.length+1):=by rw[aR];exact sN (by rw[hL,bJ];lia)
  have ek:∀ {X:κ AV},X=(ob (ob (ae σ b) fJ) fun xs=>ob (dh (lenA xs) ((P.length+1:Nat):Int)) fun p=>ae xs p)→X=some (.str (.k x)):=fun {X} q=>by
   rw[q,hb];show ob (dh (lenA (am L)) _) _=_;rw[hpl];exact hx
  have e5:(ai [] ac 3).ev ⟨bH b ind bw (bY P.length (d::t) (dS i' c')),bK⟩ σ (c7 eW 1).1=some (.str (.k x),σ):=RT.trans (by rw[ek rfl];rfl);have e6:(ai [] ac 3).ev ⟨bH b ind bw (bY P.length (d::t) (dS i' c')),bK⟩ σ oR.1=some (.str (.k x),σ):=SN.trans (by rw[ek rfl];rfl);have T2:=Tz.cmp1 (pos:=(c7 eW 1).2.2.2) A.E hw he (Y:=d7 [] ac) rfl (y e5) (y Nf) (by kernel_rfl) (rl σ x []).2;cases x with
  |nil=>exact .andF T2
  |cons c x=>
   refine .andT T2 ?_;have T3:=Tz.cmp1 (pos:=(c7 eW 2).2.2.2) A.E hw he (Y:=d7 [] ac) rfl (Yz.sub (pos:=oR.2.2) hw he (y e6) (y Vy) (tA c x)) (y L4) (by kernel_rfl) (yc σ c).2;rw[show lO ((c::x)::Q)=!c.beq 32 from rfl,show decide ((ind:Int)+((d::t).length:Int)≤(bw:Int))=!bw.blt (ind+(d::t).length) by
    rw[←IN,←decide_not];exact decide_eq_decide.mpr (by push_cast;exact Int.not_lt.symm)] at h2
   rw[aR] at T4;generalize c.beq 32=b2 at *
   generalize bw.blt (ind+(d::t).length)=b3 at *
   cases b2 with
   |true=>exact .andF T3
   |false=>
    refine .andT T3 ?_;cases b3 with
    |true=>exact .andF T4
    |false=>exact nomatch h2
def JW(o:List (Str×AV)):Prop:=o=[]∨∃ k r p,(p=[]∨∃ i c,p=dS i c)∧o=bY k r p
theorem K6:∀ (Q P:List ξ) (o:List (Str×AV)),L=P++Q→JW o→iR ind bw Q=true→∃ o',Fn (ab w mg mb ε0) 150 tX dN.b (.lst b) P.length ⟨bH b ind bw o,bK⟩ σ ⟨bH b ind bw o',bK⟩ σ:=by
 have hn:(Sq.lst b).n σ=some (am L).length:=by show ob (ob (ae σ b) fJ) _=_;rw[hb];rfl
 intro Q;induction Q with
 |nil=>intro P o e _ _;exact⟨o,.stop (hn.trans (by rw[kl,e,apN]))⟩
 |cons r Q ih=>
  intro P o e ho h;replace h:=aA (show (lM ind bw r Q&&iR ind bw Q)=true from h);have hx:(Sq.lst b).at σ P.length=some (.str (.k r)):=by show ob (ob (ae σ b) fJ) _=_;rw[hb,e];exact xN r
  obtain⟨p,hp,S⟩ : ∃ p,(p=[]∨∃ i c,p=dS i c)∧Az (ab w mg mb ε0) 150 tX (.tup [.int (.k (.ofNat P.length)),.str (.k r)]) ⟨bH b ind bw o,bK⟩ σ ⟨bH b ind bw (bY P.length r p),bK⟩ σ:=by
   rcases ho with rfl|⟨k,r2,p,hp,rfl⟩
   ·exact⟨[],.inl rfl,iS hw he Qb⟩
   ·exact⟨p,hp,iS hw he LS⟩
  have go:∀ p,(p=[]∨∃ i c,p=dS i c)→∃ o',Fn (ab w mg mb ε0) 150 tX dN.b (.lst b) (P.length+1) ⟨bH b ind bw (bY P.length r p),bK⟩ σ ⟨bH b ind bw o',bK⟩ σ:=fun p hp=>by
   obtain⟨o',F⟩:=ih (P++[r]) (bY P.length r p) (by rw[e,aC];rfl) (.inr ⟨_,_,p,hp,rfl⟩) h.2;rw[au] at F;exact⟨o',F⟩
  cases r with
  |nil=>
   obtain⟨o',F⟩:=go p hp;exact⟨o',.step hn hx S (.inr (Dd hw he (.inl rfl))) F⟩
  |cons d t=>
   cases q:Nat.beq d 32 with
   |true=>
    obtain rfl:=bg q;obtain⟨o',F⟩:=go p hp;exact⟨o',.step hn hx S (.inr (Dd hw he (.inr ⟨t,rfl⟩))) F⟩
   |false=>
    obtain⟨i',c',D⟩:=Xd (mg:=mg) (mb:=mb) hw he hb e hp q h.1;obtain⟨o',F⟩:=go (dS i' c') (.inr ⟨_,_,rfl⟩);exact⟨o',.step hn hx S (.inl D) F⟩
theorem SO(h:iR ind bw L=true):fnIn (cG w.params) 825=true∧Rz (ab w mg mb ε0) 155 σ 825 [.cell b,I ind,I bw] tr σ:=by
 obtain⟨o',F⟩:=K6 (mg:=mg) (mb:=mb) hw he hb L [] [] rfl (.inl rfl) h;have A:=cN (dM (mg:=mg) (mb:=mb) hw he) 300 12;have D:=Dz.forN (q:=.lst b) (pos:=dN.p) (cp:=dN.cp) A.E OP WY Ab ⟨rfl,_,hb⟩ F;have B:=(Dz.one D).append (jo (mg:=mg) (mb:=mb) hw he (d:=3) (by decide) MV);rw[←Sn] at B;exact rp hw he Lv L3 B rfl
end
def eu(Γ:aw)(n:Nat)(t:Cx→Sem Flow)(ls:ag)(σ:St)(f:Fl)(ls':ag)(σ':St):Prop :=
 ∀ {c A s m imm cs} {Q:Flow→χ→Prop} {E:Θ},be Γ c A n→co c ls→ao Γ c.h₀ c.L s.heap m ls.v σ imm cs →
  (∀ h' tk m' imm' cs' fl,ao Γ c.h₀ c.L h' m' ls'.v σ' imm' cs'→co c ls'→(∀ p∈imm,p∈imm')→FR Γ imm' cs' fl f→Q fl (sU s h' tk))→wpAny (model Γ.prog Γ.w) A (t c) Q E s
section
variable {Γ:aw}{n:Nat}
def bj.goes(H:bj Γ n t ls σ f ls' σ'):eu Γ n t ls σ f ls' σ':=by
 intro c A s m imm cs Q E C l R k;exact H C l R fun h' tk m' imm' cs' fl R' l' x' f'=>k h' tk m' imm' cs' fl R' l' x'.i f'
def eu.nil:eu Γ n (fun c=>execs [] c.env) ls σ .next ls σ:=bj.goes bj.nil
def eu.cons{st:Stmt}{r:List Stmt}{ls ls1 ls2:ag}{σ σ1 σ2:St}{f:Fl}(h1:eu Γ n (fun c=>exec st c.env) ls σ .next ls1 σ1)(h2:eu Γ n (fun c=>execs r c.env) ls1 σ1 f ls2 σ2):eu Γ n (fun c=>execs (st::r) c.env) ls σ f ls2 σ2:=by
 intro c A s m imm cs Q E C l Rp k;refine ZM (h1 C l Rp fun hx tx mx ix cx fl Rx lx xx fx=>?_);(obtain e:_=_:=FR.inv fx;subst e);exact h2 C lx (s:=sU s hx tx) Rx fun h2 t2 m2 i2 c2 fl R2 l2 x2 f2=>k h2 t2 m2 i2 c2 fl R2 l2 (fun p hp=>x2 p (xx p hp)) f2
def eu.le(hn:n'≤n)(H:eu Γ n' t ls σ f ls' σ'):eu Γ n t ls σ f ls' σ':=by
 intro c A s m imm cs Q E C;exact H (C.le hn)
end
def uH(idx:ξ)(k:Nat):Nat:=List.rec (motive:=fun U=>Nat) 0 (fun i U ih=>Bool.rec (Nat.succ ih) 0 (i.beq k)) idx
def iU(idx:ξ):eO:=⟨id,id,.any,.any,uH idx⟩
def lW(σ:St)(i:Nat):ay:=match ae σ i with|some c=>c|none=>.list []
def so(idx:ξ)(σ:St):St:=idx.map fun i=>fC (iU idx) (lW σ i)
def io(cs:List CC)(i:Nat):CC:=match ae cs i with|some c=>c|none=>.list 0 [] 0
def Pb:k∈idx→ae idx (uH idx k)=some k:=by
 induction idx with
 |nil=>intro h;cases h
 |cons i r ih=>
  intro h;show ae (i::r) (Bool.rec (Nat.succ (uH r k)) 0 (i.beq k))=some k;cases e:Nat.beq i k with
  |true=>rw[bg e];rfl
  |false=>
   rcases bk h with rfl|h
   ·rw[show k.beq k=true from Nat.beq_refl k] at e;injection e
   ·exact ih h
def vr{α β:Type}(f:α→β)(l:List α)(i:Nat):ae (l.map f) i=(ae l i).map f:=by rw[dt,dt,List.getElem?_map]
def yU{cs:List CC}(h:i<cs.length):ae cs i=some (io cs i):=by
 unfold io;rw[dt,List.getElem?_eq_getElem h]
def wN(c:CC):List Addr:=c.objs.map Prod.fst
def LY(cs:List CC):(aG cs).map Prod.fst=cs.flatMap wN:=by unfold aG wN;rw[List.map_flatMap]
def XS(a b:CC):Prop:=∀ x∈wN a,∀ y∈wN b,x≠y
def VS{cs:List CC}{idx:ξ}(hi:idx.Nodup)(hl:∀ i∈idx,i<cs.length)(h:((imm++aG cs).map Prod.fst).Nodup):((imm++aG (idx.map (io cs))).map Prod.fst).Nodup:=by
 rw[Zb,LY] at h ⊢;apply fj (List.nodup_append.mp h);intro h1 h2 h3;have hp:=List.pairwise_flatMap.mp h2;have get:∀ i,i<cs.length→io cs i∈cs:=fun i hi=>by
  have:=yU hi;rw[dt] at this;exact List.mem_of_getElem? this
 refine List.nodup_append.mpr ⟨h1,List.pairwise_flatMap.mpr ⟨fun c hc=>?_,List.pairwise_map.mpr ?_⟩,fun a ha b hb=>?_⟩
 ·apply ak (eo hc);intro i h4 e0;subst e0
  exact hp.1 _ (get i (hl i h4))
 ·have key:∀ i j,i<cs.length→j<cs.length→i≠j→XS (io cs i) (io cs j):=by
   intro i j hi hj hne;have e1:∀ i (h:i<cs.length),io cs i=cs[i]:=fun i h=>by
    unfold io;rw[dt,List.getElem?_eq_getElem h]
   rw[e1 i hi,e1 j hj];have pw:=List.pairwise_iff_getElem.mp hp.2;rcases Nat.lt_or_gt_of_ne hne with q|q
   ·exact pw i j hi hj q
   ·intro x hx y hy e
    exact pw j i hj hi q y hy x hx e.symm
  exact List.Pairwise.imp_of_mem (fun {i j} ha hb hne=>key i j (hl i ha) (hl j hb) hne) hi
 ·apply ak (List.mem_flatMap.mp hb);intro c hc hk
  apply ak (eo hc);intro i h4 e0;subst e0;exact h3 a ha b (List.mem_flatMap.mpr ⟨_,get i (hl i h4),hk⟩)
section
variable {Γ:aw}
def xC(idx:ξ)(ls:List (Str×AV))(σ:St):Bool :=
 mN idx&&(idx.all (fun i=>i.blt (lenA σ))&&((idx.all fun i=>(rG (lW σ i)).all fun x=>match x with|.cell k=>aK k idx|_=>true)&&(dw ls).all fun x=>match x with|.cell k=>aK k idx|_=>true))
def C3(he:Γ.ε.Ok)(idx:ξ):eR Γ [] Γ.ε (iU idx):=⟨rfl,he,fun U U h=>(by injection h),fun U=>rfl,fun U=>rfl,fun U h=>h⟩
def FF{l:List AV}(hl:(l.all fun x=>match x with|.cell k=>aK k idx|_=>true)=true)(hr:∀ k∈idx,∀ a,ae ρ k=some a→ae ρ' (uH idx k)=some a):eM Γ (iU idx) imm ρ ρ' Γ.ε.ov l:=by
 refine⟨fun i hi=>?_,fun k hk=>hr k ?_⟩
 ·exact .any rfl
 ·apply ak (List.mem_flatMap.mp hk);intro x h1 h2
  have:=aB hl x h1;induction x using AV.casesOn with
  |cell j=>rw[bU h2];exact qM.mp this
  |_=>cases h2
def bh.cell_at(h:bh Γ imm ρ cs σ)(i:Nat)(hi:i<σ.length):CR Γ imm ρ (io cs i) (lW σ i):=by
 induction h generalizing i with
 |nil=>exact absurd hi (Nat.not_lt_zero _)
 |cons h _ ih=>
  cases i with
  |zero=>exact h
  |succ i=>exact ih i (Nat.lt_of_succ_lt_succ hi)
def ao.pick(he:Γ.ε.Ok)(R:ao Γ h₀ L h m ls σ imm cs)(hs:∀ x v,lk x ls1=some v→lk x ls=some v)(ok:xC idx ls1 σ=true) :
  ao Γ h₀ L h m (fQ (iU idx) ls1) (so idx σ) imm (idx.map (io cs)):=by
 have a:=aA ok;have b:=aA a.2;have d:=aA b.2;have o1:=a.1;have o2:=b.1;have o3:=d.1;have o4:=d.2;have nd:=Ad o1;have lt:∀ i∈idx,i<σ.length:=fun i hi=>by
  have:=aB o2 i hi;rw[aR] at this;exact dX this
 have ltc:∀ i∈idx,i<cs.length:=fun i hi=>by rw[R.C.len];exact lt i hi
 have hr:∀ k∈idx,∀ a,ae (aj cs) k=some a→ae (aj (idx.map (io cs))) (uH idx k)=some a:=fun k hk a ha=>by
  unfold aj at ha ⊢;rw[vr,yU (ltc k hk)] at ha;rw[vr,vr,Pb hk];exact ha
 have mem:∀ q∈aG (idx.map (io cs)),q∈aG cs:=fun q hq=>by
  apply ak (List.mem_flatMap.mp hq);intro c hc hk;apply ak (eo hc);intro i h4 e0;subst e0;refine List.mem_flatMap.mpr ⟨_,?_,hk⟩;have:=yU (ltc i h4);rw[dt] at this;exact List.mem_of_getElem? this
 refine⟨R.F,fun q hq=>R.N q ?_,VS nd ltc R.nd,?_,?_⟩
 ·rcases dy hq with a|a
  ·exact bn _ a
  ·exact dU _ (mem q a)
 ·have go:∀ l:ξ,(∀ i∈l,i∈idx)→bh Γ imm (aj (idx.map (io cs))) (l.map (io cs)) (l.map fun i=>fC (iU idx) (lW σ i)):=by
   intro l;induction l with
   |nil=>intro _;exact .nil
   |cons i r ih=>
    intro h;have hi:=h i (.head _);refine .cons ?_ (ih fun j hj=>h j (.tail _ hj));have cr:CR (Γ.wE (Γ.ε.wO Γ.ε.ov Γ.ε.cv)) imm (aj cs) (io cs i) (lW σ i):=bh.cell_at R.C i (lt i hi);exact CR.up (C3 he idx) _ (FF (aB o3 i hi) hr) (fun j U=>.any rfl) cr
  exact go idx fun U h=>h
 ·have hl:nZ (Γ.wE (Γ.ε.wO Γ.ε.ov Γ.ε.cv)) imm (aj cs) m ls1:=fun x v hx=>R.l x v (hs x v hx)
  exact vj (C3 he idx) (FF o4 hr) hl
def eu.pick{ls ls' ls1:ag}(he:Γ.ε.Ok)(hs1:ls1.sc=ls.sc)(hs:∀ x v,lk x ls1.v=some v→lk x ls'.v=some v)(ok:xC idx ls1.v σ'=true)(H:eu Γ n t ls σ .next ls' σ') :
  eu Γ n t ls σ .next ⟨fQ (iU idx) ls1.v,ls1.sc⟩ (so idx σ'):=by
 intro c A s m imm cs Q E C l R k;refine H C l R fun h' tk m' imm' cs' fl R' l' x' f'=>?_;(obtain e:_=_:=FR.inv f';subst e);refine k h' tk m' imm' _ _ (R'.pick he hs ok) ⟨hs1▸l.sc,fun x v hx=>?_,l'.nd⟩ x' .next;replace hx:lk x (fQ (iU idx) ls1.v)=some v:=hx;rw[pc] at hx;cases q:lk x ls1.v with
 |none=>rw[q] at hx;injection hx
 |some u=>exact l'.lo x u (hs x u q)
end
section
variable {Γ:aw}{n:Nat}
inductive rh (Γ:aw) (n:Nat) (t:Expr) (b:List Stmt):Nat→Nat→ag→St→ag→St→Prop
 |done {k:Nat} {ls:ag} {σ:St}:rh Γ n t b k 0 ls σ ls σ
 |step {k m:Nat} {ls ls0 ls1 ls2:ag} {σ σ0 σ1 σ2:St}:jM Γ n (fun c=>assign t c.env) (.int (.k (.ofNat k))) ls σ ls0 σ0→eu Γ n (fun c=>execs b c.env) ls0 σ0 .next ls1 σ1→rh Γ n t b (k+1) m ls1 σ1 ls2 σ2→rh Γ n t b k (m+1) ls σ ls2 σ2
def RD{σ:St}{c:Cx}{A:Around}{nn:Nat}{s:χ}{m:ω}{ls:List (Str×AV)}{imm:Δ}{cs:List CC}{I:Addr}{Q:κ π→χ→Prop}{E:Θ}{i j:Nat}
  (C:be Γ c A nn) (R:ao Γ c.h₀ c.L s.heap m ls σ imm cs) (a:(I,gf i (j+1))∈imm)
  (k:∀ h' tk imm' val,ao Γ c.h₀ c.L h' m ls σ imm' cs→(∀ q∈imm,q.1≠I→q∈imm')→(I,gf (i+1) j)∈imm'→VR Γ imm' (aj cs) val (.int (.k (.ofNat i)))→Q (some val) (sU s h' tk)):wpAny (model Γ.prog Γ.w) A (pyNext (.ref I)) Q E s:=by
 have ho:cT (gf i (j+1))=true:=by dsimp only [cT,gf];decide
 have hg:=(R.N _ (bn _ a)).1;refine wpAny_pyNext_range_item (x:=(i:Int)) (left:=((j+1:Nat):Int)) (step:=1) hg (by lia) fun h' hit' hs=>?_;have hit':h'.get? I=some (gf (i+1) j):=by
  have e1:((j+1:Nat):Int)-1=(j:Int):=by lia
  have e2:(i:Int)+1=((i+1:Nat):Int):=by lia
  replace hit':h'.get? I=some {cls:=.type "range_iterator",data:=.fields #[rawInt ((i:Int)+1),rawInt (((j+1:Nat):Int)-1),rawInt 1]}:=hit';rw[e1,e2] at hit';exact hit'
 exact k h' _ _ _ (R.putIter a ho hs.extBut hit') (fun q hq hn=>.tail _ (hK.mpr ⟨hq,nG hn⟩)) (.head _) (.int (cF _).symm)
def Sw{σ:St}{c:Cx}{A:Around}{nn:Nat}{s:χ}{m:ω}{ls:List (Str×AV)}{imm:Δ}{cs:List CC}{I:Addr}{Q:κ π→χ→Prop}{E:Θ}{i:Nat}
  (C:be Γ c A nn) (R:ao Γ c.h₀ c.L s.heap m ls σ imm cs) (a:(I,gf i 0)∈imm)
  (k:∀ h' tk imm',ao Γ c.h₀ c.L h' m ls σ imm' cs→(∀ q∈imm,q.1≠I→q∈imm')→Q none (sU s h' tk)):wpAny (model Γ.prog Γ.w) A (pyNext (.ref I)) Q E s:=by
 have ho:cT (gf i 0)=true:=by dsimp only [cT,gf];decide
 have hg:=(R.N _ (bn _ a)).1;exact wpAny_pyNext_range_end C.hd (x:=(i:Int)) (left:=0) (step:=1) hg (cI _) fun h' hs=>k h' s.toks _ (R.dropIter a ho hs) fun q hq hn=>hK.mpr ⟨hq,nG hn⟩
def Yn(ht:iZ t=true)(h:rh Γ n t b k m ls σ ls' σ') :
  ∀ {c A s mm imm cs I} {Rq:Result→χ→Prop},be Γ c A n→co c ls→ao Γ c.h₀ c.L s.heap mm ls.v σ imm cs→(I,gf k m)∈imm →
  (∀ h' tk m' imm' cs',ao Γ c.h₀ c.L h' m' ls'.v σ' imm' cs'→co c ls'→(∀ q∈imm,q.1≠I→q∈imm')→Rq (.ok .next) (sU s h' tk))→codeAny (model Γ.prog Γ.w) A (.forLoop t (.ref I) b [] c.env) Rq s:=by
 induction h with
 |done=>
  intro c A s mm imm cs I Rq C l R hi q;refine mG (Sw C R hi fun h' tk imm' R' x'=>?_);exact wpAny_execs_nil (q h' tk mm imm' cs R' l x')
 |step hs hg _ ih=>
  intro c A s mm imm cs I Rq C l R hi q;refine mG (RD C R hi fun h' tk imm' val R' x' hi' hv=>?_);refine su ht (s:=sU s h' tk) (R'.N _ (bn _ hi')).1 ⟨by dsimp only [cT,gf];decide,by dsimp only [pj,gf];decide⟩ ?_;refine hs C l (s:=sU s h' tk) R' hv fun ha ta ma ia ca Ra la xa=>?_;refine hg C la (s:=sU s ha ta) Ra fun hz tz mz iz cz fl Rz lz xz fz=>?_;(obtain e:_=_:=FR.inv fz;subst e);exact ih C lz (s:=sU s hz tz) Rz (xz _ (xa.i _ hi')) fun h2 t2 m2 i2 c2 R2 l2 x2=>q h2 t2 m2 i2 c2 R2 l2 fun p hp hne=>x2 p (xz p (xa.i p (x' p hp hne))) hne
def eu.range(he:Γ.ε.Ok)(ht:iZ t=true)(hit:jE it=true)(hy:bM Γ n (fun c=>eval it c.env) ls σ (.rng j) σ0)(ok:xC idx ls.v σ0=true)(h:rh Γ n t b 0 j ⟨fQ (iU idx) ls.v,ls.sc⟩ (so idx σ0) ls' σ') :
  eu Γ n (fun c=>exec (.For t it b [] pos) c.env) ls σ .next ls' σ':=by
 intro c A s m imm cs Q E C l R k;show wpAny _ _ (exec (.For t it b [] pos) c.env) _ _ _;rw[exec_For];refine Y6 (Zj (Y6 (hy C l R fun hx tx ix cx va Rx xx qx=>?_)));apply pW qx.inv;intro aa tt uu vv e0 hb hle;subst e0;have hfold:foldedSetIterable it c.env (.ref aa)=pure (.ref aa):=by
  unfold foldedSetIterable;induction it using PySem.Expr.casesOn<;>first|rfl|(exact Bool.noConfusion (show false=true from hit))
 rw[hfold];refine Y6 (Y8 (Y6 (Zj (Y6 (Ze ?_)))));have hr:IsRange hx aa 0 (j:Int) 1 tt uu vv:=(Rx.N _ (bn _ hb)).1;have hsz:Builtin.Range.rangeSize 0 (j:Int) 1=(j:Int):=by
  rw[rangeSize_one]
  split<;>lia
 refine wpAny_pyIter_range hr (small_one (by lia) (by lia) (by lia) (by lia)) ?_;rw[hsz];have l0:co c ⟨fQ (iU idx) ls.v,ls.sc⟩:=⟨l.sc,fun x v hx=>by
  replace hx:lk x (fQ (iU idx) ls.v)=some v:=hx;rw[pc] at hx;cases q:lk x ls.v with
  |none=>rw[q] at hx;injection hx
  |some u=>exact l.lo x u q,l.nd⟩
 refine wpAny_runOwn (Yn ht h C l0 (s:=(sU s (hx.push (gf 0 j)) tx)) ((Rx.pick he (fun U U h=>h) ok).newI (gf 0 j) rfl) (.head _) fun h' tk m' imm' cs' R' l' x'=>?_);refine k h' tk m' imm' cs' _ R' l' (fun p hp=>x' p (.tail _ (xx.i p hp)) fun e=>?_) .next;have:=Zy (Rx.N p (bn _ (xx.i p hp))).1;rw[e] at this;exact Nat.lt_irrefl _ this
end
def o5:ξ→Bool|[]=>false|c::_=>aU c
noncomputable def dP:ξ→Bool|[]=>true|c::r=>!(c.beq 32&&(aI r ||o5 r))&&dP r
noncomputable def om(F:Nat→Bool):Bool:=F 6 ||(F 9 ||F 3)
def Mk:∀ (v:ξ) (first:Bool) (F:Nat→Bool) (pw ps pb:Bool),om (lu v first F pw ps pb).1=(om F ||((ps&&o5 v) ||!dP v)):=by
 intro L0;induction L0 with
 |nil=>
  intro _ F _ ps _;show om F=(om F ||((ps&&false) ||false));cases ps<;>cases om F<;>rfl
 |cons c r ih=>
  intro first F pw ps pb
  show om (lu r false (fun k=>jS first (aI r) c pw (fN (c::r)) ps pb k ||F k) (kL c) (c.beq 32) (aU c)).1=_;rw[ih];show ((((c.beq 32&&aI r) ||F 6) ||(((aU c&&ps) ||F 9) ||(false ||F 3))) ||((c.beq 32&&o5 r) ||!dP r))=((F 6 ||(F 9 ||F 3)) ||((ps&&aU c) ||!(!(c.beq 32&&(aI r ||o5 r))&&dP r)));generalize c.beq 32=a,aI r=b,o5 r=d,aU c=e,dP r=h,F 6=i,F 9=j,F 3=k;revert a b d e h i j k ps;decide +kernel
def Qj:∀ (v:ξ) (first:Bool) (F:Nat→Bool) (pw ps pb:Bool),(lu v first F pw ps pb).1 2=(F 2 ||v.any aU):=by
 intro L0;induction L0 with
 |nil=>
  intro _ F _ _ _;show F 2=(F 2 ||false);rw[Bool.or_false]
 |cons c r ih=>
  intro first F pw ps pb
  show (lu r false (fun k=>jS first (aI r) c pw (fN (c::r)) ps pb k ||F k) (kL c) (c.beq 32) (aU c)).1 2=_;rw[ih];show ((aU c ||F 2) ||r.any aU)=(F 2 ||(aU c ||r.any aU));rw[←Bool.or_assoc,Bool.or_comm (aU c)]
def Rj(v:ξ):uC v=v.any aU:=by
 unfold uC d8;rw[Qj];rfl
def VB(v:ξ):gF v 4=dP v:=by
 have h:om (d8 v)=!dP v:=by unfold d8;rw[Mk];rfl
 replace h:(d8 v 6 ||(d8 v 9 ||d8 v 3))=!dP v:=h;have e:gF v 4=!(d8 v 6 ||(d8 v 9 ||d8 v 3)):=by
  unfold gF;show (((((((true&&!(_&&false))&&!((d8 v 6 ||false)&&true))&&!((d8 v 8 ||false)&&false))&&!((d8 v 9 ||(d8 v 3 ||false))&&true))&&!((d8 v 2 ||false)&&false))&&!((d8 v 1 ||false)&&false))&&!((d8 v 0 ||false)&&false))=_;simp only [Bool.and_false,Bool.not_false,Bool.and_true,Bool.or_false,Bool.true_and,Bool.not_or]
 rw[e,h,Bool.not_not]
structure fK where
 m:Bool
 p:Bool
structure Tx where
 i:Nat
 cl:fK
 fl:Nat
 near:Nat×Nat×Nat
 far:Nat×Nat×Nat
structure WL where
 T:SS
 n:ax
 line:ax
 col:ax
 ws:Bool
 ind:Bool
 oe:Bool
def WL.val(ε:Ev)(w:WL):Wr:=⟨w.line.val ε,w.col.val ε,w.n.val ε,w.T.val ε,w.ws,w.ind,w.oe⟩
noncomputable def Su(c:ay):SS:=match c with|.rows t _=>t|_=>[]
def J3(c:ay):ax:=match c with|.rows _ n=>n|_=>.k 0
def Jt(v:AV):ax:=match v with|.int l=>l|_=>.k 0
noncomputable def Cv(v:AV):Bool:=match v with|.bool b=>b|_=>false
def xj(c:Nat→ay)(x:Nat→AV):WL:=⟨Su (c 4),J3 (c 4),Jt (x 13),Jt (x 14),Cv (x 15),Cv (x 16),Cv (x 17)⟩
def AE(c:Nat→ay)(w:WL):Nat→ay:=(tO c 0 [none,none,none,some (.inst 771 [(cQ,.cell 4)]),some (.rows w.T w.n)])
def Bo(x:Nat→AV)(w:WL):Nat→AV:=(tO (tO x 13 [some (.int w.line),some (.int w.col),some (.bool w.ws),some (.bool w.ind),some (.bool w.oe)]) 0 [some (.cell 3)])
def Hf(β:Bd)(c:Nat→ay)(x:Nat→AV)(w:WL):Bool:=og (aT c x) (aT (AE c w) (Bo x w))&&(w.T.all (oG β)&&(ig β (.int w.T.len) 0 50000&&(ig β (.int w.n) 0 90000&&(ig β (.int w.line) 0 90000&&ig β (.int w.col) 0 200))))
def EP(c:Nat→ay)(x:Nat→AV)(w:WL):aT (fun i=>fC (bx ε) (AE c w i)) (fun i=>flA (bx ε) (Bo x w i))=aS (fun i=>fC (bx ε) (c i)) (fun i=>flA (bx ε) (x i)) (w.val ε):=rfl
def IK(φ:eO)(c:Nat→ay)(x:Nat→AV):aT (fun i=>fC φ (c i)) (fun i=>flA φ (x i))=bL φ (aT c x):=rfl
def pk{β:Bd}{ε:Ev}(hb:aV β ε){l:ax}{lo hi:Int}(h:ig β (.int l) lo hi=true):lo≤l.val ε∧l.val ε≤hi:=by
 apply ed (GR hb h);intro m e h1 h2;cases e;exact⟨h1,h2⟩
structure YQ (W:Wr):Prop where
 l:0≤W.line∧W.line≤90000
 c:0≤W.col∧W.col≤200
 n:0≤W.n∧W.n≤90000
 t:(W.T.length:Int)≤50000
def Vj{ε:Ev}(he:ε.Ok)(hb:aV β ε)(h:Hf β c x w=true) :
  aT (fun i=>fC (bx ε) (c i)) (fun i=>flA (bx ε) (x i))=aS (fun i=>fC (bx ε) (c i)) (fun i=>flA (bx ε) (x i)) (w.val ε)∧YQ (w.val ε):=by
 replace h:=aA h;have h2:=aA h.2;have h3:=aA h2.2;have h4:=aA h3.2;have h5:=aA h4.2;refine⟨?_,pk hb h5.1,pk hb h5.2,pk hb h4.1,?_⟩
 ·rw[←EP,IK,IK,tP h.1]
 ·have:=(pk hb h3.1).2
  rw[jT he (wB hb h2.1)] at this;exact this
def zQ(t:Tx)(as:List AV):Bool:=jG dG as [.str [.var t.i]]
def Yh(t:Tx):AV:=mU (.str [.var t.i]) ff (.bool t.cl.m) (fun k=>Bool.rec (.any (t.fl+k)) tr (k.beq 4))
def xR(t:Tx):sT:=fun c x as=>gd (zQ t as) (some (Yh t,c,x))
def xP(w:WL)(t:Tx)(o:Nat×Nat×Nat):WL:=⟨w.T.app [.var o.1],w.n.add (V o.2.2),w.line.add (V o.2.1),.k 0,true,true,t.cl.p⟩
noncomputable def NX:AV:=.int ⟨0,[(8,2)]⟩
def UI(c:Nat→ay)(x:Nat→AV)(w:WL):κ (AV×(Nat→ay)×(Nat→AV)):=some (.none,AE c w,Bo x w)
def v7(β:Bd)(far:Bool)(t:Tx):sT:=fun c x as=>gd (zQ t as&&(Hf β c x (xj c x)&&(uK (xj c x).ws false&&(dG (x 20) (lI 8)&&(dG (x 21) (lI 10)&&(dG (x 22) (.str [.var 5])&&dG (x 7) (Bool.rec (lI 8) NX far))))))) (UI c x (xP (xj c x) t (Bool.rec t.near t.far far)))
def mX{α:Type}(f:α→κ (AV×St))(l:List α):κ (AV×St):=List.rec none (fun t U ih=>Option.rec ih some (f t)) l
def A2{α:Type}{f:α→κ (AV×St)}{p:AV×St}:∀ {l:List α},mX f l=some p→∃ t∈l,f t=some p:=by
 intro L0;induction L0 with
 |nil=>
  intro h;injection h
 |cons t r ih=>
  intro h;replace h:Option.rec (motive:=fun U=>κ (AV×St)) (mX f r) some (f t)=some p:=h;cases q:f t with
  |none=>rw[q] at h;obtain⟨s,h1,h2⟩:=ih h;exact⟨s,.tail _ h1,h2⟩
  |some v=>rw[q] at h;exact⟨t,.head _,q.trans h⟩
def LU(β:Bd)(ts:List Tx):td:=fun σ f vs=>Bool.rec (Bool.rec none (mX (fun far=>mX (fun t=>nF β (v7 β far t) σ vs) ts) [false,true]) (f.beq 718)) (mX (fun t=>nF β (xR t) σ vs) ts) (f.beq 629)
def zK(β:Bd)(ts:List Tx):Sp:=LU β ts
def fZ(Γ:aw)(x y:AV):Prop:=∀ imm ρ v,VR Γ imm ρ v x→VR Γ imm ρ v y
inductive pd (Γ:aw):List (Str×AV)→List (Str×AV)→Prop
 |nil:pd Γ [] []
 |cons {n:Str} {x y:AV} {r s:List (Str×AV)}:fZ Γ x y→pd Γ r s→pd Γ ((n,x)::r) ((n,y)::s)
section
variable {Γ:aw}{imm:Δ}{ρ:List Addr}
def aX.conv(h:pd Γ fs gs):∀ {es:List DictEntry},aX Γ imm ρ es fs→aX Γ imm ρ es gs:=by
 induction h with
 |nil=>exact fun g=>g
 |cons a _ ih=>
  intro es g;apply pW g.inv;intro _ _ v t e0 h1 h2;subst e0;exact .cons (a _ _ _ h1) (ih h2)
def pd.names(h:pd Γ fs gs){P:Str→Prop}:(∀ p∈fs,P p.1)→∀ p∈gs,P p.1:=by
 induction h with
 |nil=>exact fun g=>g
 |@cons n x y r s a _ ih=>
  intro g p hp;rcases bk hp with rfl|hp
  ·exact g (n,x) (.head _)
  ·exact ih (fun q hq=>g q (.tail _ hq)) p hp
def fZ.obj(h:pd Γ fs gs):fZ Γ (.obj C fs) (.obj C gs):=fun imm ρ v g=>by
 apply qR g.inv;intro a d es n e0 h1 h2 h3 h4 h5;subst e0;exact .obj h1 h2 (aX.conv h h3) (h.names (P:=fun p=>findIn Γ.K (.ref C) p=some none) h4) h5
def fZ.rfl:fZ Γ x x:=fun U U U h=>h
def fZ.bo(h:Γ.ε.ov i=.bool b):fZ Γ (.bool b) (.any i):=fun imm ρ v g=>by
 have e:v=.bool b:=g.inv;rw[e];exact .any h
def fZ.k{s:SS}(h:s.val Γ.ε=l):fZ Γ (.str (.k l)) (.str (.k (s.val Γ.ε))):=by rw[h];exact .rfl
end
structure uJ (ε:Ev) (best:Nat) (bw:Int) (nl v:ξ) (t:Tx):Prop where
 sv:ε.sv t.i=v
 ne:v≠[]
 al:∀ c∈v,c∈ce
 st:dP v=true
 len:v.length≤90
 m:t.cl.m=v.any aU
 p:t.cl.p=cY best v
 fl:∀ k,k<4→ε.ov (t.fl+k)=.bool (gF v k)
 near:ε.sv t.near.1=(ie best nl best bw v).1∧ε.iv t.near.2.1=(ie best nl best bw v).2.1∧ε.iv t.near.2.2=(ie best nl best bw v).2.2
 far:ε.sv t.far.1=(ie best nl (2*best) bw v).1∧ε.iv t.far.2.1=(ie best nl (2*best) bw v).2.1∧ε.iv t.far.2.2=(ie best nl (2*best) bw v).2.2
section
variable {w:World}{mg mb:ω}{ε:Ev}{β:Bd}{best:Nat}{bw:Int}{nl:ξ}{t:Tx}{v:ξ}
def Fo(h:ε.sv t.i=v):SS.val ε [.var t.i]=v:=by show ε.sv t.i++[]=v;rw[apN,h]
def Fq(ht:ε.sv t.i=v)(h:zQ t as=true):bX (bx ε) as=[.str (.k v)]:=by
 replace e:as=[.str [.var t.i]]:=kN (f:=dG) (fun x U y e=>gX x y e) h;rw[e];show [AV.str (.k (SS.val ε [.var t.i]))]=_;rw[Fo ht]
def MM(hw:ε.P=w.params)(he:ε.Ok)(ht:uJ ε best bw nl v t)(h:xR t c x as=some (r,c',x')) :
  fnIn (cG w.params) 629=true∧∃ r',fZ (ab w mg mb ε) r' (flA (bx ε) r)∧Rz (ab w mg mb ε) 205 (aT (fun i=>fC (bx ε) (c i)) (fun i=>flA (bx ε) (x i))) 629 (.cell 5::bX (bx ε) as) r' (aT (fun i=>fC (bx ε) (c' i)) (fun i=>flA (bx ε) (x' i))):=by
 apply bV h;clear h;intro h1 h;(apply j3 h;rintro e1 e2 e3);subst e1;subst e2;subst e3;have R:=NP (mg:=mg) (mb:=mb) (z:=fun i=>fC (bx ε) (c' i)) (x:=fun i=>flA (bx ε) (x' i)) hw he ht.al (by have:=ht.len;lia);rw[Fq ht.sv h1];refine⟨R.1,xh v,?_,⟨cg.le (by decide) R.2.h⟩⟩;have e0:SS.val (ab w mg mb ε).ε [.var t.i]=v:=Fo ht.sv;have en:aI v=false:=qO ht.ne;have f:∀ k,k<4→fZ (ab w mg mb ε) (.bool (Bool.rec (gF v k) (k.beq 1 ||(k.beq 2 ||k.beq 3)) (aI v))) (.any (t.fl+k)):=fun k hk=>by rw[en];exact fZ.bo (ht.fl k hk)
 have f4:fZ (ab w mg mb ε) (.bool (Bool.rec (gF v 4) (Nat.beq 4 1 ||(Nat.beq 4 2 ||Nat.beq 4 3)) (aI v))) tr:=by rw[en,VB,ht.st];exact .rfl
 have f5:fZ (ab w mg mb ε) (.bool (aI v)) ff:=by rw[en];exact .rfl
 have f6:fZ (ab w mg mb ε) (.bool (uC v)) (.bool t.cl.m):=by rw[ht.m,Rj];exact .rfl
 exact fZ.obj (.cons (fZ.k e0) (.cons f5 (.cons f6 (.cons (f 0 (by decide)) (.cons (f 1 (by decide)) (.cons (f 2 (by decide)) (.cons (f 3 (by decide)) (.cons f4 .nil))))))))
def OQ:∀ {v:ξ},dP v=true→∀ P,v≠P++[32]:=by
 intro v;induction v with
 |nil=>exact fun _ P q=>by cases P<;>exact nomatch q
 |cons c r ih=>
  intro h P q;replace h:(!(c.beq 32&&(aI r ||o5 r))&&dP r)=true:=h;cases P with
  |nil=>injection q with e1 e2;subst e1;subst e2;exact nomatch h
  |cons a P=>injection q with e1 e2;exact ih (aA h).2 P e2
def Re(hw:ε.P=w.params)(he:ε.Ok)(hb:aV β ε)(h8:ε.iv 8=best)(h5:ε.sv 5=nl)(hbe:best∈cO)(h10:ε.iv 10=bw)(hbw:2*(best:Int)<bw∧bw≤900)(hn:1≤nl.length∧nl.length≤2)(ht:uJ ε best bw nl v t)(h:v7 β far t c x as=some (r,c',x')) :
  fnIn (cG w.params) 718=true∧∃ r',fZ (ab w mg mb ε) r' (flA (bx ε) r)∧Rz (ab w mg mb ε) 205 (aT (fun i=>fC (bx ε) (c i)) (fun i=>flA (bx ε) (x i))) 718 (.cell 5::bX (bx ε) as) r' (aT (fun i=>fC (bx ε) (c' i)) (fun i=>flA (bx ε) (x' i))):=by
 apply bV h;clear h;intro h1 h;generalize hW:xj c x=W at *
 (apply j3 h;rintro rfl rfl rfl);replace h1:=aA h1;have h2:=aA h1.2;have h3:=aA h2.2;have h4:=aA h3.2;have h5':=aA h4.2;have h6:=aA h5'.2;have hws:(W.val ε).ws=false:=vK h3.1;have e20:flA (bx ε) (x 20)=I best:=by rw[gX _ _ h4.1];show AV.int (.k ((V 8).val ε))=_;rw[fO,h8];rfl
 have e21:flA (bx ε) (x 21)=I bw:=by rw[gX _ _ h5'.1];show AV.int (.k ((V 10).val ε))=_;rw[fO,h10];rfl
 have e22:flA (bx ε) (x 22)=.str (.k nl):=by rw[gX _ _ h6.1];show AV.str (.k (ε.sv 5++[]))=_;rw[apN,h5]
 have b2:2≤(best:Int)∧(best:Int)≤9:=by
  unfold cO at hbe;simp only [List.mem_cons,Zp,or_false] at hbe;rcases hbe with rfl|rfl|rfl|rfl<;>decide
 apply bq (Vj he hb h2.1);intro s1 s2;have q1:=s2.l;have q2:=s2.c;have q3:=s2.n;have q4:=s2.t;have hB:bp (W.val ε) 1000:=⟨q1.1,by lia,q2.1,by lia,q3.1,by lia,by lia⟩;rw[Fq ht.sv h1.1,s1,EP];have go:∀ (o:Nat×Nat×Nat) (ind:Int),(2≤ind∧ind≤40)∧ind<bw→flA (bx ε) (x 7)=I ind→(ε.sv o.1=(ie best nl ind bw v).1∧ε.iv o.2.1=(ie best nl ind bw v).2.1∧ε.iv o.2.2=(ie best nl ind bw v).2.2) →
   fnIn (cG w.params) 718=true∧∃ r',fZ (ab w mg mb ε) r' (flA (bx ε) .none)∧Rz (ab w mg mb ε) 205 (aS (fun i=>fC (bx ε) (c i)) (fun i=>flA (bx ε) (x i)) (W.val ε)) 718 [.cell 5,.str (.k v)] r' (aS (fun i=>fC (bx ε) (c i)) (fun i=>flA (bx ε) (x i)) ((xP W t o).val ε)):=fun o ind hi e7 ho=>by
  have R:=Vg (mg:=mg) (mb:=mb) (c:=fun i=>fC (bx ε) (c i)) (x:=fun i=>flA (bx ε) (x i)) (W:=W.val ε) hw he hbe e7 e20 e21 e22 hn hi.1 ⟨hi.2,hbw.2⟩ hws ht.ne ht.al (OQ ht.st) (by have:=ht.len;lia) hB;have e:({(W.val ε).adv (ie best nl ind bw v) with ws:=true,ind:=true,oe:=cY best v}:Wr)=(xP W t o).val ε:=by
   unfold WL.val xP Wr.adv;dsimp only;rw[ir,kS,kS,fO,fO,cF,ho.2.1,ho.2.2,←ho.1,ht.p];show _=Wr.mk _ _ _ (_++(ε.sv o.1++[])) _ _ _;rw[apN]
  rw[e] at R;exact⟨R.1,.none,.rfl,R.2⟩
 cases far with
 |false=>
  refine go t.near best ⟨⟨b2.1,by lia⟩,by lia⟩ ?_ ht.near;rw[gX _ _ h6.2];show AV.int (.k ((V 8).val ε))=_;rw[fO,h8];rfl
 |true=>
  refine go t.far (2*best) ⟨⟨by lia,by lia⟩,hbw.1⟩ ?_ ht.far;rw[gX _ _ h6.2];show AV.int (.k (0+(2*ε.iv 8+0)))=_;rw[h8,Int.zero_add,aZ];rfl
def YY(hw:ε.P=w.params)(he:ε.Ok)(hb:aV β ε)(h8:ε.iv 8=best)(h5:ε.sv 5=nl)(hbe:best∈cO)(hn:1≤nl.length∧nl.length≤2)(h10:ε.iv 10=bw)(hbw:2*(best:Int)<bw∧bw≤900)(ht:∀ t∈ts,∃ v,uJ ε best bw nl v t) :
  py (ab w mg mb ε) 180 (zK β ts) :=
 fun σ f vs p h=>by
  replace h:Bool.rec (motive:=fun _=>κ (AV×St)) (Bool.rec (motive:=fun _=>κ (AV×St)) none (mX (fun far=>mX (fun t=>nF β (v7 β far t) σ vs) ts) [false,true]) (f.beq 718)) (mX (fun t=>nF β (xR t) σ vs) ts) (f.beq 629)=some p:=h;cases q1:Nat.beq f 629 with
  |true=>
   rw[q1] at h;cases bg q1;apply ak (A2 h);intro t m h;apply bC (ht t m);intro v ht;have R:=Bm (Γ:=ab w mg mb ε) (f:=629) (n:=205) he hb (g:=xR t) (fun c x as r c' x' hg=>MM hw he ht hg) h;exact⟨R.1,cg.le (by decide) R.2.h⟩
  |false=>
   rw[q1] at h;cases q2:Nat.beq f 718 with
   |true=>
    rw[q2] at h;cases bg q2;apply ak (A2 h);intro far _ h;apply ak (A2 h);intro t m h;apply bC (ht t m);intro v ht;have R:=Bm (Γ:=ab w mg mb ε) (f:=718) (n:=205) he hb (g:=v7 β far t) (fun c x as r c' x' hg=>Re hw he hb h8 h5 hbe h10 hbw hn ht hg) h;exact⟨R.1,cg.le (by decide) R.2.h⟩
   |false=>rw[q2] at h;injection h
end
noncomputable def βE:Bd:=[(0,80000),(0,40000),(0,80000),(0,0),(0,500),(0,52),(0,0),(0,52),(2,9),(0,0),(0,900),(1,2),(0,900),(0,0),(0,900),(0,0),(0,900),(0,0),(0,900),(0,0),(0,0),(0,8000),(0,900),(0,8000),(0,900),(0,0),(0,0),(0,8000),(0,900),(0,0),(0,900),(0,8000)]
noncomputable def mo(k:fK):Tx:=⟨2,k,10,(10,12,14),(11,16,18)⟩
noncomputable def pp(k:fK):Tx:=⟨3,k,14,(13,22,24),(15,28,30)⟩
noncomputable def meth(f:Addr):AV:=.meth f (.cell 5)
structure Eb where
 st:Addr
 sts:List Addr
 inn:Bool
 br:Bool
def Eb.ids(b:Eb):List AV:=Bool.rec [] [.none] b.inn
def Eb.indent(b:Eb):AV:=Bool.rec .none (I 0) b.inn
def I9(br:Bool)(st indent flow oe line col best bw nl:AV)(y:Nat→AV):Nat→AV:=fun i=>Option.rec (y i) (fun a=>a) ((ae [some (.cell 3),some .none,some (.cell 6),some st,some (.cell 7),some .none,some (.cell 8),some indent,some flow,none,none,none,none,some line,some col,some (.bool br),some (.bool br),some oe,some .none,some .none,some best,some bw,some nl,none,some .none,some .none,some .none,some .none] i).getD none)
def iG(b:Eb)(oe line col best bw nl:AV)(y:Nat→AV):Nat→AV:=I9 b.br (meth b.st) b.indent (I 0) oe line col best bw nl y
def ru(z:Nat→ay)(b:Eb)(q:List AV)(T:SS)(n:ax):Nat→ay:=(tO z 0 [none,none,none,some (.inst 771 [(cQ,.cell 4)]),some (.rows T n),none,some (.list (b.sts.map meth)),some (.list q),some (.list b.ids)])
def eS(b:Eb)(q:List AV)(T:SS)(n:ax)(oe line col:AV)(y:Nat→AV):St:=aT (ru .any b q T n) (iG b oe line col (lI 8) (lI 10) (.str [.var 5]) y)
def ye(i:AV)(st:AV)(im:Bool):AV:=.obj 217 [(jL,.none),(mj,.none),(nP,.tup [.bool im,.bool true]),(d6,i),(dT,.none),(dR,.none),(qi,st)]
def nv:AV:=ye (.str [.lit [107]]) .none true
def JF(C:Addr):AV:=.obj C [(jL,.none),(mj,.none),(nP,.bool true),(dT,.none),(dR,.none),(uY,.bool false)]
def dL:AV:=JF 229
def lP:AV:=JF 253
def jr(C:Addr):AV:=.obj C [(dT,.none),(dR,.none)]
def nO:AV:=.obj 133 [(dT,.none),(dR,.none),(rd,.none)]
def kD:AV:=.obj 165 [(dT,.none),(dR,.none),(qE,.bool true),(wj,.none),(zJ,.none)]
def o8(shut:Bool):AV:=.obj 185 [(dT,.none),(dR,.none),(qE,.bool shut)]
inductive Ec where
 |t2|t3|k|Q|M|SS|D
 |xE (C:Addr)
 |xD (b:Bool)
def c9(v:AV):AV:=ye v (.str [.lit [62]]) false
def Fu(a b:AV)(e:Ec):AV:=match e with
 |.t2=>c9 a|.t3=>c9 b|.k=>nv|.Q=>dL|.M=>lP|.SS=>nO|.D=>kD|.xE C=>jr C|.xD b=>o8 b
def jB:Ec→AV:=Fu (.str [.var 2]) (.str [.var 3])
structure Ej where
 ts:List Tx
 b:Eb
 oe:AV
 q:List Ec
 e:Ec
 b':Eb
 oe':AV
 q':List Ec
 out:SS
noncomputable def gZ:AV:=.any 27
noncomputable def Ui:Nat→AV:=fun i=>.any (30+i)
def Ej.P(j:Ej):St:=eS j.b (j.q.map jB) [.var 0] (V 0) j.oe (lI 2) (Bool.rec (lI 4) (I 0) j.b.br) Ui
def iT(σ:St)(i:Nat):AV:=match ae σ 5 with|some (.inst _ fs)=>(match ae fs i with|some p=>p.2|none=>.none)|_=>.none
def AI(σ:St):ax:=match ae σ 4 with|some (.rows _ n)=>n|_=>.k 0
def Ej.run(j:Ej):κ (AV×St):=(ai βE (zK βE j.ts) 9).cf j.P 330 [.cell 5,jB j.e] []
def Ej.Q(j:Ej)(n:ax)(line col:AV)(y:Nat→AV):St:=eS j.b' (j.q'.map jB) (SS.app [.var 0] j.out) n j.oe' line col y
noncomputable def oo:ξ:=[10,11,12,13,14,15,16,17]
def GT(v:AV)(k:Nat):AV:=match v with|.int l=>.int (l.sub (V k))|v=>v
def s7(v:AV):Bool:=match v with|.bool _=>true|v=>dG v (.any 27)
def Ej.lv(j:Ej):List AV:=ii [.cell 5,jB j.e]
def Ej.ok(j:Ej)(r:AV)(σ:St)(n:ax)(line col:AV)(y:Nat→AV):Bool:=(dG r .none&&og σ (j.Q n line col y))&&((nK oo βE j.lv j.P&&stays oo j.lv j.P (Mine.lv .none) (j.Q n line col y)) &&
 (ig βE (.int (n.sub (V 0))) 0 2000&&(ig βE (GT line 2) 0 2000&&(ig βE col 0 500&&(ig βE (.int j.out.len) 0 17000&&(j.out.all (oG βE)&&(s7 j.oe&&s7 j.oe')))))))
def Ej.chk(j:Ej):Bool:=match j.run with
 |some (r,σ)=>j.ok r σ (AI σ) (iT σ 13) (Bool.rec (iT σ 14) (I 0) j.b'.br) (iT σ)
 |none=>false
noncomputable def b0:Eb:=⟨359,[],false,true⟩
noncomputable def b1:Eb:=⟨373,[],false,true⟩
noncomputable def bR:Eb:=⟨395,[],false,false⟩
noncomputable def bF:Eb:=⟨487,[388],true,false⟩
noncomputable def bI:Eb:=⟨495,[388],true,true⟩
noncomputable def bE:Eb:=⟨388,[],false,true⟩
noncomputable def bD:Eb:=⟨381,[],false,true⟩
noncomputable def gC:Eb:=⟨366,[],false,true⟩
def sZ(br:Bool):SS:=Bool.rec [.var 5] [] br
noncomputable def k3:List fK:=[⟨false,false⟩,⟨true,false⟩,⟨true,true⟩]
noncomputable def fK.oe(k:fK):AV:=.bool k.p
def g9(l:List SS):SS:=List.rec [] (fun a U ih=>a.app ih) l
noncomputable def uI:SS:=[.rep 32 ⟨-1,[(8,1)]⟩]
def je(b:Eb)(q:List Ec)(e:Ec):Ej:=⟨[],b,gZ,q,e,b,gZ,q++[e],[]⟩
def Ch(k:fK):Ej:=⟨[mo k],bI,gZ,[],.t2,bI,k.oe,[],g9 [[.lit [45]],[.var 10]]⟩
def sW(b:Eb)(k:fK):Ej:=⟨[mo k],b,gZ,[.M,.k,.t2],.xE 265,bI,k.oe,[],g9 [sZ b.br,[.lit [45]],uI,[.lit [107,58]],[.var 11]]⟩
def u6(b:Eb)(k:fK):Ej:=⟨[mo k],b,gZ,[.Q,.t2],.xE 241,bI,k.oe,[],g9 [sZ b.br,[.lit [45]],uI,[.lit [45]],[.var 11]]⟩
noncomputable def Bc:SS:=[.lit [46,46,46],.var 5]
def FN:Ej:=⟨[],b0,.bool false,[],.SS,b1,.bool false,[],[]⟩
def Gf:Ej:=⟨[],b1,gZ,[.D],.Q,bR,.bool false,[.Q],[.lit [45,45,45]]⟩
def uD:SS:=g9 [[.var 5],[.lit [45]],[.var 13]]
def Ba(k3 k:fK):Ej:=⟨[pp k3,mo k],bR,gZ,[.Q,.t3],.t2,bI,k.oe,[],g9 [uD,[.lit [45]],[.var 10]]⟩
def x8(k3:fK)(e:Ec):Ej:=⟨[pp k3],bR,gZ,[.Q,.t3],e,bI,k3.oe,[e],uD⟩
def EN(k3:fK):Ej:=⟨[pp k3],bR,gZ,[.Q,.t3],.xE 241,bE,k3.oe,[],uD⟩
def wA(e f:Ec):Ej:=⟨[],bR,gZ,[.Q,e],f,bF,gZ,[e,f],[]⟩
def IR:Ej:=⟨[],bI,gZ,[],.xE 241,bE,gZ,[],[]⟩
def CM(shut:Bool):Ej:=⟨[],bE,gZ,[],.xD shut,bD,Bool.rec gZ (.bool false) shut,[],Bool.rec [] Bc shut⟩
def yK(oe:Bool):Ej:=⟨[],bD,.bool oe,[],.xE 145,gC,.bool false,[],Bool.rec [] Bc oe⟩
def yx(k:fK):Ej:=⟨[mo k],b1,gZ,[.D],.t2,bE,k.oe,[],g9 [[.lit [45,45,45]],[.var 10]]⟩
def JH:List Ej:=[FN,Gf,wA .M .k,wA .Q .t2,IR,CM false,CM true,yK false,yK true,je b1 [] .D,je bR [.Q] .t2,je bR [.Q] .M,je bR [.Q] .Q,je bI [] .M,je bI [.M] .k,je bI [.M,.k] .t2,je bI [] .Q,je bI [.Q] .t2,je bF [.M,.k] .t2]
def u5(k:fK):List Ej:=[Ch k,sW bI k,sW bF k,u6 bI k,u6 bF k,yx k,x8 k .M,x8 k .Q,EN k]++k3.map fun l=>Ba k l
def TR:(JH.all Ej.chk)=true:=by kernel_rfl
def Yk:((u5 ⟨false,false⟩).all Ej.chk)=true:=by kernel_rfl
def OO:((u5 ⟨true,false⟩).all Ej.chk)=true:=by kernel_rfl
def QY:((u5 ⟨true,true⟩).all Ej.chk)=true:=by kernel_rfl
def Ej.cj(j:Ej)(n:ax)(line col:AV)(y:Nat→AV):ml:=⟨βE,zK βE j.ts,9,oo,j.P,330,[.cell 5,jB j.e],.none,j.Q n line col y⟩
structure JV (j:Ej) (n:ax) (line col:AV):Prop where
 n:ig βE (.int (n.sub (V 0))) 0 2000=true
 l:ig βE (GT line 2) 0 2000=true
 c:ig βE col 0 500=true
 o:ig βE (.int j.out.len) 0 17000=true
 k:j.out.all (oG βE)=true
 e:s7 j.oe=true∧s7 j.oe'=true
 z:j.b'.br=true→col=I 0
def xA(j:ml)(o:κ (AV×St)):Prop:=(ai j.β j.sp j.d).cf j.P j.f j.vs []=o
def ml.chk_of{j:ml}{r:AV}{σ:St}(q:xA j (some (r,σ)))(h1:(dG r j.r&&og σ j.Q)=true)(h2:(nK j.fr j.β (ii j.vs) j.P&&stays j.fr (ii j.vs) j.P (Mine.lv j.r) j.Q)=true):j.chk=true:=by
 unfold xA at q;unfold ml.chk;rw[q];exact Zf.mpr ⟨h1,h2⟩
def Ej.runIs(j:Ej)(n:ax)(line col:AV)(y:Nat→AV):xA (j.cj n line col y) (j.run):=by
 unfold xA Ej.cj Ej.run;exact rfl
def Ej.sound{j:Ej}(h:j.chk=true):∃ n line col y,(j.cj n line col y).chk=true∧JV j n line col:=by
 have k:=j.runIs;unfold Ej.chk at h;generalize j.run=o at h k;cases o with
 |none=>injection h
 |some p=>
  obtain⟨r,σ⟩:=p;replace h:j.ok r σ (AI σ) (iT σ 13) (Bool.rec (iT σ 14) (I 0) j.b'.br) (iT σ)=true:=h;have hz:j.b'.br=true→(Bool.rec (iT σ 14) (I 0) j.b'.br:AV)=I 0:=fun e=>by rw[e]
  generalize AI σ=n,(Bool.rec (iT σ 14) (I 0) j.b'.br:AV)=col at h hz;replace h:=aA h;have h2:=aA h.2;have h3:=aA h2.2;have h4:=aA h3.2;have h5:=aA h4.2;have h6:=aA h5.2;have h7:=aA h6.2;have H:(j.cj n (iT σ 13) col (iT σ)).chk=true:=ml.chk_of (k n (iT σ 13) col (iT σ)) h.1 h2.1;exact⟨n,iT σ 13,col,iT σ,H,h3.1,h4.1,h5.1,h6.1,h7.1,aA h7.2,hz⟩
structure Gs where
 best:Nat
 nl:ξ
 bw:Int
structure Es where
 T:ξ
 n:Int
 line:Int
 col:Int
 oe:Bool
 y:Nat→AV
def hJ(g:Gs)(z:Nat→ay)(b:Eb)(q:List AV)(E:Es):St:=aT (ru z b q (.k E.T) (.k E.n)) (iG b (.bool E.oe) (I E.line) (I E.col) (I g.best) (I g.bw) (.str (.k g.nl)) E.y)
def ey(g:Gs)(ind:Int)(v:ξ):List Nat×Int×Int:=ie g.best g.nl ind g.bw v
def εE(P:Params)(g:Gs)(E:Es)(v v3:ξ):Ev:=dr P
 (tn 0 [E.n,E.line,E.col,0,g.best,g.bw,(ey g g.best v).2.1,(ey g g.best v).2.2,(ey g (2*g.best) v).2.1,(ey g (2*g.best) v).2.2,0,(ey g g.best v3).2.1,(ey g g.best v3).2.2,0,(ey g (2*g.best) v3).2.1,(ey g (2*g.best) v3).2.2])
 (tn [] [E.T,[],v,v3,[],g.nl,[],[],[],[],(ey g g.best v).1,(ey g (2*g.best) v).1,[],(ey g g.best v3).1,[],(ey g (2*g.best) v3).1])
def Je(E:Es)(v v3:ξ):Nat→AV:=tO (fun _=>.bool E.oe) 10 [some (.bool (gF v 0)),some (.bool (gF v 1)),some (.bool (gF v 2)),some (.bool (gF v 3)),some (.bool (gF v3 0)),some (.bool (gF v3 1)),some (.bool (gF v3 2)),some (.bool (gF v3 3))]
def hE(E:Es)(v v3:ξ):Nat→AV:=vW E.y (Je E v v3)
def dK(g:Gs)(v:ξ):fK:=⟨v.any aU,cY g.best v⟩
structure fY (v:ξ):Prop where
 ne:v≠[]
 al:∀ c∈v,c∈ce
 st:dP v=true
 len:v.length≤52
structure j5 (g:Gs):Prop where
 b:g.best∈cO
 nl:1≤g.nl.length∧g.nl.length≤2
 w:2*(g.best:Int)<g.bw∧g.bw≤900
structure BL (E:Es):Prop where
 t:E.T.length≤40000
 n:0≤E.n∧E.n≤80000
 l:0≤E.line∧E.line≤80000
 c:0≤E.col∧E.col≤500
section
variable {w:World}{mg mb:ω}{ε0:Ev}{g:Gs}{E:Es}{v v3:ξ}{z:Nat→ay}
def sO(hg:j5 g):2≤(g.best:Int)∧(g.best:Int)≤9:=by
 have h:=hg.b;unfold cO at h;simp only [List.mem_cons,Zp,or_false] at h;rcases h with h|h|h|h<;>rw[h]<;>decide
def lS(hg:j5 g)(hv:fY v)(hi:2≤ind∧ind≤40):((ey g ind v).1.length:Int)≤8000∧(0≤(ey g ind v).2.1∧(ey g ind v).2.1≤900)∧(0≤(ey g ind v).2.2∧(ey g ind v).2.2≤900):=by
 have h:dQ _ (fG g.nl ind g.bw v) _:=X9 (v:=v) (S:=kh) (bw:=g.bw) hg.nl hi;have z0:(kh.s.length:Int)=0:=rfl;have z1:(kh.W.T.length:Int)=0:=rfl;have z2:kh.W.line=0:=rfl;have z3:kh.W.n=0:=rfl;have h1:=h.t;have h2:=h.l;have h3:=h.n;have h6:=hv.len;have h7:=zb g.best v;have h8:=hg.nl.2;rw[z0,z1] at h1;rw[z0,z2] at h2;rw[z0,z3] at h3;refine⟨?_,⟨?_,?_⟩,?_,?_⟩
 ·show ((32::62::(bt g.best v++(g.nl++(fG g.nl ind g.bw v).T))).length:Int)≤_
  rw[bJ,bJ,au,au];push_cast;lia
 ·show 0≤1+(fG g.nl ind g.bw v).line;lia
 ·show 1+(fG g.nl ind g.bw v).line≤900;lia
 ·show 0≤2+(fG g.nl ind g.bw v).n;lia
 ·show 2+(fG g.nl ind g.bw v).n≤900;lia
def JY(hg:j5 g)(hE:BL E)(hv:fY v)(h3:fY v3)(P:Params):aV βE (εE P g E v v3):=nQ (by
 have e0:(0:Int)≤0∧(0:Int)≤0:=⟨cI _,cI _⟩;have b:=sO hg;have A:=lS hg hv (ind:=g.best) ⟨b.1,by lia⟩;have B:=lS hg hv (ind:=2*g.best) ⟨by lia,by lia⟩;have C:=lS hg h3 (ind:=g.best) ⟨b.1,by lia⟩;have G:=lS hg h3 (ind:=2*g.best) ⟨by lia,by lia⟩;have c0:∀ l:ξ,(0:Int)≤l.length:=fun l=>cW _;have n1:=hg.nl;have t:=hE.t;have l1:=hv.len;have l3:=h3.len;have w:=hg.w;exact⟨hE.n,⟨c0 _,by show (E.T.length:Int)≤40000;lia⟩,hE.l,e0,hE.c,⟨c0 _,by show (v.length:Int)≤52;lia⟩,e0,⟨c0 _,by show (v3.length:Int)≤52;lia⟩,b,e0,⟨by show 0≤g.bw;lia,w.2⟩,⟨by show (1:Int)≤(g.nl.length:Int);lia,by show (g.nl.length:Int)≤2;lia⟩,
  A.2.1,e0,A.2.2,e0,B.2.1,e0,B.2.2,e0,e0,⟨c0 _,A.1⟩,C.2.1,⟨c0 _,B.1⟩,C.2.2,e0,e0,⟨c0 _,C.1⟩,G.2.1,e0,G.2.2,⟨c0 _,G.1⟩,trivial⟩)
end
def φE(P:Params)(g:Gs)(E:Es)(v v3:ξ)(z:Nat→ay):eO:=aq (εE P g E v v3) (hE E v v3) z
noncomputable def sn(x:AV)(oe:Bool):Bool:=match x with|.bool b=>b|_=>oe
def dW(v v3:ξ):Ec→AV:=Fu (.str (.k v)) (.str (.k v3))
structure RU (E E':Es) (o:ξ):Prop where
 t:E'.T=E.T++o
 n:E.n≤E'.n∧E'.n≤E.n+2000
 l:E.line≤E'.line∧E'.line≤E.line+2000
 c:0≤E'.col∧E'.col≤500
 o:o.length≤17000
section
variable {w:World}{mg mb:ω}{ε0:Ev}{g:Gs}{E:Es}{v v3:ξ}{z:Nat→ay}{P:Params}
def QW:∀ l:List Addr,bX (φE P g E v v3 z) (l.map meth)=l.map meth:=by
 intro L0;induction L0 with
 |nil=>
  exact rfl
 |cons a r ih=>
  show flA (φE P g E v v3 z) (meth a)::bX (φE P g E v v3 z) (r.map meth)=_;rw[ih];rfl
def IJ:∀ l:List Ec,bX (φE P g E v v3 z) (l.map jB)=l.map (dW v v3):=by
 intro L0;induction L0 with
 |nil=>
  exact rfl
 |cons e r ih=>
  show flA (φE P g E v v3 z) (jB e)::bX (φE P g E v v3 z) (r.map jB)=_;rw[ih];have h2:SS.val (εE P g E v v3) [.var 2]=v:=apN v;have h3:SS.val (εE P g E v v3) [.var 3]=v3:=apN v3;have e:flA (φE P g E v v3 z) (jB e)=dW v v3 e:=by
   cases e with
   |t2=>show ye (.str (.k (SS.val (εE P g E v v3) [.var 2]))) _ _=_;rw[h2];rfl
   |t3=>show ye (.str (.k (SS.val (εE P g E v v3) [.var 3]))) _ _=_;rw[h3];rfl
   |_=>rfl
  rw[e];rfl
def MP(e:Ec):flA (φE P g E v v3 z) (jB e)=dW v v3 e:=(List.cons.inj (IJ [e])).1
def MG(b:Eb):bX (φE P g E v v3 z) b.ids=b.ids:=by
 obtain⟨st,sts,inn,br⟩:=b;cases inn<;>rfl
def HD{q:List Ec}{T:SS}{n:ax}{E':Es}(hT:T.val (εE P g E v v3)=E'.T)(hn:n.val (εE P g E v v3)=E'.n)(ho:flA (φE P g E v v3 z) oe=.bool E'.oe)(hl:flA (φE P g E v v3 z) line=I E'.line)(hc:flA (φE P g E v v3 z) col=I E'.col)(hy:∀ i,flA (φE P g E v v3 z) (y i)=E'.y i) :
  bL (φE P g E v v3 z) (eS b (q.map jB) T n oe line col y)=hJ g z b (q.map (dW v v3)) E':=by
 have e8:flA (φE P g E v v3 z) (lI 8)=I g.best:=by show AV.int (.k ((V 8).val _))=_;rw[fO];rfl
 have e10:flA (φE P g E v v3 z) (lI 10)=I g.bw:=by show AV.int (.k ((V 10).val _))=_;rw[fO];rfl
 have e5:flA (φE P g E v v3 z) (.str [.var 5])=.str (.k g.nl):=by show AV.str (.k (g.nl++[]))=_;rw[apN]
 have e0:flA (φE P g E v v3 z) (I 0)=I 0:=by show AV.int (.k ((ax.k 0).val _))=_;rw[cF];rfl
 have ei:flA (φE P g E v v3 z) b.indent=b.indent:=by
  obtain⟨st,sts,inn,br⟩:=b;cases inn
  ·rfl
  ·exact e0
 have h1:bL (φE P g E v v3 z) (eS b (q.map jB) T n oe line col y)=[z 0,z 1,z 2,.inst 771 [(cQ,.cell 4)],.rows (.k (T.val (εE P g E v v3))) (.k (n.val (εE P g E v v3))),fg (fun i=>flA (φE P g E v v3 z) (iG b oe line col (lI 8) (lI 10) (.str [.var 5]) y i)),.list (bX (φE P g E v v3 z) (b.sts.map meth)),.list (bX (φE P g E v v3 z) (q.map jB)),.list (bX (φE P g E v v3 z) b.ids),z 9]:=rfl;have h2:fg (fun i=>flA (φE P g E v v3 z) (iG b oe line col (lI 8) (lI 10) (.str [.var 5]) y i))=fg (iG b (.bool E'.oe) (I E'.line) (I E'.col) (I g.best) (I g.bw) (.str (.k g.nl)) E'.y):=by
  show fg (I9 b.br (meth b.st) (flA (φE P g E v v3 z) b.indent) (flA (φE P g E v v3 z) (I 0)) (flA (φE P g E v v3 z) oe) (flA (φE P g E v v3 z) line) (flA (φE P g E v v3 z) col) (flA (φE P g E v v3 z) (lI 8)) (flA (φE P g E v v3 z) (lI 10)) (flA (φE P g E v v3 z) (.str [.var 5])) (fun i=>flA (φE P g E v v3 z) (y i)))=_;rw[ei,e0,ho,hl,hc,e8,e10,e5,funext hy];rfl
 rw[h1,h2,hT,hn,QW,IJ,MG];rfl
def oh(fk:ic oo (hE E v v3) ov):∀ i,i∈oo→∀ b,hE E v v3 i=.bool b→ov i=.bool b:=fun i hi b e=>by
 apply ak (fk i hi);intro b' e1 e2;rw[e] at e1;injection e1 with e1;rw[e1];exact e2
def YF(hv:fY v)(fk:ic oo (hE E v v3) ov):uJ ((εE P g E v v3).wO ov cv) g.best g.bw g.nl v (mo (dK g v)) where
 sv:=rfl
 ne:=hv.ne
 al:=hv.al
 st:=hv.st
 len:=by have:=hv.len;lia
 m:=rfl
 p:=rfl
 fl:=fun k hk=>by
  match k,hk with
  |0,_=>exact oh fk 10 (by decide) _ rfl
  |1,_=>exact oh fk 11 (by decide) _ rfl
  |2,_=>exact oh fk 12 (by decide) _ rfl
  |3,_=>exact oh fk 13 (by decide) _ rfl
 near:=⟨rfl,by kernel_rfl,by kernel_rfl⟩
 far:=⟨rfl,by kernel_rfl,by kernel_rfl⟩
def JX(h3:fY v3)(fk:ic oo (hE E v v3) ov):uJ ((εE P g E v v3).wO ov cv) g.best g.bw g.nl v3 (pp (dK g v3)) where
 sv:=rfl
 ne:=h3.ne
 al:=h3.al
 st:=h3.st
 len:=by have:=h3.len;lia
 m:=rfl
 p:=rfl
 fl:=fun k hk=>by
  match k,hk with
  |0,_=>exact oh fk 14 (by decide) _ rfl
  |1,_=>exact oh fk 15 (by decide) _ rfl
  |2,_=>exact oh fk 16 (by decide) _ rfl
  |3,_=>exact oh fk 17 (by decide) _ rfl
 near:=⟨rfl,by kernel_rfl,by kernel_rfl⟩
 far:=⟨rfl,by kernel_rfl,by kernel_rfl⟩
def ud(g:Gs)(v v3:ξ)(ts:List Tx):Prop:=∀ t∈ts,t=mo (dK g v)∨t=pp (dK g v3)
def P5(hw:ε0.P=w.params)(hg:j5 g)(hE':BL E)(hv:fY v)(h3:fY v3)(j:Ej)(hj:j.chk=true)(hts:ud g v v3 j.ts)(hoe:sn j.oe E.oe=E.oe)(hbr:j.b.br=true→E.col=0) :
  ∃ E',fnIn (cG w.params) 330=true∧Rz (ab w mg mb ε0) 295 (hJ g z j.b (j.q.map (dW v v3)) E) 330 [.cell 5,dW v v3 j.e] .none (hJ g z j.b' (j.q'.map (dW v v3)) E')∧RU E E' (j.out.val (εE ε0.P g E v v3))∧E'.oe=sn j.oe' E.oe∧(j.b'.br=true→E'.col=0):=by
 obtain⟨n,line,col,y,hc,B⟩:=Ej.sound hj;have hb:=JY hg hE' hv h3 ε0.P;have he:(εE ε0.P g E v v3).Ok:=cR _ _ _;have R:=MD (mg:=mg) (mb:=mb) (b:=180) (v:=hE E v v3) (z:=z) hw (ε:=εE ε0.P g E v v3) rfl he (j.cj n line col y) hb (fun ov cv fk=>YY (ε:=(εE ε0.P g E v v3).wO ov cv) hw (fun i=>he i) (fun i p h=>hb i p h) rfl rfl hg.b hg.nl rfl hg.w (fun t ht=>(hts t ht).elim (fun e=>⟨v,e▸YF hv fk⟩) (fun e=>⟨v3,e▸JX h3 fk⟩))) rfl hc;have oeF:∀ {x:AV},s7 x=true→flA (φE ε0.P g E v v3 z) x=.bool (sn x E.oe):=fun {x} h=>by
  induction x using AV.casesOn with
  |bool b=>rfl
  |any i=>
   have:AV.any i=.any 27:=gX _ _ h;rw[this];rfl
  |_=>injection h
 have iF:∀ {l:ax} {i:Int},l.val (εE ε0.P g E v v3)=i→flA (φE ε0.P g E v v3 z) (.int l)=I i:=fun {l i} h=>by show AV.int (.k (l.val _))=_;rw[h];rfl
 have k0:∀ i,(V i).val (εE ε0.P g E v v3)=(εE ε0.P g E v v3).iv i:=fun i=>fO _ i;have n1:=pk hb B.n;rw[nq,k0] at n1;replace n1:0≤n.val (εE ε0.P g E v v3)-E.n∧n.val (εE ε0.P g E v v3)-E.n≤2000:=n1;have l0:∃ l,line=.int l∧(0≤l.val (εE ε0.P g E v v3)-E.line∧l.val (εE ε0.P g E v v3)-E.line≤2000):=by
  have h:=B.l;induction line using AV.casesOn with
  |int l=>
   replace h:=pk hb (show ig βE (.int (l.sub (V 2))) 0 2000=true from h);rw[nq,k0] at h;exact⟨l,rfl,h⟩
  |_=>injection h
 apply ak l0;intro l e0 l1;subst e0;apply ed (GR hb B.c);intro cl e0 c1 c2;subst e0;have o1:=(pk hb B.o).2;rw[jT he (wB hb B.k)] at o1;refine⟨⟨E.T++j.out.val (εE ε0.P g E v v3),n.val (εE ε0.P g E v v3),l.val (εE ε0.P g E v v3),cl.val (εE ε0.P g E v v3),sn j.oe' E.oe,fun i=>flA (φE ε0.P g E v v3 z) (y i)⟩,R.1,R.2.cast ?_ ?_ rfl ?_,⟨rfl,⟨by show E.n≤n.val _;lia,by show n.val _≤E.n+2000;lia⟩,⟨?_,?_⟩,⟨c1,c2⟩,by lia⟩,rfl,?_⟩
 ·refine HD (apN _) (k0 0) ((oeF B.e.1).trans (congrArg AV.bool hoe)) (iF (k0 2)) ?_ (fun i=>?_)
  ·cases q:j.b.br with
   |true=>rw[hbr q];exact iF (cF 0)
   |false=>exact iF (k0 4)
  ·exact BR E.y (Je E v v3) i
 ·exact congrArg (fun x=>[AV.cell 5,x]) (MP j.e)
 ·exact HD ((ir _ _).trans (congrArg (·++j.out.val (εE ε0.P g E v v3)) (apN _))) rfl (oeF B.e.2) (iF rfl) (iF rfl) (fun U=>rfl)
 ·have:=l1.1;have e:(εE ε0.P g E v v3).iv 2=E.line:=rfl;show E.line≤l.val _;lia
 ·have:=l1.2;have e:(εE ε0.P g E v v3).iv 2=E.line:=rfl;show l.val _≤E.line+2000;lia
 ·intro e
  have:=B.z e;injection this with this;show cl.val _=0;rw[this];exact cF 0
end
def Dv(C:ay)(σ:St):Prop:=ae σ 1=some C∧∃ x,ae σ 5=some (fg x)
noncomputable def k9(Γ:aw)(n:Nat)(C:ay):List AV→St→St→Prop
 |[],σ,σ'=>σ=σ'
 |e::r,σ,σ'=>∃ σ1,(Rz Γ n σ 330 [.cell 5,e] .none σ1∧Dv C σ)∧k9 Γ n C r σ1 σ'
def k9.app:∀ {a b:List AV} {σ σ1 σ2:St},k9 Γ n C a σ σ1→k9 Γ n C b σ1 σ2→k9 Γ n C (a++b) σ σ2:=by
 intro L0;induction L0 with
 |nil=>
  intro _ _ _ _ h g;rw[show _=_ from h];exact g
 |cons _ _ ih=>
  intro _ _ _ _ h g;obtain⟨s,h1,h2⟩:=h;exact⟨s,h1,ih h2 g⟩
def VG(h:gA (dE v)=true):v.any aU=true:=by
 unfold dE at h;cases q:v.reverse with
 |nil=>rw[q] at h;injection h
 |cons e r=>
  rw[q] at h;cases hb:aU e with
  |false=>dsimp only at h;rw[hb] at h;injection h
  |true=>
   have hm:e∈v:=List.mem_reverse.mp (by rw[q];exact .head _);exact List.any_eq_true.mpr ⟨e,hm,hb⟩
def UN(hg:j5 g)(h:cY g.best v=true):v.any aU=true:=by
 unfold cY at h;cases v with
 |nil=>injection h
 |cons c r=>
  replace h:gA (du g.best c++dE (c::r))=true:=h;apply VG;cases q:dE (c::r) with
  |nil=>
   rw[q,apN] at h;unfold du at h;generalize aK c [32,10,133,8232,8233]=m at h;have hb:=hg.b;unfold cO at hb;simp only [List.mem_cons,Zp,or_false] at hb;cases m with
   |false=>exact h
   |true=>rcases hb with e|e|e|e<;>(rw[e] at h;exact absurd h (by decide))
  |cons a t=>
   rw[q] at h;unfold gA at h ⊢;rw[Zn] at h;have hne:(a::t).reverse≠[]:=by simp
   cases q2:(a::t).reverse with
   |nil=>exact absurd q2 hne
   |cons d s=>rw[q2] at h;exact h
def Cn(hg:j5 g)(v:ξ):dK g v∈k3:=by
 unfold dK;cases q:cY g.best v with
 |true=>rw[UN hg q];exact .tail _ (.tail _ (.head _))
 |false=>cases v.any aU;exact .head _;exact .tail _ (.head _)
def lj(g:Gs)(ind:Int)(v:ξ):ξ:=(ey g ind v).1
def oy(g:Gs)(br:Bool):ξ:=Bool.rec g.nl [] br
noncomputable def jk(n:Int):ξ:=List.replicate n.toNat 32
def Ag(g:Gs)(p:Nat):ξ:=tn (jk (g.best-1)++[45]) [[],jk (g.best-1)++[107,58]] p
def yB(g:Gs)(p:Nat):Int:=tn (2*(g.best:Int)) [(g.best:Int)] p
def cK(g:Gs)(p:Nat)(v:ξ):ξ:=45::(Ag g p++lj g (yB g p) v)
def YW(p:Nat):List Ec:=tn [.Q,.t2] [[],[.M,.k,.t2]] p
def RE(p:Nat):Ec:=tn (.xE 241) [.t2,.xE 265] p
section
variable {ε:Ev}{g:Gs}{v v3:ξ}{E:Es}{P:Params}
def fL(a:SS)(r:List SS):(g9 (a::r)).val ε=a.val ε++(g9 r).val ε:=ir a (g9 r)
def FV(br:Bool):(sZ br).val (εE P g E v v3)=oy g br:=by
 cases br
 ·exact apN _
 ·rfl
def GP:uI.val (εE P g E v v3)=jk (g.best-1):=by
 show List.replicate ((-1:Int)+(1*(g.best:Int)+0)).toNat 32++[]=_;rw[apN,show (-1:Int)+(1*(g.best:Int)+0)=g.best-1 by lia];rfl
def qw:(g9 []).val ε=[]:=rfl
def oV(l:ξ):SS.val ε [.lit l]=l:=apN l
def yM:SS.val (εE P g E v v3) [.var 10]=lj g g.best v:=apN _
def HP:SS.val (εE P g E v v3) [.var 11]=lj g (2*g.best) v:=apN _
def Ob:SS.val (εE P g E v v3) [.var 13]=lj g g.best v3:=apN _
def Mh(k:fK):(Ch k).out.val (εE P g E v v3)=cK g 0 v:=by
 show (g9 [[.lit [45]],[.var 10]]).val _=_;rw[fL,fL,qw,oV,yM,apN];rfl
def OE(b:Eb)(k:fK):(sW b k).out.val (εE P g E v v3)=oy g b.br++cK g 1 v:=by
 show (g9 [sZ b.br,[.lit [45]],uI,[.lit [107,58]],[.var 11]]).val _=oy g b.br++(45::((jk (g.best-1)++[107,58])++lj g (2*g.best) v));rw[fL,fL,fL,fL,fL,qw,FV,oV,oV,GP,HP,apN,aC];rfl
def KZ(b:Eb)(k:fK):(u6 b k).out.val (εE P g E v v3)=oy g b.br++cK g 2 v:=by
 show (g9 [sZ b.br,[.lit [45]],uI,[.lit [45]],[.var 11]]).val _=oy g b.br++(45::((jk (g.best-1)++[45])++lj g (2*g.best) v));rw[fL,fL,fL,fL,fL,qw,FV,oV,GP,HP,apN,aC];rfl
def y9:uD.val (εE P g E v v3)=g.nl++cK g 0 v3:=by
 show (g9 [[.var 5],[.lit [45]],[.var 13]]).val _=_;rw[fL,fL,fL,qw,oV,Ob,apN];show (g.nl++[])++_=_;rw[apN];rfl
def To(k l:fK):(Ba k l).out.val (εE P g E v v3)=g.nl++(cK g 0 v3++cK g 0 v):=by
 show (g9 [uD,[.lit [45]],[.var 10]]).val _=_;rw[fL,fL,fL,qw,y9,oV,yM,apN,aC];rfl
def gR(g:Gs)(b:Bool):ξ:=Bool.rec [] ([46,46,46]++g.nl) b
def Hs(b:Bool):SS.val (εE P g E v v3) (Bool.rec [] Bc b)=gR g b:=by
 cases b
 ·rfl
 ·show [46,46,46]++(g.nl++[])=_;rw[apN];rfl
def Qr(k:fK):(yx k).out.val (εE P g E v v3)=[45,45,45]++lj g g.best v:=by
 show (g9 [[.lit [45,45,45]],[.var 10]]).val _=_;rw[fL,fL,qw,oV,yM,apN]
end
structure jZ (E E':Es) (k:Int) (o:ξ) (oe br:Bool):Prop where
 t:E'.T=E.T++o
 n:E.n≤E'.n∧E'.n≤E.n+2000*k
 l:E.line≤E'.line∧E'.line≤E.line+2000*k
 c:0≤E'.col∧E'.col≤500
 e:E'.oe=oe
 z:br=true→E'.col=0
structure cH (E:Es) (k:Int) (br:Bool):Prop where
 t:E.T.length≤40000
 n:0≤E.n∧E.n+2000*k≤80000
 l:0≤E.line∧E.line+2000*k≤80000
 c:0≤E.col∧E.col≤500
 z:br=true→E.col=0
def cH.ok(h:cH E k br)(hk:0≤k):BL E:=⟨h.t,⟨h.n.1,by have:=h.n.2;lia⟩,⟨h.l.1,by have:=h.l.2;lia⟩,h.c⟩
def cH.mono{E:Es}{k k':Int}{br:Bool}(h:cH E k br)(hk:k'≤k):cH E k' br:=⟨h.t,⟨h.n.1,by have:=h.n.2;lia⟩,⟨h.l.1,by have:=h.l.2;lia⟩,h.c,h.z⟩
def jZ.room{E E':Es}(h:jZ E E' k o oe br)(r:cH E (k+j) br0)(ht:E'.T.length≤40000):cH E' j br :=
 ⟨ht,⟨by have:=h.n.1;have:=r.n.1;lia,by have:=h.n.2;have:=r.n.2;lia⟩,⟨by have:=h.l.1;have:=r.l.1;lia,by have:=h.l.2;have:=r.l.2;lia⟩,h.c,h.z⟩
def jZ.trans{E E1 E2:Es}{k j:Int}{o o2:ξ}{oe oe2 br br2:Bool}(h:jZ E E1 k o oe br)(h2:jZ E1 E2 j o2 oe2 br2):jZ E E2 (k+j) (o++o2) oe2 br2 :=
 ⟨by rw[h2.t,h.t,aC],⟨by have:=h.n.1;have:=h2.n.1;lia,by have:=h.n.2;have:=h2.n.2;lia⟩,⟨by have:=h.l.1;have:=h2.l.1;lia,by have:=h.l.2;have:=h2.l.2;lia⟩,h2.c,h2.e,h2.z⟩
section
variable {w:World}{mg mb:ω}{ε0:Ev}{g:Gs}{v v3:ξ}{z:Nat→ay}
def Rw(Γ:aw)(g:Gs)(z:Nat→ay)(es:List AV)(b:Eb)(q:List AV)(E:Es)(b':Eb)(q':List AV)(k:Int)(o:ξ)(oe:Bool):Prop :=
 ∃ E',k9 Γ 295 (z 1) es (hJ g z b q E) (hJ g z b' q' E')∧jZ E E' k o oe b'.br
def Rw.trans{b b1 b2:Eb}(h:Rw Γ g z es b q E b1 q1 k o oe)(h2:∀ E1,jZ E E1 k o oe b1.br→Rw Γ g z es2 b1 q1 E1 b2 q2 j o2 oe2):Rw Γ g z (es++es2) b q E b2 q2 (k+j) (o++o2) oe2:=by
 apply ak h;intro E1 m1 g1;apply ak (h2 E1 g1);intro E2 m2 g2;exact⟨E2,m1.app m2,g1.trans g2⟩
variable (hw:ε0.P=w.params)(hg:j5 g)(hv:fY v)(h3:fY v3)
include hw hg hv h3
theorem gY{E:Es}{k:Int}(j:Ej)(hj:j.chk=true)(hts:ud g v v3 j.ts)(hoe:sn j.oe E.oe=E.oe)(hr:cH E k j.b.br)(hk:0≤k) :
  Rw (ab w mg mb ε0) g z [dW v v3 j.e] j.b (j.q.map (dW v v3)) E j.b' (j.q'.map (dW v v3)) 1 (j.out.val (εE ε0.P g E v v3)) (sn j.oe' E.oe):=by
 apply CF (P5 hw hg (hr.ok hk) hv h3 j hj hts hoe hr.z);intro E' _ R N e c;exact⟨E',⟨_,⟨R,rfl,_,rfl⟩,rfl⟩,N.t,⟨N.n.1,by have:=N.n.2;lia⟩,⟨N.l.1,by have:=N.l.2;lia⟩,N.c,e,c⟩
noncomputable def HN(b:Eb):List Ec→List Ec→Prop
 |_,[]=>True
 |q,e::r=>(je b q e).chk=true∧HN b (q++[e]) r
theorem nU{b:Eb}:∀ (r q:List Ec) {E:Es} {k:Int},HN b q r→cH E (r.length+k) b.br→0≤k →
  Rw (ab w mg mb ε0) g z (r.map (dW v v3)) b (q.map (dW v v3)) E b ((q++r).map (dW v v3)) r.length [] E.oe:=by
 intro L0;induction L0 with
 |nil=>
  intro q E k _ hr _;rw[apN];exact⟨E,rfl,(apN _).symm,⟨cI _,by show E.n≤E.n+2000*((0:Nat):Int);lia⟩,⟨cI _,by show E.line≤E.line+2000*((0:Nat):Int);lia⟩,hr.c,rfl,hr.z⟩
 |cons e r ih=>
  intro q E k h hr hk;rw[bJ] at hr ⊢;push_cast at hr ⊢;have R:=gY (mg:=mg) (mb:=mb) (z:=z) hw hg hv h3 (E:=E) (k:=r.length+1+k) (je b q e) h.1 (fun t ht=>nomatch ht) rfl hr (by lia);have F:=R.trans (es2:=r.map (dW v v3)) (b2:=b) (q2:=((q++[e])++r).map (dW v v3)) (j:=r.length) (o2:=[]) (oe2:=E.oe) fun E1 G=>by
   have t:E1.T=E.T:=G.t.trans (apN _);have:=ih (q++[e]) h.2 (G.room (j:=r.length+k) (hr.mono (by lia)) (by rw[t];exact hr.t)) hk;rw[show E1.oe=E.oe from G.e] at this;exact this
  rw[aC] at F;rw[show (r.length:Int)+1=1+r.length by lia];exact F
end
inductive iu where
 |R0
 |RP (v:ξ)
 |IT
def iu.b(s:iu):Eb:=iu.rec bR (fun _=>bR) bI s
def iu.q(s:iu):List AV:=iu.rec [dL] (fun v=>[dL,c9 (.str (.k v))]) [] s
def iu.owed(g:Gs)(s:iu):ξ:=iu.rec g.nl (fun v=>g.nl++cK g 0 v) [] s
def kx(p:Nat)(v:ξ):List AV:=(YW p++[RE p]).map (dW v v)
section
variable {w:World}{mg mb:ω}{ε0:Ev}{g:Gs}{v v3:ξ}{z:Nat→ay}
def zg(hg:j5 g)(hv:fY v)(p:Nat):(cK g p v).length≤8012:=by
 have b:=sO hg;have h1:=(lS hg hv (ind:=g.best) ⟨b.1,by lia⟩).1;have h2:=(lS hg hv (ind:=2*g.best) ⟨by lia,by lia⟩).1;have e1:(jk (g.best-1)).length≤8:=by unfold jk;rw[Za];lia
 match p with
 |0=>show (45::([]++(ey g g.best v).1)).length≤8012;rw[bJ,au];show 0+_+1≤_;lia
 |1=>show (45::((jk (g.best-1)++[107,58])++(ey g (2*g.best) v).1)).length≤8012;rw[bJ,au,au];show _+2+_+1≤_;lia
 |p+2=>show (45::((jk (g.best-1)++[45])++(ey g (2*g.best) v).1)).length≤8012;rw[bJ,au,au];show _+1+_+1≤_;lia
def wR:ud g v v3 [mo (dK g v)]:=fun U ht=>.inl (bU ht)
def Ez:ud g v v3 [pp (dK g v3)]:=fun U ht=>.inr (bU ht)
def MO:ud g v v3 [pp (dK g v3),mo (dK g v)]:=fun t ht=>by
 rcases bk ht with e|ht
 ·exact .inr e
 ·exact .inl (bU ht)
def JT(hk:k∈k3)(hj:j∈u5 k):j.chk=true:=by
 rcases bk hk with rfl|hk
 ·exact aB Yk j hj
 ·rcases bk hk with rfl|hk
  ·exact aB OO j hj
  ·cases bU hk;exact aB QY j hj
def DM{α:Type}{a:α}:∀ {l:List α} {n:Nat},ae l n=some a→a∈l:=by
 intro l;induction l with
 |nil=>exact fun {n} h=>nomatch h
 |cons b r ih=>
  intro n h;cases n with
  |zero=>cases h;exact .head _
  |succ n=>exact .tail _ (ih h)
def eZ(n:Nat)(h:ae JH n=some j):j.chk=true:=aB TR j (DM h)
def km(hg:j5 g)(n:Nat)(h:ae (u5 (dK g v)) n=some j):j.chk=true:=JT (Cn hg v) (DM h)
def Rw.up(hk:k≤k')(h:Rw Γ g z es b q E b' q' k o oe):Rw Γ g z es b q E b' q' k' o oe:=by
 apply ak h;intro E' m G;exact⟨E',m,G.t,⟨G.n.1,by have:=G.n.2;lia⟩,⟨G.l.1,by have:=G.l.2;lia⟩,G.c,G.e,G.z⟩
def jZ.keep(h:jZ E E' k [] oe br)(r:cH E (k+j) br0):cH E' j br:=h.room r (by rw[h.t,apN];exact r.t)
variable (hw:ε0.P=w.params)(hg:j5 g)(hv:fY v)(h3:fY v3)
include hw hg hv
theorem yy(hj:(sW b (dK g v)).chk=true)(hr:cH E 1 b.br):Rw (ab w mg mb ε0) g z [dW v v (.xE 265)] b [lP,nv,c9 (.str (.k v))] E bI [] 1 (oy g b.br++cK g 1 v) (cY g.best v):=by
 rw[←OE (P:=ε0.P) (g:=g) (E:=E) (v:=v) (v3:=v) b (dK g v)];exact gY hw hg hv hv (sW b (dK g v)) hj wR rfl hr (by decide)
theorem yR(hj:(u6 b (dK g v)).chk=true)(hr:cH E 1 b.br):Rw (ab w mg mb ε0) g z [dW v v (.xE 241)] b [dL,c9 (.str (.k v))] E bI [] 1 (oy g b.br++cK g 2 v) (cY g.best v):=by
 rw[←KZ (P:=ε0.P) (g:=g) (E:=E) (v:=v) (v3:=v) b (dK g v)];exact gY hw hg hv hv (u6 b (dK g v)) hj wR rfl hr (by decide)
theorem Sh(p:Nat)(hr:cH E 4 true):Rw (ab w mg mb ε0) g z (kx p v) bI [] E bI [] 4 (cK g p v) (cY g.best v):=by
 match p with
 |0=>
  rw[←Mh (P:=ε0.P) (g:=g) (E:=E) (v:=v) (v3:=v) (dK g v)];exact(gY hw hg hv hv (Ch (dK g v)) (km hg 0 rfl) wR rfl hr (by decide)).up (by decide)
 |1=>
  exact(nU (mg:=mg) (mb:=mb) (z:=z) (k:=1) hw hg hv hv (b:=bI) [.M,.k,.t2] [] (E:=E) ⟨eZ 13 rfl,eZ 14 rfl,eZ 15 rfl,trivial⟩ hr (by decide)).trans (j:=1) (o2:=cK g 1 v) fun E1 G=>
   yy hw hg hv (km hg 1 rfl) (G.keep (j:=1) hr)
 |p+2=>
  exact((nU (mg:=mg) (mb:=mb) (z:=z) (k:=2) hw hg hv hv (b:=bI) [.Q,.t2] [] (E:=E) ⟨eZ 16 rfl,eZ 17 rfl,trivial⟩ hr (by decide)).trans (j:=1) (o2:=cK g 2 v) fun E1 G=>
   yR hw hg hv (km hg 3 rfl) ((G.keep (j:=2) hr).mono (by decide))).up (by decide)
theorem VE(hr:cH E 4 false):Rw (ab w mg mb ε0) g z (kx 0 v) bR [dL] E bR [dL,c9 (.str (.k v))] 4 [] E.oe :=
 (nU (k:=3) hw hg hv hv (b:=bR) [.t2] [.Q] ⟨eZ 10 rfl,trivial⟩ hr (by decide)).up (by decide)
theorem Vx(hp:p≠0)(hr:cH E 4 false):Rw (ab w mg mb ε0) g z (kx p v) bR [dL] E bI [] 4 (g.nl++cK g p v) (cY g.best v):=by
 match p,hp with
 |1,_=>
  have R1:Rw (ab w mg mb ε0) g z [lP] bR [dL] E bR [dL,lP] 1 [] E.oe:=nU (k:=3) hw hg hv hv (b:=bR) [.M] [.Q] (E:=E) ⟨eZ 11 rfl,trivial⟩ hr (by decide);refine R1.trans (es2:=[nv,c9 (.str (.k v)),dW v v (.xE 265)]) (j:=3) (o2:=g.nl++cK g 1 v) fun E1 G1=>?_;have r1:cH E1 3 false:=G1.keep hr;have R2:Rw (ab w mg mb ε0) g z [nv] bR [dL,lP] E1 bF [lP,nv] 1 [] E1.oe:=gY (k:=3) hw hg hv hv (wA .M .k) (eZ 2 rfl) (fun t ht=>nomatch ht) rfl r1 (by decide);refine R2.trans (es2:=[c9 (.str (.k v)),dW v v (.xE 265)]) (j:=2) (o2:=g.nl++cK g 1 v) fun E2 G2=>?_;have r2:cH E2 2 false:=G2.keep r1;have R3:Rw (ab w mg mb ε0) g z [c9 (.str (.k v))] bF [lP,nv] E2 bF [lP,nv,c9 (.str (.k v))] 1 [] E2.oe:=nU (k:=1) hw hg hv hv (b:=bF) [.t2] [.M,.k] ⟨eZ 18 rfl,trivial⟩ r2 (by decide);exact R3.trans (es2:=[dW v v (.xE 265)]) (j:=1) (o2:=g.nl++cK g 1 v) fun E3 G3=>yy hw hg hv (b:=bF) (km hg 2 rfl) (G3.keep r2)
 |p+2,_=>
  have R1:Rw (ab w mg mb ε0) g z [dL] bR [dL] E bR [dL,dL] 1 [] E.oe:=nU (k:=3) hw hg hv hv (b:=bR) [.Q] [.Q] (E:=E) ⟨eZ 12 rfl,trivial⟩ hr (by decide);refine(R1.trans (es2:=[c9 (.str (.k v)),dW v v (.xE 241)]) (j:=2) (o2:=g.nl++cK g 2 v) fun E1 G1=>?_).up (by decide);have r1:cH E1 3 false:=G1.keep hr;have R2:Rw (ab w mg mb ε0) g z [c9 (.str (.k v))] bR [dL,dL] E1 bF [dL,c9 (.str (.k v))] 1 [] E1.oe:=gY (k:=3) hw hg hv hv (wA .Q .t2) (eZ 3 rfl) (fun t ht=>nomatch ht) rfl r1 (by decide);exact R2.trans (es2:=[dW v v (.xE 241)]) (j:=1) (o2:=g.nl++cK g 2 v) fun E2 G2=>yR hw hg hv (b:=bF) (km hg 4 rfl) ((G2.keep (j:=2) r1).mono (by decide))
include h3
theorem LQ(hr:cH E 4 false):Rw (ab w mg mb ε0) g z (kx 0 v) bR [dL,c9 (.str (.k v3))] E bI [] 4 ((g.nl++cK g 0 v3)++cK g 0 v) (cY g.best v):=by
 rw[aC,←To (P:=ε0.P) (E:=E) (dK g v3) (dK g v)];exact(gY (k:=4) hw hg hv h3 (Ba (dK g v3) (dK g v)) (JT (Cn hg v3) (dU _ (ZN.mpr ⟨_,Cn hg v,rfl⟩))) MO rfl hr (by decide)).up (by decide)
theorem HG(hr:cH E 4 false)(ht:E.T.length≤20000)(hj:(x8 (dK g v3) e).chk=true)(ha:dW v v3 e=a):∃ E1,k9 (ab w mg mb ε0) 295 (z 1) [a] (hJ g z bR [dL,c9 (.str (.k v3))] E) (hJ g z bI [a] E1)∧jZ E E1 1 (g.nl++cK g 0 v3) (cY g.best v3) true∧cH E1 3 true:=by
 have R:Rw (ab w mg mb ε0) g z [dW v v3 e] bR [dL,c9 (.str (.k v3))] E bI [dW v v3 e] 1 (g.nl++cK g 0 v3) (cY g.best v3):=by
  rw[←y9 (P:=ε0.P) (E:=E) (v:=v)];exact gY (k:=4) hw hg hv h3 (x8 (dK g v3) e) hj Ez rfl hr (by decide)
 rw[ha] at R;apply ak R;intro E1 m G;refine⟨E1,m,G,G.room (j:=3) hr ?_⟩;have:=zg hg h3 0;have:=hg.nl.2;rw[G.t,au,au];lia
theorem ON(hp:p≠0)(hr:cH E 4 false)(ht:E.T.length≤20000):Rw (ab w mg mb ε0) g z (kx p v) bR [dL,c9 (.str (.k v3))] E bI [] 4 ((g.nl++cK g 0 v3)++cK g p v) (cY g.best v):=by
 match p,hp with
 |1,_=>
  apply ed (HG (mg:=mg) (mb:=mb) (z:=z) hw hg hv h3 (e:=.M) hr ht (km hg 6 rfl) rfl);intro E1 m G r1;have R2:=(nU (mg:=mg) (mb:=mb) (z:=z) (k:=1) hw hg hv hv (b:=bI) [.k,.t2] [.M] (E:=E1) ⟨eZ 14 rfl,eZ 15 rfl,trivial⟩ r1 (by decide)).trans (j:=1) (o2:=cK g 1 v) fun E2 G2=>
   yy hw hg hv (b:=bI) (km hg 1 rfl) (G2.keep (j:=1) r1)
  apply ak R2;intro E2 m2 G2;exact⟨E2,m.app m2,G.trans G2⟩
 |p+2,_=>
  apply ed (HG (mg:=mg) (mb:=mb) (z:=z) hw hg hv h3 (e:=.Q) hr ht (km hg 7 rfl) rfl);intro E1 m G r1;have R2:=(nU (mg:=mg) (mb:=mb) (z:=z) (k:=2) hw hg hv hv (b:=bI) [.t2] [.Q] (E:=E1) ⟨eZ 17 rfl,trivial⟩ r1 (by decide)).trans (j:=1) (o2:=cK g 2 v) fun E2 G2=>
   yR hw hg hv (b:=bI) (km hg 3 rfl) ((G2.keep (j:=2) r1).mono (by decide))
  apply ak R2;intro E2 m2 G2;exact Rw.up (k:=3) (by decide) ⟨E2,m.app m2,G.trans G2⟩
end
def tp(g:Gs)(s:iu)(oe le:Bool):Prop:=iu.rec True (fun v=>fY v∧cY g.best v=le) (oe=le) s
noncomputable def s8(g:Gs)(le:Bool)(L:List (Nat×ξ)):Bool:=List.rec (fun le=>le) (fun t _ ih _=>ih (cY g.best t.2)) L le
def mK(s:iu):Bool:=iu.rec false (fun _=>true) true s
section
variable {w:World}{mg mb:ω}{ε0:Ev}{g:Gs}{v v3:ξ}{z:Nat→ay}{P:Params}{E:Es}
def kT:fY [107]:=⟨nofun,fun c h=>by rw[bU h];decide,rfl,by decide⟩
variable (hw:ε0.P=w.params)(hg:j5 g)
include hw hg
theorem Hr(hr:cH E 1 true)(ho:E.oe=false):Rw (ab w mg mb ε0) g z [nO] b0 [] E b1 [] 1 [] false :=
 gY (k:=1) hw hg kT kT FN (eZ 0 rfl) (fun U ht=>nomatch ht) ho.symm hr (by decide)
theorem EQ(hr:cH E (1+k) true)(hk:0≤k):Rw (ab w mg mb ε0) g z [kD] b1 [] E b1 [kD] 1 [] E.oe:=gY (k:=1+k) hw hg kT kT (je b1 [] .D) (eZ 9 rfl) (fun U ht=>nomatch ht) rfl hr (by lia)
theorem MJ(hr:cH E 2 true):Rw (ab w mg mb ε0) g z [kD,dL] b1 [] E bR [dL] 2 [45,45,45] false :=
 (EQ (k:=1) hw hg hr (by decide)).trans (es2:=[dL]) (j:=1) (o2:=[45,45,45]) fun E1 G1=>
  gY (k:=1) hw hg kT kT Gf (eZ 1 rfl) (fun U ht=>nomatch ht) rfl (G1.keep (j:=1) hr) (by decide)
theorem Ge(shut:Bool)(hr:cH E 1 true):Rw (ab w mg mb ε0) g z [o8 shut] bE [] E bD [] 1 (gR g shut) (!shut&&E.oe):=by
 rw[←Hs (P:=ε0.P) (g:=g) (E:=E) (v:=[107]) (v3:=[107]) shut];have R:=gY (mg:=mg) (mb:=mb) (z:=z) (k:=1) hw hg kT kT (CM shut) (by cases shut;exact eZ 5 rfl;exact eZ 6 rfl) (fun U ht=>nomatch ht) rfl hr (by decide);cases shut
 ·exact R
 ·exact R
theorem IF(hr:cH E 1 true):Rw (ab w mg mb ε0) g z [jr 145] bD [] E gC [] 1 (gR g E.oe) false:=by
 rw[←Hs (P:=ε0.P) (v:=[107]) (v3:=[107]) E.oe];exact gY (k:=1) hw hg kT kT (yK E.oe) (by cases E.oe;exact eZ 7 rfl;exact eZ 8 rfl) (fun U ht=>nomatch ht) rfl hr (by decide)
theorem MF{E:Es}(hv:fY v)(hi:tp g s E.oe le)(hr:cH E 4 s.b.br)(ht:E.T.length≤20000) :
  ∃ s' o oe,Rw (ab w mg mb ε0) g z (kx p v) s.b s.q E s'.b s'.q 4 o oe∧o++s'.owed g=s.owed g++cK g p v∧tp g s' oe (cY g.best v)∧mK s'=true:=by
 cases s with
 |R0=>
  cases p with
  |zero=>exact⟨.RP v,[],E.oe,VE hw hg hv hr,rfl,⟨hv,rfl⟩,rfl⟩
  |succ p=>exact⟨.IT,g.nl++cK g (p+1) v,cY g.best v,Vx hw hg hv (Nat.succ_ne_zero p) hr,apN _,rfl,rfl⟩
 |RP v3=>
  apply bq hi;intro h3 _;cases p with
  |zero=>exact⟨.IT,_,cY g.best v,LQ hw hg hv h3 hr,apN _,rfl,rfl⟩
  |succ p=>exact⟨.IT,_,cY g.best v,ON hw hg hv h3 (Nat.succ_ne_zero p) hr ht,apN _,rfl,rfl⟩
 |IT=>exact⟨.IT,cK g p v,cY g.best v,Sh hw hg hv p hr,apN _,rfl,rfl⟩
theorem Pn:∀ (L:List (Nat×ξ)) {s:iu} {E:Es} {le:Bool} {k:Int},(∀ t∈L,fY t.2)→tp g s E.oe le→cH E (4*L.length+k) s.b.br→0≤k→(E.T++s.owed g).length+8012*L.length≤20000 →
  ∃ s' o oe,Rw (ab w mg mb ε0) g z (L.flatMap fun t=>kx t.1 t.2) s.b s.q E s'.b s'.q (4*L.length) o oe∧o++s'.owed g=s.owed g++L.flatMap (fun t=>cK g t.1 t.2)∧tp g s' oe (s8 g le L)∧(mK s'=(mK s ||!aI L))∧(o++s'.owed g).length≤(s.owed g).length+8012*L.length:=by
 intro L0;induction L0 with
 |nil=>
  intro s E le k _ hi hr _ _;exact⟨s,[],E.oe,⟨E,rfl,(apN _).symm,⟨cI _,by show E.n≤E.n+2000*(4*((0:Nat):Int));lia⟩,⟨cI _,by show E.line≤E.line+2000*(4*((0:Nat):Int));lia⟩,hr.c,rfl,hr.z⟩,(apN _).symm,hi,by show mK s=(mK s ||!true);cases mK s<;>rfl,by show (s.owed g).length≤_+8012*0;lia⟩
 |cons t r ih=>
  intro s E le k hL hi hr hk hl;rw[bJ] at hr hl ⊢;push_cast at hr ⊢;rw[au] at hl;have hv:=hL t (.head _);apply d5 (MF (p:=t.1) hw hg hv hi (hr.mono (by lia)) (by lia));intro s1 o1 oe1 R1 e1 i1 b1;apply ak R1;intro E1 m1 G1;have a1:=zg hg hv t.1;have l1:(E1.T++s1.owed g).length≤(E.T++s.owed g).length+8012:=by
   rw[G1.t,aC,e1,au,au,au];lia
  rw[List.length_append (as:=E.T)] at l1;have t1:E1.T.length≤40000:=by rw[au] at l1;lia
  obtain⟨s2,o2,oe2,R2,e2,i2,b2,n2⟩:=ih (fun x hx=>hL x (.tail _ hx)) (by rw[G1.e];exact i1) (G1.room (j:=4*r.length+k) (hr.mono (by lia)) t1) hk (by lia);have e3:(o1++o2)++s2.owed g=s.owed g++(t::r).flatMap (fun t=>cK g t.1 t.2):=by rw[aC,e2,←aC,e1,List.flatMap_cons,aC]
  refine⟨s2,o1++o2,oe2,?_,e3,i2,?_,?_⟩
  ·apply ak R2;intro E2 m2 G2
   rw[show (4:Int)*((r.length:Int)+1)=4+4*r.length by lia,List.flatMap_cons];exact⟨E2,m1.app m2,G1.trans G2⟩
  ·rw[b2,b1];cases mK s<;>rfl
  ·have q:(o1++s1.owed g).length≤(s.owed g).length+8012:=by rw[e1,au];lia
   rw[au] at q;rw[aC,au];lia
theorem W8{E:Es}(hi:tp g s E.oe le)(hb:mK s=true)(hr:cH E 1 s.b.br):Rw (ab w mg mb ε0) g z [jr 241] s.b s.q E bE [] 1 (s.owed g) le:=by
 cases s with
 |R0=>exact nomatch hb
 |RP v3=>
  apply bq hi;intro h3 e0;subst e0;show Rw _ g z _ bR _ E bE [] 1 (g.nl++cK g 0 v3) _;rw[←y9 (P:=ε0.P) (E:=E) (v:=[107])];exact gY (k:=1) hw hg kT h3 (EN (dK g v3)) (km hg 8 rfl) Ez rfl hr (by decide)
 |IT=>
  replace hi:E.oe=le:=hi;rw[←hi];exact gY (k:=1) hw hg kT kT IR (eZ 4 rfl) (fun U ht=>nomatch ht) rfl hr (by decide)
noncomputable def oi(y:Nat→AV):Es:=⟨[],0,0,0,false,y⟩
omit hw hg in
theorem E9(y:Nat→AV):cH (oi y) 39 true:=⟨ZA _,⟨cI _,(by decide:(0:Int)+2000*39≤80000)⟩,⟨cI _,(by decide:(0:Int)+2000*39≤80000)⟩,⟨cI _,(by decide:(0:Int)≤500)⟩,fun U=>rfl⟩
omit hw in
theorem ze(x:Bool):(gR g x).length≤5:=by
 have:=hg.nl.2;unfold gR;cases x
 ·exact ZA _
 ·show ([46,46,46]++g.nl).length≤5;rw[au];show 3+_≤5;lia
theorem U6(hL:∀ t∈L,fY t.2)(hn:L≠[])(h3:L.length≤2)(shut:Bool) :
  Rw (ab w mg mb ε0) g z ([nO]++([kD,dL]++((L.flatMap fun t=>kx t.1 t.2)++([jr 241]++([o8 shut]++[jr 145]))))) b0 [] (oi y) gC [] 40 ([45,45,45]++(g.nl++(L.flatMap (fun t=>cK g t.1 t.2)++(gR g shut++gR g (!shut&&s8 g false L))))) false:=by
 have n2:=hg.nl.2;have r0:=E9 y;apply ak (Hr (mg:=mg) (mb:=mb) (z:=z) hw hg (r0.mono (by decide)) rfl);intro E1 m1 G1;have r1:cH E1 38 true:=G1.keep (j:=38) r0;apply ak (MJ (mg:=mg) (mb:=mb) (z:=z) hw hg (r1.mono (by decide)));intro E2 m2 G2;have t1:E1.T=[]:=G1.t;have t2:E2.T=[45,45,45]:=by rw[G2.t,t1];rfl
 have r2:cH E2 36 false:=G2.room (j:=36) r1 (by rw[t2];decide);obtain⟨s,o,oe,R3,e3,i3,b3,l3⟩:=Pn (mg:=mg) (mb:=mb) (z:=z) hw hg L (s:=.R0) (E:=E2) (le:=false) (k:=24) hL trivial (r2.mono (by lia)) (by decide) (by rw[t2,au];show 3+g.nl.length+_≤20000;lia);apply ak R3;intro E3 m3 G3;replace b3:mK s=true:=by rw[b3];cases L with|nil=>exact absurd rfl hn|cons _ _=>rfl
 replace l3:(o++s.owed g).length≤g.nl.length+8012*L.length:=l3;rw[au] at l3;have t3:E3.T.length+(s.owed g).length≤20000:=by rw[G3.t,t2,au];show 3+_+_≤_;lia
 have r3:cH E3 24 s.b.br:=G3.room (j:=24) (r2.mono (by lia)) (by lia);apply ak (W8 (mg:=mg) (mb:=mb) (z:=z) hw hg (by rw[G3.e];exact i3) b3 (r3.mono (by decide)));intro E4 m4 G4;have t4:E4.T.length≤20000:=by rw[G4.t,au];exact t3
 have r4:cH E4 23 true:=G4.room (j:=23) r3 (by lia);apply ak (Ge (mg:=mg) (mb:=mb) (z:=z) hw hg shut (r4.mono (by decide)));intro E5 m5 G5;have d2:=ze hg shut;have r5:cH E5 22 true:=G5.room (j:=22) r4 (by rw[G5.t,au];lia);apply ak (IF (mg:=mg) (mb:=mb) (z:=z) hw hg (r5.mono (by decide)));intro E6 m6 G6;refine⟨E6,m1.app (m2.app (m3.app (m4.app (m5.app m6)))),?_⟩;have G:=(((((G1.trans G2).trans G3).trans G4).trans G5).trans G6);have e5:E5.oe=(!shut&&s8 g false L):=by rw[G5.e,G4.e]
 refine⟨?_,⟨G.n.1,by have:=G.n.2;lia⟩,⟨G.l.1,by have:=G.l.2;lia⟩,G.c,G.e,G.z⟩;rw[G6.t,G5.t,G4.t,G3.t,t2,e5];show _=[45,45,45]++(g.nl++_);rw[aC,aC,aC,←aC o,e3];show _=[45,45,45]++(iu.owed g .R0++_);rw[aC]
theorem Pp(hv:fY v)(shut:Bool) :
  Rw (ab w mg mb ε0) g z ([nO]++([kD]++([c9 (.str (.k v))]++([o8 shut]++[jr 145])))) b0 [] (oi y) gC [] 40 ([45,45,45]++(lj g g.best v++(gR g shut++gR g (!shut&&cY g.best v)))) false:=by
 have r0:=E9 y;apply ak (Hr (mg:=mg) (mb:=mb) (z:=z) hw hg (r0.mono (by decide)) rfl);intro E1 m1 G1;have r1:cH E1 38 true:=G1.keep (j:=38) r0;apply ak (EQ (mg:=mg) (mb:=mb) (z:=z) (k:=37) hw hg r1 (by decide));intro E2 m2 G2;have t1:E1.T=[]:=G1.t;have t2:E2.T=[]:=by rw[G2.t,t1];rfl
 have r2:cH E2 37 true:=G2.keep (j:=37) r1;have R3:Rw (ab w mg mb ε0) g z [c9 (.str (.k v))] b1 [kD] E2 bE [] 1 ([45,45,45]++lj g g.best v) (cY g.best v):=by
  rw[←Qr (P:=ε0.P) (g:=g) (E:=E2) (v:=v) (v3:=v) (dK g v)];exact gY (k:=37) hw hg hv hv (yx (dK g v)) (km hg 5 rfl) wR rfl r2 (by decide)
 apply ak R3;intro E3 m3 G3;have b:=sO hg;have l:=(lS hg hv (ind:=g.best) ⟨b.1,by lia⟩).1;have t3:E3.T.length≤20000:=by rw[G3.t,t2,au,au];show 0+(3+(ey g g.best v).1.length)≤_;lia
 have r3:cH E3 36 true:=G3.room (j:=36) r2 (by lia);apply ak (Ge (mg:=mg) (mb:=mb) (z:=z) hw hg shut (r3.mono (by decide)));intro E5 m5 G5;have d2:=ze hg shut;have r5:cH E5 22 true:=G5.room (j:=22) (r3.mono (by decide)) (by rw[G5.t,au];lia);apply ak (IF (mg:=mg) (mb:=mb) (z:=z) hw hg (r5.mono (by decide)));intro E6 m6 G6;refine⟨E6,m1.app (m2.app (m3.app (m5.app m6))),?_⟩;have G:=((((G1.trans G2).trans G3).trans G5).trans G6);have e5:E5.oe=(!shut&&cY g.best v):=by rw[G5.e,G3.e]
 refine⟨?_,⟨G.n.1,by have:=G.n.2;lia⟩,⟨G.l.1,by have:=G.l.2;lia⟩,G.c,G.e,G.z⟩;rw[G6.t,G5.t,G3.t,t2,e5];simp only [aC];rfl
end
def yW:List Stmt:=(cJ 830).body
def ah:List (Str×NameKind):=(cJ 830).sc
def bS(i:Nat):Stmt:=(ae yW i).getD (.Pass default)
def gB:tQ:=xV yW 13
def bT(i:Nat):Stmt:=(ae gB.b i).getD (.Pass default)
def e9(d a b m w l n r sh ev af:AV):List (Str×AV):=[(mM,d),(jH,a),(gL,b),(nV,m),(jD,w),(qv,l),(nk,n),(uP,r),(xm,sh),(uF,ev),(xk,af)]
structure Gz (Γ:aw) (n:Nat) (ss:List Stmt) (ls:ag) (σ:St) (f:Fl) (ls':ag) (σ':St):Prop where
 h:eu Γ n (fun c=>execs ss c.env) ls σ f ls' σ'
def Dz.gz(h:aH Γ n ss ls σ f ls' σ')(hn:n≤n'):Gz Γ n' ss ls σ f ls' σ':=⟨eu.le hn (bj.goes h.h)⟩
def Gz.app(h1:Gz Γ n a ls σ .next ls1 σ1)(h2:Gz Γ n b ls1 σ1 f ls2 σ2):Gz Γ n (a++b) ls σ f ls2 σ2:=⟨by
 intro c A s m imm cs Q E C l R k;show wpAny _ _ (execs (a++b) c.env) _ _ _;rw[HW];refine Y6 (h1.h C l R fun hx tx mx ix cx fl Rx lx xx fx=>?_);(obtain e:_=_:=FR.inv fx;subst e);exact h2.h C lx (s:=sU s hx tx) Rx fun h2 t2 m2 i2 c2 fl R2 l2 x2 f2=>k h2 t2 m2 i2 c2 fl R2 l2 (fun p hp=>x2 p (xx p hp)) f2⟩
noncomputable def Ds(x:AV):Bool:=match x with|.str _=>true|_=>false
def Cs{α:Type}{f:α→List AV}{p:AV→Bool}{l:List α}(h:(l.flatMap f).all p=true):∀ x∈l,(f x).all p=true:=fun x hx=>List.all_eq_true.mpr fun y hy=>aB h y (List.mem_flatMap.mpr ⟨x,hx,hy⟩)
def Au{α:Type}{f:α→α}{l:List α}(h:∀ x∈l,f x=x):l.map f=l:=(List.map_congr_left h).trans (List.map_id l)
def VK(idx:ξ):∀ x,(lv x).all Ds=true→flA (iU idx) x=x:=by
 refine AV.ind ?_ ?_ ?_ ?_ ?_ ?_ ?_ ?_ ?_ ?_ ?_ ?_ ?_ ?_
 ·exact fun U=>rfl
 ·exact fun U U=>rfl
 ·exact fun U U=>rfl
 ·exact fun U U=>rfl
 ·exact fun U h=>by injection h
 ·exact fun xs ih h=>by
   rw[yH] at h;rw[yC];exact congrArg AV.tup (Au fun x hx=>ih x hx (Cs h x hx))
 ·exact fun C fs ih h=>by
   rw[zF] at h;rw[z8];exact congrArg (AV.obj C) (Au fun q hq=>Prod.ext rfl (ih q hq (Cs h q hq)))
 ·exact fun U=>rfl
 ·exact fun U U=>rfl
 ·exact fun U U=>rfl
 ·exact fun U U=>rfl
 ·exact fun f v ih h=>congrArg (AV.meth f) (ih h)
 ·exact fun U h=>by injection h
 ·exact fun U U=>rfl
def da(xs:List AV):Prop:=(ii xs).all Ds=true
def da.app(h:da xs)(g:da ys):da (xs++ys):=by
 unfold da ii at *
 rw[List.flatMap_append,List.all_append,h,g];rfl
def EE(idx:ξ)(x:AV):Bool:=match x with|.cell k=>aK k idx|_=>true
noncomputable def pP(σ:St):ξ→List (List AV)→Prop
 |[],[]=>True
 |i::r,xs::t=>(ae σ i=some (.list xs)∧da xs)∧pP σ r t
 |_,_=>False
theorem pP.all:∀ {js:ξ} {τ:List (List AV)},pP σ js τ→(js.all fun i=>i.blt (lenA σ))=true∧(js.all fun i=>(rG (lW σ i)).all (EE idx))=true∧(js.map fun i=>fC (iU idx) (lW σ i))=τ.map .list
 |[],[],_=>⟨rfl,rfl,rfl⟩
 |i::r,xs::t,⟨⟨h1,h2⟩,h3⟩=>by
  apply fj (pP.all h3);intro i1 i2 i3;have c:lW σ i=.list xs:=by unfold lW;rw[h1]
  refine⟨?_,?_,?_⟩
  ·rw[List.all_cons,i1,aR,show i.blt σ.length=true from Zd (BD h1)];rfl
  ·rw[List.all_cons,i2,c,Bool.and_true]
   refine List.all_eq_true.mpr fun x hx=>?_;have:=aB h2 x hx;induction x using AV.casesOn<;>first|rfl|injection this
  ·rw[ZI,i3,c]
   exact congrArg (·::_) (congrArg ay.list (Au fun x hx=>VK idx x (Cs h2 x hx)))
def Gz.pick{Γ:aw}(he:Γ.ε.Ok)(idx:ξ)(τ:List (List AV))(H:Gz Γ n ss ls σ .next ⟨l0,sc⟩ σ')(hs:sc=ls.sc)(hn:mN idx=true)(h:pP σ' idx τ)(hl:(dw l1).all (EE idx)=true)(sub:∀ x v,lk x l1=some v→lk x l0=some v) :
  Gz Γ n ss ls σ .next ⟨fQ (iU idx) l1,sc⟩ (τ.map .list):=by
 apply fj (h.all);intro o2 o3 e;have ok:xC idx l1 σ'=true:=Zf.mpr ⟨hn,Zf.mpr ⟨o2,Zf.mpr ⟨o3,hl⟩⟩⟩;have G:eu Γ n (fun c=>execs ss c.env) ls σ .next ⟨fQ (iU idx) l1,sc⟩ (so idx σ'):=eu.pick (ls1:=⟨l1,sc⟩) he hs sub ok H.h;rw[show so idx σ'=τ.map .list from e] at G;exact⟨@G⟩
noncomputable def ez:Nat→Nat→List AV
 |_,0=>[]
 |i,n+1=>.any i::ez (i+1) n
def tI(N:ξ):List AV:=N.map fun n=>I (.ofNat n)
def dq(N:ξ)(i:Nat):Nat:=(ae N i).getD 0
def zv:∀ (N:ξ) (i:Nat),(∀ j n,ae N j=some n→v (i+j)=I n)→bX (aq ε v z) (ez i N.length)=tI N:=by
 intro L0;induction L0 with
 |nil=>
  intro _ _;exact rfl
 |cons a r ih=>
  intro i h;show v i::bX (aq ε v z) (ez (i+1) r.length)=I a::tI r;rw[ih (i+1) fun j n hj=>by rw[show i+1+j=i+(j+1) by lia];exact h (j+1) n hj,show v i=I a from h 0 a rfl]
def jv(N:ξ):da (tI N):=by
 induction N with
 |nil=>rfl
 |cons a r ih=>exact ih
noncomputable def HR:ξ:=[2,4,3,1,9,10]
noncomputable def HA:ξ:=[1,4,0,9,2,60]
noncomputable def Gi:List ξ:=[[10],[13,10],[13],[120]]
def fE(r:Nat):Nat:=(ae HR r).getD 0
def iP(a:Nat):Nat:=Bool.rec 2 a (Nat.blt 1 a&&a.blt 10)
def jj(r:Nat):Nat:=(ae HA r).getD 0
def rI(b m:Nat):Nat:=Bool.rec (2*b+m) 80 (m.beq 0)
def iM(r:Nat):ξ:=(ae Gi r).getD []
def oU(l:ξ):ξ:=Bool.rec l [10] (bQ l [120])
noncomputable def rP(r:Nat):Bool:=Nat.beq (r % 3) 1
noncomputable def IO(r:Nat):Bool:=Nat.beq (r / 3 % 2) 1
noncomputable def βh:Bd:=[(0,0),(0,0),(0,0),(0,0),(0,0),(0,0),(0,0),(0,0),(0,2000)]
def pY(i r m L:Nat):List AV:=cC (ez 50 (4+L)) i (.int ⟨r,[(8,m)]⟩)
def gI(o:List (Str×AV)):List (Str×AV):=[(kY,.cell 1),(mM,.cell 0)]++o
def rY(i r m L:Nat)(o:List (Str×AV))(ss:List Stmt)(k:Nat)(o2:List (Str×AV))(q:St):cu:=⟨βh,ac,3,[],⟨gI o,ah⟩,[.any 0,.list (pY i r m L)],ss,.next,k,gI (o++o2),[.any 0,.list (pY i r m L)]++q⟩
def KD(r L:Nat):cu:=rY 0 r 6 L [] [bS 2,bS 3] 4 [(jH,I (fE r)),(gL,I (iP (fE r)))] [.list (tI HR)]
def XZ(r L b:Nat):cu:=rY 1 r 6 L [(jH,.any 20),(gL,I b)] [bS 4,bS 5] 6 [(nV,I (jj r)),(jD,I (rI b (jj r)))] [.list (tI HA)]
def NY(r L:Nat):cu:=rY 2 r 4 L [(jH,.any 20),(gL,.any 21),(nV,.any 22),(jD,.any 23)] [bS 6,bS 7] 8 [(qv,.str (.k (iM r))),(nk,.str (.k (oU (iM r))))] [.list (Gi.map fun l=>.str (.k l))]
def ft(root:Bool):List AV:=Bool.rec [nO,kD,dL] [nO,kD] root
def Kb(r L:Nat):cu:=rY 3 r 6 L [(jH,.any 20),(gL,.any 21),(nV,.any 22),(jD,.any 23),(qv,.any 24),(nk,.any 25)] [bS 8,bS 9,bS 10,bS 11,bS 12] 12 [(uP,.bool (rP r)),(xm,.bool (IO r)),(uF,.cell 2),(xk,.cell 3)] [.list (ft (rP r)),.list []]
def Qd:((List.range 6).all fun r=>(List.range 5).all fun L=>(KD r L).chk)=true:=by kernel_rfl
def Ye:((List.range 6).all fun r=>(List.range 5).all fun L=>cO.all fun b=>(XZ r L b).chk)=true:=by kernel_rfl
def TO:((List.range 4).all fun r=>(List.range 5).all fun L=>(NY r L).chk)=true:=by kernel_rfl
def LR:((List.range 6).all fun r=>(List.range 5).all fun L=>(Kb r L).chk)=true:=by kernel_rfl
structure Lk where
 asked:Nat
 best:Nat
 more:Nat
 width:Nat
 lb:ξ
 nl:ξ
 root:Bool
 shut:Bool
def aY(t0 t1 t2 t3:Nat):Lk:=⟨fE (t0 % 6),iP (fE (t0 % 6)),jj (t1 % 6),rI (iP (fE (t0 % 6))) (jj (t1 % 6)),iM (t2 % 4),oU (iM (t2 % 4)),rP (t3 % 6),IO (t3 % 6)⟩
structure nR (c:Lk):Prop where
 b:c.best∈cO
 w:2*c.best<c.width∧c.width≤900
 n:c.nl=[10]∨c.nl=[13,10]∨c.nl=[13]
def ID(t0 t1 t2 t3:Nat):nR (aY t0 t1 t2 t3):=by
 have m6:∀ t,t % 6∈List.range 6:=fun t=>il (Nat.mod_lt _ (by decide));have h0:=aB (aB (show ((List.range 6).all fun r=>(List.range 6).all fun s=>aK (iP (fE r)) cO&&(Nat.blt (2*iP (fE r)) (rI (iP (fE r)) (jj s))&&Nat.ble (rI (iP (fE r)) (jj s)) 900))=true by decide +kernel) _ (m6 t0)) _ (m6 t1);have h1:=aB (show ((List.range 4).all fun r=>bQ (oU (iM r)) [10] ||(bQ (oU (iM r)) [13,10] ||bQ (oU (iM r)) [13]))=true by decide +kernel) (t2 % 4) (il (Nat.mod_lt _ (by decide)));replace h0:=aA h0;have h2:=aA h0.2;refine⟨qM.mp h0.1,⟨dX h2.1,dX h2.2⟩,?_⟩;rw[Bool.or_eq_true,Bool.or_eq_true] at h1;exact h1.imp (fun h=>fH.mp h) fun h=>h.imp (fun h=>fH.mp h) fun h=>fH.mp h
def bP(c:Lk)(m:List (Str×AV)):List (Str×AV):=e9 (.cell 0) (I c.asked) (I c.best) (I c.more) (I c.width) (.str (.k c.lb)) (.str (.k c.nl)) (.bool c.root) (.bool c.shut) (.cell 1) (.cell 2)++m
def vh(V:List AV)(T:ξ):Nat→AV:=tO (fun k=>I (dq T (k-50))) 20 (V.map some)
def φh(P:Params)(V:List AV)(T N:ξ)(e:Nat):eO:=aq (dr P (tn 0 [0,0,0,0,e]) fun U=>[]) (vh V T) fun U=>.list (tI N)
def QB{V:List AV}(hV:V.length≤30)(j:Nat):vh V T (50+j)=I (dq T j):=by
 unfold vh;rw[yL (by rw[Zh];lia),Zt]
def Wy{α:Type}{x:α}:∀ {l:List α} {i:Nat},ae l i=some x→cC l i x=l:=by
 intro l i h;rw[dt] at h;rw[n8];obtain⟨hl,rfl⟩:=Zo.mp h;exact List.set_getElem_self hl
def RO{P:Params}{V:List AV}{T N:ξ}{e i r m L t:Nat}(hV:V.length≤30)(hT:T.length=4+L)(hi:ae T i=some t)(ht:t=r+m*e):bX (φh P V T N e) (pY i r m L)=tI T:=by
 unfold pY bX;rw[n8,List.map_set,←hT];have h:=zv (ε:=dr P (tn 0 [0,0,0,0,e]) fun U=>[]) (v:=vh V T) (z:=fun U=>ay.list (tI N)) T 50 fun j n hj=>by
  rw[QB hV];unfold dq;rw[hj];rfl
 rw[show List.map (flA (φh P V T N e)) (ez 50 T.length)=tI T from h,←n8];refine Wy ?_;show ae (T.map fun n=>I (.ofNat n)) i=_;rw[vr,hi,ht];have q:(ax.mk (r:Int) [(8,(m:Int))]).val (dr P (tn 0 [0,0,0,0,(e:Int)]) fun U=>[])=((r+m*e:Nat):Int):=by
  have q0:(ax.mk (r:Int) [(8,(m:Int))]).val (dr P (tn 0 [0,0,0,0,(e:Int)]) fun U=>[])=(r:Int)+((m:Int)*(e:Int)+0):=by kernel_rfl
  rw[q0];push_cast;lia
 exact congrArg (fun x=>some (AV.int (.k x))) q.symm
section
variable {w:World}{mg mb:ω}{ε0:Ev}(hw:ε0.P=w.params){N T:ξ}
include hw
theorem yi{V:List AV}(hj:(rY i r m L o ss k o2 q).chk=true)(hV:V.length≤30)(hT:T.length=4+L)(hi:ae T i=some t)(ht:t=r+m*e)(he:e≤2000) :
  aH (ab w mg mb ε0) 150 ss ⟨gI (fQ (φh ε0.P V T N e) o),ah⟩ [.list (tI N),.list (tI T)] .next ⟨gI (fQ (φh ε0.P V T N e) (o++o2)),ah⟩ ([.list (tI N),.list (tI T)]++bL (φh ε0.P V T N e) q):=by
 have e0:(0:Int)≤0∧(0:Int)≤0:=⟨cI _,cI _⟩;have bd:aV βh (dr ε0.P (tn 0 [0,0,0,0,(e:Int)]) fun U=>[]):=nQ ⟨e0,e0,e0,e0,e0,e0,e0,e0,⟨cW _,by show (e:Int)≤2000;lia⟩,trivial⟩;have et:=RO (P:=ε0.P) (N:=N) hV hT hi ht;have J:=df (mg:=mg) (mb:=mb) (v:=vh V T) (z:=fun U=>.list (tI N)) hw (ε:=dr ε0.P (tn 0 [0,0,0,0,(e:Int)]) fun U=>[]) rfl (cR _ _ _) (rY i r m L o ss k o2 q) bd ⟨rfl,(by decide:3≤12),rfl⟩ hj;refine J.cast rfl ?_ rfl rfl ?_
 ·show [ay.list (tI N),.list (bX (φh ε0.P V T N e) (pY i r m L))]=_
  rw[et]
 ·show [ay.list (tI N),.list (bX (φh ε0.P V T N e) (pY i r m L))]++_=_
  rw[et];rfl
variable (he:ε0.Ok){t0 t1 t2 t3:Nat}{r:ξ}(h0:t0<5040)(h1:t1<5040)(h2:t2<5040)(h3:t3<5040)(hr:r.length≤4)
def At:List Stmt:=[bS 2,bS 3]++([bS 4,bS 5]++([bS 6,bS 7]++[bS 8,bS 9,bS 10,bS 11,bS 12]))
include he h0 h1 h2 h3 hr
theorem UB:Gz (ab w mg mb ε0) 300 At ⟨gI [],ah⟩ [.list (tI N),.list (tI (t0::t1::t2::t3::r))] .next ⟨bP (aY t0 t1 t2 t3) [],ah⟩ [.list (tI N),.list (ft (aY t0 t1 t2 t3).root),.list []]:=by
 have lkk:=ID t0 t1 t2 t3;have rL:r.length∈List.range 5:=il (by lia);have hT:(t0::t1::t2::t3::r).length=4+r.length:=by simp only [bJ];lia
 have m6:∀ t,t % 6∈List.range 6:=fun t=>il (Nat.mod_lt _ (by decide));have md:∀ t m:Nat,t=t % m+m*(t / m):=fun t m=>(Nat.mod_add_div t m).symm;have eN:∀ {P V T N e} (n:Nat),flA (φh P V T N e) (I n)=I n:=fun n=>by show AV.int (.k ((ax.k n).val _))=_;rw[cF];rfl
 have A:=yi (mg:=mg) (mb:=mb) (N:=N) (V:=[]) hw (aB (aB Qd _ (m6 t0)) _ rL) (Nat.le_of_ble_eq_true rfl) hT rfl (md t0 6) (by lia);have G1:=(A.gz (n':=300) (by decide)).pick he [0,1] [tI N,tI (t0::t1::t2::t3::r)] (l1:=gI [(jH,I (aY t0 t1 t2 t3).asked),(gL,I (aY t0 t1 t2 t3).best)]) rfl rfl ⟨⟨rfl,jv N⟩,⟨rfl,jv _⟩,trivial⟩ rfl fun x v h=>by
  show lk x (gI [(jH,flA _ (I (fE (t0 % 6)))),(gL,flA _ (I (iP (fE (t0 % 6)))))])=_;rw[eN,eN];exact h
 have B:=yi (mg:=mg) (mb:=mb) (N:=N) (V:=[I (aY t0 t1 t2 t3).asked]) hw (aB (aB (aB Ye _ (m6 t1)) _ rL) _ lkk.b) (Nat.le_of_ble_eq_true rfl) hT (show ae (t0::t1::t2::t3::r) 1=some t1 from rfl) (md t1 6) (by lia);have G2:=((B.cast (ls':=⟨gI [(jH,I (aY t0 t1 t2 t3).asked),(gL,I (aY t0 t1 t2 t3).best)],ah⟩) (by
  show (⟨gI [(jH,I (aY t0 t1 t2 t3).asked),(gL,flA _ (I (aY t0 t1 t2 t3).best))],ah⟩ : ag)=_;rw[eN]) rfl rfl rfl rfl).gz (n':=300) (by decide)).pick he [0,1] [tI N,tI (t0::t1::t2::t3::r)] (l1:=gI [(jH,I (aY t0 t1 t2 t3).asked),(gL,I (aY t0 t1 t2 t3).best),(nV,I (aY t0 t1 t2 t3).more),(jD,I (aY t0 t1 t2 t3).width)]) rfl rfl ⟨⟨rfl,jv N⟩,⟨rfl,jv _⟩,trivial⟩ rfl fun x v h=>by
  show lk x (gI [(jH,I (aY t0 t1 t2 t3).asked),(gL,flA _ (I (aY t0 t1 t2 t3).best)),(nV,flA _ (I (jj (t1 % 6)))),(jD,flA _ (I (rI (aY t0 t1 t2 t3).best (jj (t1 % 6)))))])=_;rw[eN,eN,eN];exact h
 have C:=yi (mg:=mg) (mb:=mb) (N:=N) (V:=[I (aY t0 t1 t2 t3).asked,I (aY t0 t1 t2 t3).best,I (aY t0 t1 t2 t3).more,I (aY t0 t1 t2 t3).width]) hw (aB (aB TO (t2 % 4) (il (Nat.mod_lt _ (by decide)))) _ rL) (Nat.le_of_ble_eq_true rfl) hT (show ae (t0::t1::t2::t3::r) 2=some t2 from rfl) (md t2 4) (by lia);have G3:=(C.gz (n':=300) (by decide)).pick he [0,1] [tI N,tI (t0::t1::t2::t3::r)] (l1:=gI [(jH,I (aY t0 t1 t2 t3).asked),(gL,I (aY t0 t1 t2 t3).best),(nV,I (aY t0 t1 t2 t3).more),(jD,I (aY t0 t1 t2 t3).width),(qv,.str (.k (aY t0 t1 t2 t3).lb)),(nk,.str (.k (aY t0 t1 t2 t3).nl))]) rfl rfl ⟨⟨rfl,jv N⟩,⟨rfl,jv _⟩,trivial⟩ rfl fun x v h=>by
  show lk x (gI [(jH,I (aY t0 t1 t2 t3).asked),(gL,I (aY t0 t1 t2 t3).best),(nV,I (aY t0 t1 t2 t3).more),(jD,I (aY t0 t1 t2 t3).width),(qv,.str (.k ((SS.k (iM (t2 % 4))).val _))),(nk,.str (.k ((SS.k (oU (iM (t2 % 4)))).val _)))])=_;rw[dY,dY];exact h
 have D:=yi (mg:=mg) (mb:=mb) (N:=N) (V:=[I (aY t0 t1 t2 t3).asked,I (aY t0 t1 t2 t3).best,I (aY t0 t1 t2 t3).more,I (aY t0 t1 t2 t3).width,.str (.k (aY t0 t1 t2 t3).lb),.str (.k (aY t0 t1 t2 t3).nl)]) hw (aB (aB LR _ (m6 t3)) _ rL) (Nat.le_of_ble_eq_true rfl) hT (show ae (t0::t1::t2::t3::r) 3=some t3 from rfl) (md t3 6) (by lia);have fe:∀ b,da (ft b):=fun b=>by cases b<;>rfl
 have G4:=(D.gz (n':=300) (by decide)).pick he [0,2,3] [tI N,ft (aY t0 t1 t2 t3).root,[]] (l1:=e9 (.cell 0) (I (aY t0 t1 t2 t3).asked) (I (aY t0 t1 t2 t3).best) (I (aY t0 t1 t2 t3).more) (I (aY t0 t1 t2 t3).width) (.str (.k (aY t0 t1 t2 t3).lb)) (.str (.k (aY t0 t1 t2 t3).nl)) (.bool (aY t0 t1 t2 t3).root) (.bool (aY t0 t1 t2 t3).shut) (.cell 2) (.cell 3)) rfl rfl ⟨⟨rfl,jv N⟩,⟨by
  show some (ay.list (bX _ (ft (rP (t3 % 6)))))=some (ay.list (ft (rP (t3 % 6))));cases rP (t3 % 6)<;>rfl,fe _⟩,⟨rfl,rfl⟩,trivial⟩ rfl fun x v h=>by
  show Bool.rec (motive:=fun U=>κ AV) _ _ (seq kY x)=_;cases q:seq kY x with
  |false=>exact h
  |true=>
   rw[←iw.mp q] at h;exact absurd h (by intro h;exact nomatch (show (none:κ AV)=some v from h))
 exact G1.app (G2.app (G3.app G4))
end
def oY(m:List (Str×AV)):List (Str×AV):=e9 (.cell 0) (.any 20) (.any 21) (.any 22) (.any 23) (.any 24) (.any 25) (.any 26) (.any 27) (.cell 1) (.cell 2)++m
def gH(c:Lk)(o:Nat→AV):Nat→AV:=tO o 20 [some (I c.asked),some (I c.best),some (I c.more),some (I c.width),some (.str (.k c.lb)),some (.str (.k c.nl)),some (.bool c.root),some (.bool c.shut)]
def kU(n i:Nat):AV:=Bool.rec (I 0) (.any (60+i)) (i.blt n)
def iO(t a b c d:AV):List (Str×AV):=[(me,t),(gO,a),(tg,b),(Bl,c),(B5,d)]
def qm(n t:Nat):List AV:=aQ 4 (aO (4*t) (ez 60 n))
def sb:List AV:=[I 0,I 0,I 0,I 0]
def CO(n t:Nat):cu:=⟨[],ac,3,[],⟨oY [(me,I t)],ah⟩,[.list (ez 60 n),.any 1,.any 2],[bT 0],.next,16,oY (iO (I t) (kU n (4*t)) (kU n (4*t+1)) (kU n (4*t+2)) (kU n (4*t+3))),
 [.list (ez 60 n),.any 1,.any 2,.list (qm n t),.list sb,.list (qm n t++sb),.list (aQ 4 (qm n t++sb))]⟩
def Xb:((List.range 9).all fun n=>[0,1].all fun t=>(CO n t).chk)=true:=by kernel_rfl
structure Fb where
 ts:List Expr
 elt:Expr
 t:Expr
 it:Expr
 sc:Scope
 cp:Pos
 hi:Expr
 p2:Pos
 sp:Pos
 p:Pos
noncomputable def UC(s:Stmt):κ Fb:=match s with|.Assign ts (.Subscript (.ListComp elt [⟨t,it,_,_⟩] sc cp) (.Slice _ (some hi) _ p2) sp) p=>some ⟨ts,elt,t,it,sc,cp,hi,p2,sp,p⟩|_=>none
def ip:Fb:=(UC (bT 3)).getD ⟨[],.Constant .none 0 default,.Constant .none 0 default,.Constant .none 0 default,⟨.function,[],false,false,[]⟩,default,.Constant .none 0 default,default,default,default⟩
def Ap:Expr:=.ListComp ip.elt [⟨ip.t,ip.it,[],0⟩] ip.sc ip.cp
def OL:bT 3=.Assign ip.ts (.Subscript Ap (.Slice none (some ip.hi) none ip.p2) ip.sp) ip.p:=by kernel_rfl
noncomputable def βr:Bd:=[(0,0),(0,0),(0,0),(0,0),(0,0),(0,0),(0,0),(0,0),(0,500),(0,0),(0,500),(0,0),(0,500)]
def cZ(a:Nat):ξ:=(ae fW a).getD []
noncomputable def jh(r i:Nat):AV:=.int ⟨r,[(i,11)]⟩
def Tg(a b d:AV):List (Str×AV):=iO (.any 28) (.any 29) a b d++[(dc,.any 30)]
def yf(a b d:Nat):nz:=⟨βr,ac,3,[],⟨oY (Tg (jh a 8) (jh b 10) (jh d 12)),ah⟩,[.any 0,.any 1,.any 2],Ap,.cell 4,[.any 0,.any 1,.any 2,.list [jh a 8,jh b 10,jh d 12],.list [.str (.k (cZ a)),.str (.k (cZ b)),.str (.k (cZ d))]]⟩
def OK:((List.range 11).all fun a=>(List.range 11).all fun b=>(List.range 11).all fun d=>(yf a b d).chk)=true:=by kernel_rfl
def vN(c:Lk)(N:ξ):Nat→AV:=gH c fun k=>I (dq N (k-60))
def Ci(c:Lk)(N:ξ)(j:Nat):vN c N (60+j)=I (dq N j):=by
 unfold vN gH;rw[yL (show 20+8≤60+j from Nat.le_add_right_of_le (by decide)),Zt]
def wo(i:Nat):flA (aq ε (vN c N) z) (kU N.length i)=I (dq N i):=by
 unfold kU;cases h:Nat.blt i N.length with
 |true=>exact Ci c N i
 |false=>
  have:ae N i=none:=by
   rw[dt];exact ZG (Nat.le_of_not_lt fun q=>by rw[show i.blt N.length=true from Zd q] at h;injection h)
  unfold dq;rw[this];rfl
def wa(a b:Nat):Int.fmod (a:Int) (b:Int)=((a % b:Nat):Int):=by rw[Int.fmod_eq_emod_of_nonneg _ (cW b)];push_cast;rfl
def Gy(a b:Nat):Int.fdiv (a:Int) (b:Int)=((a / b:Nat):Int):=by rw[Int.fdiv_eq_ediv_of_nonneg _ (cW b)];push_cast;rfl
def ge(f a b d:Nat):List ξ:=[cZ (a % 11),cZ (b % 11),cZ (d % 11)].take (1+(f / 4+1) % 3)
def Be(a:Nat):cZ (a % 11)∈fW:=by
 have:=aB (show ((List.range 11).all fun a=>fW.any (bQ (cZ a)))=true by kernel_rfl) (a % 11) (il (Nat.mod_lt _ (by decide)));obtain⟨x,hx,e⟩:=List.any_eq_true.mp this;rw[fH.mp e];exact hx
def Im:∀ r∈ge f a b d,r∈fW:=fun r h=>by
 have h:=List.mem_of_mem_take h;rcases bk h with rfl|h
 ·exact Be a
 ·rcases bk h with rfl|h
  ·exact Be b
  ·rw[bU h];exact Be d
def A7(L:List ξ):da (am L):=by
 unfold da ii am;rw[List.flatMap_map];refine List.all_eq_true.mpr fun x hx=>?_;obtain⟨l,_,h⟩:=List.mem_flatMap.mp hx;rw[bU (show x∈[AV.str (.k l)] from h)];rfl
section
variable {w:World}{mg mb:ω}{ε0:Ev}(hw:ε0.P=w.params)
include hw
theorem Sr{c:Lk}{N:ξ}{t:Nat}{E T:ay}(hN:N.length≤8)(ht:t<2) :
  ∃ more,aH (ab w mg mb ε0) 150 [bT 0] ⟨bP c [(me,I t)],ah⟩ [.list (tI N),E,T] .next ⟨bP c (iO (I t) (I (dq N (4*t))) (I (dq N (4*t+1))) (I (dq N (4*t+2))) (I (dq N (4*t+3)))),ah⟩ ([.list (tI N),E,T]++more):=by
 have hj:=aB (aB Xb N.length (il (by lia))) t (show t∈List.range 2 from il ht);have ea:∀ z,bX (aq (dr ε0.P (fun U=>0) fun U=>[]) (vN c N) z) (ez 60 N.length)=tI N:=fun z=>zv N 60 fun j n hj=>by
  rw[Ci];unfold dq;rw[hj];rfl
 refine⟨bL (aq (dr ε0.P (fun U=>0) fun U=>[]) (vN c N) (tn T [T,E])) [.list (qm N.length t),.list sb,.list (qm N.length t++sb),.list (aQ 4 (qm N.length t++sb))],
  (df (v:=vN c N) (z:=(tn T [T,E])) hw (ε:=dr ε0.P (fun U=>0) fun U=>[]) rfl (cR _ _ _) (CO N.length t) (fun U U h=>by injection h) ⟨rfl,(by decide:3≤12),rfl⟩ hj).cast ?_ ?_ rfl ?_ ?_⟩
 ·show (⟨bP c [(me,.int (.k ((ax.k t).val _)))],ah⟩ : ag)=_
  rw[cF];rfl
 ·show [ay.list (bX _ (ez 60 N.length)),E,T]=_
  rw[ea]
 ·show (⟨bP c [(me,.int (.k ((ax.k t).val _))),(gO,flA _ (kU N.length (4*t))),(tg,flA _ (kU N.length (4*t+1))),(Bl,flA _ (kU N.length (4*t+2))),(B5,flA _ (kU N.length (4*t+3)))],ah⟩ : ag)=_
  rw[cF,wo,wo,wo,wo];rfl
 ·show [ay.list (bX _ (ez 60 N.length)),E,T]++_=_
  rw[ea];rfl
variable (he:ε0.Ok)
include he
theorem Nx{c:Lk}{t f:Nat}{a b d:AV}{σ:St}:aH (ab w mg mb ε0) 150 [bT 1,bT 2] ⟨bP c (iO (I t) (I f) a b d),ah⟩ σ .next ⟨bP c (iO (I t) (I (f*1733 % 5040:Nat)) a b d++[(dc,I (f % 3:Nat))]),ah⟩ σ:=by
 have e:(ai [] ac 3).exs ⟨bP c (iO (I t) (I f) a b d),ah⟩ σ [bT 1,bT 2]=some (.next,⟨bP c (iO (I t) (.int (.k (Int.fmod ((f*1733:Nat):Int) ((5040:Nat):Int)))) a b d++[(dc,.int (.k (Int.fmod (f:Int) ((3:Nat):Int))))]),ah⟩,σ):=by kernel_rfl
 rw[wa,wa] at e;exact jo hw he (by decide) e
omit he in
theorem M1{c:Lk}{t F a b d p:Nat}{D E T:ay}(ha:a<5040)(hb:b<5040)(hd:d<5040) :
  Yz (ab w mg mb ε0) 150 Ap ⟨bP c (iO (I t) (I F) (I a) (I b) (I d)++[(dc,I p)]),ah⟩ [D,E,T] (.cell 4) [D,E,T,.list [I a,I b,I d],.list (am [cZ (a % 11),cZ (b % 11),cZ (d % 11)])]:=by
 have m11:∀ t,t % 11∈List.range 11:=fun t=>il (Nat.mod_lt _ (by decide));have hj:=aB (aB (aB OK _ (m11 a)) _ (m11 b)) _ (m11 d);generalize hε:dr ε0.P (tn 0 [0,0,0,0,((a / 11:Nat):Int),((b / 11:Nat):Int),((d / 11:Nat):Int)]) (fun U=>[])=ε;have i8:ε.iv 8=((a / 11:Nat):Int):=by rw[←hε];kernel_rfl
 have i10:ε.iv 10=((b / 11:Nat):Int):=by rw[←hε];kernel_rfl
 have i12:ε.iv 12=((d / 11:Nat):Int):=by rw[←hε];kernel_rfl
 have e0:(0:Int)≤0∧(0:Int)≤0:=⟨cI _,cI _⟩;have l:∀ {a:Nat},a<5040→(0:Int)≤((a / 11:Nat):Int)∧((a / 11:Nat):Int)≤500:=fun h=>⟨cW _,vn (by lia)⟩;have bd:aV βr ε:=by rw[←hε];exact nQ ⟨e0,e0,e0,e0,e0,e0,e0,e0,l ha,e0,l hb,e0,l hd,trivial⟩
 have Y:=(uQ (mg:=mg) (mb:=mb) (b:=0) (v:=gH c (tO (fun U=>.none) 28 [some (I t),some (I F),some (I p)])) (z:=tn T [D,E]) hw (ε:=ε) (by rw[←hε];rfl) (by rw[←hε];exact cR _ _ _) (yf (a % 11) (b % 11) (d % 11)) bd (fun U U U=>nE) rfl hj).le (n:=150) (by show 10*3+0+30≤150;decide);have e11:∀ {x i:Nat},ε.iv i=((x / 11:Nat):Int)→flA (aq ε (gH c (tO (fun U=>.none) 28 [some (I t),some (I F),some (I p)])) (tn T [D,E])) (jh (x % 11) i)=I x:=fun {x i} h=>by
  have q:(ax.mk ((x % 11:Nat):Int) [(i,11)]).val ε=((x % 11:Nat):Int)+(11*ε.iv i+0):=by kernel_rfl
  show AV.int (.k ((ax.mk ((x % 11:Nat):Int) [(i,11)]).val ε))=I x;rw[q,h,show ((x % 11:Nat):Int)+(11*((x / 11:Nat):Int)+0)=(x:Int) by lia];rfl
 have el:cU (aq ε (gH c (tO (fun U=>.none) 28 [some (I t),some (I F),some (I p)])) (tn T [D,E])) (yf (a % 11) (b % 11) (d % 11)).ls=⟨bP c (iO (I t) (I F) (I a) (I b) (I d)++[(dc,I p)]),ah⟩:=by
  show (⟨bP c [(me,I t),(gO,I F),(tg,flA _ (jh (a % 11) 8)),(Bl,flA _ (jh (b % 11) 10)),(B5,flA _ (jh (d % 11) 12)),(dc,I p)],ah⟩ : ag)=_;rw[e11 i8,e11 i10,e11 i12];rfl
 have eq:bL (aq ε (gH c (tO (fun U=>.none) 28 [some (I t),some (I F),some (I p)])) (tn T [D,E])) (yf (a % 11) (b % 11) (d % 11)).Q=[D,E,T,.list [I a,I b,I d],.list (am [cZ (a % 11),cZ (b % 11),cZ (d % 11)])]:=by
  show [D,E,T,ay.list [flA _ (jh (a % 11) 8),flA _ (jh (b % 11) 10),flA _ (jh (d % 11) 12)],.list [.str (.k ((SS.k (cZ (a % 11))).val ε)),.str (.k ((SS.k (cZ (b % 11))).val ε)),.str (.k ((SS.k (cZ (d % 11))).val ε))]]=_;rw[e11 i8,e11 i10,e11 i12,dY,dY,dY];rfl
 rw[el,eq] at Y;exact Y
theorem Mr{c:Lk}{t F a b d p:Nat}{D E T:ay}(ha:a<5040)(hb:b<5040)(hd:d<5040) :
  aH (ab w mg mb ε0) 150 [bT 3] ⟨bP c (iO (I t) (I F) (I a) (I b) (I d)++[(dc,I p)]),ah⟩ [D,E,T] .next ⟨bP c (iO (I t) (I F) (I a) (I b) (I d)++[(dc,I p),(cQ,.cell 5)]),ah⟩ [D,E,T,.list [I a,I b,I d],.list (am [cZ (a % 11),cZ (b % 11),cZ (d % 11)]),.list (am (ge F a b d))]:=by
 have A:=cN (dM (mg:=mg) (mb:=mb) hw he) 300 12;have Y:=M1 (mg:=mg) (mb:=mb) (c:=c) (t:=t) (F:=F) (p:=p) (D:=D) (E:=E) (T:=T) hw ha hb hd;have h2:(ai [] ac 12).evo ⟨bP c (iO (I t) (I F) (I a) (I b) (I d)++[(dc,I p)]),ah⟩ [D,E,T,.list [I a,I b,I d],.list (am [cZ (a % 11),cZ (b % 11),cZ (d % 11)])] (some ip.hi)=some (some (.int (.k (1+Int.fmod (Int.fdiv (F:Int) ((4:Nat):Int)+1) ((3:Nat):Int)))),[D,E,T,.list [I a,I b,I d],.list (am [cZ (a % 11),cZ (b % 11),cZ (d % 11)])]):=by kernel_rfl
 rw[Gy,show ((F / 4:Nat):Int)+1=((F / 4+1:Nat):Int) by push_cast;rfl,wa,show (1:Int)+(((F / 4+1) % 3:Nat):Int)=((1+(F / 4+1) % 3:Nat):Int) by push_cast;rfl] at h2;have S:=Yz.slice (p2:=ip.p2) (pos:=ip.sp) he A.E Y (by kernel_rfl) h2 (show dC _ 4=some (am [cZ (a % 11),cZ (b % 11),cZ (d % 11)]) from rfl);rw[vM,show (am [cZ (a % 11),cZ (b % 11),cZ (d % 11)]).take (1+(F / 4+1) % 3)=am (ge F a b d) from List.map_take.symm] at S;have B:=Dz.asg (pos:=ip.p) (ts:=ip.ts) (ls1:=⟨bP c (iO (I t) (I F) (I a) (I b) (I d)++[(dc,I p),(cQ,.cell 5)]),ah⟩) (σ2:=[D,E,T,.list [I a,I b,I d],.list (am [cZ (a % 11),cZ (b % 11),cZ (d % 11)]),.list (am (ge F a b d))]) A.E A.S (by kernel_rfl) S (by kernel_rfl);rw[←OL] at B;exact Dz.one B
end
def sA:List Expr×Expr×Pos:=iI [bT 4] 0
def tZ:Expr×Operator×Expr×Pos:=bb sA.2.1
def sk:Expr×Operator×Expr×Pos:=bb tZ.2.2.1
def NJ:bT 4=.Assign sA.1 (.BinOp tZ.1 .Add (.BinOp sk.1 .Mult sk.2.2.1 sk.2.2.2) tZ.2.2.2) sA.2.2:=by kernel_rfl
def u7:Expr×List Stmt×List Stmt:=eK [bT 5] 0
def Ks:bT 5=.If u7.1 u7.2.1 [] (ck [bT 5] 0):=by kernel_rfl
noncomputable def βn:Bd:=[(0,0),(0,1000)]
def F5:cu:=⟨βn,ac,6,[],⟨oY [(dc,.any 28),(d6,.str [.var 0])],ah⟩,[.any 0,.any 1,.any 2],[bT 6],.next,14,oY [(dc,.any 28),(d6,.str [.var 0]),(oZ,c9 (.str [.var 0]))],[.any 0,.any 1,.any 2]⟩
def UM:F5.chk=true:=by kernel_rfl
def b7:Expr×List Stmt×List Stmt:=eK [bT 7] 0
def e7:Expr×List Stmt×List Stmt:=eK b7.2.2 0
def f7:Expr×List Stmt×List Stmt:=eK e7.2.2 0
def g1:List Expr×Expr×Pos:=iI f7.2.1 0
def g2:List Expr×Expr×Pos:=iI f7.2.2 0
def x0(l:List Stmt):Expr×Pos:=zj l 0
def x1(l:List Stmt):Expr×Pos:=zj l 1
def Mt:bT 7=.If b7.1 [.Expr (x0 b7.2.1).1 (x0 b7.2.1).2,.Expr (x1 b7.2.1).1 (x1 b7.2.1).2] [.If e7.1 [.Expr (x0 e7.2.1).1 (x0 e7.2.1).2,.Expr (x1 e7.2.1).1 (x1 e7.2.1).2]
 [.If f7.1 [.Assign g1.1 (.BinOp (bb g1.2.1).1 .Add (bb g1.2.1).2.2.1 (bb g1.2.1).2.2.2) g1.2.2,.Expr (x1 f7.2.1).1 (x1 f7.2.1).2] [.Assign g2.1 (.BinOp (bb g2.2.1).1 .Add (bb g2.2.1).2.2.1 (bb g2.2.1).2.2.2) g2.2.2,.Expr (x1 f7.2.2).1 (x1 f7.2.2).2] (ck e7.2.2 0)] (ck b7.2.2 0)] (ck [bT 7] 0):=by kernel_rfl
def gy(k:Nat)(a b m w l n r sh p v nd:AV):List (Str×AV):=e9 (.cell 0) a b m w l n r sh (.cell k) (.cell 2)++[(dc,p),(d6,v),(oZ,nd)]
def dJ(e:Expr)(l:List AV):nz:=⟨[],ac,6,[],⟨oY [(dc,.any 28),(d6,.any 29),(oZ,.any 30)],ah⟩,[.any 0,.any 1,.any 2],e,.cell 3,[.any 0,.any 1,.any 2,.list l]⟩
def xK(v:AV):List AV:=[lP,nv,v,jr 265]
def wv(v:AV):List AV:=[dL,v,jr 241]
def Hz:((dJ (bb g1.2.1).2.2.1 (xK (.any 30))).chk&&(dJ (bb g2.2.1).2.2.1 (wv (.any 30))).chk)=true:=by kernel_rfl
section
variable {a b m w l n r sh p v nd:AV}{k:Nat}{σ:St}{D E T:ay}{ev af:List AV}{F:Nat}{R:List ξ}{t:ξ}{d:Nat}{q:Bool}
def WT:(ai [] ac 3).ev ⟨e9 (.cell 0) a b m w l n r sh (.cell 1) (.cell 2)++[(gO,f),(dc,p),(cQ,.cell 3)],ah⟩ [D,E,T,.list (am R)] tZ.1=ob (oD (.k [10]) (am R)) fun t=>ob (fu [] t) fun r=>some (r,[D,E,T,.list (am R)]):=by kernel_rfl
def Ud:(ai [] ac 3).ev ⟨e9 (.cell 0) a b m w l n r sh (.cell 1) (.cell 2)++[(gO,f),(dc,p),(cQ,x)],ah⟩ σ sk.1=some (.str [.lit [10]],σ):=by kernel_rfl
def SG:(ai [] ac 3).ev ⟨e9 (.cell 0) a b m w l n r sh (.cell 1) (.cell 2)++[(gO,I F),(dc,p),(cQ,x)],ah⟩ σ sk.2.2.1=some (.int (.k (Int.fmod (Int.fdiv (F:Int) ((12:Nat):Int)) ((4:Nat):Int))),σ):=by kernel_rfl
def Vt:(ai [] ac 12).asgm ⟨e9 (.cell 0) a b m w l n r sh (.cell 1) (.cell 2)++[(gO,f),(dc,p),(cQ,x)],ah⟩ σ y sA.1=some (⟨e9 (.cell 0) a b m w l n r sh (.cell 1) (.cell 2)++[(gO,f),(dc,p),(cQ,x),(d6,y)],ah⟩,σ):=by kernel_rfl
def YA:(ai [] ac 3).tst ⟨e9 (.cell 0) a b m w l n r sh (.cell 1) (.cell 2)++[(gO,f),(dc,p),(cQ,x),(d6,.str (.k []))],ah⟩ σ u7.1=some (true,σ):=by kernel_rfl
def Ub:(ai [] ac 3).tst ⟨e9 (.cell 0) a b m w l n r sh (.cell 1) (.cell 2)++[(gO,f),(dc,p),(cQ,x),(d6,.str (.k (d::t)))],ah⟩ σ u7.1=some (false,σ):=by kernel_rfl
def Un:(ai [] ac 3).exs ⟨e9 (.cell 0) a b m w l n r sh (.cell 1) (.cell 2)++[(gO,f),(dc,p),(cQ,x),(d6,y)],ah⟩ σ u7.2.1=some (.next,⟨e9 (.cell 0) a b m w l n r sh (.cell 1) (.cell 2)++[(gO,f),(dc,p),(cQ,x),(d6,.str (.k [10]))],ah⟩,σ):=by kernel_rfl
def DS:(ai [] ac 3).tst ⟨gy 1 a b m w l n (.bool q) sh p v nd,ah⟩ σ b7.1=some (q,σ):=by kernel_rfl
def Vu:(ai [] ac 3).tst ⟨gy 1 a b m w l n r sh (I 0) v nd,ah⟩ σ e7.1=some (true,σ):=by kernel_rfl
def Yq:(ai [] ac 3).tst ⟨gy 1 a b m w l n r sh (I 1) v nd,ah⟩ σ e7.1=some (false,σ):=by kernel_rfl
def UV:(ai [] ac 3).tst ⟨gy 1 a b m w l n r sh (I 2) v nd,ah⟩ σ e7.1=some (false,σ):=by kernel_rfl
def MZ:(ai [] ac 3).tst ⟨gy 1 a b m w l n r sh (I 1) v nd,ah⟩ σ f7.1=some (true,σ):=by kernel_rfl
def So:(ai [] ac 3).tst ⟨gy 1 a b m w l n r sh (I 2) v nd,ah⟩ σ f7.1=some (false,σ):=by kernel_rfl
def Ml:(ai [] ac 3).ev ⟨gy 1 a b m w l n r sh p v nd,ah⟩ [D,.list ev,T] (x0 b7.2.1).1=gd (Nat.ble (lenA ev) 100000) (some (.none,[D,.list (ev++[nd]),T])):=by kernel_rfl
def Ur:(ai [] ac 3).ev ⟨gy 1 a b m w l n r sh p v nd,ah⟩ [D,.list ev,T] (x0 e7.2.1).1=gd (Nat.ble (lenA ev) 100000) (some (.none,[D,.list (ev++[nd]),T])):=by kernel_rfl
def RF:(ai [] ac 3).ev ⟨gy 1 a b m w l n r sh p v nd,ah⟩ [D,E,.list af] (x1 b7.2.1).1=gd (Nat.ble (lenA af) 100000) (some (.none,[D,E,.list (af++[.tup [.str (.k [45,45,45,32]),b,v]])])):=by kernel_rfl
def LX:(ai [] ac 3).ev ⟨gy 1 a b m w l n r sh p v nd,ah⟩ [D,E,.list af] (x1 e7.2.1).1=gd (Nat.ble (lenA af) 100000) (some (.none,[D,E,.list (af++[.tup [.str (.k [45,32]),b,v]])])):=by kernel_rfl
noncomputable def gk(b:Nat):ξ:=List.replicate (b-1) 32
def QV{b:Nat}(hb:b∈cO){X Y:ay}:(ai [] ac 3).ev ⟨gy 4 a (I b) m w l n r sh p v nd,ah⟩ [D,E,.list af,X,Y] (x1 f7.2.1).1=gd (Nat.ble (lenA af) 100000) (some (.none,[D,E,.list (af++[.tup [.str (.k (45::(gk b++[107,58,32]))),I (2*b:Nat),v]]),X,Y])):=by
 unfold cO at hb;simp only [List.mem_cons,Zp,or_false] at hb;rcases hb with rfl|rfl|rfl|rfl<;>kernel_rfl
def WE{b:Nat}(hb:b∈cO){X Y:ay}:(ai [] ac 3).ev ⟨gy 4 a (I b) m w l n r sh p v nd,ah⟩ [D,E,.list af,X,Y] (x1 f7.2.2).1=gd (Nat.ble (lenA af) 100000) (some (.none,[D,E,.list (af++[.tup [.str (.k (45::(gk b++[45,32]))),I (2*b:Nat),v]]),X,Y])):=by
 unfold cO at hb;simp only [List.mem_cons,Zp,or_false] at hb;rcases hb with rfl|rfl|rfl|rfl<;>kernel_rfl
def QT:(ai [] ac 3).ev ⟨gy 1 a b m w l n r sh p v nd,ah⟩ σ (bb g1.2.1).1=some (.cell 1,σ):=by kernel_rfl
def Ls:(ai [] ac 3).ev ⟨gy 1 a b m w l n r sh p v nd,ah⟩ σ (bb g2.2.1).1=some (.cell 1,σ):=by kernel_rfl
def PH:(ai [] ac 12).asgm ⟨gy 1 a b m w l n r sh p v nd,ah⟩ σ (.cell 4) g1.1=some (⟨gy 4 a b m w l n r sh p v nd,ah⟩,σ):=by kernel_rfl
def W7:(ai [] ac 12).asgm ⟨gy 1 a b m w l n r sh p v nd,ah⟩ σ (.cell 4) g2.1=some (⟨gy 4 a b m w l n r sh p v nd,ah⟩,σ):=by kernel_rfl
end
def Yz.addL(h1:Yz Γ n l ls σ (.cell i) σ1)(h2:Yz Γ n r ls σ1 (.cell j) σ2)(h3:ae σ2 i=some (.list x))(h4:ae σ2 j=some (.list y))(h5:lenA x+lenA y≤100000) :
  Yz Γ n (.BinOp l .Add r pos) ls σ (.cell (lenA σ2)) (σ2++[.list (x++y)]):=⟨by
 intro c A s m imm cs Q E C l Rp k;refine wpAny_BinOp (h1.h C l Rp fun hx tx ix cx va Rx xx qx=>h2.h C l (s:=sU s hx tx) Rx fun hy ty iy cy vb Ry xy qy=>?_);exact FP h3 h4 h5 C (s:=sU s hy ty) Ry (qx.ext xy) qy fun h' tk cs' val R' x' q'=>k h' tk iy cs' val R' (xx.trans (xy.trans x')) q'⟩
def tN(x:ξ)(i:Int)(v:ξ):da [.tup [.str (.k x),I i,.str (.k v)]]:=rfl
def Mf:∀ R:List ξ,oD (.k [10]) (am R)=some (.k (jn R)):=by
 intro R;induction R with
 |nil=>rfl
 |cons r t ih=>
  show ob (oD (.k [10]) (am t)) (fun x=>some (Bool.rec (motive:=fun U=>SS) ((SS.k r).app ((SS.k [10]).app x)) (.k r) (aI (am t))))=_;rw[ih];cases t with
  |nil=>rfl
  |cons r2 t=>
   show some ((SS.k r).app ((SS.k [10]).app (.k (jn (r2::t)))))=_;rw[yS,yS];rfl
def N7(h:r∈fW):r.length≤15:=by
 have:=aB (show (fW.all fun r=>Nat.ble (lenA r) 15)=true by kernel_rfl) r h;have:=dX this
 rwa [aR] at this
def M7:∀ {R:List ξ},(∀ r∈R,r∈fW)→fR R≤16*R.length:=by
 intro R;induction R with
 |nil=>intro _;exact Zc _
 |cons r t ih=>
  intro h;have a:=ih fun x hx=>h x (.tail _ hx);have b:=N7 (h r (.head _));show r.length+1+fR t≤16*(t.length+1);lia
def Lc(f a b d:Nat):(ge f a b d).length≤3:=by
 unfold ge;exact List.length_take_le' _ _
def JM(f a b d:Nat):(jn (ge f a b d)).length≤47:=by
 have h:(jn (ge f a b d)).length+1≤fR (ge f a b d)∨(jn (ge f a b d))=[]:=by
  have key:∀ R:List ξ,R≠[]→(jn R).length+1≤fR R:=fun R=>by
   induction R with
   |nil=>intro h;exact absurd rfl h
   |cons r t ih=>
    intro _;cases t with
    |nil=>show r.length+1≤r.length+1+0;exact Zc _
    |cons r2 t=>
     have:=ih (Zk _ _);show (r++10::jn (r2::t)).length+1≤r.length+1+fR (r2::t);rw[au,bJ];lia
  cases q:ge f a b d with
  |nil=>exact .inr rfl
  |cons r t=>exact .inl (key _ (Zk _ _))
 rcases h with h|h
 ·have:=M7 (Im (f:=f) (a:=a) (b:=b) (d:=d))
  have:=Lc f a b d;lia
 ·rw[h];exact ZA _
def mL(F a b d:Nat):ξ:=jn (ge F a b d)++bz (F / 12 % 4)
def H7(w:ξ):ξ:=List.rec [10] (fun c t U=>c::t) w
def kb(F a b d:Nat):ξ:=H7 (mL F a b d)
def frV(c:Lk)(p:Nat):ξ:=Bool.rec (tn (45::(gk c.best++[45,32])) [[45,32],45::(gk c.best++[107,58,32])] p) [45,45,45,32] c.root
def depN(c:Lk)(p:Nat):Nat:=Bool.rec (tn (2*c.best) [c.best] p) c.best c.root
def kX(c:Lk)(p:Nat)(v:ξ):AV:=.tup [.str (.k (frV c p)),I (depN c p),.str (.k v)]
def j9(c:Lk)(p:Nat)(v:ξ):List AV:=Bool.rec (kx p v) [c9 (.str (.k v))] c.root
section
variable {w:World}{mg mb:ω}{ε0:Ev}(hw:ε0.P=w.params)(he:ε0.Ok)
include hw he
theorem OT{c:Lk}{F a b d:Nat}{p:AV}{D E T:ay} :
  aH (ab w mg mb ε0) 150 ([bT 4]++[bT 5]) ⟨bP c [(gO,I F),(dc,p),(cQ,.cell 3)],ah⟩ [D,E,T,.list (am (ge F a b d))] .next ⟨bP c [(gO,I F),(dc,p),(cQ,.cell 3),(d6,.str (.k (kb F a b d)))],ah⟩ [D,E,T,.list (am (ge F a b d))]:=by
 have A:=cN (dM (mg:=mg) (mb:=mb) hw he) 300 12;have l:=JM F a b d;have lm:F / 12 % 4≤3:=by lia
 have ej:=WT (a:=I c.asked) (b:=I c.best) (m:=I c.more) (w:=I c.width) (l:=.str (.k c.lb)) (n:=.str (.k c.nl)) (r:=.bool c.root) (sh:=.bool c.shut) (f:=I F) (p:=p) (D:=D) (E:=E) (T:=T) (R:=ge F a b d);rw[Mf] at ej;replace ej:=ej.trans (show ob (fu [] (.k (jn (ge F a b d)))) _=_ by rw[AJ (by lia)];try rfl);have ef:=SG (a:=I c.asked) (b:=I c.best) (m:=I c.more) (w:=I c.width) (l:=.str (.k c.lb)) (n:=.str (.k c.nl)) (r:=.bool c.root) (sh:=.bool c.shut) (F:=F) (p:=p) (x:=.cell 3) (σ:=[D,E,T,.list (am (ge F a b d))]);rw[Gy,wa] at ef;have Y:=Yz.bin (pos:=tZ.2.2.2) he (eY (mg:=mg) (mb:=mb) hw he (d:=3) (by decide) ej) (Yz.bin (pos:=sk.2.2.2) he (eY (mg:=mg) (mb:=mb) hw he (d:=3) (by decide) Ud) (eY (mg:=mg) (mb:=mb) hw he (d:=3) (by decide) ef) (rc (by lia))) (kZ (by rw[au,Za];lia));have S4:=Dz.asg (pos:=sA.2.2) (ts:=sA.1) A.E A.S (by kernel_rfl) Y Vt;rw[←NJ] at S4;refine(Dz.one S4).append (Dz.one ?_);rw[Ks];show gi _ _ _ ⟨bP c [(gO,I F),(dc,p),(cQ,.cell 3),(d6,.str (.k (mL F a b d)))],ah⟩ _ _ ⟨bP c [(gO,I F),(dc,p),(cQ,.cell 3),(d6,.str (.k (H7 (mL F a b d))))],ah⟩ _;cases mL F a b d with
 |nil=>exact Dz.if_ (g7 hw he (d:=3) (by decide) YA) (jo hw he (d:=3) (by decide) Un)
 |cons x t=>exact Dz.if_ (g7 hw he (d:=3) (by decide) Ub) Dz.nil
omit he in
theorem Nu{v:ξ}(hv:v.length≤1000):aH (ab w mg mb ε0) 150 [bT 6] ⟨bP c [(dc,p),(d6,.str (.k v))],ah⟩ [D,E,T] .next ⟨bP c [(dc,p),(d6,.str (.k v)),(oZ,c9 (.str (.k v)))],ah⟩ [D,E,T]:=by
 refine(df (mg:=mg) (mb:=mb) (v:=gH c fun U=>p) (z:=tn T [D,E]) hw (ε:=dr ε0.P (fun U=>0) (tn [] [v])) rfl (cR _ _ _) F5 (nQ ⟨⟨cI 0,cI 0⟩,⟨cW _,vn hv⟩,trivial⟩) ⟨rfl,(by decide:6≤12),rfl⟩ UM).cast ?_ rfl rfl ?_ rfl
 ·show (⟨bP c [(dc,p),(d6,.str (.k (v++[])))],ah⟩ : ag)=_;rw[apN]
 ·show (⟨bP c [(dc,p),(d6,.str (.k (v++[]))),(oZ,c9 (.str (.k (v++[]))))],ah⟩ : ag)=_;rw[apN]
omit he in
theorem Go{c:Lk}{p v nd:AV}{D E T:ay}{e:Expr}{l:AV→List AV}(hj:(dJ e (l (.any 30))).chk=true)(hl:∀ ε v z,bX (aq ε v z) (l (.any 30))=l (v 30)) :
  Yz (ab w mg mb ε0) 150 e ⟨bP c [(dc,p),(d6,v),(oZ,nd)],ah⟩ [D,E,T] (.cell 3) [D,E,T,.list (l nd)]:=by
 have Y:=(uQ (mg:=mg) (mb:=mb) (b:=0) (v:=gH c (tO (fun U=>.none) 28 [some p,some v,some nd])) (z:=tn T [D,E]) hw (ε:=dr ε0.P (fun U=>0) fun U=>[]) rfl (cR _ _ _) (dJ e (l (.any 30))) (fun U U h=>by injection h) (fun U U U=>nE) rfl hj).le (n:=150) (by show 10*6+0+30≤150;decide);have eq:bL (aq (dr ε0.P (fun U=>0) fun U=>[]) (gH c (tO (fun U=>.none) 28 [some p,some v,some nd])) (tn T [D,E])) (dJ e (l (.any 30))).Q=[D,E,T,.list (l nd)]:=by
  show [D,E,T,ay.list (bX _ (l (.any 30)))]=_;rw[hl];rfl
 rw[eq] at Y;exact Y
theorem K9{c:Lk}(hb:c.best∈cO){p:Nat}(hp:p<3){v:ξ}{dl ev af:List AV}(f0:da dl)(f1:da ev)(f2:da af)(l1:ev.length≤1000)(l2:af.length≤1000) :
  Gz (ab w mg mb ε0) 300 [bT 7] ⟨bP c [(dc,I p),(d6,.str (.k v)),(oZ,c9 (.str (.k v)))],ah⟩ [.list dl,.list ev,.list af] .next ⟨bP c [],ah⟩ [.list dl,.list (ev++j9 c p v),.list (af++[kX c p v])]:=by
 have A:=cN (dM (mg:=mg) (mb:=mb) hw he) 300 12;obtain⟨c1,cb,c3,c4,c5,c6,root,c8⟩:=c;replace hb:cb∈cO:=hb;have le1:Nat.ble (lenA ev) 100000=true:=by rw[aR];exact Zd (by lia)
 have le2:Nat.ble (lenA af) 100000=true:=by rw[aR];exact Zd (by lia)
 have y:∀ {ls:ag} {σ σ':St} {e:Expr} {v:AV},(ai [] ac 3).ev ls σ e=some (v,σ')→Yz (ab w mg mb ε0) 150 e ls σ v σ':=fun q=>eY hw he (d:=3) (by decide) q;have tt:∀ {ls:ag} {σ:St} {e:Expr} {v:Bool},(ai [] ac 3).tst ls σ e=some (v,σ)→Tz (ab w mg mb ε0) 150 e ls σ v σ:=fun q=>g7 hw he (d:=3) (by decide) q;have ap:∀ {ls:ag} {σ σ':St} {e:Expr} {q:Pos},rF e=true→(ai [] ac 3).ev ls σ e=some (.none,σ')→gi (ab w mg mb ε0) 150 (.Expr e q) ls σ .next ls σ':=fun h q=>Dz.expr A.E h (y q);have fl:∀ {l:List AV},da l→da (af++l):=fun h=>f2.app h;rw[Mt];cases root with
 |true=>
  have D:=Dz.one (Dz.if_ (pos:=ck [bT 7] 0) (o:=[.If e7.1 [.Expr (x0 e7.2.1).1 (x0 e7.2.1).2,.Expr (x1 e7.2.1).1 (x1 e7.2.1).2] [.If f7.1 [.Assign g1.1 (.BinOp (bb g1.2.1).1 .Add (bb g1.2.1).2.2.1 (bb g1.2.1).2.2.2) g1.2.2,.Expr (x1 f7.2.1).1 (x1 f7.2.1).2] [.Assign g2.1 (.BinOp (bb g2.2.1).1 .Add (bb g2.2.1).2.2.1 (bb g2.2.1).2.2.2) g2.2.2,.Expr (x1 f7.2.2).1 (x1 f7.2.2).2] (ck e7.2.2 0)] (ck b7.2.2 0)]) (tt (DS (a:=I c1) (b:=I cb) (m:=I c3) (w:=I c4) (l:=.str (.k c5)) (n:=.str (.k c6)) (sh:=.bool c8) (p:=I p) (v:=.str (.k v)) (nd:=c9 (.str (.k v))) (q:=true) (σ:=[.list dl,.list ev,.list af])))
   (Dz.cons (ap (q:=(x0 b7.2.1).2) (by kernel_rfl) (Ml.trans (by rw[le1];rfl))) (Dz.one (ap (q:=(x1 b7.2.1).2) (by kernel_rfl) (RF.trans (by rw[le2];rfl))))))
  exact(D.gz (n':=300) (by decide)).pick he [0,1,2] [dl,ev++[c9 (.str (.k v))],af++[.tup [.str (.k [45,45,45,32]),I cb,.str (.k v)]]] (l1:=bP ⟨c1,cb,c3,c4,c5,c6,true,c8⟩ []) rfl rfl ⟨⟨rfl,f0⟩,⟨rfl,f1.app rfl⟩,⟨rfl,f2.app (tN _ _ _)⟩,trivial⟩ rfl fun x v h=>pN h
 |false=>
  have T0:=tt (DS (a:=I c1) (b:=I cb) (m:=I c3) (w:=I c4) (l:=.str (.k c5)) (n:=.str (.k c6)) (sh:=.bool c8) (p:=I p) (v:=.str (.k v)) (nd:=c9 (.str (.k v))) (q:=false) (σ:=[.list dl,.list ev,.list af]))
  match p,hp with
  |0,_=>
   have D:=Dz.one (Dz.if_ (pos:=ck [bT 7] 0) (b:=[.Expr (x0 b7.2.1).1 (x0 b7.2.1).2,.Expr (x1 b7.2.1).1 (x1 b7.2.1).2]) T0 (Dz.one (Dz.if_ (pos:=ck b7.2.2 0) (o:=[.If f7.1 [.Assign g1.1 (.BinOp (bb g1.2.1).1 .Add (bb g1.2.1).2.2.1 (bb g1.2.1).2.2.2) g1.2.2,.Expr (x1 f7.2.1).1 (x1 f7.2.1).2] [.Assign g2.1 (.BinOp (bb g2.2.1).1 .Add (bb g2.2.1).2.2.1 (bb g2.2.1).2.2.2) g2.2.2,.Expr (x1 f7.2.2).1 (x1 f7.2.2).2] (ck e7.2.2 0)]) (tt Vu)
    (Dz.cons (ap (q:=(x0 e7.2.1).2) (by kernel_rfl) (Ur.trans (by rw[le1];rfl))) (Dz.one (ap (q:=(x1 e7.2.1).2) (by kernel_rfl) (LX.trans (by rw[le2];rfl))))))))
   exact(D.gz (n':=300) (by decide)).pick he [0,1,2] [dl,ev++[c9 (.str (.k v))],af++[.tup [.str (.k [45,32]),I cb,.str (.k v)]]] (l1:=bP ⟨c1,cb,c3,c4,c5,c6,false,c8⟩ []) rfl rfl ⟨⟨rfl,f0⟩,⟨rfl,f1.app rfl⟩,⟨rfl,f2.app (tN _ _ _)⟩,trivial⟩ rfl fun x v h=>pN h
  |1,_=>
   have Yd:=Go (mg:=mg) (mb:=mb) (c:=⟨c1,cb,c3,c4,c5,c6,false,c8⟩) (p:=I ((1:Nat):Int)) (v:=.str (.k v)) (nd:=c9 (.str (.k v))) (D:=.list dl) (E:=.list ev) (T:=.list af) (l:=xK) hw (aA Hz).1 fun U U U=>rfl;have Y:=Yz.addL (pos:=(bb g1.2.1).2.2.2) (y QT) Yd (x:=ev) (y:=xK (c9 (.str (.k v)))) rfl rfl (by rw[aR];show ev.length+4≤_;lia);have S:=Dz.asg (pos:=g1.2.2) (ts:=g1.1) A.E A.S (by kernel_rfl) Y PH;have D:=Dz.one (Dz.if_ (pos:=ck [bT 7] 0) (b:=[.Expr (x0 b7.2.1).1 (x0 b7.2.1).2,.Expr (x1 b7.2.1).1 (x1 b7.2.1).2]) T0 (Dz.one (Dz.if_ (pos:=ck b7.2.2 0) (b:=[.Expr (x0 e7.2.1).1 (x0 e7.2.1).2,.Expr (x1 e7.2.1).1 (x1 e7.2.1).2]) (tt Yq) (Dz.one (Dz.if_ (pos:=ck e7.2.2 0) (o:=[.Assign g2.1 (.BinOp (bb g2.2.1).1 .Add (bb g2.2.1).2.2.1 (bb g2.2.1).2.2.2) g2.2.2,.Expr (x1 f7.2.2).1 (x1 f7.2.2).2]) (tt MZ)
    (S.cons (Dz.one (ap (q:=(x1 f7.2.1).2) (by kernel_rfl) ((QV hb).trans (by rw[le2];rfl))))))))))
   exact(D.gz (n':=300) (by decide)).pick he [0,4,2] [dl,ev++xK (c9 (.str (.k v))),af++[.tup [.str (.k (45::(gk cb++[107,58,32]))),I (2*cb:Nat),.str (.k v)]]] (l1:=e9 (.cell 0) (I c1) (I cb) (I c3) (I c4) (.str (.k c5)) (.str (.k c6)) ff (.bool c8) (.cell 4) (.cell 2)) rfl rfl ⟨⟨rfl,f0⟩,⟨rfl,f1.app rfl⟩,⟨rfl,f2.app (tN _ _ _)⟩,trivial⟩ rfl fun x v h=>pN h
  |2,_=>
   have Yd:=Go (mg:=mg) (mb:=mb) (c:=⟨c1,cb,c3,c4,c5,c6,false,c8⟩) (p:=I ((2:Nat):Int)) (v:=.str (.k v)) (nd:=c9 (.str (.k v))) (D:=.list dl) (E:=.list ev) (T:=.list af) (l:=wv) hw (aA Hz).2 fun U U U=>rfl;have Y:=Yz.addL (pos:=(bb g2.2.1).2.2.2) (y Ls) Yd (x:=ev) (y:=wv (c9 (.str (.k v)))) rfl rfl (by rw[aR];show ev.length+3≤_;lia);have S:=Dz.asg (pos:=g2.2.2) (ts:=g2.1) A.E A.S (by kernel_rfl) Y W7;have D:=Dz.one (Dz.if_ (pos:=ck [bT 7] 0) (b:=[.Expr (x0 b7.2.1).1 (x0 b7.2.1).2,.Expr (x1 b7.2.1).1 (x1 b7.2.1).2]) T0 (Dz.one (Dz.if_ (pos:=ck b7.2.2 0) (b:=[.Expr (x0 e7.2.1).1 (x0 e7.2.1).2,.Expr (x1 e7.2.1).1 (x1 e7.2.1).2]) (tt UV) (Dz.one (Dz.if_ (pos:=ck e7.2.2 0) (b:=[.Assign g1.1 (.BinOp (bb g1.2.1).1 .Add (bb g1.2.1).2.2.1 (bb g1.2.1).2.2.2) g1.2.2,.Expr (x1 f7.2.1).1 (x1 f7.2.1).2]) (tt So)
    (S.cons (Dz.one (ap (q:=(x1 f7.2.2).2) (by kernel_rfl) ((WE hb).trans (by rw[le2];rfl))))))))))
   exact(D.gz (n':=300) (by decide)).pick he [0,4,2] [dl,ev++wv (c9 (.str (.k v))),af++[.tup [.str (.k (45::(gk cb++[45,32]))),I (2*cb:Nat),.str (.k v)]]] (l1:=e9 (.cell 0) (I c1) (I cb) (I c3) (I c4) (.str (.k c5)) (.str (.k c6)) ff (.bool c8) (.cell 4) (.cell 2)) rfl rfl ⟨⟨rfl,f0⟩,⟨rfl,f1.app rfl⟩,⟨rfl,f2.app (tN _ _ _)⟩,trivial⟩ rfl fun x v h=>pN h
end
def FT(N:ξ)(t:Nat):Nat:=dq N (4*t)*1733 % 5040
def mB(N:ξ)(t:Nat):ξ:=kb (FT N t) (dq N (4*t+1)) (dq N (4*t+2)) (dq N (4*t+3))
noncomputable def fV(N:ξ):Nat→Nat→List (Nat×ξ)
 |_,0=>[]
 |k,m+1=>(dq N (4*k) % 3,mB N k)::fV N (k+1) m
def d9(c:Lk)(l:List (Nat×ξ)):List AV:=l.flatMap fun t=>j9 c t.1 t.2
def gQ(c:Lk)(l:List (Nat×ξ)):List AV:=l.map fun t=>kX c t.1 t.2
def JC:List Stmt:=[bT 0]++([bT 1,bT 2]++([bT 3]++(([bT 4]++[bT 5])++([bT 6]++[bT 7]))))
def OZ:gB.b=JC:=by kernel_rfl
def tw{l0 l1:List (Str×AV)}(h:(l1.map fun p=>lk p.1 l0)=l1.map fun p=>some p.2):∀ x v,lk x l1=some v→lk x l0=some v:=fun x v hx=>List.map_inj_left.mp h (x,v) (ja hx)
def HZ(c:Lk)(p:Nat)(v:ξ):(j9 c p v).length≤4:=by
 unfold j9;cases c.root with
 |true=>show 1≤4;decide
 |false=>match p with
  |0=>show 1≤4;decide
  |1=>exact Zc 4
  |_+2=>show 3≤4;decide
def RW(c:Lk)(p:Nat)(v:ξ):da (j9 c p v):=by
 unfold j9;cases c.root with
 |true=>rfl
 |false=>match p with
  |0=>rfl
  |1=>rfl
  |_+2=>rfl
def Ig(F a b d:Nat):(kb F a b d).length≤52:=by
 have l:=JM F a b d;have h:(mL F a b d).length≤50:=by
  unfold mL bz;rw[au,Za];lia
 unfold kb;generalize mL F a b d=x at *
 cases x with
 |nil=>show 1≤52;decide
 |cons=>exact Nat.le_trans h (by decide)
section
variable {w:World}{mg mb:ω}{ε0:Ev}(hw:ε0.P=w.params)(he:ε0.Ok)
variable {c:Lk}(hc:nR c){N:ξ}(hN:N.length≤8)(h5:∀ n∈N,n<5040)
include hw he hc hN h5
theorem TZ{t:Nat}{ev af:List AV}(ht:t<2)(f1:da ev)(f2:da af)(l1:ev.length≤1000)(l2:af.length≤1000) :
  Gz (ab w mg mb ε0) 300 JC ⟨bP c [(me,I t)],ah⟩ [.list (tI N),.list ev,.list af] .next ⟨bP c [],ah⟩ [.list (tI N),.list (ev++j9 c (dq N (4*t) % 3) (mB N t)),.list (af++[kX c (dq N (4*t) % 3) (mB N t)])]:=by
 have h5:∀ i,dq N i<5040:=fun i=>by
  unfold dq;cases h:ae N i with
  |none=>show 0<5040;decide
  |some n=>rw[dt] at h;exact h5 n (List.mem_of_getElem? h)
 obtain⟨more,D1⟩:=Sr (mg:=mg) (mb:=mb) (c:=c) (E:=.list ev) (T:=.list af) hw hN ht;have ha:=h5 (4*t+1);have hb:=h5 (4*t+2);have hd:=h5 (4*t+3);unfold mB FT;generalize dq N (4*t)=f at *
 generalize dq N (4*t+1)=a at *
 generalize dq N (4*t+2)=b at *
 generalize dq N (4*t+3)=d at *
 have G1:=(D1.gz (n':=300) (by decide)).pick he [0,1,2] [tI N,ev,af] (l1:=bP c (iO (I t) (I f) (I a) (I b) (I d))) rfl rfl ⟨⟨rfl,jv N⟩,⟨rfl,f1⟩,⟨rfl,f2⟩,trivial⟩ rfl fun U U h=>h;have G2:=(Nx (mg:=mg) (mb:=mb) (c:=c) (t:=t) (f:=f) (a:=I a) (b:=I b) (d:=I d) (σ:=[.list (tI N),.list ev,.list af]) hw he).gz (n':=300) (by decide);have D3:=Mr (mg:=mg) (mb:=mb) (c:=c) (t:=t) (F:=f*1733 % 5040) (p:=f % 3) (D:=.list (tI N)) (E:=.list ev) (T:=.list af) hw he ha hb hd;generalize f*1733 % 5040=F at *
 have hp:f % 3<3:=Nat.mod_lt _ (by decide);generalize f % 3=p at *
 have G3:=(D3.gz (n':=300) (by decide)).pick he [0,1,2,5] [tI N,ev,af,am (ge F a b d)] (l1:=bP c [(gO,I F),(dc,I p),(cQ,.cell 5)]) rfl rfl ⟨⟨rfl,jv N⟩,⟨rfl,f1⟩,⟨rfl,f2⟩,⟨rfl,A7 _⟩,trivial⟩ rfl (tw (by kernel_rfl));have G4:=((OT (mg:=mg) (mb:=mb) (c:=c) (F:=F) (a:=a) (b:=b) (d:=d) (p:=I p) (D:=.list (tI N)) (E:=.list ev) (T:=.list af) hw he).gz (n':=300) (by decide)).pick he [0,1,2] [tI N,ev,af] (l1:=bP c [(dc,I p),(d6,.str (.k (kb F a b d)))]) rfl rfl ⟨⟨rfl,jv N⟩,⟨rfl,f1⟩,⟨rfl,f2⟩,trivial⟩ rfl (tw (by kernel_rfl));have vl:=Ig F a b d;have G5:=(Nu (mg:=mg) (mb:=mb) (c:=c) (p:=I p) (v:=kb F a b d) (D:=.list (tI N)) (E:=.list ev) (T:=.list af) hw (by lia)).gz (n':=300) (by decide);have G6:=K9 (mg:=mg) (mb:=mb) (v:=kb F a b d) hw he hc.b hp (jv N) f1 f2 l1 l2;exact G1.app (G2.app (G3.app (G4.app (G5.app G6))))
theorem SW:∀ (m k:Nat) {ev af:List AV},k+m≤2→da ev→da af→ev.length+4*m≤1000→af.length+m≤1000 →
  rh (ab w mg mb ε0) 300 gB.t gB.b k m ⟨bP c [],ah⟩ [.list (tI N),.list ev,.list af] ⟨bP c [],ah⟩ [.list (tI N),.list (ev++d9 c (fV N k m)),.list (af++gQ c (fV N k m))]∧da (ev++d9 c (fV N k m))∧da (af++gQ c (fV N k m)):=by
 intro m;induction m with
 |zero=>
  intro k ev af _ f1 f2 _ _;rw[show d9 c (fV N k 0)=[] from rfl,show gQ c (fV N k 0)=[] from rfl,apN,apN];exact⟨.done,f1,f2⟩
 |succ m ih=>
  intro k ev af hk f1 f2 l1 l2;have le:=HZ c (dq N (4*k) % 3) (mB N k);have G:=TZ (mg:=mg) (mb:=mb) (t:=k) hw he hc hN h5 (by lia) f1 f2 (by lia) (by lia);obtain⟨it,g1,g2⟩:=ih (k+1) (ev:=ev++j9 c (dq N (4*k) % 3) (mB N k)) (af:=af++[kX c (dq N (4*k) % 3) (mB N k)]) (by lia) (f1.app (RW _ _ _)) (f2.app (tN _ _ _)) (by rw[au];lia) (by rw[au];show _+1+m≤_;lia);have e1:ev++d9 c (fV N k (m+1))=(ev++j9 c (dq N (4*k) % 3) (mB N k))++d9 c (fV N (k+1) m):=by rw[aC];rfl
  have e2:af++gQ c (fV N k (m+1))=(af++[kX c (dq N (4*k) % 3) (mB N k)])++gQ c (fV N (k+1) m):=by rw[aC];rfl
  rw[e1,e2];have Z:Az (ab w mg mb ε0) 150 gB.t (.int (.k (.ofNat k))) ⟨bP c [],ah⟩ [.list (tI N),.list ev,.list af] ⟨bP c [(me,I k)],ah⟩ [.list (tI N),.list ev,.list af]:=iS hw he (show (ai [] ac 0).asg ⟨bP c [],ah⟩ [.list (tI N),.list ev,.list af] (.int (.k (.ofNat k))) gB.t=some (⟨bP c [(me,I k)],ah⟩,[.list (tI N),.list ev,.list af]) by kernel_rfl);exact⟨.step (Z.le (by decide)).h (by rw[OZ];exact G.h) it,g1,g2⟩
end
def gx(n:Nat)(q:Bool):Nat:=Bool.rec (max 1 ((n+3) / 4)) 1 q
def I6(n:Nat)(q:Bool):nz:=⟨[],ac,3,[],⟨e9 (.cell 0) (.any 20) (.any 21) (.any 22) (.any 23) (.any 24) (.any 25) (.bool q) (.any 27) (.cell 1) (.cell 2),ah⟩,[.list (ez 60 n),.any 1,.any 2],gB.it,.rng (gx n q),[.list (ez 60 n),.any 1,.any 2]⟩
def KQ:((List.range 9).all fun n=>tf.all fun q=>(I6 n q).chk)=true:=by kernel_rfl
def PP:bS 13=.For gB.t gB.it gB.b [] gB.p∧iZ gB.t=true∧jE gB.it=true:=by exact⟨by kernel_rfl,by kernel_rfl,by kernel_rfl⟩
def mi(q:Bool):List AV:=Bool.rec [jr 241] [] q
def oA(s:Bool):List AV:=[o8 s,jr 145]
def C9(q s:Bool)(n:Nat):cu:=⟨[],ac,3,[],⟨e9 (.cell 0) (.any 20) (.any 21) (.any 22) (.any 23) (.any 24) (.any 25) (.bool q) (.bool s) (.cell 1) (.cell 2),ah⟩,[.any 0,.list (ez 60 n),.any 2],[bS 14,bS 15],.next,11,
 e9 (.cell 0) (.any 20) (.any 21) (.any 22) (.any 23) (.any 24) (.any 25) (.bool q) (.bool s) (.cell 4) (.cell 2),[.any 0,.list (ez 60 n++mi q),.any 2,.list (oA s),.list ((ez 60 n++mi q)++oA s)]⟩
def TN:(tf.all fun q=>tf.all fun s=>(List.range 12).all fun n=>(C9 q s n).chk)=true:=by kernel_rfl
def yI(i:Nat):AV:=match i with|23=>.none|_=>ff
noncomputable def zR:ay:=.list [.str [.lit [13]],.str [.lit [10]],.str [.lit [13,10]]]
def Cm(a b m l:AV)(o:List (Str×AV)):List (Str×AV):=e9 (.cell 0) a b m (.any 23) l (.any 25) (.any 26) (.any 27) (.cell 1) (.cell 2)++o
def Ni(b bw:Nat)(nl:ξ):St:=aT (tO (fun i=>.any i) 0 [none,none,none,some (.inst 771 [(cQ,.cell 4)]),some (.list []),none,some (.list []),some (.list []),some (.list []),some zR]) (iG b0 ff (I 0) (I 0) (I b) (I bw) (.str (.k nl)) yI)
def HT(r0 r1 r2:Nat):cu:=⟨[],ac,6,[],⟨Cm (I (fE r0)) (I (iP (fE r0))) (I (jj r1)) (.str (.k (iM r2))) [],ah⟩,[.any 0,.any 1,.any 2],[bS 16],.next,12,Cm (I (fE r0)) (I (iP (fE r0))) (I (jj r1)) (.str (.k (iM r2))) [(yl,.cell 5)],Ni (iP (fE r0)) (rI (iP (fE r0)) (jj r1)) (oU (iM r2))⟩
def OF:((List.range 6).all fun r0=>(List.range 6).all fun r1=>(List.range 4).all fun r2=>(HT r0 r1 r2).chk)=true:=by kernel_rfl
structure PG where
 t:Expr
 it:Expr
 o:Expr
 x:Str
 ap:Pos
 as:List Expr
 cp:Pos
 p:Pos
 p2:Pos
def eJ:PG:=match bS 17 with|.For t it [.Expr (.Call (.Attribute o x ap) as _ cp) p] _ p2=>⟨t,it,o,x,ap,as,cp,p,p2⟩|_=>⟨.Constant .none 0 default,.Constant .none 0 default,.Constant .none 0 default,n0,default,[],default,default,default⟩
def Bp:Stmt:=.Expr (.Call (.Attribute eJ.o eJ.x eJ.ap) eJ.as [] eJ.cp) eJ.p
def K8:bS 17=.For eJ.t eJ.it [Bp] [] eJ.p2:=by kernel_rfl
def Tu:eC 330 hG=some (cJ 330):=by kernel_rfl
def Lb:∀ (L:List AV) (i:Nat),(∀ j a,ae L j=some a→v (i+j)=a)→bX (aq ε v z) (ez i L.length)=L:=by
 intro L;induction L with
 |nil=>intro _ _;rfl
 |cons a r ih=>
  intro i h;show v i::bX (aq ε v z) (ez (i+1) r.length)=a::r;rw[ih (i+1) fun j n hj=>by rw[show i+1+j=i+(j+1) by lia];exact h (j+1) n hj,show v i=a from h 0 a rfl]
def Bs(φ:eO)(a b:List AV):bX φ (a++b)=bX φ a++bX φ b:=Zb
def CR.rows0(h:CR Γ imm ρ c (.list [])):CR Γ imm ρ c (.rows (SS.k []) (.k 0)):=by
 apply gg h.list_inv;intro _ _ _ e0 v _;subst e0;(obtain e:_=_:=ar.inv v;subst e);exact .rows (by rw[dY];exact .nil) (jm _) (by rw[cF];exact cI 0)
def bh.rows0(h:bh Γ imm ρ cs σ):∀ k,ae σ k=some (.list [])→bh Γ imm ρ cs (cC σ k (.rows (SS.k []) (.k 0))):=by
 induction h with
 |nil=>intro k e;injection e
 |cons h g ih=>
  intro k e;cases k with
  |zero=>exact .cons (osI e▸h).rows0 g
  |succ k=>exact .cons h (ih k e)
def Gz.rows0(H:Gz Γ n ss ls σ f ls' σ')(k:Nat)(hk:ae σ' k=some (.list [])):Gz Γ n ss ls σ f ls' (cC σ' k (.rows (SS.k []) (.k 0))):=⟨by
 obtain⟨H⟩:=H;intro c A s m imm cs Q E C l R q;exact H C l R fun h' tk m' imm' cs' fl R' l' x' f'=>q h' tk m' imm' cs' fl ⟨R'.F,R'.N,R'.nd,R'.C.rows0 k hk,R'.l⟩ l' x' f'⟩
def nr(σ:St)(k:Nat):ay:=(ae σ k).getD (.list [])
def zE(A B C:ay):Nat→ay:=(tn zR [A,B,C])
def eg(c:Lk)(o:List (Str×AV)):List (Str×AV):=bP c ((yl,.cell 5)::o)
noncomputable def cX(c:Lk):Gs:=⟨c.best,c.nl,c.width⟩
def uy(c:Lk)(ev:List AV):Nat→AV:=gH c fun k=>(ae ev (k-60)).getD .none
def Iy:bX (aq ε (uy c ev) z) (ez 60 ev.length)=ev:=Lb ev 60 fun j a h=>by
 have:uy c ev (60+j)=(ae ev (60+j-60)).getD .none:=by
  unfold uy gH;exact yL (show 20+8≤60+j from Nat.le_add_right_of_le (by decide))
 rw[this,Zt,h];rfl
section
variable {w:World}{mg mb:ω}{ε0:Ev}(hw:ε0.P=w.params)(he:ε0.Ok)
include hw he
theorem SJ(hc:nR c){N:ξ}(hN:N.length≤8)(h5:∀ n∈N,n<5040)(f1:da ev)(f2:da af)(l1:ev.length≤100)(l2:af.length≤100) :
  Gz (ab w mg mb ε0) 300 [bS 13] ⟨bP c [],ah⟩ [.list (tI N),.list ev,.list af] .next ⟨bP c [],ah⟩ [.list (tI N),.list (ev++d9 c (fV N 0 (gx N.length c.root))),.list (af++gQ c (fV N 0 (gx N.length c.root)))]∧da (ev++d9 c (fV N 0 (gx N.length c.root)))∧da (af++gQ c (fV N 0 (gx N.length c.root))):=by
 have hj:=aB (aB KQ N.length (il (by lia))) c.root (iV _);have hk:gx N.length c.root≤2:=by
  unfold gx;cases c.root with
  |true=>show 1≤2;decide
  |false=>show max 1 ((N.length+3) / 4)≤2;lia
 have Y:=(uQ (mg:=mg) (mb:=mb) (b:=0) (v:=vN c N) (z:=nr [.list (tI N),.list ev,.list af]) hw (ε:=dr ε0.P (fun U=>0) fun U=>[]) rfl (cR _ _ _) (I6 N.length c.root) (fun U U h=>by injection h) (fun U U U=>nE) rfl hj).le (n:=300) (by show 10*3+0+30≤300;decide);have ea:bL (aq (dr ε0.P (fun U=>0) fun U=>[]) (vN c N) (nr [.list (tI N),.list ev,.list af])) [.list (ez 60 N.length),.any 1,.any 2]=[.list (tI N),.list ev,.list af]:=by
  show [ay.list (bX _ (ez 60 N.length)),.list ev,.list af]=_;rw[zv N 60 fun j n hj=>by rw[Ci];unfold dq;rw[hj];rfl]
 have Y:Yz (ab w mg mb ε0) 300 gB.it ⟨bP c [],ah⟩ [.list (tI N),.list ev,.list af] (.rng (gx N.length c.root)) [.list (tI N),.list ev,.list af]:=by
  rw[←ea];exact Y
 obtain⟨it,g1,g2⟩:=SW (mg:=mg) (mb:=mb) hw he hc hN h5 (gx N.length c.root) 0 (by lia) f1 f2 (by lia) (by lia);apply fj (pP.all (idx:=[0,1,2]) (σ:=[.list (tI N),.list ev,.list af]) (js:=[0,1,2]) (τ:=[tI N,ev,af]) ⟨⟨rfl,jv N⟩,⟨rfl,f1⟩,⟨rfl,f2⟩,trivial⟩);intro o2 o3 e;apply fj PP;intro q1 q2 q3;have G:eu (ab w mg mb ε0) 300 (fun c=>exec (.For gB.t gB.it gB.b [] gB.p) c.env) ⟨bP c [],ah⟩ [.list (tI N),.list ev,.list af] .next ⟨bP c [],ah⟩ [.list (tI N),.list (ev++d9 c (fV N 0 (gx N.length c.root))),.list (af++gQ c (fV N 0 (gx N.length c.root)))] :=
  eu.range (idx:=[0,1,2]) he q2 q3 Y.h (Zf.mpr ⟨rfl,Zf.mpr ⟨o2,Zf.mpr ⟨o3,rfl⟩⟩⟩) (by rw[show so [0,1,2] _=_ from e];exact it)
 rw[←q1] at G;exact⟨⟨eu.cons @G eu.nil⟩,g1,g2⟩
def g8(c:Lk):List AV:=mi c.root++oA c.shut
theorem RN{dl ev af:List AV}(hn:ev.length<12)(f0:da dl)(f1:da ev)(f2:da af) :
  Gz (ab w mg mb ε0) 300 [bS 14,bS 15] ⟨bP c [],ah⟩ [.list dl,.list ev,.list af] .next ⟨bP c [],ah⟩ [.list dl,.list (ev++g8 c),.list af]:=by
 have hj:=aB (aB (aB TN c.root (iV _)) c.shut (iV _)) ev.length (il hn);have J:=df (mg:=mg) (mb:=mb) (v:=uy c ev) (z:=nr [.list dl,.list ev,.list af]) hw (ε:=dr ε0.P (fun U=>0) fun U=>[]) rfl (cR _ _ _) (C9 c.root c.shut ev.length) (fun U U h=>by injection h) ⟨rfl,(by decide:3≤12),rfl⟩ hj;have fe:da (mi c.root):=by cases c.root<;>rfl
 have fs:da (oA c.shut):=rfl;have se:bX (aq (dr ε0.P (fun U=>0) fun U=>[]) (uy c ev) (nr [.list dl,.list ev,.list af])) (mi c.root)=mi c.root:=by cases c.root<;>rfl
 have J2:=J.cast (ls':=⟨bP c [],ah⟩) (σ':=[.list dl,.list ev,.list af]) (f':=.next) (l1':=⟨e9 (.cell 0) (I c.asked) (I c.best) (I c.more) (I c.width) (.str (.k c.lb)) (.str (.k c.nl)) (.bool c.root) (.bool c.shut) (.cell 4) (.cell 2),ah⟩) (s1':=[.list dl,.list (ev++mi c.root),.list af,.list (oA c.shut),.list (ev++g8 c)]) rfl (by
   show [ay.list dl,.list (bX _ (ez 60 ev.length)),.list af]=_;rw[Iy]) rfl rfl (by
   show [ay.list dl,.list (bX _ (ez 60 ev.length++mi c.root)),.list af,.list (oA c.shut),.list (bX _ ((ez 60 ev.length++mi c.root)++oA c.shut))]=_;rw[Bs,Bs,Bs,Iy,se,aC];rfl)
 exact(J2.gz (n':=300) (by decide)).pick he [0,4,2] [dl,ev++g8 c,af] (l1:=e9 (.cell 0) (I c.asked) (I c.best) (I c.more) (I c.width) (.str (.k c.lb)) (.str (.k c.nl)) (.bool c.root) (.bool c.shut) (.cell 4) (.cell 2)) rfl rfl ⟨⟨rfl,f0⟩,⟨rfl,f1.app (fe.app fs)⟩,⟨rfl,f2⟩,trivial⟩ rfl fun U U h=>h
omit he in
theorem M2:Gz (ab w mg mb ε0) 300 [bS 16] ⟨bP (aY t0 t1 t2 t3) [],ah⟩ [A,B,C] .next ⟨eg (aY t0 t1 t2 t3) [],ah⟩ (hJ (cX (aY t0 t1 t2 t3)) (zE A B C) b0 [] (oi yI)):=by
 have m6:∀ t,t % 6∈List.range 6:=fun t=>il (Nat.mod_lt _ (by decide));have hj:=aB (aB (aB OF _ (m6 t0)) _ (m6 t1)) (t2 % 4) (il (Nat.mod_lt _ (by decide)));have eN:∀ ε v z (n:Nat),flA (aq ε v z) (I n)=I n:=fun ε v z n=>by show AV.int (.k ((ax.k n).val _))=_;rw[cF];rfl
 have el:∀ m,cU (aq (dr ε0.P (fun U=>0) fun U=>[]) (gH (aY t0 t1 t2 t3) fun U=>.none) (nr [A,B,C])) ⟨Cm (I (fE (t0 % 6))) (I (iP (fE (t0 % 6)))) (I (jj (t1 % 6))) (.str (.k (iM (t2 % 4)))) m,ah⟩=⟨bP (aY t0 t1 t2 t3) (fQ (aq (dr ε0.P (fun U=>0) fun U=>[]) (gH (aY t0 t1 t2 t3) fun U=>.none) (nr [A,B,C])) m),ah⟩:=fun m=>by
  show (⟨e9 (.cell 0) (flA _ (I (fE (t0 % 6)))) (flA _ (I (iP (fE (t0 % 6))))) (flA _ (I (jj (t1 % 6)))) _ (.str (.k ((SS.k (iM (t2 % 4))).val _))) _ _ _ _ _++_,ah⟩ : ag)=_;rw[eN,eN,eN,dY];rfl
 have J:=(df (mg:=mg) (mb:=mb) (v:=gH (aY t0 t1 t2 t3) fun U=>.none) (z:=nr [A,B,C]) hw (ε:=dr ε0.P (fun U=>0) fun U=>[]) rfl (cR _ _ _) (HT (t0 % 6) (t1 % 6) (t2 % 4)) (fun U U h=>by injection h) ⟨rfl,(by decide:6≤12),rfl⟩ hj).cast (el []) rfl rfl (el [(yl,.cell 5)]) (s1':=aT (tO (fun i=>zE A B C i) 0 [none,none,none,some (.inst 771 [(cQ,.cell 4)]),some (.list []),none,some (.list []),some (.list []),some (.list [])]) (iG b0 ff (I 0) (I 0) (I (aY t0 t1 t2 t3).best) (I (aY t0 t1 t2 t3).width) (.str (.k (aY t0 t1 t2 t3).nl)) yI)) (by
   have e:fC (aq (dr ε0.P (fun U=>0) fun U=>[]) (gH (aY t0 t1 t2 t3) fun U=>.none) (nr [A,B,C])) (fg (iG b0 ff (I 0) (I 0) (I (aY t0 t1 t2 t3).best) (I (aY t0 t1 t2 t3).width) (.str (.k (aY t0 t1 t2 t3).nl)) yI))=fg (iG b0 ff (I 0) (I 0) (I (aY t0 t1 t2 t3).best) (I (aY t0 t1 t2 t3).width) (.str (.k (aY t0 t1 t2 t3).nl)) yI):=by
    show fg (iG b0 ff (I 0) (I 0) (flA _ (I (aY t0 t1 t2 t3).best)) (flA _ (I (aY t0 t1 t2 t3).width)) (.str (.k ((SS.k (aY t0 t1 t2 t3).nl).val _))) yI)=_;rw[eN,eN,dY]
   show [A,B,C,ay.inst 771 [(cQ,.cell 4)],.list [],fC _ (fg (iG b0 ff (I 0) (I 0) (I (aY t0 t1 t2 t3).best) (I (aY t0 t1 t2 t3).width) (.str (.k (aY t0 t1 t2 t3).nl)) yI)),.list [],.list [],.list [],zR]=_;rw[e];rfl)
 exact(J.gz (n':=300) (by decide)).rows0 4 rfl
theorem MY(R:Rz (ab w mg mb ε0) 295 σ 330 [.cell 5,e] .none σ1)(E:Dv C σ):aH (ab w mg mb ε0) 300 [Bp] ⟨eg c [(jp,e)],ah⟩ σ .next ⟨eg c [(jp,e)],ah⟩ σ1:=by
 have P:=dM (mg:=mg) (mb:=mb) hw he;have A:=cN P 300 27;apply bq (P.hf 330 _ Tu);intro g1 _;obtain⟨_,x,hx⟩:=E;have Y:=LJ (P:=P) (N:=300) (d:=27) (f:=330) (vs:=[e]) (ov:=.cell 5) (o:=eJ.o) (x:=eJ.x) (ap:=eJ.ap) (cp:=eJ.cp) (as:=eJ.as) (σ:=σ) (ls:=⟨eg c [(jp,e)],ah⟩) g1 R (by kernel_rfl) (by kernel_rfl) (by
  show obp (ob (ae σ 5) yj) (fun C fs=>Option.rec (motive:=fun U=>κ AV) (ob ((d7 [] ac).ci C) fun c=>tq 5 eJ.x c) (fun v=>gd (tJ v) (some v)) (lk eJ.x fs))=_;rw[hx];kernel_rfl) (by kernel_rfl) (by kernel_rfl)
 exact(Dz.expr (pos:=eJ.p) A.E (by kernel_rfl) Y).one
theorem WD:∀ (es pre:List AV) {σ σ':St} (o:List (Str×AV)),k9 (ab w mg mb ε0) 295 (.list evs) es σ σ'→evs=pre++es→ae σ' 1=some (.list evs)→(o=[]∨∃ u,o=[(jp,u)]) →
  ∃ o',Fz (ab w mg mb ε0) 300 eJ.t [Bp] (.lst 1 pre.length) ⟨eg c o,ah⟩ σ .next ⟨eg c o',ah⟩ σ':=by
 intro L0;induction L0 with
 |nil=>
  intro pre σ σ' o h e hf _;obtain rfl:σ=σ':=h;refine⟨o,.stop ?_⟩;show ob (ob (ae σ 1) fJ) (fun xs=>some (mH 1 pre.length xs))=_;rw[hf];show some (ob (ae evs pre.length) fun v=>some (v,It.lst 1 (pre.length+1)))=_;rw[e,apN,dt,ZG (Zc _)];rfl
 |cons a es ih=>
  intro pre σ σ' o h e hf ho;obtain⟨σ1,⟨R,E⟩,H⟩:=h;obtain⟨o',F⟩:=ih (pre++[a]) [(jp,a)] H (by rw[e,aC];rfl) hf (.inr ⟨a,rfl⟩);rw[au] at F;have hn:jw σ (.lst 1 pre.length)=some (some (a,.lst 1 (pre.length+1))):=by
   show ob (ob (ae σ 1) fJ) (fun xs=>some (mH 1 pre.length xs))=_;rw[E.1];show some (ob (ae evs pre.length) fun v=>some (v,It.lst 1 (pre.length+1)))=_;rw[e,dt,List.getElem?_append_right (Zc _),Nat.sub_self];rfl
  have S:Az (ab w mg mb ε0) 150 eJ.t a ⟨eg c o,ah⟩ σ ⟨eg c [(jp,a)],ah⟩ σ:=by
   rcases ho with rfl|⟨u,rfl⟩
   ·exact iS hw he (show (ai [] ac 0).asg ⟨eg c [],ah⟩ σ a eJ.t=some (⟨eg c [(jp,a)],ah⟩,σ) by kernel_rfl)
   ·exact iS hw he (show (ai [] ac 0).asg ⟨eg c [(jp,u)],ah⟩ σ a eJ.t=some (⟨eg c [(jp,a)],ah⟩,σ) by kernel_rfl)
  exact⟨o',.step hn (S.le (by decide)) (MY hw he R E) F⟩
theorem Lx(H:k9 (ab w mg mb ε0) 295 (.list evs) evs σ σ')(h1:ae σ 1=some (.list evs))(hf:ae σ' 1=some (.list evs)):∃ o,aH (ab w mg mb ε0) 300 [bS 17] ⟨eg c [],ah⟩ σ .next ⟨eg c o,ah⟩ σ':=by
 apply bC (WD hw he evs [] [] H rfl hf (.inl rfl));intro o F;have Y:Yz (ab w mg mb ε0) 150 eJ.it ⟨eg c [],ah⟩ σ (.cell 1) σ:=eY hw he (d:=0) (by decide) (by kernel_rfl);rw[K8];exact⟨o,(Dz.for_ (pos:=eJ.p2) (by kernel_rfl) (by kernel_rfl) (Y.le (by decide)) (show ob (ob (ae σ 1) fJ) (fun U=>some (It.lst 1 0))=some (.lst 1 0) by rw[h1];rfl) F).one⟩
end
structure Vz (Γ:aw) (n:Nat) (es:List Expr) (ls:ag) (σ:St) (vs:List AV) (σ':St):Prop where
 a:(∀ e∈es,gU e=true)∧es.length=vs.length
 h:di Γ n (fun c=>spliced (kg es c)) ls σ (nX Γ vs) σ'
section
variable {Γ:aw}{n:Nat}{ls:ag}{σ σ1 σ2:St}{e:Expr}{es:List Expr}{v:AV}{vs:List AV}
def Vz.nil:Vz Γ n [] ls σ [] σ:=⟨⟨fun U q=>(nomatch q),rfl⟩,by
 intro c A s m imm cs Q E C l R k;exact spliced_nil (k s.heap s.toks imm cs _ R (aD.refl ..) .nil)⟩
def Vz.cons(hs:gU e=true)(h:Yz Γ n e ls σ v σ1)(g:Vz Γ n es ls σ1 vs σ2):Vz Γ n (e::es) ls σ (v::vs) σ2:=⟨⟨fun e' q=>(bk q).elim (fun q=>q▸hs) (g.a.1 e'),congrArg (·+1) g.a.2⟩,by
 intro c A s m imm cs Q E C l R k;refine spliced_cons (h.h C l R fun h1 t1 i1 c1 va R1 x1 q1=>g.h C l R1 fun h2 t2 i2 c2 vb R2 x2 q2=>?_);exact k h2 t2 i2 c2 _ R2 (x1.trans x2) (.cons (q1.ext x2) q2)⟩
open Classical in
def fP(R:aJ)(ls0:ag)(σ0:St)(es0:List Expr)(vs:List AV)(σ1:St):aJ:={R with evs:=fun ls σ es=>if ls=ls0∧σ=σ0∧es=es0 then some (vs,σ1) else R.evs ls σ es}
def Cw:(fP R ls σ es vs σ1).evs ls σ es=some (vs,σ1):=if_pos ⟨rfl,rfl,rfl⟩
def AZ(I:bu Γ n R)(H:Vz Γ n es ls σ vs σ1):bu Γ n (fP R ls σ es vs σ1):=⟨I.ev,I.evo,by
 intro l2 s2 e2 v2 s3 h
 by_cases q:l2=ls∧s2=σ∧e2=es
 ·have h2:(fP R ls σ es vs σ1).evs l2 s2 e2=some (vs,σ1):=if_pos q
  obtain⟨rfl,rfl,rfl⟩:=q;rw[h2] at h;(apply j2 h;clear h;rintro rfl rfl);have D:di Γ n (fun c=>spliced (kg e2 c)) l2 s2 (nX Γ v2) s3:=H.h;exact⟨H.a,D⟩
 ·have h2:(fP R ls σ es vs σ1).evs l2 s2 e2=R.evs l2 s2 e2:=if_neg q
  rw[h2] at h;exact I.evs h,I.evk,I.bl,I.cc,I.tst,I.tb⟩
set_option tactic.hygienic true in
def TB(P:gM Γ b Y)(hf:fnIn Γ.K f=true)(H:Rz Γ (10*d+b+25) σ1 f vs r σ2)
  (h1:(mk Y N d).ev ls σ (.Name x q)=some (.fn f,σ)) (h2:Vz Γ (10*d+b+30) es ls σ vs σ1) (h3:(mk Y N d).evk ls σ1 []=some ([],σ1)):Yz Γ (10*d+b+30) (.Call (.Name x q) es [] cp) ls σ r σ2:=by
 have A:=cN P N d;have hcf:∀ {σ g us kw r' σ'},orF σ1 f vs r σ2 σ g us kw=some (r',σ')→fnIn Γ.K g=true∧cg Γ (10*d+b+25) σ g us kw r' σ':=by
  intro s2 g us kw r' s3 hq;unfold orF at hq
  split at hq
  ·rename_i e
   apply nJ e;intro e1 e2 e3 e4;(apply j2 hq;clear hq;rintro rfl rfl);rw[e1,e2,e3,e4];have D:cg Γ (10*d+b+25) σ1 f vs [] _ s3:=H.h;exact⟨hf,@D⟩
  ·injection hq
 have I2:bu Γ (10*d+b+30) (jF Y (fP (mk Y N d) ls σ es vs σ1) (orF σ1 f vs r σ2)):=⟨A.E.ev,A.E.evo,(AZ A.E h2).evs,A.E.evk,A.E.bl,A.E.cc,A.E.tst,A.E.tb⟩;have J2:mt Γ (10*d+b+30) (jF Y (fP (mk Y N d) ls σ es vs σ1) (orF σ1 f vs r σ2)):=⟨fun h=>⟨(hcf h).1,cg.le (by lia) (hcf h).2⟩,by
  intro σ fv us kw r' σ' h;apply fj (wg (n:=10*d+b+25) P.hy hcf (fun h=>xM P.hw P.he P.hb P.hy h) h);intro a b' c;exact⟨a,i6.le (by lia) b',fun g self e=>⟨(c g self e).1,cg.le (by lia) (c g self e).2⟩⟩⟩
 have D:bM Γ (10*d+b+30) (fun c=>eval (.Call (.Name x q) es [] cp) c.env) ls σ r σ2:=yJ I2 J2 (show yn (jF Y (fP (mk Y N d) ls σ es vs σ1) (orF σ1 f vs r σ2)) ls σ x q es []=some (r,σ2) by
  show obp ((mk Y N d).ev ls σ (.Name x q)) (fun fv σ'=>obp ((fP (mk Y N d) ls σ es vs σ1).evs ls σ' es) fun vs' σ=>obp ((mk Y N d).evk ls σ []) fun kw σ=>ky Y {mk Y N d with cf:=orF σ1 f vs r σ2} σ fv vs' kw)=_;rw[h1];show obp ((fP (mk Y N d) ls σ es vs σ1).evs ls σ es) (fun vs' σ=>obp ((mk Y N d).evk ls σ []) fun kw σ=>ky Y {mk Y N d with cf:=orF σ1 f vs r σ2} σ (.fn f) vs' kw)=_;rw[Cw];show obp ((mk Y N d).evk ls σ1 []) (fun kw σ=>ky Y {mk Y N d with cf:=orF σ1 f vs r σ2} σ (.fn f) vs kw)=_;rw[h3];exact Cg)
 exact⟨@D⟩
def Yz.lst(I:bu Γ n R)(H:Vz Γ n es ls σ vs σ1)(h:lenA vs≤100000):Yz Γ n (.List es pos) ls σ (.cell (lenA σ1)) (σ1++[.list vs]):=by
 have D:bM Γ n (fun c=>eval (.List es pos) c.env) ls σ (.cell (lenA σ1)) (σ1++[.list vs]):=Dg (AZ I H) (show Am (fP R ls σ es vs σ1) ls σ es=some (.cell (lenA σ1),σ1++[.list vs]) by
  show obp ((fP R ls σ es vs σ1).evs ls σ es) (fun vs σ=>gd (Nat.ble (lenA vs) 100000) (some (new σ (.list vs))))=_;rw[Cw];show gd (Nat.ble (lenA vs) 100000) _=_;rw[show Nat.ble (lenA vs) 100000=true from Zd h];rfl)
 exact⟨@D⟩
def Yz.sl{R:aJ}(he:Γ.ε.Ok)(I:bu Γ n R){lo hi:κ Expr}{a b:κ AV}{r:AV}{p2 pos:Pos}(H:Yz Γ n e ls σ v σ1)(h1:R.evo ls σ1 lo=some (a,σ1))(h2:R.evo ls σ1 hi=some (b,σ1))(h3:Option.rec (motive:=fun U=>κ (AV×St)) (ms v a b σ1) (fun k=>kH k a b σ1) (eG v)=some (r,σ2)) :
  Yz Γ n (.Subscript e (.Slice lo hi none p2) pos) ls σ r σ2:=by
 have D:bM Γ n (fun c=>eval (.Subscript e (.Slice lo hi none p2) pos) c.env) ls σ r σ2:=y0 he (ou I H) (show wV (gv R ls σ e v σ1) ls σ e lo hi none=_ by
  show obp ((gv R ls σ e v σ1).ev ls σ e) (fun v σ=>gd true (obp (R.evo ls σ lo) fun a σ=>obp (R.evo ls σ hi) fun b σ=>Option.rec (ms v a b σ) (fun k=>kH k a b σ) (eG v)))=_;rw[oq];show obp (R.evo ls σ1 lo) (fun a σ=>obp (R.evo ls σ hi) fun b σ=>Option.rec (ms v a b σ) (fun k=>kH k a b σ) (eG v))=_;rw[h1];show obp (R.evo ls σ1 hi) (fun b σ=>Option.rec (ms v a b σ) (fun k=>kH k a b σ) (eG v))=_;rw[h2];exact h3)
 exact⟨@D⟩
def Lr(P:gM Γ b Y){ap cp:Pos}(hg:(mA o&&ap.endLine.beq cp.line&&Nat.blt (lenA [a]+lenA ([]:List Keyword)+1) 30)=true)
  (h1:(mk Y N d).ev ls σ o=some (.cell k,σ)) (hk:ae σ k=some (.list xs)) (hx:oP Y x=some .append) (h2:Vz Γ (10*d+b+30) [a] ls σ [v] σ1) (hk1:ae σ1 k=some (.list xs)) (hl:xs.length≤100000) :
  Yz Γ (10*d+b+30) (.Call (.Attribute o x ap) [a] [] cp) ls σ .none (cC σ1 k (.list (xs++[v]))):=by
 have A:=cN P N d;have I2:bu Γ (10*d+b+30) (fP (mk Y N d) ls σ [a] [v] σ1):=AZ A.E h2;have D:bM Γ (10*d+b+30) (fun c=>eval (.Call (.Attribute o x ap) [a] [] cp) c.env) ls σ .none (cC σ1 k (.list (xs++[v]))):=Av P.hy (CD P.hw P.he P.hb P.nm) I2 ⟨A.C.cf,A.C.cl⟩ (show vH Y (fP (mk Y N d) ls σ [a] [v] σ1) ls σ o x ap [a] [] cp=some (.none,cC σ1 k (.list (xs++[v]))) by
  show gd (mA o&&ap.endLine.beq cp.line&&Nat.blt (lenA [a]+lenA ([]:List Keyword)+1) 30) (obp ((mk Y N d).ev ls σ o) fun ov σ2=>match ka Y σ2 ov x with
   |some fv=>rM (fP (mk Y N d) ls σ [a] [v] σ1) ls σ2 fv [a] []
   |none=>pV Y (fP (mk Y N d) ls σ [a] [v] σ1) ls σ2 ov x [a] [])=_
  rw[hg,h1];have g0:ka Y σ (.cell k) x=none:=by
   show obp (ob (ae σ k) yj) (fun C fs=>Option.rec (motive:=fun U=>κ AV) (ob (Y.ci C) fun c=>tq k x c) (fun v=>gd (tJ v) (some v)) (lk x fs))=none;rw[hk];rfl
  show (match ka Y σ (.cell k) x with
   |some fv=>rM (fP (mk Y N d) ls σ [a] [v] σ1) ls σ fv [a] []
   |none=>pV Y (fP (mk Y N d) ls σ [a] [v] σ1) ls σ (.cell k) x [a] [])=_
  rw[g0];show ob (ob (ae σ k) fun c=>gd (xB c) (oP Y x)) (fun id=>obp ((fP (mk Y N d) ls σ [a] [v] σ1).evs ls σ [a]) fun vs σ=>gd true (bm Y σ id (.cell k) vs))=_;rw[hk];show ob (oP Y x) (fun id=>obp ((fP (mk Y N d) ls σ [a] [v] σ1).evs ls σ [a]) fun vs σ=>gd true (bm Y σ id (.cell k) vs))=_;rw[hx];show obp ((fP (mk Y N d) ls σ [a] [v] σ1).evs ls σ [a]) (fun vs σ=>gd true (bm Y σ .append (.cell k) vs))=_;rw[Cw];show ob (ae σ1 k) (fun c=>Ah Y.β σ1 k v c)=_;rw[hk1];show gd (Nat.ble (lenA xs) 100000) (some (AV.none,cC σ1 k (.list (xs++[v]))))=_;rw[aR,show xs.length.ble 100000=true from Zd hl];rfl)
 exact⟨@D⟩
end
def Ac(h1:ae σ i=some (.list x))(h2:ae σ j=some (.list y))(h:qf x y=some b):cmp [] σ .Eq (.cell i) (.cell j)=some b∧cmp [] σ .NotEq (.cell i) (.cell j)=some (!b):=by
 have e:sL [] σ (.cell i) (.cell j)=some b:=by
  show ob (ob (ae σ i) fJ) (fun x=>ob (ob (ae σ j) fJ) fun y=>qf x y)=_;rw[h1,h2];exact h
 refine⟨e,?_⟩;show kJ (sL [] σ (.cell i) (.cell j))=_;rw[e];show some (Bool.rec (motive:=fun U=>Bool) true false b)=_;cases b<;>rfl
def H1(a b:ξ):qf (am [a]) (am [b])=some (bQ a b):=by
 show ob (some true) (fun t=>ob (ob (SS.k b).conc fun x=>ob (SS.k a).conc fun z=>some (bQ z x)) fun e=>some (e&&t))=_;rw[oI,oI];show some (bQ a b&&true)=_;rw[Bool.and_true]
def sj(σ:St)(c:ay):ae (σ++[c]) (lenA σ)=some c:=by rw[aR];exact vF σ c
def zZ(x:ξ)(a b:κ AV)(lo hi:κ Int)(σ:St)(h1:jd a=some lo)(h2:jd b=some hi):Option.rec (motive:=fun U=>κ (AV×St)) (ms (.str (.k x)) a b σ) (fun k=>kH k a b σ) (eG (.str (.k x)))=some (.str (.k (cut x lo hi)),σ):=by
 show Option.rec (motive:=fun U=>κ (AV×St)) (Aj (.k x) a b σ) (fun l=>yG l a b σ) (SS.k x).conc=_;rw[oI];show ob (jd a) (fun a=>ob (jd b) fun b=>some (AV.str (.k (cut x a b)),σ))=_;rw[h1,h2];rfl
def qg(a b:κ AV)(lo hi:κ Int)(h:ae σ k=some (.list xs))(h1:jd a=some lo)(h2:jd b=some hi):Option.rec (motive:=fun U=>κ (AV×St)) (ms (.cell k) a b σ) (fun k=>kH k a b σ) (eG (.cell k))=some (.cell (lenA σ),σ++[.list (cut xs lo hi)]):=by
 show ob (jd a) (fun a=>ob (jd b) fun b=>ob (ob (ae σ k) fJ) fun xs=>some (new σ (.list (cut xs a b))))=_;rw[h1,h2,h];rfl
section
variable {Γ:aw}{n:Nat}{ls:ag}{σ σ1 σ2:St}
def Yz.cmp1(I:bu Γ n R)(hw:Γ.ε.P=Γ.w.params)(he:Γ.ε.Ok){Y:Pi}(hY:Y.β=[])(h1:Yz Γ n e ls σ a σ1)(h2:Yz Γ n e2 ls σ1 x σ2)(hs:jE e2=true)(h3:cmp [] σ2 op a x=some t):Yz Γ n (.Compare e [op] [e2] pos) ls σ (.bool t) σ2:=⟨by
 have K:sY Γ n pos ls σ1 a [op] [e2] t σ2:=B9 (Y:=Y) (ops:=[op]) (rs:=[e2]) (b:=t) hw he (by rw[hY];exact fun U U h=>by injection h) (ou I h2) (show tF Y (gv R ls σ1 e2 x σ2) ls σ1 a [op] [e2]=some (t,σ2) by
  show gd (jE e2) (obp ((gv R ls σ1 e2 x σ2).ev ls σ1 e2) fun b σ=>ob (cmp Y.β σ op a b) fun t=>some (t,σ))=_;rw[hs,oq];show ob (cmp Y.β σ2 op a x) (fun t=>some (t,σ2))=_;rw[hY,h3];rfl) pos
 intro c A s m imm cs Q E C l Rp k;show wpAny _ _ (do compareChain pos (←eval e c.env) [op] (markedEach [op] [e2] (evalEach [e2] c.env))) _ _ _;refine Y6 (h1.h C l Rp fun hx tx ix cx vb Rx xx qx=>?_);exact(K (s:=sU s hx tx) C l Rx qx).2 fun h2 t2 i2 c2 R2 x2=>k h2 t2 i2 c2 _ R2 (xx.trans x2) (.bool _)⟩
def Yz.ife(h1:Tz Γ n t ls σ q σ1)(h2:Yz Γ n (Bool.rec o b q) ls σ1 v σ2):Yz Γ n (.IfExp t b o pos) ls σ v σ2:=⟨by
 intro c A s m imm cs Q E C l Rp k;refine wpAny_IfExp (h1.h C l Rp fun hx tx ix cx vb Rx xx qx=>?_);cases qx;induction q using oB with
 |true=>exact h2.h (s:=sU s hx tx) C l Rx fun h2 t2 i2 c2 vb R2 x2 q2=>k h2 t2 i2 c2 vb R2 (xx.trans x2) q2
 |false=>exact h2.h (s:=sU s hx tx) C l Rx fun h2 t2 i2 c2 vb R2 x2 q2=>k h2 t2 i2 c2 vb R2 (xx.trans x2) q2⟩
end
def ET{w:World}{ε0:Ev}(hw:ε0.P=w.params)(he:ε0.Ok)(h:(ai [] ac 13).ev ls σ e=some (v,σ')):Yz (ab w mg mb ε0) 160 e ls σ v σ':=by
 have D:bM (ab w mg mb ε0) 160 (fun c=>eval e c.env) ls σ v σ':=(cN (dM hw he) 300 13).E.ev h;exact⟨@D⟩
structure B8 where
 ts:List Expr
 f:Str
 fp:Pos
 as:List Expr
 cp:Pos
 p:Pos
def Fy(s:Stmt):B8:=match s with|.Assign ts (.Call (.Name x q) as _ cp) p=>⟨ts,x,q,as,cp,p⟩|_=>⟨[],n0,default,[],default,default⟩
structure kz where
 e:Expr
 lo:κ Expr
 hi:κ Expr
 p2:Pos
 p:Pos
noncomputable def lN(e:Expr):kz:=match e with|.Subscript e (.Slice lo hi _ p2) p=>⟨e,lo,hi,p2,p⟩|e=>⟨e,none,none,default,default⟩
noncomputable def nC(s:kz):Expr:=.Subscript s.e (.Slice s.lo s.hi none s.p2) s.p
def kA:B8:=Fy (bS 18)
def RG:bS 18=.Assign kA.ts (.Call (.Name kA.f kA.fp) [b5 kA.as 0,b5 kA.as 1] [] kA.cp) kA.p:=by kernel_rfl
noncomputable def β9:Bd:=[(0,100000),(0,60000)]
noncomputable def sQ:St:=[.any 0,.any 1,.any 2,.inst 771 [(cQ,.cell 4)],.rows [.var 0] (V 0),fg (xG 0 (.cell 3)),.any 6,.any 7,.any 8,.any 9]
def Eo:nz:=⟨β9,ac,6,[],⟨oY [(yl,.cell 5)],ah⟩,sQ,b5 kA.as 0,.str [.var 0],sQ⟩
def Np:Eo.chk=true:=by kernel_rfl
def zG:Expr×List Stmt×List Stmt:=eK [bS 19] 0
def o9:Expr×CmpOp×Expr×Pos:=kG zG.1
def M0:bS 19=.If (.Compare o9.1 [.NotEq] [o9.2.2.1] o9.2.2.2) zG.2.1 [] (ck [bS 19] 0):=by kernel_rfl
def nB:List Expr×Expr×Pos:=iI [bS 20] 0
def kI:kz:=lN nB.2.1
def V6:bS 20=.Assign nB.1 (nC kI) nB.2.2:=by kernel_rfl
def pn:Expr×List Stmt×List Stmt:=eK [bS 21] 0
def yt:Expr×List Stmt×List Stmt:=eK pn.2.1 0
def tj:Expr×CmpOp×Expr×Pos:=kG yt.1
def rA:List Expr×Expr×Pos:=iI pn.2.1 1
def r9:kz:=lN tj.1
def rm:kz:=lN rA.2.1
def Om:bS 21=.If pn.1 [.If (.Compare (nC r9) [.NotEq] [tj.2.2.1] tj.2.2.2) yt.2.1 [] (ck pn.2.1 0),.Assign rA.1 (nC rm) rA.2.2] [] (ck [bS 21] 0):=by kernel_rfl
def cM(c:Lk)(k:Nat)(m:List (Str×AV)):List (Str×AV):=[(gL,I c.best),(jD,I c.width),(uP,.bool c.root),(xm,.bool c.shut),(xk,.cell 0),(cQ,.cell k)]++m
def iQ(c:Lk)(k:Nat):List (Str×AV):=eg c [(cQ,.cell k)]
section
variable {c:Lk}{σ:St}{T:ξ}{xs af:List AV}{z:Nat→ay}{k j:Nat}
def Tj:(ai [] ac 13).ev ⟨eg c [],ah⟩ σ (.Name kA.f kA.fp)=some (.fn 804,σ):=by kernel_rfl
def Ot:(ai [] ac 13).ev ⟨eg c [],ah⟩ σ (b5 kA.as 1)=some (.str (.k c.nl),σ):=by kernel_rfl
def wZ:(ai [] ac 13).evk ls σ []=some ([],σ):=by kernel_rfl
def Sj:(ai [] ac 13).asgm ⟨eg c [],ah⟩ σ (.cell 10) kA.ts=some (⟨iQ c 10,ah⟩,σ):=by kernel_rfl
def RQ:(ai [] ac 3).ev ⟨iQ c 10,ah⟩ (σr z xs) o9.1=ob (ob (dh (lenA xs) (-1)) fun p=>ae xs p) fun r=>some (r,σr z xs):=by kernel_rfl
def SL:(ai [] ac 3).ev ⟨iQ c 10,ah⟩ σ o9.2.2.1=some (.str (.k []),σ):=by kernel_rfl
def MC:(ai [] ac 3).ev ⟨iQ c 10,ah⟩ σ kI.e=some (.cell 10,σ):=by kernel_rfl
def OC:(ai [] ac 12).evo ⟨iQ c 10,ah⟩ σ kI.lo=some (none,σ):=by kernel_rfl
def Ti:(ai [] ac 12).evo ⟨iQ c 10,ah⟩ σ kI.hi=some (some (I (-1)),σ):=by kernel_rfl
def K4:(ai [] ac 12).asgm ⟨iQ c 10,ah⟩ σ (.cell 11) nB.1=some (⟨iQ c 11,ah⟩,σ):=by kernel_rfl
def WP:(ai [] ac 3).tst ⟨cM ⟨c1,cb,c3,c4,c5,c6,true,c8⟩ k [],ah⟩ σ pn.1=some (false,σ):=by kernel_rfl
def YB:(ai [] ac 3).tst ⟨cM ⟨c1,cb,c3,c4,c5,c6,false,c8⟩ k [],ah⟩ σ pn.1=some (true,σ):=by kernel_rfl
def Tt:(ai [] ac 3).ev ⟨cM c k [],ah⟩ σ r9.e=some (.cell k,σ):=by kernel_rfl
def W4:(ai [] ac 12).evo ⟨cM c k [],ah⟩ σ r9.lo=some (none,σ):=by kernel_rfl
def N4:(ai [] ac 12).evo ⟨cM c k [],ah⟩ σ r9.hi=some (some (I 1),σ):=by kernel_rfl
def Pa:(ai [] ac 3).ev ⟨cM c k [],ah⟩ σ tj.2.2.1=some (.cell (lenA σ),σ++[.list (am [[45,45,45]])]):=by kernel_rfl
def Mi:(ai [] ac 3).ev ⟨cM c k [],ah⟩ σ rm.e=some (.cell k,σ):=by kernel_rfl
def Sl:(ai [] ac 12).evo ⟨cM c k [],ah⟩ σ rm.lo=some (some (I 1),σ):=by kernel_rfl
def UO:(ai [] ac 12).evo ⟨cM c k [],ah⟩ σ rm.hi=some (none,σ):=by kernel_rfl
def Wl:(ai [] ac 12).asgm ⟨cM c k [],ah⟩ σ (.cell j) rA.1=some (⟨cM c j [],ah⟩,σ):=by kernel_rfl
def QP:(ai [] ac 3).exs ⟨cM c k [],ah⟩ σ [bS 22]=some (.next,⟨cM c k [(cS,.str (.k []))],ah⟩,σ):=by kernel_rfl
end
def tE(g:Gs)(z:Nat→ay)(E:Es):Nat→ay:=tO (ru z gC [] (.k E.T) (.k E.n)) 5 [some (fg (iG gC (.bool E.oe) (I E.line) (I E.col) (I g.best) (I g.bw) (.str (.k g.nl)) E.y))]
def U3:yp (tE g z E)=hJ g z gC [] E:=rfl
def uU(L:List ξ):Prop:=∀ l∈L,∀ d∈l,d≠10∧d≠13
section
variable {w:World}{mg mb:ω}{ε0:Ev}(hw:ε0.P=w.params)(he:ε0.Ok){c:Lk}(hc:nR c)
include hw
theorem Mp{E:Es}(hl:E.T.length≤60000)(hn:0≤E.n∧E.n≤100000):Yz (ab w mg mb ε0) 150 (b5 kA.as 0) ⟨eg c [],ah⟩ (hJ (cX c) z gC [] E) (.str (.k E.T)) (hJ (cX c) z gC [] E):=by
 have Y:=(uQ (mg:=mg) (mb:=mb) (b:=0) (v:=vW (iG gC (.bool E.oe) (I E.line) (I E.col) (I c.best) (I c.width) (.str (.k c.nl)) E.y) (gH c fun U=>.none)) (z:=ru z gC [] (.k E.T) (.k E.n)) hw (ε:=dr ε0.P (fun U=>E.n) (fun U=>E.T)) rfl (cR _ _ _) Eo (nQ ⟨hn,⟨cW _,vn hl⟩,trivial⟩) (fun U U U=>nE) rfl Np).le (n:=150) (by show 10*6+0+30≤150;decide);have es:bL (aq (dr ε0.P (fun U=>E.n) (fun U=>E.T)) (vW (iG gC (.bool E.oe) (I E.line) (I E.col) (I c.best) (I c.width) (.str (.k c.nl)) E.y) (gH c fun U=>.none)) (ru z gC [] (.k E.T) (.k E.n))) sQ=hJ (cX c) z gC [] E:=by
  show aT (tO (fun i=>ru z gC [] (.k E.T) (.k E.n) i) 0 [none,none,none,some (.inst 771 [(cQ,.cell 4)]),some (.rows (.k (E.T++[])) (.k ((V 0).val _)))]) (iG gC (.bool E.oe) (I E.line) (I E.col) (I c.best) (I c.width) (.str (.k c.nl)) E.y)=_;rw[apN,fO];rfl
 replace Y:Yz (ab w mg mb ε0) 150 (b5 kA.as 0) ⟨eg c [],ah⟩ (bL _ sQ) (.str (.k (E.T++[]))) (bL _ sQ):=Y;rw[es,apN] at Y;exact Y
include he hc
theorem Xn{E:Es}(hT:E.T=cA c.nl L)(h0:L≠[])(hL:uU L)(hl:E.T.length≤60000)(hn:0≤E.n∧E.n≤100000) :
  aH (ab w mg mb ε0) 160 [bS 18] ⟨eg c [],ah⟩ (hJ (cX c) z gC [] E) .next ⟨iQ c 10,ah⟩ (σr (tE (cX c) z E) (am (L++[[]]))):=by
 have P:=dM (mg:=mg) (mb:=mb) hw he;have nn:1≤c.nl.length:=by rcases hc.n with h|h|h<;>rw[h]<;>decide
 have R:=P1 (mg:=mg) (mb:=mb) (c:=tE (cX c) z E) hw he hc.n (by rw[←hT];lia) (by
  intro q;cases L with
  |nil=>exact h0 rfl
  |cons a r=>
   have:(cA c.nl (a::r)).length=0:=by rw[q];rfl
   rw[show cA c.nl (a::r)=(a++c.nl)++cA c.nl r from rfl,au,au] at this;lia) hL
 rw[←hT,U3] at R;have Y:=TB (P:=P) (N:=300) (d:=13) (x:=kA.f) (q:=kA.fp) (cp:=kA.cp) (ls:=⟨eg c [],ah⟩) R.1 R.2 Tj (.cons (by kernel_rfl) ((Mp (mg:=mg) (mb:=mb) (c:=c) (z:=z) hw hl hn).le (by decide)) (.cons (by kernel_rfl) ((ET (mg:=mg) (mb:=mb) hw he Ot).le (by decide)) .nil)) wZ;have A:=cN P 300 13;have D:=Dz.asg (pos:=kA.p) (ts:=kA.ts) (ls1:=⟨iQ c 10,ah⟩) (σ2:=σr (tE (cX c) z E) (am (L++[[]]))) A.E A.S (by kernel_rfl) Y Sj;rw[←RG] at D;exact D.one
omit hc in
theorem Tr :
  aH (ab w mg mb ε0) 150 ([bS 19]++[bS 20]) ⟨iQ c 10,ah⟩ (σr z (am (L++[[]]))) .next ⟨iQ c 11,ah⟩ (σr z (am (L++[[]]))++[.list (am L)]):=by
 have A:=cN (dM (mg:=mg) (mb:=mb) hw he) 300 12;have y:∀ {ls:ag} {σ σ':St} {e:Expr} {v:AV},(ai [] ac 3).ev ls σ e=some (v,σ')→Yz (ab w mg mb ε0) 150 e ls σ v σ':=fun q=>eY hw he (d:=3) (by decide) q;have ex:am (L++[[]])=am L++[.str (.k [])]:=rS _ _;have e19:(ai [] ac 3).ev ⟨iQ c 10,ah⟩ (σr z (am (L++[[]]))) o9.1=some (.str (.k []),σr z (am (L++[[]]))):=RQ.trans (by
  rw[aR,kl,au,show ([[]]:List ξ).length=1 from rfl,BI];show ob (ae (am (L++[[]])) L.length) _=_;rw[xN];rfl)
 have T:=Tz.cmp1 (pos:=o9.2.2.2) A.E hw he (Y:=d7 [] ac) rfl (y e19) (y (SL (c:=c))) (by kernel_rfl) (rl _ [] []).2;have S19:=Dz.if_ (pos:=ck [bS 19] 0) (b:=zG.2.1) (o:=[]) T Dz.nil;rw[←M0] at S19;have Y:=Yz.sl (p2:=kI.p2) (pos:=kI.p) he A.E (y (MC (c:=c) (σ:=σr z (am (L++[[]]))))) OC Ti (qg (k:=10) (xs:=am (L++[[]])) none (some (I (-1))) none (some (-1)) rfl rfl rfl);rw[ex,WO] at Y;rw[←ex] at Y;have D:=Dz.asg (pos:=nB.2.2) (ts:=nB.1) (ls1:=⟨iQ c 11,ah⟩) A.E A.S (by kernel_rfl) Y K4;rw[show Stmt.Assign nB.1 (.Subscript kI.e (.Slice kI.lo kI.hi none kI.p2) kI.p) nB.2.2=bS 20 from V6.symm] at D;exact(Dz.one S19).append (Dz.one D)
omit hc in
theorem Vn(f0:da af)(hL:L=Bool.rec ([45,45,45]::L') L' c.root) :
  Gz (ab w mg mb ε0) 300 ([bS 21]++[bS 22]) ⟨cM c 1 [],ah⟩ [.list af,.list (am L)] .next ⟨cM c 1 [(cS,.str (.k []))],ah⟩ [.list af,.list (am L')]:=by
 have A:=cN (dM (mg:=mg) (mb:=mb) hw he) 300 12;have y:∀ {ls:ag} {σ σ':St} {e:Expr} {v:AV},(ai [] ac 3).ev ls σ e=some (v,σ')→Yz (ab w mg mb ε0) 150 e ls σ v σ':=fun q=>eY hw he (d:=3) (by decide) q;have tt:∀ {ls:ag} {σ:St} {e:Expr} {v:Bool},(ai [] ac 3).tst ls σ e=some (v,σ)→Tz (ab w mg mb ε0) 150 e ls σ v σ:=fun q=>g7 hw he (d:=3) (by decide) q;have G2:Gz (ab w mg mb ε0) 300 [bS 22] ⟨cM c 1 [],ah⟩ [.list af,.list (am L')] .next ⟨cM c 1 [(cS,.str (.k []))],ah⟩ [.list af,.list (am L')]:=(jo (mg:=mg) (mb:=mb) hw he (d:=3) (by decide) QP).gz (by decide);refine Gz.app ?_ G2;clear G2;obtain⟨c1,cb,c3,c4,c5,c6,root,c8⟩:=c;rw[Om];cases root with
 |true=>
  replace hL:L=L':=hL;subst hL;exact(Dz.one (Dz.if_ (tt WP) Dz.nil)).gz (by decide)
 |false=>
  replace hL:L=[45,45,45]::L':=hL;subst hL;have Y1:=Yz.sl (p2:=r9.p2) (pos:=r9.p) he A.E (y (Tt (c:=⟨c1,cb,c3,c4,c5,c6,false,c8⟩) (k:=1) (σ:=[.list af,.list (am ([45,45,45]::L'))]))) W4 N4 (qg (k:=1) (xs:=am ([45,45,45]::L')) none (some (I 1)) none (some ((1:Nat):Int)) rfl rfl rfl);rw[vM] at Y1;have T:=Tz.cmp1 (pos:=tj.2.2.2) A.E hw he (Y:=d7 [] ac) rfl Y1 (y (Pa (c:=⟨c1,cb,c3,c4,c5,c6,false,c8⟩) (k:=1))) (by kernel_rfl) (Ac (i:=2) (j:=3) rfl rfl (H1 [45,45,45] [45,45,45])).2;have S1:=Dz.if_ (pos:=ck pn.2.1 0) (b:=yt.2.1) (o:=[]) T Dz.nil;have Y2:=Yz.sl (p2:=rm.p2) (pos:=rm.p) he A.E (y (Mi (c:=⟨c1,cb,c3,c4,c5,c6,false,c8⟩) (k:=1) (σ:=[.list af,.list (am ([45,45,45]::L')),.list (am [[45,45,45]]),.list (am [[45,45,45]])]))) Sl UO (qg (k:=1) (xs:=am ([45,45,45]::L')) (some (I 1)) none (some ((1:Nat):Int)) none rfl rfl rfl);rw[v6] at Y2;have S2:=Dz.asg (pos:=rA.2.2) (ts:=rA.1) (ls1:=⟨cM ⟨c1,cb,c3,c4,c5,c6,false,c8⟩ 4 [],ah⟩) A.E A.S (by kernel_rfl) Y2 Wl;have D:=Dz.one (Dz.if_ (pos:=ck [bS 21] 0) (o:=[]) (tt (YB (k:=1))) (S1.cons (Dz.one S2)));exact(D.gz (n':=300) (by decide)).pick he [0,4] [af,am L'] (l1:=cM ⟨c1,cb,c3,c4,c5,c6,false,c8⟩ 4 []) rfl rfl ⟨⟨rfl,f0⟩,⟨rfl,A7 L'⟩,trivial⟩ rfl fun U U h=>h
end
def fo:tQ:=xV yW 23
def dz(i:Nat):Stmt:=(ae fo.b i).getD (.Pass default)
def RI:bS 23=.For fo.t fo.it fo.b [] fo.p:=by kernel_rfl
def MR:fo.b=[dz 0,dz 1,dz 2,dz 3,dz 4,dz 5]:=by kernel_rfl
def k0:B8:=Fy (dz 0)
def WB:dz 0=.Assign k0.ts (.Call (.Name k0.f k0.fp) k0.as [] k0.cp) k0.p:=by kernel_rfl
def i1:Expr×List Stmt×List Stmt:=eK [dz 1] 0
def c1:Expr×CmpOp×Expr×Pos:=kG i1.1
noncomputable def s1:kz:=lN c1.1
noncomputable def wL(e:Expr):List Expr×Pos:=match e with|.List es p=>(es,p)|_=>([],default)
def d1:Expr×Operator×Expr×Pos:=bb (b5 (wL c1.2.2.1).1 0)
def f1:Expr×Operator×Expr×Pos:=bb d1.1
def QL:dz 1=.If (.Compare (nC s1) [.NotEq] [.List [.BinOp (.BinOp f1.1 .Add f1.2.2.1 f1.2.2.2) .Add d1.2.2.1 d1.2.2.2] (wL c1.2.2.1).2] c1.2.2.2) i1.2.1 [] (ck [dz 1] 0):=by kernel_rfl
def a2:List Expr×Expr×Pos:=iI [dz 2] 0
noncomputable def s2:kz:=lN a2.2.1
def Xf:dz 2=.Assign a2.1 (nC s2) a2.2.2:=by kernel_rfl
def w4:t6:=wm [dz 4] 0
def q4:List Expr×Pos:=l6 w4.t
def r4:List Expr×Pos:=l6 (b5 q4.1 1)
def u4:Expr×CmpOp×Expr×Pos:=kG (b5 r4.1 0)
def v4:Expr×CmpOp×Expr×Pos:=kG (b5 r4.1 1)
def t4:kz:=lN v4.1
def m4:Expr×Operator×Expr×Pos:=bb v4.2.2.1
def PI:dz 4=.While w4.t w4.b [] w4.p:=by kernel_rfl
def EZ:w4.t=.BoolOp .And [b5 q4.1 0,.BoolOp .Or [.Compare (.Subscript (dH u4.1).1 (dH u4.1).2.1 (dH u4.1).2.2) [.Eq] [u4.2.2.1] u4.2.2.2,.Compare (.Subscript (.Subscript (dH t4.e).1 (dH t4.e).2.1 (dH t4.e).2.2) (.Slice t4.lo t4.hi none t4.p2) t4.p) [.Eq] [.BinOp m4.1 .Mult m4.2.2.1 m4.2.2.2] v4.2.2.2] r4.2] q4.2:=by kernel_rfl
structure IE where
 o:Expr
 x:Str
 ap:Pos
 a:Expr
 cp:Pos
 p:Pos
def JZ(s:Stmt):IE:=match s with|.Expr (.Call (.Attribute o x ap) (a::_) _ cp) p=>⟨o,x,ap,a,cp,p⟩|_=>⟨.Constant .none 0 default,n0,default,.Constant .none 0 default,default,default⟩
def p4:IE:=JZ ((ae w4.b 0).getD (.Pass default))
def y4:kz:=lN p4.a
def g4:List Expr×Expr×Pos:=iI w4.b 1
def h4:kz:=lN g4.2.1
def RS:w4.b=[.Expr (.Call (.Attribute p4.o p4.x p4.ap) [.Subscript (.Subscript (dH y4.e).1 (dH y4.e).2.1 (dH y4.e).2.2) (.Slice y4.lo y4.hi none y4.p2) y4.p] [] p4.cp) p4.p,.Assign g4.1 (nC h4) g4.2.2]:=by kernel_rfl
def i5:Expr×List Stmt×List Stmt:=eK [dz 5] 0
def q5:List Expr×Pos:=l6 i5.1
def c5:Expr×CmpOp×Expr×Pos:=kG (b5 q5.1 0)
structure z9 where
 x:Str
 q:Pos
 as:List Expr
 cp:Pos
def FW(e:Expr):z9:=match e with|.Call (.Name x q) as _ cp=>⟨x,q,as,cp⟩|_=>⟨n0,default,[],default⟩
def l5:z9:=FW c5.1
noncomputable def YD(e:Expr):Expr×Pos:=match e with|.UnaryOp _ e p=>(e,p)|e=>(e,default)
def yN:Expr×Pos:=YD (b5 q5.1 1)
def m5:z9:=FW yN.1
def Pg:dz 5=.If (.BoolOp .Or [.Compare (.Call (.Name l5.x l5.q) l5.as [] l5.cp) [.NotEq] [c5.2.2.1] c5.2.2.2,.UnaryOp .Not (.Call (.Name m5.x m5.q) m5.as [] m5.cp) yN.2] q5.2) i5.2.1 [] (ck [dz 5] 0):=by kernel_rfl
def bO(b:Nat):List (Str×AV):=[(XF,.cell b)]
def aW(c:Lk)(k:Nat)(h fr:ξ)(dep:Nat)(v:ξ)(o:List (Str×AV)):List (Str×AV):=cM c k ([(cS,.str (.k h)),(XL,.str (.k fr)),(o7,I dep),(d6,.str (.k v))]++o)
section
variable {c:Lk}{σ:St}{k j b dep dep2:Nat}{h h2 fr fr2 v v2:ξ}{o:List (Str×AV)}
def Kx:(ai [] ac 3).ev ⟨cM c k [(cS,.str (.k h))],ah⟩ σ fo.it=some (.cell 0,σ):=by kernel_rfl
def Py:(ai [] ac 0).asg ⟨cM c k [(cS,.str (.k h))],ah⟩ σ (.tup [.str (.k fr),I dep,.str (.k v)]) fo.t=some (⟨aW c k h fr dep v [],ah⟩,σ):=by kernel_rfl
def Yb:(ai [] ac 0).asg ⟨aW c k h fr2 dep2 v2 o,ah⟩ σ (.tup [.str (.k fr),I dep,.str (.k v)]) fo.t=some (⟨aW c k h fr dep v o,ah⟩,σ):=by kernel_rfl
def V3:(ai [] ac 13).ev ⟨aW c k h fr dep v [],ah⟩ σ (.Name k0.f k0.fp)=some (.fn 811,σ):=by kernel_rfl
def X1:(ai [] ac 13).ev ⟨aW c k h fr dep v (bO b),ah⟩ σ (.Name k0.f k0.fp)=some (.fn 811,σ):=by kernel_rfl
def W6:(ai [] ac 13).evs ⟨aW c k h fr dep v o,ah⟩ σ k0.as=some ([.str (.k v),I c.best],σ):=by kernel_rfl
def Mq:(ai [] ac 13).asgm ⟨aW c k h fr dep v o,ah⟩ σ (.str (.k h2)) k0.ts=some (⟨aW c k h2 fr dep v o,ah⟩,σ):=by kernel_rfl
def Nl:(ai [] ac 3).ev ⟨aW c k h fr dep v o,ah⟩ σ s1.e=some (.cell k,σ):=by kernel_rfl
def J4:(ai [] ac 12).evo ⟨aW c k h fr dep v o,ah⟩ σ s1.lo=some (none,σ):=by kernel_rfl
def YC:(ai [] ac 12).evo ⟨aW c k h fr dep v o,ah⟩ σ s1.hi=some (some (I 1),σ):=by kernel_rfl
def Ug:(ai [] ac 3).ev ⟨aW c k h fr dep v o,ah⟩ σ f1.1=some (.str (.k fr),σ):=by kernel_rfl
def Pl:(ai [] ac 3).ev ⟨aW c k h fr dep v o,ah⟩ σ f1.2.2.1=some (.str (.k [62]),σ):=by kernel_rfl
def V8:(ai [] ac 3).ev ⟨aW c k h fr dep v o,ah⟩ σ d1.2.2.1=some (.str (.k h),σ):=by kernel_rfl
def Yp:(ai [] ac 3).ev ⟨aW c k h fr dep v o,ah⟩ σ s2.e=some (.cell k,σ):=by kernel_rfl
def J1:(ai [] ac 12).evo ⟨aW c k h fr dep v o,ah⟩ σ s2.lo=some (some (I 1),σ):=by kernel_rfl
def YK:(ai [] ac 12).evo ⟨aW c k h fr dep v o,ah⟩ σ s2.hi=some (none,σ):=by kernel_rfl
def Pe:(ai [] ac 12).asgm ⟨aW c k h fr dep v o,ah⟩ σ (.cell j) a2.1=some (⟨aW c j h fr dep v o,ah⟩,σ):=by kernel_rfl
def Tp:(ai [] ac 3).exs ⟨aW c k h fr dep v [],ah⟩ σ [dz 3]=some (.next,⟨aW c k h fr dep v (bO (lenA σ)),ah⟩,σ++[.list []]):=by kernel_rfl
def Kd:(ai [] ac 3).exs ⟨aW c k h fr dep v (bO b),ah⟩ σ [dz 3]=some (.next,⟨aW c k h fr dep v (bO (lenA σ)),ah⟩,σ++[.list []]):=by kernel_rfl
def Gj:(ai [] ac 3).ev ⟨aW c k h fr dep v o,ah⟩ σ (b5 q4.1 0)=some (.cell k,σ):=by kernel_rfl
def JL:(match b5 q4.1 0 with|.Name _ _=>true|_=>false)=true:=by kernel_rfl
def Ws:(ai [] ac 3).ev ⟨aW c k h fr dep v o,ah⟩ σ (dH u4.1).1=some (.cell k,σ):=by kernel_rfl
def LK:(ai [] ac 3).ev ⟨aW c k h fr dep v o,ah⟩ σ (dH u4.1).2.1=some (I 0,σ):=by kernel_rfl
def Qo:(ai [] ac 3).ev ⟨aW c k h fr dep v o,ah⟩ σ u4.2.2.1=some (.str (.k []),σ):=by kernel_rfl
def WZ:(ai [] ac 3).ev ⟨aW c k h fr dep v o,ah⟩ σ (dH t4.e).1=some (.cell k,σ):=by kernel_rfl
def TQ:(ai [] ac 3).ev ⟨aW c k h fr dep v o,ah⟩ σ (dH t4.e).2.1=some (I 0,σ):=by kernel_rfl
def VN:(ai [] ac 12).evo ⟨aW c k h fr dep v o,ah⟩ σ t4.lo=some (none,σ):=by kernel_rfl
def SY:(ai [] ac 12).evo ⟨aW c k h fr dep v o,ah⟩ σ t4.hi=some (some (I dep),σ):=by kernel_rfl
def Kh:(ai [] ac 3).ev ⟨aW c k h fr dep v o,ah⟩ σ m4.1=some (.str [.lit [32]],σ):=by kernel_rfl
def Wj:(ai [] ac 3).ev ⟨aW c k h fr dep v o,ah⟩ σ m4.2.2.1=some (I dep,σ):=by kernel_rfl
def Si:(mA p4.o&&p4.ap.endLine.beq p4.cp.line&&Nat.blt (lenA [p4.a]+lenA ([]:List Keyword)+1) 30)=true:=by kernel_rfl
def Fs:p4.a=.Subscript (.Subscript (dH y4.e).1 (dH y4.e).2.1 (dH y4.e).2.2) (.Slice y4.lo y4.hi none y4.p2) y4.p:=by kernel_rfl
def Vd:(ai [] ac 12).ev ⟨aW c k h fr dep v (bO b),ah⟩ σ p4.o=some (.cell b,σ):=by kernel_rfl
def Km:oP (d7 [] ac) p4.x=some .append:=by kernel_rfl
def Uf:(ai [] ac 3).ev ⟨aW c k h fr dep v o,ah⟩ σ (dH y4.e).1=some (.cell k,σ):=by kernel_rfl
def V7:(ai [] ac 3).ev ⟨aW c k h fr dep v o,ah⟩ σ (dH y4.e).2.1=some (I 0,σ):=by kernel_rfl
def W5:(ai [] ac 12).evo ⟨aW c k h fr dep v o,ah⟩ σ y4.lo=some (some (I dep),σ):=by kernel_rfl
def LP:(ai [] ac 12).evo ⟨aW c k h fr dep v o,ah⟩ σ y4.hi=some (none,σ):=by kernel_rfl
def OX:(ai [] ac 3).ev ⟨aW c k h fr dep v o,ah⟩ σ h4.e=some (.cell k,σ):=by kernel_rfl
def WV:(ai [] ac 12).evo ⟨aW c k h fr dep v o,ah⟩ σ h4.lo=some (some (I 1),σ):=by kernel_rfl
def Us:(ai [] ac 12).evo ⟨aW c k h fr dep v o,ah⟩ σ h4.hi=some (none,σ):=by kernel_rfl
def X4:(ai [] ac 12).asgm ⟨aW c k h fr dep v o,ah⟩ σ (.cell j) g4.1=some (⟨aW c j h fr dep v o,ah⟩,σ):=by kernel_rfl
def U5:(ai [] ac 13).ev ⟨aW c k h fr dep v (bO b),ah⟩ σ (.Name l5.x l5.q)=some (.fn 818,σ):=by kernel_rfl
def J5:(ai [] ac 13).evs ⟨aW c k h fr dep v (bO b),ah⟩ σ l5.as=some ([.cell b,.str (.k h)],σ):=by kernel_rfl
def RY:(ai [] ac 13).ev ⟨aW c k h fr dep v (bO b),ah⟩ σ c5.2.2.1=some (.str (.k v),σ):=by kernel_rfl
def WS:(ai [] ac 13).ev ⟨aW c k h fr dep v (bO b),ah⟩ σ (.Name m5.x m5.q)=some (.fn 825,σ):=by kernel_rfl
def Qg:(ai [] ac 13).evs ⟨aW c k h fr dep v (bO b),ah⟩ σ m5.as=some ([.cell b,I dep,I c.width],σ):=by kernel_rfl
end
def R6(h:ae σ b=some x):ae (cC σ b y) b=some y:=by
 rw[dt] at h;rw[dt,n8,List.getElem?_set_self (Zo.mp h).1]
def FH(h:b≠j):ae (cC σ b y) j=ae σ j:=by rw[dt,dt,n8,List.getElem?_set_ne h]
def D8:lenA (cC σ b y)=lenA σ:=by rw[aR,aR,n8,List.length_set]
def kq(h:ae σ j=some x):ae (σ++[y]) j=some x:=xO h
def RM(h:ae σ j=some x):j<lenA σ:=by rw[aR];exact BD h
def Co(h:ae σ k=some (.list (am (x::X)))):wk [] σ (.cell k) (I 0)=some (.str (.k x)):=by
 show ob (ob (ae σ k) fJ) (fun xs=>ob (dh (lenA xs) ((0:Nat):Int)) fun p=>ae xs p)=_;rw[h];show ob (dh (lenA (am (x::X))) ((0:Nat):Int)) (fun p=>ae (am (x::X)) p)=_;rw[aR,sN (n:=(am (x::X)).length) (k:=0) (Nat.succ_pos _)];rfl
def DI(d:Nat):bi (d:Int)=List.replicate d 32:=rfl
def Sd(d:Nat)(l:ξ):(padI (d:Int) l).drop d=l:=by
 cases l with
 |nil=>exact List.drop_nil
 |cons a t=>
  show (bi (d:Int)++a::t).drop d=_;rw[DI,List.drop_left' (Za)]
def P9(d:Nat)(a:Nat)(t:ξ):(padI (d:Int) (a::t)).take d=List.replicate d 32:=by
 show (bi (d:Int)++a::t).take d=_;rw[DI,List.take_left' (Za)]
def oj(R:List ξ):Prop:=∀ x X,R=x::X→∃ a t,x=a::t∧a≠32
section
variable {w:World}{mg mb:ω}{ε0:Ev}(hw:ε0.P=w.params)(he:ε0.Ok){c:Lk}{h fr v:ξ}{dep b:Nat}
include hw he
theorem ES(hd:1≤dep∧dep≤100)(hk:ae σ k=some (.list (am (x::X)))) :
  Tz (ab w mg mb ε0) 150 w4.t ⟨aW c k h fr dep v o,ah⟩ σ (aI x ||bQ (x.take dep) (List.replicate dep 32)) σ:=by
 have A:=cN (dM (mg:=mg) (mb:=mb) hw he) 300 12;have y:∀ {ls:ag} {σ σ':St} {e:Expr} {v:AV},(ai [] ac 3).ev ls σ e=some (v,σ')→Yz (ab w mg mb ε0) 150 e ls σ v σ':=fun q=>eY hw he (d:=3) (by decide) q;have T1:Tz (ab w mg mb ε0) 150 (b5 q4.1 0) ⟨aW c k h fr dep v o,ah⟩ σ true σ:=by
  refine Tz.val (v:=.cell k) he (by show ob (ae σ k) xb=_;rw[hk];rfl) (fun env=>?_) (y Gj);have:=JL;generalize b5 q4.1 0=e at *
  cases e<;>first|rfl|exact nomatch this
 have T2:=Tz.cmp1 (pos:=u4.2.2.2) A.E hw he (Y:=d7 [] ac) rfl (Yz.sub (pos:=(dH u4.1).2.2) hw he (y (Ws (c:=c) (h:=h) (fr:=fr) (dep:=dep) (v:=v) (o:=o))) (y LK) (Co hk)) (y Qo) (by kernel_rfl) (rl σ x []).1;have S3:=Yz.sl (p2:=t4.p2) (pos:=t4.p) he A.E (Yz.sub (pos:=(dH t4.e).2.2) hw he (y (WZ (c:=c) (h:=h) (fr:=fr) (dep:=dep) (v:=v) (o:=o))) (y TQ) (Co hk)) VN SY (zZ x none (some (I dep)) none (some (dep:Int)) σ rfl rfl);rw[vM] at S3;have M3:=Yz.bin (pos:=m4.2.2.2) he (y (Kh (c:=c) (k:=k) (h:=h) (fr:=fr) (dep:=dep) (v:=v) (o:=o) (σ:=σ))) (y Wj) (rc (by lia));have T3:=Tz.cmp1 (pos:=v4.2.2.2) A.E hw he (Y:=d7 [] ac) rfl S3 M3 (by kernel_rfl) (rl σ (x.take dep) (List.replicate dep 32)).1;have e2:bQ x []=aI x:=by cases x<;>rfl
 rw[e2] at T2;rw[EZ];refine Tz.bool (.andT T1 ?_);have O:Tz (ab w mg mb ε0) 150 (.BoolOp .Or [.Compare (.Subscript (dH u4.1).1 (dH u4.1).2.1 (dH u4.1).2.2) [.Eq] [u4.2.2.1] u4.2.2.2,.Compare (.Subscript (.Subscript (dH t4.e).1 (dH t4.e).2.1 (dH t4.e).2.2) (.Slice t4.lo t4.hi none t4.p2) t4.p) [.Eq] [.BinOp m4.1 .Mult m4.2.2.1 m4.2.2.2] v4.2.2.2] r4.2) ⟨aW c k h fr dep v o,ah⟩ σ (aI x ||bQ (x.take dep) (List.replicate dep 32)) σ:=by
  refine Tz.bool ?_;generalize aI x=b2 at *
  generalize bQ (x.take dep) (List.replicate dep 32)=b3 at *
  cases b2 with
  |true=>exact .orT T2
  |false=>
   refine .orF T2 ?_;cases b3 with
   |true=>exact .orT T3
   |false=>exact .orF T3 .nilO
 generalize (aI x ||bQ (x.take dep) (List.replicate dep 32))=z at *
 cases z with
 |true=>exact .andT O .nilA
 |false=>exact .andF O
theorem XA(hk:ae σ k=some (.list (am []))):Tz (ab w mg mb ε0) 150 w4.t ⟨aW c k h fr dep v o,ah⟩ σ false σ:=by
 have y:∀ {ls:ag} {σ σ':St} {e:Expr} {v:AV},(ai [] ac 3).ev ls σ e=some (v,σ')→Yz (ab w mg mb ε0) 150 e ls σ v σ':=fun q=>eY hw he (d:=3) (by decide) q;rw[EZ];refine Tz.bool (.andF ?_);refine Tz.val (v:=.cell k) he (by show ob (ae σ k) xb=_;rw[hk];rfl) (fun env=>?_) (y Gj);have:=JL;generalize b5 q4.1 0=e at *
 cases e<;>first|rfl|exact nomatch this
theorem Pz(hk:ae σ k=some (.list (am (x::X))))(hb:ae σ b=some (.list (am D)))(hn:b≠k)(hD:D.length≤50000) :
  aH (ab w mg mb ε0) 150 w4.b ⟨aW c k h fr dep v (bO b),ah⟩ σ .next ⟨aW c (lenA σ) h fr dep v (bO b),ah⟩ (cC σ b (.list (am (D++[x.drop dep])))++[.list (am X)]):=by
 have P:=dM (mg:=mg) (mb:=mb) hw he;have A:=cN P 300 12;have y:∀ {ls:ag} {σ σ':St} {e:Expr} {v:AV},(ai [] ac 3).ev ls σ e=some (v,σ')→Yz (ab w mg mb ε0) 150 e ls σ v σ':=fun q=>eY hw he (d:=3) (by decide) q;have S:=Yz.sl (p2:=y4.p2) (pos:=y4.p) he A.E (Yz.sub (pos:=(dH y4.e).2.2) hw he (y (Uf (c:=c) (h:=h) (fr:=fr) (dep:=dep) (v:=v) (o:=bO b))) (y V7) (Co hk)) W5 LP (zZ x (some (I dep)) none (some (dep:Int)) none σ rfl rfl);rw[v6] at S;have Y:=Lr (P:=P) (N:=300) (d:=12) (x:=p4.x) (ap:=p4.ap) (cp:=p4.cp) (a:=p4.a) (o:=p4.o) Si Vd hb Km (by rw[Fs];exact .cons (by kernel_rfl) S .nil) hb (by rw[kl];lia);rw[show am D++[.str (.k (x.drop dep))]=am (D++[x.drop dep]) from (rS D [x.drop dep]).symm] at Y;have E:=Dz.expr (pos:=p4.p) A.E (by kernel_rfl) Y;have hk2:ae (cC σ b (.list (am (D++[x.drop dep])))) k=some (.list (am (x::X))):=by rw[FH hn];exact hk
 have Z:=Yz.sl (p2:=h4.p2) (pos:=h4.p) he A.E (y (OX (c:=c) (k:=k) (h:=h) (fr:=fr) (dep:=dep) (v:=v) (o:=bO b) (σ:=cC σ b (.list (am (D++[x.drop dep])))))) WV Us (qg (some (I 1)) none (some ((1:Nat):Int)) none hk2 rfl rfl);rw[v6,D8] at Z;have G:=Dz.asg (pos:=g4.2.2) (ts:=g4.1) A.E A.S (by kernel_rfl) Z X4;have R:=E.cons (Dz.one G);rw[Fs] at R;rw[RS];exact R
theorem K1(hd:1≤dep∧dep≤100)(hR:oj R):∀ (B D:List ξ) {k:Nat} {σ:St},ae σ k=some (.list (am (B.map (padI dep)++R)))→ae σ b=some (.list (am D))→b≠k→D.length+B.length≤50000 →
  ∃ k' σ',Wz (ab w mg mb ε0) 150 w4.t w4.b ⟨aW c k h fr dep v (bO b),ah⟩ σ ⟨aW c k' h fr dep v (bO b),ah⟩ σ'∧ae σ' k'=some (.list (am R))∧ae σ' b=some (.list (am (D++B)))∧∀ j x,j≠b→ae σ j=some x→ae σ' j=some x:=by
 intro B;induction B with
 |nil=>
  intro D k σ hk hb hn _;replace hk:ae σ k=some (.list (am R)):=hk;refine⟨k,σ,.stop ?_,hk,by rw[apN];exact hb,fun _ _ _ q=>q⟩;cases R with
  |nil=>exact XA hw he hk
  |cons x X=>
   obtain⟨a,t,rfl,ha⟩:=hR x X rfl;have T:=ES (mg:=mg) (mb:=mb) (c:=c) (h:=h) (fr:=fr) (v:=v) (dep:=dep) (o:=bO b) hw he hd hk;have e:bQ ((a::t).take dep) (List.replicate dep 32)=false:=by
    obtain⟨m,rfl⟩ : ∃ m,dep=m+1:=⟨dep-1,by lia⟩;cases q:bQ ((a::t).take (m+1)) (List.replicate (m+1) 32) with
    |false=>rfl
    |true=>
     have:=fH.mp q;rw[Zr] at this;injection this with q1 _;exact absurd q1 ha
   rw[e] at T;exact T
 |cons l B ih=>
  intro D k σ hk hb hn hl;replace hk:ae σ k=some (.list (am (padI dep l::(B.map (padI dep)++R)))):=hk;rw[bJ] at hl;have T:=ES (mg:=mg) (mb:=mb) (c:=c) (h:=h) (fr:=fr) (v:=v) (dep:=dep) (o:=bO b) hw he hd hk;have e:(aI (padI dep l) ||bQ ((padI dep l).take dep) (List.replicate dep 32))=true:=by
   cases l with
   |nil=>rfl
   |cons a t=>rw[P9,wF,Bool.or_true]
  rw[e] at T;have W:=Pz (mg:=mg) (mb:=mb) (c:=c) (h:=h) (fr:=fr) (v:=v) (dep:=dep) hw he hk hb hn (by lia);rw[Sd] at W;have hlt:=RM hb;obtain⟨k',σ',W2,g1,g2,g3⟩:=ih (D++[l]) (k:=lenA σ) (σ:=cC σ b (.list (am (D++[l])))++[.list (am (B.map (padI dep)++R))]) (by
   have:=sj (cC σ b (.list (am (D++[l])))) (.list (am (B.map (padI dep)++R)));rw[D8] at this;exact this) (kq (R6 hb)) (ZK hlt) (by rw[au];show D.length+1+B.length≤50000;lia)
  rw[aC] at g2;exact⟨k',σ',.go T W W2,g1,g2,fun j x hj q=>g3 j x hj (kq (by rw[FH (Ne.symm hj)];exact q))⟩
end
section
variable {w:World}{mg mb:ω}{ε0:Ev}(hw:ε0.P=w.params)(he:ε0.Ok){c:Lk}{h fr v:ξ}{dep:Nat}
include hw he
theorem VV(hb:c.best∈cO)(hv:v≠[])(ha:∀ x∈v,x∈ce)(hl:v.length≤400)(ho:o=[]∨∃ b,o=bO b) :
  aH (ab w mg mb ε0) 160 [dz 0] ⟨aW c k h fr dep v o,ah⟩ σ .next ⟨aW c k (bt c.best v) fr dep v o,ah⟩ σ:=by
 have P:=dM (mg:=mg) (mb:=mb) hw he;have A:=cN P 300 13;have R:=QU (mg:=mg) (mb:=mb) hw he hb hv ha hl;have F:=Rz.frame rfl rfl R.2 σ;have N:(ai [] ac 13).ev ⟨aW c k h fr dep v o,ah⟩ σ (.Name k0.f k0.fp)=some (.fn 811,σ):=by
  rcases ho with rfl|⟨b,rfl⟩
  ·exact V3
  ·exact X1
 have Y:=zp (P:=P) (N:=300) (d:=13) (x:=k0.f) (q:=k0.fp) (cp:=k0.cp) (as:=k0.as) R.1 F N W6 wZ;have D:=Dz.asg (pos:=k0.p) (ts:=k0.ts) A.E A.S (by kernel_rfl) Y Mq;rw[←WB] at D;exact D.one
theorem Uo(hk:ae σ k=some (.list (am ((fr++62::h)::X))))(hl:(fr++62::h).length≤1000) :
  aH (ab w mg mb ε0) 150 ([dz 1]++[dz 2]) ⟨aW c k h fr dep v o,ah⟩ σ .next ⟨aW c (lenA σ+2) h fr dep v o,ah⟩ (((σ++[.list (am [fr++62::h])])++[.list (am [fr++62::h])])++[.list (am X)]):=by
 have A:=cN (dM (mg:=mg) (mb:=mb) hw he) 300 12;have y:∀ {ls:ag} {σ σ':St} {e:Expr} {v:AV},(ai [] ac 3).ev ls σ e=some (v,σ')→Yz (ab w mg mb ε0) 150 e ls σ v σ':=fun q=>eY hw he (d:=3) (by decide) q;have Y1:=Yz.sl (p2:=s1.p2) (pos:=s1.p) he A.E (y (Nl (c:=c) (h:=h) (fr:=fr) (dep:=dep) (v:=v) (o:=o))) J4 YC (qg none (some (I 1)) none (some ((1:Nat):Int)) hk rfl rfl);rw[vM,show (am ((fr++62::h)::X)).take 1=am [fr++62::h] from rfl] at Y1;have e1:((fr++[62])++h)=fr++62::h:=by rw[aC];rfl
 have B1:=Yz.bin (pos:=f1.2.2.2) he (y (Ug (c:=c) (k:=k) (h:=h) (fr:=fr) (dep:=dep) (v:=v) (o:=o) (σ:=σ++[.list (am [fr++62::h])]))) (y Pl) (kZ (by rw[au] at hl ⊢;rw[bJ] at hl;show _+1≤_;lia));have B2:=Yz.bin (pos:=d1.2.2.2) he B1 (y V8) (kZ (by rw[e1];lia));rw[e1] at B2;have Y2:=Yz.lst (pos:=(wL c1.2.2.1).2) A.E (.cons (by kernel_rfl) B2 .nil) (show lenA [AV.str (.k (fr++62::h))]≤100000 by show 1≤100000;decide);have T:=Tz.cmp1 (pos:=c1.2.2.2) A.E hw he (Y:=d7 [] ac) rfl Y1 Y2 (by kernel_rfl) (Ac (kq (sj σ (.list (am [fr++62::h])))) (sj (σ++[.list (am [fr++62::h])]) (.list (am [fr++62::h]))) (H1 (fr++62::h) (fr++62::h))).2;rw[wF] at T;have S1:=Dz.if_ (pos:=ck [dz 1] 0) (b:=i1.2.1) (o:=[]) T Dz.nil;rw[show (Stmt.If (.Compare (.Subscript s1.e (.Slice s1.lo s1.hi none s1.p2) s1.p) [.NotEq] [.List [.BinOp (.BinOp f1.1 .Add f1.2.2.1 f1.2.2.2) .Add d1.2.2.1 d1.2.2.2] (wL c1.2.2.1).2] c1.2.2.2) i1.2.1 [] (ck [dz 1] 0))=dz 1 from QL.symm] at S1;have hk2:ae ((σ++[.list (am [fr++62::h])])++[.list (am [fr++62::h])]) k=some (.list (am ((fr++62::h)::X))):=kq (kq hk);have Z:=Yz.sl (p2:=s2.p2) (pos:=s2.p) he A.E (y (Yp (c:=c) (k:=k) (h:=h) (fr:=fr) (dep:=dep) (v:=v) (o:=o) (σ:=(σ++[.list (am [fr++62::h])])++[.list (am [fr++62::h])]))) J1 YK (qg (some (I 1)) none (some ((1:Nat):Int)) none hk2 rfl rfl);rw[v6,show lenA ((σ++[.list (am [fr++62::h])])++[.list (am [fr++62::h])])=lenA σ+2 by rw[aR,au,au,aR];rfl] at Z;have G:=Dz.asg (pos:=a2.2.2) (ts:=a2.1) A.E A.S (by kernel_rfl) Z Pe;rw[show Stmt.Assign a2.1 (.Subscript s2.e (.Slice s2.lo s2.hi none s2.p2) s2.p) a2.2.2=dz 2 from Xf.symm] at G;exact(Dz.one S1).append (Dz.one G)
theorem Mw(hb:ae σ b=some (.list (am B)))(hB:fR B≤800000)(hT:tV dep c.width v h B) :
  aH (ab w mg mb ε0) 160 [dz 5] ⟨aW c k h fr dep v (bO b),ah⟩ σ .next ⟨aW c k h fr dep v (bO b),ah⟩ σ:=by
 have P:=dM (mg:=mg) (mb:=mb) hw he;have A:=cN P 300 13;have R1:=P3 (mg:=mg) (mb:=mb) (h:=h) hw he hb hB hT.u;have R2:=SO (mg:=mg) (mb:=mb) hw he hb hT.w;have Y1:=zp (P:=P) (N:=300) (d:=13) (x:=l5.x) (q:=l5.q) (cp:=l5.cp) (as:=l5.as) R1.1 R1.2 (U5 (c:=c) (k:=k) (h:=h) (fr:=fr) (dep:=dep) (v:=v)) J5 wZ;have Y2:=zp (P:=P) (N:=300) (d:=13) (x:=m5.x) (q:=m5.q) (cp:=m5.cp) (as:=m5.as) R2.1 R2.2 (WS (c:=c) (k:=k) (h:=h) (fr:=fr) (dep:=dep) (v:=v)) Qg wZ;have T1:=Tz.cmp1 (pos:=c5.2.2.2) A.E hw he (Y:=d7 [] ac) rfl Y1 (ET (mg:=mg) (mb:=mb) hw he (RY (c:=c) (k:=k) (h:=h) (fr:=fr) (dep:=dep) (v:=v))) (by kernel_rfl) (rl σ v v).2;rw[wF] at T1;have T2:=Tz.not (pos:=yN.2) (Tz.val (b:=true) he rfl (fun env=>rfl) Y2);have S:=Dz.if_ (pos:=ck [dz 5] 0) (b:=i5.2.1) (o:=[]) (Tz.bool (pos:=q5.2) (.orF T1 (.orF T2 .nilO))) Dz.nil;rw[←Pg] at S;exact S.one
theorem Wk(hb:c.best∈cO)(hv:v≠[])(ha:∀ x∈v,x∈ce)(hl:v.length≤400)(hd:1≤dep∧dep≤100)(ho:o=[]∨∃ b,o=bO b){B R:List ξ}
  (hk:ae σ k=some (.list (am ((fr++62::bt c.best v)::(B.map (padI dep)++R))))) (hc:ae σ 0=some C) (hf:(fr++62::bt c.best v).length≤1000) (hR:oj R) (hB:fR B≤800000∧B.length≤50000) (hT:tV dep c.width v (bt c.best v) B) :
  ∃ k' b σ',aH (ab w mg mb ε0) 160 fo.b ⟨aW c k h0 fr dep v o,ah⟩ σ .next ⟨aW c k' (bt c.best v) fr dep v (bO b),ah⟩ σ'∧ae σ' k'=some (.list (am R))∧ae σ' 0=some C:=by
 have S0:=VV (mg:=mg) (mb:=mb) (c:=c) (h:=h0) (fr:=fr) (dep:=dep) (k:=k) (σ:=σ) hw he hb hv ha hl ho;have S1:=(Uo (mg:=mg) (mb:=mb) (c:=c) (dep:=dep) (v:=v) (o:=o) hw he hk hf).le (n:=160) (by decide);generalize bt c.best v=h at *
 generalize hσ:((σ++[.list (am [fr++62::h])])++[.list (am [fr++62::h])])=τ at *
 have lt:lenA τ=lenA σ+2:=by rw[←hσ,aR,au,au,aR];rfl
 have S3:aH (ab w mg mb ε0) 160 [dz 3] ⟨aW c (lenA σ+2) h fr dep v o,ah⟩ (τ++[.list (am (B.map (padI dep)++R))]) .next ⟨aW c (lenA σ+2) h fr dep v (bO (lenA σ+3)),ah⟩ ((τ++[.list (am (B.map (padI dep)++R))])++[.list (am [])]):=by
  have l3:lenA (τ++[.list (am (B.map (padI dep)++R))])=lenA σ+3:=by rw[aR,au,←aR,lt];rfl
  rcases ho with rfl|⟨b,rfl⟩
  ·have S:=jo (mg:=mg) (mb:=mb) hw he (d:=3) (by decide) (Tp (c:=c) (k:=lenA σ+2) (h:=h) (fr:=fr) (dep:=dep) (v:=v) (σ:=τ++[.list (am (B.map (padI dep)++R))]))
   rw[l3] at S;exact S.le (by decide)
  ·have S:=jo (mg:=mg) (mb:=mb) hw he (d:=3) (by decide) (Kd (c:=c) (k:=lenA σ+2) (b:=b) (h:=h) (fr:=fr) (dep:=dep) (v:=v) (σ:=τ++[.list (am (B.map (padI dep)++R))]))
   rw[l3] at S;exact S.le (by decide)
 have a1:ae ((τ++[.list (am (B.map (padI dep)++R))])++[.list (am [])]) (lenA σ+2)=some (.list (am (B.map (padI dep)++R))):=by
  refine kq ?_;rw[←lt];exact sj τ _
 have a2:ae ((τ++[.list (am (B.map (padI dep)++R))])++[.list (am [])]) (lenA σ+3)=some (.list (am [])):=by
  have:=sj (τ++[.list (am (B.map (padI dep)++R))]) (.list (am []));rw[show lenA (τ++[.list (am (B.map (padI dep)++R))])=lenA σ+3 by rw[aR,au,←aR,lt];rfl] at this;exact this
 have a0:ae ((τ++[.list (am (B.map (padI dep)++R))])++[.list (am [])]) 0=some C:=by
  rw[←hσ];exact kq (kq (kq (kq hc)))
 obtain⟨k',σ',W,g1,g2,g3⟩:=K1 (mg:=mg) (mb:=mb) (c:=c) (h:=h) (fr:=fr) (v:=v) (dep:=dep) hw he hd hR B [] a1 a2 (by lia) (by show 0+B.length≤50000;lia);have S4:=(Dz.while_ (pos:=w4.p) W).le (n:=160) (by decide);rw[←PI] at S4;have S5:=Mw (mg:=mg) (mb:=mb) (c:=c) (h:=h) (fr:=fr) (v:=v) (dep:=dep) (k:=k') (b:=lenA σ+3) hw he g2 hB.1 hT;refine⟨k',lenA σ+3,σ',?_,g1,g3 0 C (by lia) a0⟩;rw[MR];exact(S0.append S1).append (S3.append ((Dz.one S4).append S5))
end
structure fX where
 p:Nat
 v:ξ
 B:List ξ
def fX.hd(c:Lk)(x:fX):ξ:=frV c x.p++62::bt c.best x.v
def fX.ls(c:Lk)(x:fX):List ξ:=x.hd c::x.B.map (padI (depN c x.p))
def iL(c:Lk)(X:List fX):List ξ:=X.flatMap (fX.ls c)
def iW(c:Lk)(X:List fX):List AV:=X.map fun x=>kX c x.p x.v
def nS(c:Lk)(h:ξ)(X:List fX):ξ:=List.rec (fun h=>h) (fun x U ih h=>ih (bt c.best x.v)) X h
structure oJ (c:Lk) (x:fX):Prop where
 ne:x.v≠[]
 al:∀ a∈x.v,a∈ce
 len:x.v.length≤400
 hd:(x.hd c).length≤1000
 B:fR x.B≤800000∧x.B.length≤50000
 t:tV (depN c x.p) c.width x.v (bt c.best x.v) x.B
def VO(c:Lk)(p:Nat):∃ t,frV c p=45::t:=by
 unfold frV;cases c.root with
 |true=>exact⟨_,rfl⟩
 |false=>match p with
  |0=>exact⟨_,rfl⟩
  |1=>exact⟨_,rfl⟩
  |_+2=>exact⟨_,rfl⟩
def Kc(hR:oj R):oj (iL c X++R):=by
 cases X with
 |nil=>exact hR
 |cons x X=>
  intro y Y e;obtain⟨t,ht⟩:=VO c x.p;have e1:x.hd c=y:=(List.cons.inj e).1;refine⟨45,t++62::bt c.best x.v,?_,by decide⟩;rw[←e1];unfold fX.hd;rw[ht];rfl
def Ip{c:Lk}(hb:c.best∈cO)(p:Nat):1≤depN c p∧depN c p≤100:=by
 have b:2≤c.best∧c.best≤9:=by
  unfold cO at hb;simp only [List.mem_cons,Zp,or_false] at hb;lia
 unfold depN;cases c.root with
 |true=>show 1≤c.best∧c.best≤100;lia
 |false=>match p with
  |0=>show 1≤c.best∧c.best≤100;lia
  |_+1=>show 1≤2*c.best∧2*c.best≤100;lia
def zd(c:Lk)(k:Nat)(h:ξ)(l:List (Str×AV)):Prop:=l=cM c k [(cS,.str (.k h))]∨∃ fr dep v b,l=aW c k h fr dep v (bO b)
def Rv(hl:zd c k h l):∀ x v,lk x (cM c k [(cS,.str (.k h))])=some v→lk x l=some v:=by
 rcases hl with rfl|⟨fr,dep,v,b,rfl⟩
 ·exact fun U U q=>q
 ·exact tw (by kernel_rfl)
section
variable {w:World}{mg mb:ω}{ε0:Ev}(hw:ε0.P=w.params)(he:ε0.Ok){c:Lk}(hb:c.best∈cO)
include hw he hb
theorem XV(hR:oj R):∀ (X:List fX) (pre:List AV) {l:List (Str×AV)} {k:Nat} {h:ξ} {σ:St},zd c k h l→(∀ x∈X,oJ c x)→af=pre++iW c X→ae σ k=some (.list (am (iL c X++R)))→ae σ 0=some (.list af) →
  ∃ l' k' σ',Fz (ab w mg mb ε0) 160 fo.t fo.b (.lst 0 pre.length) ⟨l,ah⟩ σ .next ⟨l',ah⟩ σ'∧zd c k' (nS c h X) l'∧ae σ' k'=some (.list (am R)):=by
 intro X;induction X with
 |nil=>
  intro pre l k h σ hl _ e hk h0;refine⟨l,k,σ,.stop ?_,hl,hk⟩;show ob (ob (ae σ 0) fJ) (fun xs=>some (mH 0 pre.length xs))=_;rw[h0];show some (ob (ae af pre.length) fun v=>some (v,It.lst 0 (pre.length+1)))=_;rw[e,show iW c []=[] from rfl,apN,dt,ZG (Zc _)];rfl
 |cons x X ih=>
  intro pre l k h σ hl hX e hk h0;have ok:=hX x (.head _);have hn:jw σ (.lst 0 pre.length)=some (some (kX c x.p x.v,.lst 0 (pre.length+1))):=by
   show ob (ob (ae σ 0) fJ) (fun xs=>some (mH 0 pre.length xs))=_;rw[h0];show some (ob (ae af pre.length) fun v=>some (v,It.lst 0 (pre.length+1)))=_;rw[e,show iW c (x::X)=kX c x.p x.v::iW c X from rfl,pM];rfl
  obtain⟨o,ho,S⟩ : ∃ o,(o=[]∨∃ b,o=bO b)∧Az (ab w mg mb ε0) 150 fo.t (kX c x.p x.v) ⟨l,ah⟩ σ ⟨aW c k h (frV c x.p) (depN c x.p) x.v o,ah⟩ σ:=by
   rcases hl with rfl|⟨fr,dep,v,b,rfl⟩
   ·exact⟨[],.inl rfl,iS hw he Py⟩
   ·exact⟨bO b,.inr ⟨b,rfl⟩,iS hw he Yb⟩
  have hk2:ae σ k=some (.list (am ((frV c x.p++62::bt c.best x.v)::(x.B.map (padI (depN c x.p))++(iL c X++R))))):=by
   rw[hk];show some (ay.list (am ((x.hd c::x.B.map (padI (depN c x.p))++iL c X)++R)))=_;rw[aC];rfl
  obtain⟨k',b,σ',D,g1,g2⟩:=Wk (mg:=mg) (mb:=mb) (c:=c) hw he hb ok.ne ok.al ok.len (Ip hb x.p) ho (h0:=h) hk2 h0 ok.hd (Kc hR) ok.B ok.t;obtain⟨l',k2,σ2,F,h1,h2⟩:=ih (pre++[kX c x.p x.v]) (l:=aW c k' (bt c.best x.v) (frV c x.p) (depN c x.p) x.v (bO b)) (.inr ⟨_,_,_,_,rfl⟩) (fun y hy=>hX y (.tail _ hy)) (by rw[e,aC];rfl) g1 g2;rw[au] at F;exact⟨l',k2,σ2,.step hn (S.le (by decide)) D F,h1,h2⟩
theorem Se(hR:oj R)(hX:∀ x∈X,oJ c x) :
  ∃ k σ',aH (ab w mg mb ε0) 160 [bS 23] ⟨cM c 1 [(cS,.str (.k h))],ah⟩ [.list (iW c X),.list (am (iL c X++R))] .next ⟨cM c k [(cS,.str (.k (nS c h X)))],ah⟩ σ'∧ae σ' k=some (.list (am R)):=by
 obtain⟨l',k,σ',F,h1,h2⟩:=XV (mg:=mg) (mb:=mb) hw he hb hR (af:=iW c X) X [] (k:=1) (h:=h) (σ:=[.list (iW c X),.list (am (iL c X++R))]) (.inl rfl) hX rfl rfl rfl;have Y:=(eY (mg:=mg) (mb:=mb) hw he (d:=3) (by decide) (Kx (c:=c) (k:=1) (h:=h) (σ:=[.list (iW c X),.list (am (iL c X++R))]))).le (n:=160) (by decide);have D:=(Dz.for_ (pos:=fo.p) (by kernel_rfl) (by kernel_rfl) Y (show rU [.list (iW c X),.list (am (iL c X++R))] (.cell 0)=some (.lst 0 0) from rfl) F).one;rw[←RI] at D;exact⟨k,σ',Dz.post (ls1:=⟨l',ah⟩) (ls0:=⟨cM c k [(cS,.str (.k (nS c h X)))],ah⟩) rfl (Rv h1) D,h2⟩
end
def y6:Expr×Pos:=Hv [bS 24] 0
def ti:Expr×CmpOp×Expr×Pos:=kG y6.1
structure Ic where
 t:Expr
 b:Expr
 o:Expr
 p:Pos
noncomputable def Lf(e:Expr):Ic:=match e with|.IfExp t b o p=>⟨t,b,o,p⟩|e=>⟨e,e,e,default⟩
def mO:Ic:=Lf ti.2.2.1
def qk:List Expr×Pos:=l6 mO.t
def h24:Expr×CmpOp×Expr×Pos:=kG (b5 qk.1 1)
def oN:kz:=lN h24.1
def Yv:bS 24=.Return (some (.Compare ti.1 [.Eq] [.IfExp (.BoolOp .Or [b5 qk.1 0,.Compare (nC oN) [.Eq] [h24.2.2.1] h24.2.2.2] qk.2) mO.b mO.o mO.p] ti.2.2.2)) y6.2:=by kernel_rfl
section
variable {c:Lk}{σ:St}{k:Nat}{h:ξ}
def Mm:(ai [] ac 3).ev ⟨cM c k [(cS,.str (.k h))],ah⟩ σ ti.1=some (.cell k,σ):=by kernel_rfl
def Oe:(ai [] ac 3).tst ⟨cM c k [(cS,.str (.k h))],ah⟩ σ (b5 qk.1 0)=some (c.shut,σ):=by kernel_rfl
def Xy:(ai [] ac 3).ev ⟨cM c k [(cS,.str (.k h))],ah⟩ σ oN.e=some (.str (.k h),σ):=by kernel_rfl
def MB:(ai [] ac 12).evo ⟨cM c k [(cS,.str (.k h))],ah⟩ σ oN.lo=some (some (I (-1)),σ):=by kernel_rfl
def Oy:(ai [] ac 12).evo ⟨cM c k [(cS,.str (.k h))],ah⟩ σ oN.hi=some (none,σ):=by kernel_rfl
def TG:(ai [] ac 3).ev ⟨cM c k [(cS,.str (.k h))],ah⟩ σ h24.2.2.1=some (.str (.k [43]),σ):=by kernel_rfl
def Yr:(ai [] ac 3).ev ⟨cM c k [(cS,.str (.k h))],ah⟩ σ mO.b=some (.cell (lenA σ),σ++[.list (am [[46,46,46]])]):=by kernel_rfl
def NS:(ai [] ac 3).ev ⟨cM c k [(cS,.str (.k h))],ah⟩ σ mO.o=some (.cell (lenA σ),σ++[.list (am [])]):=by kernel_rfl
end
def mn(b:Bool):List ξ:=Bool.rec [] [[46,46,46]] b
def RH(h:ξ):bQ (cut h (some (-1)) none) [43]=gA h:=by
 by_cases hn:h=[]
 ·subst hn;kernel_rfl
 ·obtain⟨m,e,rfl⟩ : ∃ m e,h=m++[e]:=⟨h.dropLast,h.getLast hn,(Zu hn).symm⟩
  have ec:clip (m++[e]).length (-1)=m.length:=by
   unfold clip;rw[au,show ([e]:ξ).length=1 from rfl,if_pos (by decide)];lia
  rw[j8];show bQ (((m++[e]).drop (clip (m++[e]).length (-1))).take ((m++[e]).length-clip (m++[e]).length (-1))) [43]=_;rw[ec,List.drop_left' rfl,au,show m.length+[e].length-m.length=1 from Zt ..];unfold gA;rw[Zn];show Bool.rec (motive:=fun U=>Bool) false true (e.beq 43)=e.beq 43;cases e.beq 43<;>rfl
def Yw{w:World}{ε0:Ev}(hw:ε0.P=w.params)(he:ε0.Ok){c:Lk}(hk:ae σ k=some (.list (am (mn (c.shut ||gA h))))) :
  ∃ L σ',aH (ab w mg mb ε0) 150 [bS 24] ⟨cM c k [(cS,.str (.k h))],ah⟩ σ (.ret tr) L σ':=by
 have A:=cN (dM (mg:=mg) (mb:=mb) hw he) 300 12;have y:∀ {ls:ag} {σ σ':St} {e:Expr} {v:AV},(ai [] ac 3).ev ls σ e=some (v,σ')→Yz (ab w mg mb ε0) 150 e ls σ v σ':=fun q=>eY hw he (d:=3) (by decide) q;have T0:=g7 (mg:=mg) (mb:=mb) hw he (d:=3) (by decide) (Oe (c:=c) (k:=k) (h:=h) (σ:=σ));have S:=Yz.sl (p2:=oN.p2) (pos:=oN.p) he A.E (y (Xy (c:=c) (k:=k) (h:=h) (σ:=σ))) MB Oy (zZ h (some (I (-1))) none (some (-1)) none σ rfl rfl);have T1:=Tz.cmp1 (pos:=h24.2.2.2) A.E hw he (Y:=d7 [] ac) rfl S (y (TG (c:=c) (k:=k) (h:=h))) (by kernel_rfl) (rl σ (cut h (some (-1)) none) [43]).1;rw[RH] at T1;have T:Tz (ab w mg mb ε0) 150 (.BoolOp .Or [b5 qk.1 0,.Compare (nC oN) [.Eq] [h24.2.2.1] h24.2.2.2] qk.2) ⟨cM c k [(cS,.str (.k h))],ah⟩ σ (c.shut ||gA h) σ:=by
  refine Tz.bool ?_;generalize c.shut=a at *
  generalize gA h=b at *
  cases a with
  |true=>exact .orT T0
  |false=>
   refine .orF T0 ?_;cases b with
   |true=>exact .orT T1
   |false=>exact .orF T1 .nilO
 generalize (c.shut ||gA h)=b at *
 have E:Yz (ab w mg mb ε0) 150 (Bool.rec mO.o mO.b b) ⟨cM c k [(cS,.str (.k h))],ah⟩ σ (.cell (lenA σ)) (σ++[.list (am (mn b))]):=by
  cases b with
  |true=>exact y Yr
  |false=>exact y NS
 have R:=Yz.cmp1 (pos:=ti.2.2.2) A.E hw he (Y:=d7 [] ac) rfl (y (Mm (c:=c) (k:=k) (h:=h))) (Yz.ife (pos:=mO.p) T E) (by kernel_rfl) (Ac (kq hk) (sj σ (.list (am (mn b)))) (show qf (am (mn b)) (am (mn b))=some true by cases b<;>rfl)).1;have D:=Dz.retE (pos:=y6.2) A.E R;rw[←Yv] at D;exact⟨_,_,Dz.ret D⟩
def OA(F a b d:Nat):∃ rs t,(∀ r∈rs,r∈fW)∧kb F a b d=jn rs++bz t:=by
 cases q:mL F a b d with
 |nil=>
  refine⟨[[],[]],0,fun r h=>?_,by unfold kb;rw[q];rfl⟩;have e:r=[]:=(bk h).elim id fun h=>bU h;rw[e];exact .tail _ (.tail _ (.head _))
 |cons x t=>
  refine⟨ge F a b d,F / 12 % 4,Im,?_⟩;unfold kb;rw[q];exact q.symm
def HY:(fW.all fun r=>(r.all fun c=>aK c ce)&&(dP r&&(aI r ||!eV r)))=true:=by kernel_rfl
def Xw:∀ {a b:ξ},a≠[]→eV a=false→dP (a++b)=(dP a&&dP b):=by
 intro a;induction a with
 |nil=>exact fun h=>absurd rfl h
 |cons c t ih=>
  intro b _ hl;cases t with
  |nil=>
   show (!(c.beq 32&&(aI b ||o5 b))&&dP b)=((!(c.beq 32&&(true ||false))&&true)&&dP b);rw[show eV [c]=c.beq 32 from rfl] at hl;rw[hl];rfl
  |cons d t=>
   have h:=ih (b:=b) (Zk _ _) (by rw[←hl,show c::d::t=[c]++(d::t) from rfl,wn (Zk _ _)]);show (!(c.beq 32&&(false ||aU d))&&dP (d::t++b))=((!(c.beq 32&&(false ||aU d))&&dP (d::t))&&dP b);rw[h,Bool.and_assoc]
def I1(h:r∈fW)(b:ξ):dP (r++b)=dP b:=by
 have g:=aA (aA (aB HY r h)).2;cases r with
 |nil=>rfl
 |cons c t=>
  rw[Xw (Zk _ _) (tv g.2),g.1];rfl
def Vk:∀ {rs:List ξ} {b:ξ},(∀ r∈rs,r∈fW)→dP (jn rs++b)=dP b:=by
 intro rs;induction rs with
 |nil=>intro b _;rfl
 |cons r t ih=>
  intro b h;cases t with
  |nil=>exact I1 (h r (.head _)) b
  |cons r2 t=>
   show dP ((r++10::jn (r2::t))++b)=_;rw[aC,I1 (h r (.head _))];exact ih fun x hx=>h x (.tail _ hx)
def QE:∀ k:Nat,dP (bz k)=true:=by
 intro k;induction k with
 |zero=>rfl
 |succ k ih=>exact ih
def Wh:∀ {rs:List ξ},(∀ r∈rs,r∈fW)→∀ c∈jn rs,c∈ce:=by
 intro rs;induction rs with
 |nil=>intro _ c hc;exact nomatch hc
 |cons r t ih=>
  intro h c hc;have g:∀ c∈r,c∈ce:=fun c hc=>qM.mp (aB (aA (aB HY r (h r (.head _)))).1 c hc);cases t with
  |nil=>exact g c hc
  |cons r2 t=>
   rcases dy (show c∈r++10::jn (r2::t) from hc) with hc|hc
   ·exact g c hc
   ·rcases bk hc with rfl|hc
    ·exact .head _
    ·exact ih (fun x hx=>h x (.tail _ hx)) c hc
structure qQ (v:ξ):Prop where
 t:fY v
 f:∃ rs t,(∀ r∈rs,r∈fW)∧v=jn rs++bz t
def Yy(F a b d:Nat):qQ (kb F a b d):=by
 have f:=OA F a b d;refine⟨⟨?_,?_,?_,Ig F a b d⟩,f⟩
 ·unfold kb
  cases mL F a b d<;>exact Zk _ _
 ·obtain⟨rs,t,h,e⟩:=f
  intro c hc;rw[e] at hc;rcases dy hc with hc|hc
  ·exact Wh h c hc
  ·rw[Zv hc];exact .head _
 ·obtain⟨rs,t,h,e⟩:=f
  rw[e,Vk h,QE]
def wx(hc:nR c):j5 (cX c):=⟨hc.b,by rcases hc.n with h|h|h<;>(show 1≤c.nl.length∧c.nl.length≤2;rw[h];decide),by
 have:=hc.w;show 2*(c.best:Int)<(c.width:Int)∧(c.width:Int)≤900;lia⟩
def Q1{nl:ξ}(hn:1≤nl.length):∀ B:List ξ,fR B≤(cA nl (B.map (padI ind))).length∧B.length≤fR B:=by
 intro B;induction B with
 |nil=>exact⟨Zc _,Zc _⟩
 |cons l B ih=>
  have hp:l.length≤(padI ind l).length:=by
   cases l with
   |nil=>exact Zc _
   |cons a t=>show _≤(bi ind++a::t).length;rw[au];lia
  refine⟨?_,?_⟩
  ·show l.length+1+fR B≤((padI ind l++nl)++cA nl (B.map (padI ind))).length
   rw[au,au];lia
  ·show B.length+1≤l.length+1+fR B
   lia
def PD(c:Lk)(hr:c.root=false)(p:Nat):yB (cX c) p=(depN c p:Int):=by
 unfold depN;rw[hr]
 match p with
 |0=>rfl
 |1=>show 2*(c.best:Int)=((2*c.best:Nat):Int);push_cast;rfl
 |_+2=>show 2*(c.best:Int)=((2*c.best:Nat):Int);push_cast;rfl
def uW(c:Lk)(x:fX):Prop:=(fG c.nl (depN c x.p) c.width x.v).T=cA c.nl (x.B.map (padI (depN c x.p)))
def PW(hc:nR c)(p:Nat)(hv:qQ v):∃ B,oJ c ⟨p,v,B⟩∧uW c ⟨p,v,B⟩:=by
 obtain⟨rs,t,hr,e⟩:=hv.f;have hb:=sO (wx hc);have d1:=Ip hc.b p;have d2:2≤depN c p∧depN c p≤2*c.best:=by
  have hb:2≤(c.best:Int)∧(c.best:Int)≤9:=hb;unfold depN;cases c.root with
  |true=>show 2≤c.best∧c.best≤2*c.best;lia
  |false=>match p with
   |0=>show 2≤c.best∧c.best≤2*c.best;lia
   |_+1=>show 2≤2*c.best∧2*c.best≤2*c.best;lia
 have hw:=hc.w;obtain⟨B,eT,hT⟩:=Li (nl:=c.nl) (ind:=(depN c p:Int)) (bw:=(c.width:Int)) (cW _) (by lia) hc.b hr e hv.t.ne;refine⟨B,⟨hv.t.ne,hv.t.al,by have:=hv.t.len;show v.length≤400;lia,?_,?_,hT⟩,eT⟩
 ·show (frV c p++62::bt c.best v).length≤1000
  have lh:=zb c.best v;have lf:(frV c p).length≤20:=by
   have hb:2≤(c.best:Int)∧(c.best:Int)≤9:=hb;have lp:(gk c.best).length≤8:=by unfold gk;rw[Za];lia
   unfold frV;cases c.root with
   |true=>show 4≤20;decide
   |false=>match p with
    |0=>show 2≤20;decide
    |1=>show (45::(gk c.best++[107,58,32])).length≤20;rw[bJ,au];show _+3+1≤20;lia
    |_+2=>show (45::(gk c.best++[45,32])).length≤20;rw[bJ,au];show _+2+1≤20;lia
  rw[au,bJ];lia
 ·have o:=(lS (wx hc) hv.t (ind:=(depN c p:Int)) ⟨by lia,by have hb:2≤(c.best:Int)∧(c.best:Int)≤9:=hb;lia⟩).1
  have n1:1≤c.nl.length:=(wx hc).nl.1;have fl:=Q1 n1 (ind:=(depN c p:Int)) B;rw[←eT] at fl;have:(fG c.nl (depN c p) c.width v).T.length≤8000:=by
   have e:(ey (cX c) (depN c p) v).1=32::62::(bt c.best v++(c.nl++(fG c.nl (depN c p) c.width v).T)):=rfl;rw[e,bJ,bJ,au,au] at o;push_cast at o;lia
  exact⟨by show fR B≤800000;lia,by show B.length≤50000;lia⟩
def Qq(hc:nR c):∀ L:List (Nat×ξ),(∀ t∈L,qQ t.2)→∃ X:List fX,X.map (fun x=>(x.p,x.v))=L∧∀ x∈X,oJ c x∧uW c x:=by
 intro L;induction L with
 |nil=>intro _;exact⟨[],rfl,nofun⟩
 |cons t L ih=>
  intro h;obtain⟨X,e,g⟩:=ih fun x hx=>h x (.tail _ hx);obtain⟨B,k1,k2⟩:=PW hc t.1 (h t (.head _));refine⟨⟨t.1,t.2,B⟩::X,by rw[ZI,e],fun x hx=>?_⟩;rcases bk hx with rfl|hx
  ·exact⟨k1,k2⟩
  ·exact g x hx
def Jr(h:uW c x):cA c.nl (x.ls c)=frV c x.p++(62::(bt c.best x.v++(c.nl++(fG c.nl (depN c x.p) c.width x.v).T))):=by
 show (x.hd c++c.nl)++cA c.nl (x.B.map (padI (depN c x.p)))=_;rw[←h];unfold fX.hd;simp only [aC,ZD]
def Lw{c:Lk}(hr:c.root=false)(hb:c.best∈cO)(h:uW c x):cK (cX c) x.p x.v=cA c.nl (x.ls c):=by
 have b:2≤c.best∧c.best≤9:=by
  unfold cO at hb;simp only [List.mem_cons,Zp,or_false] at hb;lia
 have eb:jk ((c.best:Int)-1)=gk c.best:=by unfold jk gk;congr 1;lia
 rw[Jr h];have hd:=PD c hr x.p;have e:cK (cX c) x.p x.v=45::(Ag (cX c) x.p++(32::62::(bt c.best x.v++(c.nl++(fG c.nl (yB (cX c) x.p) c.width x.v).T)))):=rfl;rw[e,hd];generalize (fG c.nl (depN c x.p) c.width x.v).T=Z;unfold frV Ag;rw[hr];show 45::(tn (jk ((c.best:Int)-1)++[45]) [[],jk ((c.best:Int)-1)++[107,58]] x.p++_)=_;rw[eb]
 match x.p with
 |0=>rfl
 |1=>show 45::((gk c.best++[107,58])++_)=(45::(gk c.best++[107,58,32]))++_;simp only [aC,ZD,ZL]
 |_+2=>show 45::((gk c.best++[45])++_)=(45::(gk c.best++[45,32]))++_;simp only [aC,ZD,ZL]
def WR{c:Lk}(hr:c.root=false)(hb:c.best∈cO):∀ {X:List fX},(∀ x∈X,uW c x)→((X.map fun x=>(x.p,x.v)).flatMap fun t=>cK (cX c) t.1 t.2)=cA c.nl (iL c X):=by
 intro X;induction X with
 |nil=>intro _;rfl
 |cons x X ih=>
  intro h;show cK (cX c) x.p x.v++_=cA c.nl (x.ls c++iL c X);rw[oK,Lw hr hb (h x (.head _))];exact congrArg _ (ih fun y hy=>h y (.tail _ hy))
def HS(c:Lk)(s q:Bool):gR (cX c) s++gR (cX c) (!s&&q)=cA c.nl (mn (s ||q)):=by
 have e:gR (cX c) true=cA c.nl [[46,46,46]]:=(apN ([46,46,46]++c.nl)).symm;cases s with
 |true=>
  show gR (cX c) true++[]=_;rw[apN];exact e
 |false=>cases q with
  |true=>exact e
  |false=>rfl
def TJ(c:Lk):∀ (X:List fX) (h:ξ),s8 (cX c) (gA h) (X.map fun x=>(x.p,x.v))=gA (nS c h X):=by
 intro X;induction X with
 |nil=>intro h;rfl
 |cons x X ih=>intro h;exact ih (bt c.best x.v)
def WI:(th.all fun h=>h.all fun c=>!c.beq 10&&!c.beq 13)=true:=by kernel_rfl
def Dl(h:(!Nat.beq a b)=true):a≠b:=fun q=>by rw[q,Nat.beq_refl] at h;exact nomatch h
def Ko{c:Lk}(hb:c.best∈cO)(h:oJ c x):uU (x.ls c):=by
 intro l hl d hd;have s32:(32:Nat)≠10∧(32:Nat)≠13:=⟨by decide,by decide⟩;rcases bk hl with rfl|hl
 ·have ph:∀ d∈gk c.best,d≠10∧d≠13:=fun d hd=>by rw[Zv hd];exact s32
  have lit:∀ {s:ξ},(s.all fun c=>!c.beq 10&&!c.beq 13)=true→∀ d∈s,d≠10∧d≠13:=fun hs d hd=>by
   have:=aA (aB hs d hd);exact⟨Dl this.1,Dl this.2⟩
  rcases dy (show d∈frV c x.p++62::bt c.best x.v from hd) with hd|hd
  ·unfold frV at hd
   cases q:c.root with
   |true=>rw[q] at hd;exact lit (s:=[45,45,45,32]) rfl d hd
   |false=>
    rw[q] at hd
    match p:x.p with
    |0=>rw[p] at hd;exact lit (s:=[45,32]) rfl d hd
    |1=>
     rw[p] at hd;rcases bk (show d∈45::(gk c.best++[107,58,32]) from hd) with rfl|hd
     ·exact⟨by decide,by decide⟩
     ·rcases dy hd with hd|hd
      ·exact ph d hd
      ·exact lit (s:=[107,58,32]) rfl d hd
    |_+2=>
     rw[p] at hd;rcases bk (show d∈45::(gk c.best++[45,32]) from hd) with rfl|hd
     ·exact⟨by decide,by decide⟩
     ·rcases dy hd with hd|hd
      ·exact ph d hd
      ·exact lit (s:=[45,32]) rfl d hd
  ·rcases bk hd with rfl|hd
   ·exact⟨by decide,by decide⟩
   ·exact lit (aB WI _ (Hj hb x.v)) d hd
 ·obtain⟨m,hm,rfl⟩:=ZN.mp hl
  have z:=h.t.z m hm;have zz:∀ d∈m,d≠10∧d≠13:=fun d hd=>⟨fun q=>(by have:=(z d hd).1;rw[q] at this;exact(nomatch this)),(z d hd).2⟩;cases m with
  |nil=>exact nomatch hd
  |cons a t=>
   rcases dy (show d∈bi (depN c x.p)++a::t from hd) with hd|hd
   ·rw[Zv hd];exact s32
   ·exact zz d hd
def QS{c:Lk}(hb:c.best∈cO)(h:∀ x∈X,oJ c x):uU (iL c X):=fun l hl=>by
 obtain⟨x,hx,hl⟩:=List.mem_flatMap.mp hl;exact Ko hb (h x hx) l hl
def ox:List Stmt:=At++([bS 13]++([bS 14,bS 15]++([bS 16]++([bS 17]++([bS 18]++(([bS 19]++[bS 20])++(([bS 21]++[bS 22])++([bS 23]++[bS 24]))))))))
def o0(c:Lk)(X:List fX):List ξ:=iL c X++mn (c.shut ||gA (nS c [] X))
def jR(c:Lk)(X:List fX):List ξ:=Bool.rec ([45,45,45]::o0 c X) (o0 c X) c.root
def Wi{c:Lk}(h:c.root=false)(L:List (Nat×ξ)):d9 c L=L.flatMap fun t=>kx t.1 t.2:=by
 unfold d9
 congr 1
 funext t
 unfold j9;rw[h]
section
variable {w:World}{mg mb:ω}{ε0:Ev}(hw:ε0.P=w.params)(he:ε0.Ok)
include hw
theorem TX(hc:nR c)(hL:∀ t∈L,qQ t.2)(h0:L≠[])(h2:L.length≤Bool.rec 2 1 c.root) :
  ∃ (E:Es) (X:List fX),k9 (ab w mg mb ε0) 295 (.list ((ft c.root++d9 c L)++g8 c)) ((ft c.root++d9 c L)++g8 c) (hJ (cX c) (zE A (.list ((ft c.root++d9 c L)++g8 c)) T) b0 [] (oi yI)) (hJ (cX c) (zE A (.list ((ft c.root++d9 c L)++g8 c)) T) gC [] E) ∧
   X.map (fun x=>(x.p,x.v))=L∧(∀ x∈X,oJ c x)∧E.T=cA c.nl (jR c X)∧E.T.length≤60000∧(0≤E.n∧E.n≤100000):=by
 have hg:=wx hc;obtain⟨X,eX,hX⟩:=Qq hc L hL;have en:∀ {o:ξ} {E':Es} {oe br:Bool},jZ (oi yI) E' 40 o oe br→E'.T=o∧(0≤E'.n∧E'.n≤100000):=fun G=>⟨G.t,G.n.1,by have:=G.n.2;have e:(oi yI).n=0:=rfl;rw[e] at this;lia⟩;have nb:=hg.nl.2;have nb2:c.nl.length≤2:=nb;have dl:∀ x,(gR (cX c) x).length≤5:=ze hg;cases hr:c.root with
 |false=>
  rw[hr] at h2;have e:(ft false++d9 c L)++g8 c=[nO]++([kD,dL]++((L.flatMap fun t=>kx t.1 t.2)++([jr 241]++([o8 c.shut]++[jr 145])))):=by
   unfold g8;rw[hr,Wi hr,aC];rfl
  obtain⟨E,M,G⟩:=U6 (mg:=mg) (mb:=mb) (z:=zE A (.list ((ft false++d9 c L)++g8 c)) T) (y:=yI) hw hg (L:=L) (fun t ht=>(hL t ht).t) h0 h2 c.shut;obtain⟨hT,hn⟩:=en G;rw[←e] at M;have e2:E.T=cA c.nl (jR c X):=by
   rw[hT,←eX,show (false:Bool)=gA [] from rfl,TJ,HS,WR hr hc.b fun x hx=>(hX x hx).2];unfold jR o0;rw[hr];show _=([45,45,45]++c.nl)++cA c.nl (iL c X++_);rw[oK,aC];rfl
  refine⟨E,X,M,eX,fun x hx=>(hX x hx).1,e2,?_,hn⟩;have cl:∀ M:List (Nat×ξ),(∀ t∈M,qQ t.2)→(M.flatMap fun t=>cK (cX c) t.1 t.2).length≤8012*M.length:=fun M=>by
   induction M with
   |nil=>intro _;exact Zc _
   |cons t r ih=>
    intro h;rw[List.flatMap_cons,au,bJ];have:=zg hg (h t (.head _)).t t.1;have:=ih fun x hx=>h x (.tail _ hx);lia
  have a:=cl L hL;have d1:=dl c.shut;have d2:=dl (!c.shut&&s8 (cX c) false L);rw[hT,au,au,au,au];show 3+(c.nl.length+_)≤60000;replace h2:L.length≤2:=h2;lia
 |true=>
  rw[hr] at h2;obtain⟨t,rfl⟩ : ∃ t,L=[t]:=by
   match L,h0,h2 with
   |[t],_,_=>exact⟨t,rfl⟩
   |[],h0,_=>exact absurd rfl h0
   |_::_::_,_,h2=>exact absurd h2 (by show ¬ (_+1+1≤1);lia)
  have hv:=(hL t (.head _)).t;have e:(ft true++d9 c [t])++g8 c=[nO]++([kD]++([c9 (.str (.k t.2))]++([o8 c.shut]++[jr 145]))):=by
   unfold g8 d9 j9;rw[hr];rfl
  obtain⟨E,M,G⟩:=Pp (mg:=mg) (mb:=mb) (z:=zE A (.list ((ft true++d9 c [t])++g8 c)) T) (y:=yI) hw hg hv c.shut;obtain⟨hT,hn⟩:=en G;rw[←e] at M;obtain⟨x,rfl⟩ : ∃ x,X=[x]:=by
   match X,eX with
   |[x],_=>exact⟨x,rfl⟩
   |[],e=>exact nomatch e
   |_::_::_,e=>exact nomatch e
  obtain rfl:(x.p,x.v)=t:=(List.cons.inj eX).1;have e2:E.T=cA c.nl (jR c [x]):=by
   rw[hT];have q:=Jr (hX x (.head _)).2;unfold jR o0;rw[hr,show iL c [x]=x.ls c from apN _,oK,q,←HS];have fr:frV c x.p=[45,45,45,32]:=by unfold frV;rw[hr]
   have dp:depN c x.p=c.best:=by unfold depN;rw[hr]
   rw[fr,dp];have ov:lj (cX c) (cX c).best x.v=32::62::(bt c.best x.v++(c.nl++(fG c.nl c.best c.width x.v).T)):=rfl;rw[ov];show _=([45,45,45,32]++(62::(bt c.best x.v++(c.nl++(fG c.nl c.best c.width x.v).T))))++(gR (cX c) c.shut++gR (cX c) (!c.shut&&cY c.best x.v));simp only [aC,ZD,ZL];rfl
  refine⟨E,[x],M,eX,fun y hy=>(hX y hy).1,e2,?_,hn⟩;have b:=sO hg;have o:=(lS hg hv (ind:=(cX c).best) ⟨b.1,by lia⟩).1;have d1:=dl c.shut;have d2:=dl (!c.shut&&cY (cX c).best x.v);rw[hT,au,au,au];show 3+((ey (cX c) (cX c).best x.v).1.length+_)≤60000;lia
include he
theorem Pr{N r:ξ}(hN:N.length≤8)(h5:∀ n∈N,n<5040)(h0:t0<5040)(h1:t1<5040)(h2:t2<5040)(h3:t3<5040)(hr:r.length≤4) :
  ∃ L1 σ1,Gz (ab w mg mb ε0) 300 ox ⟨gI [],ah⟩ [.list (tI N),.list (tI (t0::t1::t2::t3::r))] (.ret tr) L1 σ1:=by
 have G1:=UB (mg:=mg) (mb:=mb) (N:=N) hw he h0 h1 h2 h3 hr;have hc:=ID t0 t1 t2 t3;have he2:=fun A B C=>M2 (mg:=mg) (mb:=mb) (t0:=t0) (t1:=t1) (t2:=t2) (t3:=t3) (A:=A) (B:=B) (C:=C) hw;generalize aY t0 t1 t2 t3=c at *
 have fe:da (ft c.root):=by cases c.root<;>rfl
 have le0:(ft c.root).length≤3:=by cases c.root<;>decide
 obtain⟨G2,f1,f2⟩:=SJ (mg:=mg) (mb:=mb) (c:=c) hw he hc hN h5 (ev:=ft c.root) (af:=[]) fe rfl (by lia) (ZA _);have tl:∀ (m k:Nat),(∀ t∈fV N k m,qQ t.2)∧(fV N k m).length=m:=fun m=>by
  induction m with
  |zero=>exact fun k=>⟨nofun,rfl⟩
  |succ m ih=>
   intro k;obtain⟨i1,i2⟩:=ih (k+1);refine⟨fun t ht=>?_,congrArg (·+1) i2⟩;rcases bk ht with rfl|ht
   ·exact Yy _ _ _ _
   ·exact i1 t ht
 obtain⟨hL,hlen⟩:=tl (gx N.length c.root) 0;have hk:1≤gx N.length c.root∧gx N.length c.root≤Bool.rec 2 1 c.root:=by
  unfold gx;cases c.root with
  |true=>exact⟨Zc _,Zc _⟩
  |false=>show 1≤max 1 ((N.length+3) / 4)∧max 1 ((N.length+3) / 4)≤2;lia
 generalize fV N 0 (gx N.length c.root)=L at *
 have hk2:gx N.length c.root≤2:=by
  have:=hk.2;revert this;cases c.root with
  |true=>intro h;exact Nat.le_trans h (by decide)
  |false=>exact id
 have hl0:L≠[]:=fun q=>by rw[q] at hlen;have:0=gx N.length c.root:=hlen;lia
 have ll:∀ L:List (Nat×ξ),(d9 c L).length≤4*L.length:=fun L=>by
  induction L with
  |nil=>exact Zc _
  |cons t r ih=>
   have a:=HZ c t.1 t.2;show (j9 c t.1 t.2++d9 c r).length≤4*(r.length+1);rw[au];lia
 have le1:=ll L;have G3:=RN (mg:=mg) (mb:=mb) (c:=c) (dl:=tI N) (ev:=ft c.root++d9 c L) (af:=[]++gQ c L) hw he (by rw[au];lia) (jv N) f1 f2;have G4:=he2 (.list (tI N)) (.list ((ft c.root++d9 c L)++g8 c)) (.list ([]++gQ c L));obtain⟨E,X,M,eX,hX,eT,eL,eN⟩:=TX (mg:=mg) (mb:=mb) (ε0:=ε0) hw hc hL hl0 (by rw[hlen];exact hk.2) (A:=.list (tI N)) (T:=.list ([]++gQ c L));obtain⟨o,D5⟩:=Lx (mg:=mg) (mb:=mb) (c:=c) hw he M rfl rfl;have D5:=Dz.post (ls1:=⟨eg c o,ah⟩) (ls0:=⟨eg c [],ah⟩) rfl (tw (by kernel_rfl)) D5;have rk:uU (o0 c X):=fun l hl=>by
  rcases dy hl with hl|hl
  ·exact QS hc.b hX l hl
  ·unfold mn at hl
   generalize (c.shut ||gA (nS c [] X))=b at hl;cases b with
   |true=>
    rw[bU hl];intro d hd;rw[(bk hd).elim id fun hd=>(bk hd).elim id fun hd=>bU hd];decide
   |false=>exact nomatch hl
 have ra:uU (jR c X):=fun l hl=>by
  unfold jR at hl;generalize c.root=b at hl;cases b with
  |true=>exact rk l hl
  |false=>
   rcases bk hl with rfl|hl
   ·intro d hd
    have:d=45:=(bk hd).elim id fun hd=>(bk hd).elim id fun hd=>bU hd;rw[this];decide
   ·exact rk l hl
 have a0:jR c X≠[]:=by
  unfold jR o0;obtain⟨x,X',rfl⟩ : ∃ x X',X=x::X':=by
   cases X with
   |nil=>exact absurd eX.symm hl0
   |cons x X'=>exact⟨x,X',rfl⟩
  cases c.root<;>exact Zk _ _
 have D6:=Xn (mg:=mg) (mb:=mb) (z:=zE (.list (tI N)) (.list ((ft c.root++d9 c L)++g8 c)) (.list ([]++gQ c L))) hw he hc eT a0 ra eL eN;have D7:=Tr (mg:=mg) (mb:=mb) (c:=c) (z:=tE (cX c) (zE (.list (tI N)) (.list ((ft c.root++d9 c L)++g8 c)) (.list ([]++gQ c L))) E) (L:=jR c X) hw he;have eF:[]++gQ c L=iW c X:=by
  show gQ c L=_;rw[←eX];unfold gQ iW;rw[List.map_map];rfl
 have fa:da (iW c X):=eF▸f2;have G7:=((D6.le (n:=160) (Zc _)).append (D7.le (n:=160) (by decide))).gz (n':=300) (by decide);have G7:=G7.pick he [2,11] [iW c X,am (jR c X)] (l1:=[(gL,I c.best),(jD,I c.width),(uP,.bool c.root),(xm,.bool c.shut),(xk,.cell 2),(cQ,.cell 11)]) rfl rfl ⟨⟨by rw[←eF];rfl,fa⟩,⟨rfl,A7 _⟩,trivial⟩ rfl (tw (by kernel_rfl));have G8:=Vn (mg:=mg) (mb:=mb) (c:=c) (af:=iW c X) (L:=jR c X) (L':=o0 c X) hw he fa rfl;have hR:oj (mn (c.shut ||gA (nS c [] X))):=by
  generalize (c.shut ||gA (nS c [] X))=b;cases b with
  |true=>intro x Y e;exact⟨46,[46,46],(List.cons.inj e).1.symm,by decide⟩
  |false=>intro x Y e;exact nomatch e
 obtain⟨k,σ',D9,hk9⟩:=Se (mg:=mg) (mb:=mb) hw he hc.b hR hX (h:=[]);obtain⟨L1,σ1,D10⟩:=Yw (mg:=mg) (mb:=mb) hw he hk9;refine⟨L1,σ1,?_⟩;have H:=G1.app (G2.app (G3.app (G4.app ((D5.gz (Zc _)).app (G7.app (G8.app ((D9.gz (n':=300) (by decide)).app (D10.gz (n':=300) (by decide)))))))));rw[show At++([bS 13]++([bS 14,bS 15]++([bS 16]++([bS 17]++(([bS 18]++([bS 19]++[bS 20]))++(([bS 21]++[bS 22])++([bS 23]++[bS 24])))))))=ox from rfl] at H;exact H
end
structure wy (ys:List π) (l:List Int):Prop where
 h:IntsAre ys (l.map fun a=>a.fmod 5040)
def EX{l:List Int}(h:CarriedAll ys ((l.filter fun U=>true).map fun a=>PyData.int (a.fmod 5040))):wy ys l:=by
 rw[List.filter_eq_self.mpr fun U U=>rfl] at h;exact⟨CarriedAll.intsOf h⟩
noncomputable def kO(l:List Int):ξ:=l.map fun a=>(a.fmod 5040).toNat
def JJ(h:wy ys l):ar Γ imm ρ ys (tI (kO l)):=by
 obtain⟨h⟩:=h;induction l generalizing ys with
 |nil=>cases h;exact .nil
 |cons a r ih=>
  cases h with
  |cons _ t h=>
   refine .cons (.int ?_) (ih h);show a.fmod 5040=(ax.k ((a.fmod 5040).toNat:Int)).val _;rw[cF];exact(Int.toNat_of_nonneg (Int.fmod_nonneg_of_pos a (by decide))).symm
def Fh(l:List Int):∀ n∈kO l,n<5040:=fun n hn=>by
 apply ak (eo hn);intro a _ e0;subst e0;have:=Int.fmod_lt_of_pos a (b:=5040) (by decide);have:=Int.fmod_nonneg_of_pos a (b:=5040) (by decide);lia
def GS(ws:List π):Prop:=∃ a b c d,ws=[.int 0 a,.int 0 b,.int 0 c,.int 0 d]
def KI(h:GS ws):ar Γ imm ρ ws (tI [0,0,0,0]):=by
 obtain⟨a,b,c,d,rfl⟩:=h;have z:∀ t,VR Γ imm ρ (.int 0 t) (I ((0:Nat):Int)):=fun t=>.int (cF _).symm;exact .cons (z a) (.cons (z b) (.cons (z c) (.cons (z d) .nil)))
def MK{w:World}{ε0:Ev}(hw:ε0.P=w.params)(he:ε0.Ok){ys ws zs:List π}{s:χ}{Q:Flow→χ→Prop}{E:Θ}
  (C:be (ab w mg mb ε0) c A 300) (ls:co c ⟨gI [],ah⟩) (F:Fr c.h₀ c.L s.heap m) (hT:m kY=some (.ref T)) (hD:m mM=some (.ref D)) (oT:s.heap.get? T=some (listOf (ys++ws).toArray n)∧T≠c.L∧c.h₀.get? T=none) (hz:GS ws) (h1:wy ys l1) (k1:l1.length≤4)
  (nD:c.h₀.get? D=none) (pl:s.heap.PlainList D zs.toArray) (hne:D≠c.L) (hTD:T≠D) (h2:wy zs l2) (k2:l2.length≤8) (k:∀ h' tk m',Fr c.h₀ c.L h' m'→Q (.ret (.bool true)) (sU s h' tk)):wpAny (model jf w) A (execs ox c.env) Q E s:=by
 apply bC pl;intro n2 e2;have ln:(kO l2).length≤8:=by unfold kO;rw[Zh];exact k2
 obtain⟨t0,t1,t2,t3,r,hr,hT3,b0,b1,b2,b3⟩ : ∃ t0 t1 t2 t3 r,r.length≤4∧kO l1++[0,0,0,0]=t0::t1::t2::t3::r∧t0<5040∧t1<5040∧t2<5040∧t3<5040:=by
  have b:=Fh l1;have hl:(kO l1).length≤4:=by unfold kO;rw[Zh];exact k1
  generalize kO l1=x at *
  have z:(0:Nat)<5040:=by decide
  match x,b,hl with
  |[],_,_=>exact⟨0,0,0,0,[],ZA _,rfl,z,z,z,z⟩
  |[a],b,_=>exact⟨a,0,0,0,[0],by decide,rfl,b a (.head _),z,z,z⟩
  |[a,a2],b,_=>exact⟨a,a2,0,0,[0,0],by decide,rfl,b a (.head _),b a2 (.tail _ (.head _)),z,z⟩
  |[a,a2,a3],b,_=>exact⟨a,a2,a3,0,[0,0,0],by decide,rfl,b a (.head _),b a2 (.tail _ (.head _)),b a3 (.tail _ (.tail _ (.head _))),z⟩
  |a::a2::a3::a4::x,b,hl=>exact⟨a,a2,a3,a4,x++[0,0,0,0],by rw[au];simp only [bJ,List.length_nil] at hl ⊢;lia,rfl,b a (.head _),b a2 (.tail _ (.head _)),b a3 (.tail _ (.tail _ (.head _))),b a4 (.tail _ (.tail _ (.tail _ (.head _))))⟩
 have vT:ar (ab w mg mb ε0) [] [D,T] (ys++ws) (tI (t0::t1::t2::t3::r)):=by
  rw[←hT3,show tI (kO l1++[0,0,0,0])=tI (kO l1)++tI [0,0,0,0] from Zb];exact(JJ h1).app (KI hz)
 have R:ao (ab w mg mb ε0) c.h₀ c.L s.heap m (gI []) [.list (tI (kO l2)),.list (tI (t0::t1::t2::t3::r))] [] [.list D zs n2,.list T (ys++ws) n]:=by
  refine⟨F,fun q hq=>?_,?_,.cons (.list (JJ h2) (by unfold tI;rw[Zh];lia)) (.cons (.list vT (by unfold tI;rw[Zh];simp only [bJ];lia)) .nil),fun x v hx=>?_⟩
  ·rcases bk hq with rfl|hq
   ·exact⟨e2,hne,nD⟩
   ·rcases bU hq with rfl
    exact oT
  ·show [D,T].Nodup
   exact Zx.mpr ⟨fun q=>hTD (bU q).symm,Zx.mpr ⟨nofun,List.nodup_nil⟩⟩
  ·replace hx:lk x [(kY,AV.cell 1),(mM,.cell 0)]=some v:=hx
   rw[gn,gn] at hx
   by_cases q:kY=x
   ·rw[if_pos q] at hx
    rw[←q,←osI hx];exact⟨_,hT,.cell rfl⟩
   ·rw[if_neg q] at hx
    by_cases q:mM=x
    ·rw[if_pos q] at hx
     rw[←q,←osI hx];exact⟨_,hD,.cell rfl⟩
    ·rw[if_neg q] at hx;injection hx
 obtain⟨L1,σ1,⟨G⟩⟩:=Pr hw he ln (Fh l2) b0 b1 b2 b3 hr;refine G C ls R fun h2 t2 m2 i2 c2 fl R2 l2 x2 f2=>?_;obtain⟨_,e0,hv⟩:=FR.inv f2;clear f2;subst e0;(obtain e:_=_:=VR.inv hv;subst e);exact k h2 t2 m2 R2.F
def AN:ah.lookup kY=some .local∧ah.lookup mM=some .local∧ah.lookup ("__debug__" : Str)=none:=by exact⟨by kernel_rfl,by kernel_rfl,by kernel_rfl⟩
def Mc:iE.body=bS 0::bS 1::ox:=by kernel_rfl
def BH:ah=iE.scope.names:=by kernel_rfl
def T8:∀ x v,lk x (gI [])=some v→iE.scope.names.lookup x=some .local:=fun x v hx=>by
 rw[←BH];replace hx:lk x [(kY,AV.cell 1),(mM,.cell 0)]=some v:=hx;rw[gn,gn] at hx
 by_cases q:kY=x
 ·exact q▸AN.1
 ·rw[if_neg q] at hx
  by_cases q:mM=x
  ·exact q▸AN.2.1
  ·rw[if_neg q] at hx;injection hx
def LL:iE.scope.names.lookup ("__debug__" : Str)=none:=by rw[←BH];exact AN.2.2
def Mo:kY=Str.ofString "tape":=by kernel_rfl
def Kq:mM=Str.ofString "drawn":=by kernel_rfl
def P6:Str.ofString "tape"≠Str.ofString "drawn":=by decide +kernel
set_option tactic.hygienic true in
def Y5:WalkO vw loose (fun _ _=>True) (InK cG) gr.row.toRowW iE [] fun f vs=>PySem.call f vs:=by
 intro w s₀ s₁ mg mb G KX fa o pm cd doc dV kV ho hd hcd hD hmg hg args vals as hpre hlay hrd hwl hlo;refine Ground.open G ?_;intro T B D TE TW;apply qX (bmod_of_top T);intro _ _ M;have TA:=at_of_top T
 try (obtain⟨_,_,he,B0⟩:=based_of_top (d:=iE) T rfl hmg ho hd;have he':cd=_:=he;subst he';clear he)
 clear hmg
 wrow_args hpre hlay hrd hwl hlo
 refine enter_call ?_
 w_top on
 try refine codeAny_mono ?_ (fun _ _ g=>GoodW.toG g)
 have K0:=below_caller (Top.heap T)
 w_call any ho hd hcd hD T F
 generalize hQ:(fun (f:Flow) (s':χ)=>GoodW gr.row.claim _ _ _ _ _ _)=Q;rw[Mc];generalize hR:bS 1::ox=rest;refine ZM ?_
 conv in exec (bS 0) _=>arg 1;whnf
 iterate 17 walk1
 repeat walk1
 rename_i hA FA NA D ys hB tkB FB NB nD pD cD hC FC NC kC x1 x2 y1 z1 nm
 have nT:=EX cD;refine add_lists FC NC y1 ⟨_,(NC _ (.head _)).1,rfl,_,rfl⟩ (fun hE FE NE=>?_) ?_
 rotate_left
 ·have:=nT.h.length
  rw[Zh,List.length_take] at this;rw[this,ZH];show min 4 _+4≤_;lia
 clear nm z1 y1 x2 kC pD NB FB NA FA FC NC cD nD
 walk1
 subst hR;generalize hR:ox=rest;refine ZM ?_
 conv in exec (bS 1) _=>arg 1;whnf
 repeat walk1
 rename_i h2 F2 N2
 obtain⟨vs2,e2,i2⟩ : ∃ vs2:List π,slicePick _ (some 4) (some 12) none=vs2.toArray∧IntsAre vs2 _:=⟨_,(Array.toArray_toList ..).symm,kmk_run (x:=4) (y:=12) ‹IntsAre _ _› (by decide) (by decide)⟩;rw[e2] at N2;have l2:h2.IsList _ vs2.toArray:=⟨_,(N2 _ (.head _)).1,rfl,_,rfl⟩
 repeat walk1
 rename_i D2 ys2 hZ tkZ FZ NZ nD2 lZ pD2 cD2
 subst hR;show wpAny _ _ (execs ox _) _ _ _;refine MK (ε0:=dr w.params (fun _=>0) fun _=>[]) rfl (cR _ _ _) (c:=⟨s₁.heap,s₁.heap,[],s₁.heap.objs.size,fa,iE.name,iE.scope,.ref _,none⟩) ⟨⟨callerA,K0⟩,KX,topRead_of T,by kernel_rfl,rfl,rfl,(show 1+claimMargin+1+300≤990 by decide),(show 4+3+4*300≤9800 by decide)⟩ ⟨BH,T8,LL⟩ FZ ?_ ?_ (NZ _ (.tail _ (.head _))) ⟨_,_,_,_,rfl⟩ nT ?_ nD2 pD2.1 (pD2.ne_locals FZ) (pD2.2 _ (.tail _ (.head _))) (EX cD2) ?_ ?_
 ·rw[Mo];exact(if_neg P6).trans (if_pos rfl)
 ·rw[Kq];exact if_pos rfl
 ·rw[List.length_take];exact Nat.min_le_left _ _
 ·refine Nat.le_trans (List.length_take_le _ _) ?_
  show min 12 _-4≤8;lia
 ·intro h2 t2 m2 F2
  subst hQ;refine goodW_bool F2 hg (raisesW_false ?_) ?_
  ·wrow_none_raised
  ·wrow_post
end
end
end Mine
theorem PySem.Challenge.cw_te0005_02_holds : PySem.Challenge.rw_te0005_02.Holds := by
 exact Mine.head Mine.Y5